import JvmDerived
import JvmDerived.Pilot.@@N@@Statement
import JvmDerived.Pilot.@@N@@Code
set_option linter.unusedVariables false
set_option linter.unusedSimpArgs false
namespace Jvm.RoadKit
open Sem ClassFile Op Lib Jvm.Stand Jvm.Free Jvm.LawKit
section New
variable {p : Program} {l : Launch} {e : Env} {R : Room} {s : State} {m : MethodId} {args : Array Value} {below : List Frame} {meth : Method} {c : Code} {T : State} {locs : List Loc} {cells slots : Nat}
theorem retI (X : Stand p l e R s m args below meth c T locs cells slots) (hx : p.tables.exec = Jvm.exec) {pc : Nat} {Ls : Array Slot} {z : Int32} {rest : List Value} (hret : meth.sig.returnType = some .int) (hd : decode c.code pc = .ok (.ireturn, 1)) {fs : List Frame}
    (hl : ∀ (f : JFrame) (acts : List Action), f.method = m → f.locked = none → f.entered = [] → (doReturn e (T.setTop f) acts (some (.int z))).1 = T.setFrames fs) : Steps p.tables e below (T.setTop (mkF m pc Ls (.int z :: rest))) (T.setFrames fs) := by
  have hm' : T.vm.method? m = some meth := X.method'
  have hn : narrow .int (.int z) = .int z := rfl
  show Steps p.tables e below (T.setTop { method := m, pc := pc, locals := Ls, stack := _ :: rest, locked := none }) _
  jvm_step X.here [X.here.top, hx, hd, hm', hret, hn]
  first | (intro acts; rw [hl _ acts rfl rfl rfl]) | rw [hl _ _ rfl rfl rfl]
  exact Steps.refl _
end New
end Jvm.RoadKit
namespace Jvm.Pilot.@@N@@
open Jvm Jvm.ClassFile Sem Op Lib Jvm.Free Jvm.Stand Jvm.LawKit Jvm.RoadKit Bundle Jvm.Pilot.@@N@@.Jvm.D
/-! OWN KIT: a walk as one forward chain. OwF: from frame f at T the run ends, and D says how. OwC: the setting of a body. OwCon: a body's contract. -/
section OwnKit
variable {p : Program} {l : Launch} {e : Env} {R : Room} {s : State} {m : MethodId} {args : Array Value} {below : List Frame} {meth : Method} {c : Code} {T : State} {locs : List Loc} {cells slots : Nat} {Z : State} {a0 : Array Value} {h : Heap}
variable {own nm : String} {bytes : ByteArray} {maxL : Nat} {ret : Option FieldType} {D : State → Outcome → Prop} {pc pc' : Nat} {Ls : Array Slot} {r : List Value}
def OwF (p : Program) (e : Env) (below : List Frame) (D : State → Outcome → Prop) (T : State) (f : JFrame) : Prop := ∃ t o, Steps p.tables e below (T.setTop f) t ∧ D t o
def OwC (p : Program) (Z s : State) (m : MethodId) (meth : Method) (c : Code) (own nm : String) (bytes : ByteArray) (maxL : Nat) (ret : Option FieldType) : Prop :=
  p.tables.exec = Jvm.exec ∧ c.code = bytes ∧ c.maxLocals = maxL ∧ s.vm.findClass own = some m.cls ∧ meth.name = nm ∧ meth.sig.returnType = ret ∧ meth.locks = false ∧ Z.Warmed39 s.vm
def OwD (s : State) (below : List Frame) (Q : Option Value → Heap → List Loc → Prop) (kc ks : Nat) (t : State) (o : Outcome) : Prop :=
  t.status = .running ∧ Ended t below o ∧ ∃ v L, o = .returned v ∧ Q v t.heap L ∧ FrameEnd s o t L kc ks
def OwCon (l : Launch) (y : MethodName) (bytes : ByteArray) (maxL : Nat) (ret : Option FieldType) (rm : Room) (Z : State) (as' : Array Value) (h : Heap) (Q : Option Value → Heap → List Loc → Prop) : Prop :=
  ∀ ws, MetFree l y (head1 (Jvm.Cond.code y bytes maxL ret :: ws) rm) (fun a U => a = as' ∧ Z.Warmed39 U.vm ∧ U.heap = h) (fun _ _ _ _ _ => True) (fun _ U o U' => ∃ v L, o = .returned v ∧ Q v U'.heap L ∧ FrameEnd U o U' L rm.cells rm.slots)
theorem OwF.st {T' : State} {f f' : JFrame} (h : ∀ t, Steps p.tables e below (T'.setTop f') t → Steps p.tables e below (T.setTop f) t) (k : OwF p e below D T' f') : OwF p e below D T f := by
  obtain ⟨t, o, q, d⟩ := k; exact ⟨t, o, h t q, d⟩
theorem OwCon.of {y : MethodName} {rm : Room} {as' : Array Value} {Q : Option Value → Heap → List Loc → Prop} (hpl : plainFor y = true) {Ls : Array Slot} (hent : ∀ m, entryFrame m as' maxL = mkF m 0 Ls [])
    (body : ∀ (p : Program) (e : Env) (s : State) (m : MethodId) (below : List Frame) (meth : Method) (c : Code) (s₁ : State), OwC p Z s m meth c y.cls y.name bytes maxL ret → Stand p l e rm s m as' below meth c s₁ [] 0 0 → s₁.heap = h → OwF p e below (OwD s below Q rm.cells rm.slots) s₁ (mkF m 0 Ls [])) :
    OwCon l y bytes maxL ret rm Z as' h Q := by
  intro ws
  refine MetFree.of_bodySF hpl hisR ?_
  intro p e s m args below meth c s₁ Bd hml0 hP hK
  obtain ⟨rfl, hZ, hh⟩ := hP
  have X0 : Stand p l e rm s m args below meth c s₁ [] 0 0 := Stand.of_body Bd
  obtain ⟨t, o, h1, h2, h3, h4⟩ := body p e s m below meth c s₁ ⟨Bd.exec, Bd.bytes, hml0, findClass_of_methodNamed Bd.named, (name_of_methodNamed Bd.named Bd.method).1, Bd.returns, BodyLoose.notSynchronized Bd, hZ⟩ X0 (by rw [← hh, Bd.state]; rfl)
  exact ⟨t, o, castTop (hent m) h1, h2, h3, h4⟩
/-- a contract may say less -/
theorem OwCon.mono {y : MethodName} {rm : Room} {as' : Array Value} {Q Q' : Option Value → Heap → List Loc → Prop} (M : OwCon l y bytes maxL ret rm Z as' h Q) (hq : ∀ v h' L, Q v h' L → Q' v h' L) : OwCon l y bytes maxL ret rm Z as' h Q' := by
  intro ws p e ha hc hk s m args below hf happ hP hK
  obtain ⟨n, o, h1, h2, h3, v, L, h4, h5, h6⟩ := M ws p e ha hc hk s m args below hf happ hP hK
  exact ⟨n, o, h1, h2, h3, v, L, h4, hq _ _ _ h5, h6⟩
/-- two roads that meet -/
theorem ow_join {f f' : JFrame} (X : Stand p l e R s m args below meth c T locs cells slots) (eT : T.heap = h) (A : ∀ D : State → Outcome → Prop, (∀ T', Stand p l e R s m args below meth c T' locs cells slots → T'.heap = h → OwF p e below D T' f') → OwF p e below D T f)
    (k : ∀ T', Stand p l e R s m args below meth c T' locs cells slots → T'.heap = h → OwF p e below D T' f') : OwF p e below D T f := A D k
/-- a long or nothing, in two places -/
def OwTwo (x y : Slot) : Prop := (x = .unset ∧ y = .unset) ∨ ∃ v : Int64, x = .val (.long v) ∧ y = .second
/-- two roads that meet, with locals that are read no more -/
theorem ow_joinL {f : JFrame} {r' : List Value} {P : Array Slot → Prop} (X : Stand p l e R s m args below meth c T locs cells slots) (eT : T.heap = h) (A : ∀ D : State → Outcome → Prop, (∀ Ls' T', P Ls' → Stand p l e R s m args below meth c T' locs cells slots → T'.heap = h → OwF p e below D T' (mkF m pc' Ls' r')) → OwF p e below D T f)
    (k : ∀ Ls' T', P Ls' → Stand p l e R s m args below meth c T' locs cells slots → T'.heap = h → OwF p e below D T' (mkF m pc' Ls' r')) : OwF p e below D T f := A D k
/-! returns -/
theorem ow_retI {Q : Option Value → Heap → List Loc → Prop} {kc ks : Nat} {z : Int32} (C : OwC p Z s m meth c own nm bytes maxL (some .int)) (X : Stand p l e R s m args below meth c T locs cells slots) (hd : decode bytes pc = .ok (.ireturn, 1)) (hc : cells ≤ kc) (hs : slots ≤ ks)
    (hQ : Q (some (.int z)) T.heap locs) : OwF p e below (OwD s below Q kc ks) T (mkF m pc Ls (.int z :: r)) := by
  obtain ⟨hx, hby, -, -, -, hret, hlk, -⟩ := C
  obtain ⟨fs, hr, hrun, hended, hW, hsame⟩ := X.leave (v := some (.int z)) (fun h => by rw [hret] at h; cases h) hlk
  exact ⟨_, _, retI X hx hret (hb hby hd) hr, hrun, hended, _, _, rfl, hQ, ⟨_, rfl⟩, hW, hsame.mono hc hs⟩
theorem ow_retZ {Q : Option Value → Heap → List Loc → Prop} {kc ks : Nat} {z : Int32} (C : OwC p Z s m meth c own nm bytes maxL (some .boolean)) (X : Stand p l e R s m args below meth c T locs cells slots) (hd : decode bytes pc = .ok (.ireturn, 1)) (hc : cells ≤ kc) (hs : slots ≤ ks) (hz : z = 0 ∨ z = 1)
    (hQ : Q (some (.int z)) T.heap locs) : OwF p e below (OwD s below Q kc ks) T (mkF m pc Ls (.int z :: r)) := by
  obtain ⟨hx, hby, -, -, -, hret, hlk, -⟩ := C
  have hn : nar .boolean z = z := by rcases hz with rfl | rfl <;> decide
  obtain ⟨fs, hr, hrun, hended, hW, hsame⟩ := X.leave (v := some (.int z)) (fun h => by rw [hret] at h; cases h) hlk
  exact ⟨_, _, retN X hx hret (by simp) (hb hby hd) (by rw [hn]; exact hr), hrun, hended, _, _, rfl, hQ, ⟨_, rfl⟩, hW, hsame.mono hc hs⟩
theorem ow_retJ {Q : Option Value → Heap → List Loc → Prop} {kc ks : Nat} {z : Int64} (C : OwC p Z s m meth c own nm bytes maxL (some .long)) (X : Stand p l e R s m args below meth c T locs cells slots) (hd : decode bytes pc = .ok (.lreturn, 1)) (hc : cells ≤ kc) (hs : slots ≤ ks)
    (hQ : Q (some (.long z)) T.heap locs) : OwF p e below (OwD s below Q kc ks) T (mkF m pc Ls [.long z]) := by
  obtain ⟨hx, hby, -, -, -, hret, hlk, -⟩ := C
  obtain ⟨fs, hr, hrun, hended, hW, hsame⟩ := X.leave (v := some (.long z)) (fun h => by rw [hret] at h; cases h) hlk
  exact ⟨_, _, X.lreturnOut hx hret (hb hby hd) hr, hrun, hended, _, _, rfl, hQ, ⟨_, rfl⟩, hW, hsame.mono hc hs⟩
theorem ow_retV {Q : Option Value → Heap → List Loc → Prop} {kc ks : Nat} (C : OwC p Z s m meth c own nm bytes maxL none) (X : Stand p l e R s m args below meth c T locs cells slots) (hd : decode bytes pc = .ok (.return_, 1)) (hc : cells ≤ kc) (hs : slots ≤ ks)
    (hQ : Q none T.heap locs) : OwF p e below (OwD s below Q kc ks) T (mkF m pc Ls []) := by
  obtain ⟨hx, hby, -, -, -, hret, hlk, -⟩ := C
  obtain ⟨fs, hr, hrun, hended, hW, hsame⟩ := X.leave (v := none) (fun _ => rfl) hlk
  exact ⟨_, _, X.returnOut hx hret (hb hby hd) hr, hrun, hended, _, _, rfl, hQ, ⟨_, rfl⟩, hW, hsame.mono hc hs⟩
end OwnKit
section OwnSteps
variable {p : Program} {l : Launch} {e : Env} {R : Room} {s : State} {m : MethodId} {args : Array Value} {below : List Frame} {meth : Method} {c : Code} {T : State} {locs : List Loc} {cells slots : Nat} {Z : State} {a0 : Array Value} {h : Heap}
variable {own nm : String} {bytes : ByteArray} {maxL : Nat} {ret : Option FieldType} {D : State → Outcome → Prop} {pc pc' pcT : Nat} {Ls Ls' : Array Slot} {r : List Value}
theorem ow_iadd {x y : Int32} (C : OwC p Z s m meth c own nm bytes maxL ret) (X : Stand p l e R s m args below meth c T locs cells slots) (hd : decode bytes pc = .ok (.iadd, 1))  (hp : pc + 1 = pc') (k : OwF p e below D T (mkF m pc' Ls (.int (x + y) :: r))) : OwF p e below D T (mkF m pc Ls (.int y :: .int x :: r)) := by
  subst hp; exact OwF.st (fun _ q => XS.iadd X.here C.1 rfl (hb C.2.1 hd) rfl q) k
theorem ow_isub {x y : Int32} (C : OwC p Z s m meth c own nm bytes maxL ret) (X : Stand p l e R s m args below meth c T locs cells slots) (hd : decode bytes pc = .ok (.isub, 1))  (hp : pc + 1 = pc') (k : OwF p e below D T (mkF m pc' Ls (.int (x - y) :: r))) : OwF p e below D T (mkF m pc Ls (.int y :: .int x :: r)) := by
  subst hp; exact OwF.st (fun _ q => XS.isub X.here C.1 rfl (hb C.2.1 hd) rfl q) k
theorem ow_imul {x y : Int32} (C : OwC p Z s m meth c own nm bytes maxL ret) (X : Stand p l e R s m args below meth c T locs cells slots) (hd : decode bytes pc = .ok (.imul, 1))  (hp : pc + 1 = pc') (k : OwF p e below D T (mkF m pc' Ls (.int (x * y) :: r))) : OwF p e below D T (mkF m pc Ls (.int y :: .int x :: r)) := by
  subst hp; exact OwF.st (fun _ q => XS.imul X.here C.1 rfl (hb C.2.1 hd) rfl q) k
theorem ow_iand {x y : Int32} (C : OwC p Z s m meth c own nm bytes maxL ret) (X : Stand p l e R s m args below meth c T locs cells slots) (hd : decode bytes pc = .ok (.iand, 1))  (hp : pc + 1 = pc') (k : OwF p e below D T (mkF m pc' Ls (.int (x &&& y) :: r))) : OwF p e below D T (mkF m pc Ls (.int y :: .int x :: r)) := by
  subst hp; exact OwF.st (fun _ q => XS.iand X.here C.1 rfl (hb C.2.1 hd) rfl q) k
theorem ow_ior {x y : Int32} (C : OwC p Z s m meth c own nm bytes maxL ret) (X : Stand p l e R s m args below meth c T locs cells slots) (hd : decode bytes pc = .ok (.ior, 1))  (hp : pc + 1 = pc') (k : OwF p e below D T (mkF m pc' Ls (.int (x ||| y) :: r))) : OwF p e below D T (mkF m pc Ls (.int y :: .int x :: r)) := by
  subst hp; exact OwF.st (fun _ q => XT.ior X.here C.1 rfl (hb C.2.1 hd) rfl q) k
theorem ow_ixor {x y : Int32} (C : OwC p Z s m meth c own nm bytes maxL ret) (X : Stand p l e R s m args below meth c T locs cells slots) (hd : decode bytes pc = .ok (.ixor, 1))  (hp : pc + 1 = pc') (k : OwF p e below D T (mkF m pc' Ls (.int (x ^^^ y) :: r))) : OwF p e below D T (mkF m pc Ls (.int y :: .int x :: r)) := by
  subst hp; exact OwF.st (fun _ q => XT.ixor X.here C.1 rfl (hb C.2.1 hd) rfl q) k
theorem ow_ishl {x y : Int32} (C : OwC p Z s m meth c own nm bytes maxL ret) (X : Stand p l e R s m args below meth c T locs cells slots) (hd : decode bytes pc = .ok (.ishl, 1))  (hp : pc + 1 = pc') (k : OwF p e below D T (mkF m pc' Ls (.int (x <<< (y &&& 31)) :: r))) : OwF p e below D T (mkF m pc Ls (.int y :: .int x :: r)) := by
  subst hp; exact OwF.st (fun _ q => XT.ishl X.here C.1 rfl (hb C.2.1 hd) rfl q) k
theorem ow_ishr {x y : Int32} (C : OwC p Z s m meth c own nm bytes maxL ret) (X : Stand p l e R s m args below meth c T locs cells slots) (hd : decode bytes pc = .ok (.ishr, 1))  (hp : pc + 1 = pc') (k : OwF p e below D T (mkF m pc' Ls (.int (x >>> (y &&& 31)) :: r))) : OwF p e below D T (mkF m pc Ls (.int y :: .int x :: r)) := by
  subst hp; exact OwF.st (fun _ q => XT.ishr X.here C.1 rfl (hb C.2.1 hd) rfl q) k
theorem ow_iushr {x y : Int32} (C : OwC p Z s m meth c own nm bytes maxL ret) (X : Stand p l e R s m args below meth c T locs cells slots) (hd : decode bytes pc = .ok (.iushr, 1))  (hp : pc + 1 = pc') (k : OwF p e below D T (mkF m pc' Ls (.int (XT.ushr x y) :: r))) : OwF p e below D T (mkF m pc Ls (.int y :: .int x :: r)) := by
  subst hp; exact OwF.st (fun _ q => XT.iushr X.here C.1 rfl (hb C.2.1 hd) rfl q) k
theorem ow_idiv {x y : Int32} (C : OwC p Z s m meth c own nm bytes maxL ret) (X : Stand p l e R s m args below meth c T locs cells slots) (hd : decode bytes pc = .ok (.idiv, 1)) (hy : y ≠ 0) (hp : pc + 1 = pc') (k : OwF p e below D T (mkF m pc' Ls (.int (x / y) :: r))) : OwF p e below D T (mkF m pc Ls (.int y :: .int x :: r)) := by
  subst hp; exact OwF.st (fun _ q => XS.idiv X.here C.1 rfl (hb C.2.1 hd) rfl hy q) k
theorem ow_irem {x y : Int32} (C : OwC p Z s m meth c own nm bytes maxL ret) (X : Stand p l e R s m args below meth c T locs cells slots) (hd : decode bytes pc = .ok (.irem, 1)) (hy : y ≠ 0) (hp : pc + 1 = pc') (k : OwF p e below D T (mkF m pc' Ls (.int (x - (x / y) * y) :: r))) : OwF p e below D T (mkF m pc Ls (.int y :: .int x :: r)) := by
  subst hp; exact OwF.st (fun _ q => XS.irem X.here C.1 rfl (hb C.2.1 hd) rfl hy q) k
theorem ow_ladd {x y : Int64} (C : OwC p Z s m meth c own nm bytes maxL ret) (X : Stand p l e R s m args below meth c T locs cells slots) (hd : decode bytes pc = .ok (.ladd, 1))  (hp : pc + 1 = pc') (k : OwF p e below D T (mkF m pc' Ls (.long (x + y) :: r))) : OwF p e below D T (mkF m pc Ls (.long y :: .long x :: r)) := by
  subst hp; exact OwF.st (fun _ q => XT.ladd X.here C.1 rfl (hb C.2.1 hd) rfl q) k
theorem ow_lsub {x y : Int64} (C : OwC p Z s m meth c own nm bytes maxL ret) (X : Stand p l e R s m args below meth c T locs cells slots) (hd : decode bytes pc = .ok (.lsub, 1))  (hp : pc + 1 = pc') (k : OwF p e below D T (mkF m pc' Ls (.long (x - y) :: r))) : OwF p e below D T (mkF m pc Ls (.long y :: .long x :: r)) := by
  subst hp; exact OwF.st (fun _ q => XT.lsub X.here C.1 rfl (hb C.2.1 hd) rfl q) k
theorem ow_lmul {x y : Int64} (C : OwC p Z s m meth c own nm bytes maxL ret) (X : Stand p l e R s m args below meth c T locs cells slots) (hd : decode bytes pc = .ok (.lmul, 1))  (hp : pc + 1 = pc') (k : OwF p e below D T (mkF m pc' Ls (.long (x * y) :: r))) : OwF p e below D T (mkF m pc Ls (.long y :: .long x :: r)) := by
  subst hp; exact OwF.st (fun _ q => XT.lmul X.here C.1 rfl (hb C.2.1 hd) rfl q) k
theorem ow_land {x y : Int64} (C : OwC p Z s m meth c own nm bytes maxL ret) (X : Stand p l e R s m args below meth c T locs cells slots) (hd : decode bytes pc = .ok (.land, 1))  (hp : pc + 1 = pc') (k : OwF p e below D T (mkF m pc' Ls (.long (x &&& y) :: r))) : OwF p e below D T (mkF m pc Ls (.long y :: .long x :: r)) := by
  subst hp; exact OwF.st (fun _ q => XT.land X.here C.1 rfl (hb C.2.1 hd) rfl q) k
theorem ow_lor {x y : Int64} (C : OwC p Z s m meth c own nm bytes maxL ret) (X : Stand p l e R s m args below meth c T locs cells slots) (hd : decode bytes pc = .ok (.lor, 1))  (hp : pc + 1 = pc') (k : OwF p e below D T (mkF m pc' Ls (.long (x ||| y) :: r))) : OwF p e below D T (mkF m pc Ls (.long y :: .long x :: r)) := by
  subst hp; exact OwF.st (fun _ q => XT.lor X.here C.1 rfl (hb C.2.1 hd) rfl q) k
theorem ow_lxor {x y : Int64} (C : OwC p Z s m meth c own nm bytes maxL ret) (X : Stand p l e R s m args below meth c T locs cells slots) (hd : decode bytes pc = .ok (.lxor, 1))  (hp : pc + 1 = pc') (k : OwF p e below D T (mkF m pc' Ls (.long (x ^^^ y) :: r))) : OwF p e below D T (mkF m pc Ls (.long y :: .long x :: r)) := by
  subst hp; exact OwF.st (fun _ q => XT.lxor X.here C.1 rfl (hb C.2.1 hd) rfl q) k
theorem ow_ldiv {x y : Int64} (C : OwC p Z s m meth c own nm bytes maxL ret) (X : Stand p l e R s m args below meth c T locs cells slots) (hd : decode bytes pc = .ok (.ldiv, 1)) (hy : y ≠ 0) (hp : pc + 1 = pc') (k : OwF p e below D T (mkF m pc' Ls (.long (x / y) :: r))) : OwF p e below D T (mkF m pc Ls (.long y :: .long x :: r)) := by
  subst hp; exact OwF.st (fun _ q => XT.ldiv X.here C.1 rfl (hb C.2.1 hd) rfl hy q) k
theorem ow_lrem {x y : Int64} (C : OwC p Z s m meth c own nm bytes maxL ret) (X : Stand p l e R s m args below meth c T locs cells slots) (hd : decode bytes pc = .ok (.lrem, 1)) (hy : y ≠ 0) (hp : pc + 1 = pc') (k : OwF p e below D T (mkF m pc' Ls (.long (x - (x / y) * y) :: r))) : OwF p e below D T (mkF m pc Ls (.long y :: .long x :: r)) := by
  subst hp; exact OwF.st (fun _ q => XT.lrem X.here C.1 rfl (hb C.2.1 hd) rfl hy q) k
theorem ow_lshl {x : Int64} {y : Int32} (C : OwC p Z s m meth c own nm bytes maxL ret) (X : Stand p l e R s m args below meth c T locs cells slots) (hd : decode bytes pc = .ok (.lshl, 1))  (hp : pc + 1 = pc') (k : OwF p e below D T (mkF m pc' Ls (.long (x <<< (y.toInt64 &&& 63)) :: r))) : OwF p e below D T (mkF m pc Ls (.int y :: .long x :: r)) := by
  subst hp; exact OwF.st (fun _ q => XT.lshl X.here C.1 rfl (hb C.2.1 hd) rfl q) k
theorem ow_lshr {x : Int64} {y : Int32} (C : OwC p Z s m meth c own nm bytes maxL ret) (X : Stand p l e R s m args below meth c T locs cells slots) (hd : decode bytes pc = .ok (.lshr, 1))  (hp : pc + 1 = pc') (k : OwF p e below D T (mkF m pc' Ls (.long (x >>> (y.toInt64 &&& 63)) :: r))) : OwF p e below D T (mkF m pc Ls (.int y :: .long x :: r)) := by
  subst hp; exact OwF.st (fun _ q => XT.lshr X.here C.1 rfl (hb C.2.1 hd) rfl q) k
theorem ow_lushr {x : Int64} {y : Int32} (C : OwC p Z s m meth c own nm bytes maxL ret) (X : Stand p l e R s m args below meth c T locs cells slots) (hd : decode bytes pc = .ok (.lushr, 1))  (hp : pc + 1 = pc') (k : OwF p e below D T (mkF m pc' Ls (.long (XT.ushrL x y) :: r))) : OwF p e below D T (mkF m pc Ls (.int y :: .long x :: r)) := by
  subst hp; exact OwF.st (fun _ q => XT.lushr X.here C.1 rfl (hb C.2.1 hd) rfl q) k
theorem ow_lcmp {x y : Int64} (C : OwC p Z s m meth c own nm bytes maxL ret) (X : Stand p l e R s m args below meth c T locs cells slots) (hd : decode bytes pc = .ok (.lcmp, 1))  (hp : pc + 1 = pc') (k : OwF p e below D T (mkF m pc' Ls (.int (XT.cmpL x y) :: r))) : OwF p e below D T (mkF m pc Ls (.long y :: .long x :: r)) := by
  subst hp; exact OwF.st (fun _ q => XT.lcmp X.here C.1 rfl (hb C.2.1 hd) rfl q) k
theorem ow_ineg {x : Int32} (C : OwC p Z s m meth c own nm bytes maxL ret) (X : Stand p l e R s m args below meth c T locs cells slots) (hd : decode bytes pc = .ok (.ineg, 1))  (hp : pc + 1 = pc') (k : OwF p e below D T (mkF m pc' Ls (.int (-x) :: r))) : OwF p e below D T (mkF m pc Ls (.int x :: r)) := by
  subst hp; exact OwF.st (fun _ q => XS.ineg X.here C.1 rfl (hb C.2.1 hd) rfl q) k
theorem ow_lneg {x : Int64} (C : OwC p Z s m meth c own nm bytes maxL ret) (X : Stand p l e R s m args below meth c T locs cells slots) (hd : decode bytes pc = .ok (.lneg, 1))  (hp : pc + 1 = pc') (k : OwF p e below D T (mkF m pc' Ls (.long (-x) :: r))) : OwF p e below D T (mkF m pc Ls (.long x :: r)) := by
  subst hp; exact OwF.st (fun _ q => XT.lneg X.here C.1 rfl (hb C.2.1 hd) rfl q) k
theorem ow_i2l {x : Int32} (C : OwC p Z s m meth c own nm bytes maxL ret) (X : Stand p l e R s m args below meth c T locs cells slots) (hd : decode bytes pc = .ok (.i2l, 1))  (hp : pc + 1 = pc') (k : OwF p e below D T (mkF m pc' Ls (.long x.toInt64 :: r))) : OwF p e below D T (mkF m pc Ls (.int x :: r)) := by
  subst hp; exact OwF.st (fun _ q => XT.i2l X.here C.1 rfl (hb C.2.1 hd) rfl q) k
theorem ow_l2i {x : Int64} (C : OwC p Z s m meth c own nm bytes maxL ret) (X : Stand p l e R s m args below meth c T locs cells slots) (hd : decode bytes pc = .ok (.l2i, 1))  (hp : pc + 1 = pc') (k : OwF p e below D T (mkF m pc' Ls (.int x.toInt32 :: r))) : OwF p e below D T (mkF m pc Ls (.long x :: r)) := by
  subst hp; exact OwF.st (fun _ q => XT.l2i X.here C.1 rfl (hb C.2.1 hd) rfl q) k
theorem ow_i2b {x : Int32} (C : OwC p Z s m meth c own nm bytes maxL ret) (X : Stand p l e R s m args below meth c T locs cells slots) (hd : decode bytes pc = .ok (.i2b, 1))  (hp : pc + 1 = pc') (k : OwF p e below D T (mkF m pc' Ls (.int x.toInt8.toInt32 :: r))) : OwF p e below D T (mkF m pc Ls (.int x :: r)) := by
  subst hp; exact OwF.st (fun _ q => XT.i2b X.here C.1 rfl (hb C.2.1 hd) rfl q) k
theorem ow_i2c {x : Int32} (C : OwC p Z s m meth c own nm bytes maxL ret) (X : Stand p l e R s m args below meth c T locs cells slots) (hd : decode bytes pc = .ok (.i2c, 1))  (hp : pc + 1 = pc') (k : OwF p e below D T (mkF m pc' Ls (.int x.toUInt32.toUInt16.toUInt32.toInt32 :: r))) : OwF p e below D T (mkF m pc Ls (.int x :: r)) := by
  subst hp; exact OwF.st (fun _ q => XT.i2c X.here C.1 rfl (hb C.2.1 hd) rfl q) k
theorem ow_i2s {x : Int32} (C : OwC p Z s m meth c own nm bytes maxL ret) (X : Stand p l e R s m args below meth c T locs cells slots) (hd : decode bytes pc = .ok (.i2s, 1))  (hp : pc + 1 = pc') (k : OwF p e below D T (mkF m pc' Ls (.int x.toInt16.toInt32 :: r))) : OwF p e below D T (mkF m pc Ls (.int x :: r)) := by
  subst hp; exact OwF.st (fun _ q => XT.i2s X.here C.1 rfl (hb C.2.1 hd) rfl q) k
theorem ow_dup {v : Value} (C : OwC p Z s m meth c own nm bytes maxL ret) (X : Stand p l e R s m args below meth c T locs cells slots) (hd : decode bytes pc = .ok (.dup, 1)) (hc : v.category = 1) (hp : pc + 1 = pc') (k : OwF p e below D T (mkF m pc' Ls (v :: v :: r))) : OwF p e below D T (mkF m pc Ls (v :: r)) := by
  subst hp; exact OwF.st (fun _ q => XS.dup X.here C.1 rfl (hb C.2.1 hd) rfl hc q) k
theorem ow_pop {v : Value} (C : OwC p Z s m meth c own nm bytes maxL ret) (X : Stand p l e R s m args below meth c T locs cells slots) (hd : decode bytes pc = .ok (.pop, 1)) (hc : v.category = 1) (hp : pc + 1 = pc') (k : OwF p e below D T (mkF m pc' Ls (r))) : OwF p e below D T (mkF m pc Ls (v :: r)) := by
  subst hp; exact OwF.st (fun _ q => XT.pop X.here C.1 rfl (hb C.2.1 hd) rfl hc q) k
theorem ow_dupX1 {v w : Value} (C : OwC p Z s m meth c own nm bytes maxL ret) (X : Stand p l e R s m args below meth c T locs cells slots) (hd : decode bytes pc = .ok (.dup_x1, 1)) (hc : v.category = 1) (hc' : w.category = 1) (hp : pc + 1 = pc') (k : OwF p e below D T (mkF m pc' Ls (v :: w :: v :: r))) : OwF p e below D T (mkF m pc Ls (v :: w :: r)) := by
  subst hp; exact OwF.st (fun _ q => XT.dupX1 X.here C.1 rfl (hb C.2.1 hd) rfl hc hc' q) k
theorem ow_dup2 {v w : Value} (C : OwC p Z s m meth c own nm bytes maxL ret) (X : Stand p l e R s m args below meth c T locs cells slots) (hd : decode bytes pc = .ok (.dup2, 1)) (hc : v.category = 1) (hc' : w.category = 1) (hp : pc + 1 = pc') (k : OwF p e below D T (mkF m pc' Ls (v :: w :: v :: w :: r))) : OwF p e below D T (mkF m pc Ls (v :: w :: r)) := by
  subst hp; exact OwF.st (fun _ q => XT.dup2 X.here C.1 rfl (hb C.2.1 hd) rfl hc hc' q) k
theorem ow_dup2L {x : Int64} (C : OwC p Z s m meth c own nm bytes maxL ret) (X : Stand p l e R s m args below meth c T locs cells slots) (hd : decode bytes pc = .ok (.dup2, 1))  (hp : pc + 1 = pc') (k : OwF p e below D T (mkF m pc' Ls (.long x :: .long x :: r))) : OwF p e below D T (mkF m pc Ls (.long x :: r)) := by
  subst hp; exact OwF.st (fun _ q => XT.dup2L X.here C.1 rfl (hb C.2.1 hd) rfl q) k
theorem ow_aconstNull  (C : OwC p Z s m meth c own nm bytes maxL ret) (X : Stand p l e R s m args below meth c T locs cells slots) (hd : decode bytes pc = .ok (.aconst_null, 1))  (hp : pc + 1 = pc') (k : OwF p e below D T (mkF m pc' Ls (.null :: r))) : OwF p e below D T (mkF m pc Ls (r)) := by
  subst hp; exact OwF.st (fun _ q => XS.aconstNull X.here C.1 rfl (hb C.2.1 hd)  q) k
theorem ow_iloadN {j : Fin 4} {v : Int32} (C : OwC p Z s m meth c own nm bytes maxL ret) (X : Stand p l e R s m args below meth c T locs cells slots) (hd : decode bytes pc = .ok (.iload_n j, 1)) (hl : Ls[j.val]? = some (.val (.int v))) (hp : pc + 1 = pc') (k : OwF p e below D T (mkF m pc' Ls (.int v :: r))) : OwF p e below D T (mkF m pc Ls (r)) := by
  subst hp; exact OwF.st (fun _ q => XS.iloadN X.here C.1 rfl (hb C.2.1 hd) hl q) k
theorem ow_iload {j : Nat} {v : Int32} (C : OwC p Z s m meth c own nm bytes maxL ret) (X : Stand p l e R s m args below meth c T locs cells slots) (hd : decode bytes pc = .ok (.iload j, 2)) (hl : Ls[j]? = some (.val (.int v))) (hp : pc + 2 = pc') (k : OwF p e below D T (mkF m pc' Ls (.int v :: r))) : OwF p e below D T (mkF m pc Ls (r)) := by
  subst hp; exact OwF.st (fun _ q => XS.iload X.here C.1 rfl (hb C.2.1 hd) hl q) k
theorem ow_lloadN {j : Fin 4} {v : Int64} (C : OwC p Z s m meth c own nm bytes maxL ret) (X : Stand p l e R s m args below meth c T locs cells slots) (hd : decode bytes pc = .ok (.lload_n j, 1)) (hl : Ls[j.val]? = some (.val (.long v))) (hp : pc + 1 = pc') (k : OwF p e below D T (mkF m pc' Ls (.long v :: r))) : OwF p e below D T (mkF m pc Ls (r)) := by
  subst hp; exact OwF.st (fun _ q => XT.lloadN X.here C.1 rfl (hb C.2.1 hd) hl q) k
theorem ow_lload {j : Nat} {v : Int64} (C : OwC p Z s m meth c own nm bytes maxL ret) (X : Stand p l e R s m args below meth c T locs cells slots) (hd : decode bytes pc = .ok (.lload j, 2)) (hl : Ls[j]? = some (.val (.long v))) (hp : pc + 2 = pc') (k : OwF p e below D T (mkF m pc' Ls (.long v :: r))) : OwF p e below D T (mkF m pc Ls (r)) := by
  subst hp; exact OwF.st (fun _ q => XT.lload X.here C.1 rfl (hb C.2.1 hd) hl q) k
theorem ow_aloadN {j : Fin 4} {v : Value} (C : OwC p Z s m meth c own nm bytes maxL ret) (X : Stand p l e R s m args below meth c T locs cells slots) (hd : decode bytes pc = .ok (.aload_n j, 1)) (hl : Ls[j.val]? = some (.val v)) (hv : v.isRef = true) (hp : pc + 1 = pc') (k : OwF p e below D T (mkF m pc' Ls (v :: r))) : OwF p e below D T (mkF m pc Ls (r)) := by
  subst hp; exact OwF.st (fun _ q => XS.aloadN X.here C.1 rfl (hb C.2.1 hd) hl hv q) k
theorem ow_aload {j : Nat} {v : Value} (C : OwC p Z s m meth c own nm bytes maxL ret) (X : Stand p l e R s m args below meth c T locs cells slots) (hd : decode bytes pc = .ok (.aload j, 2)) (hl : Ls[j]? = some (.val v)) (hv : v.isRef = true) (hp : pc + 2 = pc') (k : OwF p e below D T (mkF m pc' Ls (v :: r))) : OwF p e below D T (mkF m pc Ls (r)) := by
  subst hp; exact OwF.st (fun _ q => XS.aload X.here C.1 rfl (hb C.2.1 hd) hl hv q) k
theorem ow_istoreN {j : Fin 4} {v : Int32} (C : OwC p Z s m meth c own nm bytes maxL ret) (X : Stand p l e R s m args below meth c T locs cells slots) (hd : decode bytes pc = .ok (.istore_n j, 1)) (hl : storeLocals Ls j.val (.int v) = some Ls') (hp : pc + 1 = pc') (k : OwF p e below D T (mkF m pc' Ls' (r))) : OwF p e below D T (mkF m pc Ls (.int v :: r)) := by
  subst hp; exact OwF.st (fun _ q => XS.istoreN X.here C.1 rfl (hb C.2.1 hd) rfl hl q) k
theorem ow_istore {j : Nat} {v : Int32} (C : OwC p Z s m meth c own nm bytes maxL ret) (X : Stand p l e R s m args below meth c T locs cells slots) (hd : decode bytes pc = .ok (.istore j, 2)) (hl : storeLocals Ls j (.int v) = some Ls') (hp : pc + 2 = pc') (k : OwF p e below D T (mkF m pc' Ls' (r))) : OwF p e below D T (mkF m pc Ls (.int v :: r)) := by
  subst hp; exact OwF.st (fun _ q => XS.istore X.here C.1 rfl (hb C.2.1 hd) rfl hl q) k
theorem ow_lstoreN {j : Fin 4} {v : Int64} (C : OwC p Z s m meth c own nm bytes maxL ret) (X : Stand p l e R s m args below meth c T locs cells slots) (hd : decode bytes pc = .ok (.lstore_n j, 1)) (hl : storeLocals Ls j.val (.long v) = some Ls') (hp : pc + 1 = pc') (k : OwF p e below D T (mkF m pc' Ls' (r))) : OwF p e below D T (mkF m pc Ls (.long v :: r)) := by
  subst hp; exact OwF.st (fun _ q => XT.lstoreN X.here C.1 rfl (hb C.2.1 hd) rfl hl q) k
theorem ow_lstore {j : Nat} {v : Int64} (C : OwC p Z s m meth c own nm bytes maxL ret) (X : Stand p l e R s m args below meth c T locs cells slots) (hd : decode bytes pc = .ok (.lstore j, 2)) (hl : storeLocals Ls j (.long v) = some Ls') (hp : pc + 2 = pc') (k : OwF p e below D T (mkF m pc' Ls' (r))) : OwF p e below D T (mkF m pc Ls (.long v :: r)) := by
  subst hp; exact OwF.st (fun _ q => XT.lstore X.here C.1 rfl (hb C.2.1 hd) rfl hl q) k
theorem ow_astoreN {j : Fin 4} {v : Value} (C : OwC p Z s m meth c own nm bytes maxL ret) (X : Stand p l e R s m args below meth c T locs cells slots) (hd : decode bytes pc = .ok (.astore_n j, 1)) (hv : v.isRef = true) (hl : storeLocals Ls j.val v = some Ls') (hp : pc + 1 = pc') (k : OwF p e below D T (mkF m pc' Ls' (r))) : OwF p e below D T (mkF m pc Ls (v :: r)) := by
  subst hp; exact OwF.st (fun _ q => XS.astoreN X.here C.1 rfl (hb C.2.1 hd) rfl hv hl q) k
theorem ow_astore {j : Nat} {v : Value} (C : OwC p Z s m meth c own nm bytes maxL ret) (X : Stand p l e R s m args below meth c T locs cells slots) (hd : decode bytes pc = .ok (.astore j, 2)) (hv : v.isRef = true) (hl : storeLocals Ls j v = some Ls') (hp : pc + 2 = pc') (k : OwF p e below D T (mkF m pc' Ls' (r))) : OwF p e below D T (mkF m pc Ls (v :: r)) := by
  subst hp; exact OwF.st (fun _ q => XS.astore X.here C.1 rfl (hb C.2.1 hd) rfl hv hl q) k
theorem ow_iconst {i : Int} (v : Int32) (C : OwC p Z s m meth c own nm bytes maxL ret) (X : Stand p l e R s m args below meth c T locs cells slots) (hd : decode bytes pc = .ok (.iconst i, 1)) (hv : Int32.ofInt i = v) (hp : pc + 1 = pc') (k : OwF p e below D T (mkF m pc' Ls (.int v :: r))) : OwF p e below D T (mkF m pc Ls r) := by
  subst hp; subst hv; exact OwF.st (fun _ q => XS.iconst X.here C.1 rfl (hb C.2.1 hd) q) k
theorem ow_bipush {i : Int} (v : Int32) (C : OwC p Z s m meth c own nm bytes maxL ret) (X : Stand p l e R s m args below meth c T locs cells slots) (hd : decode bytes pc = .ok (.bipush i, 2)) (hv : (Int8.ofInt i).toInt32 = v) (hp : pc + 2 = pc') (k : OwF p e below D T (mkF m pc' Ls (.int v :: r))) : OwF p e below D T (mkF m pc Ls r) := by
  subst hp; subst hv; exact OwF.st (fun _ q => XS.bipush X.here C.1 rfl (hb C.2.1 hd) q) k
theorem ow_sipush {i : Int} (v : Int32) (C : OwC p Z s m meth c own nm bytes maxL ret) (X : Stand p l e R s m args below meth c T locs cells slots) (hd : decode bytes pc = .ok (.sipush i, 3)) (hv : (Int16.ofInt i).toInt32 = v) (hp : pc + 3 = pc') (k : OwF p e below D T (mkF m pc' Ls (.int v :: r))) : OwF p e below D T (mkF m pc Ls r) := by
  subst hp; subst hv; exact OwF.st (fun _ q => XS.sipush X.here C.1 rfl (hb C.2.1 hd) q) k
theorem ow_lconst {i : Fin 2} (v : Int64) (C : OwC p Z s m meth c own nm bytes maxL ret) (X : Stand p l e R s m args below meth c T locs cells slots) (hd : decode bytes pc = .ok (.lconst i, 1)) (hv : Int64.ofNat i = v) (hp : pc + 1 = pc') (k : OwF p e below D T (mkF m pc' Ls (.long v :: r))) : OwF p e below D T (mkF m pc Ls r) := by
  subst hp; subst hv; exact OwF.st (fun _ q => XT.lconst X.here C.1 rfl (hb C.2.1 hd) q) k
theorem ow_iinc {i : Int} {j : Nat} {x : Int32} (v : Int32) (C : OwC p Z s m meth c own nm bytes maxL ret) (X : Stand p l e R s m args below meth c T locs cells slots) (hd : decode bytes pc = .ok (.iinc j i, 3)) (hv : Int32.ofInt i = v) (hl : Ls[j]? = some (.val (.int x))) (hl' : storeLocals Ls j (.int (x + v)) = some Ls') (hp : pc + 3 = pc') (k : OwF p e below D T (mkF m pc' Ls' r)) : OwF p e below D T (mkF m pc Ls r) := by
  subst hp; subst hv; exact OwF.st (fun _ q => XS.iinc X.here C.1 rfl (hb C.2.1 hd) hl hl' q) k
theorem ow_ldc {i : Nat} {v : Int32} (C : OwC p Z s m meth c own nm bytes maxL ret) (X : Stand p l e R s m args below meth c T locs cells slots) (w : (Jvm.Cond.constant own i v).before a0 Z = true) (hd : decode bytes pc = .ok (.ldc i, 2)) (hp : pc + 2 = pc') (k : OwF p e below D T (mkF m pc' Ls (.int v :: r))) : OwF p e below D T (mkF m pc Ls r) := by
  subst hp; exact OwF.st (fun _ q => X.ldcI C.1 C.2.2.2.1 (mvT C.2.2.2.2.2.2.2 w) rfl (hb C.2.1 hd) q) k
theorem ow_ldcW {i : Nat} {v : Int32} (C : OwC p Z s m meth c own nm bytes maxL ret) (X : Stand p l e R s m args below meth c T locs cells slots) (w : (Jvm.Cond.constant own i v).before a0 Z = true) (hd : decode bytes pc = .ok (.ldc_w i, 3)) (hp : pc + 3 = pc') (k : OwF p e below D T (mkF m pc' Ls (.int v :: r))) : OwF p e below D T (mkF m pc Ls r) := by
  subst hp; exact OwF.st (fun _ q => X.ldcWI C.1 C.2.2.2.1 (mvT C.2.2.2.2.2.2.2 w) rfl (hb C.2.1 hd) q) k
theorem ow_ldc2 {i : Nat} {v : Int64} (C : OwC p Z s m meth c own nm bytes maxL ret) (X : Stand p l e R s m args below meth c T locs cells slots) (w : (Jvm.Cond.constantLong own i v).before a0 Z = true) (hd : decode bytes pc = .ok (.ldc2_w i, 3)) (hp : pc + 3 = pc') (k : OwF p e below D T (mkF m pc' Ls (.long v :: r))) : OwF p e below D T (mkF m pc Ls r) := by
  subst hp; exact OwF.st (fun _ q => X.ldc2J C.1 C.2.2.2.1 (mvT C.2.2.2.2.2.2.2 w) rfl (hb C.2.1 hd) q) k
theorem ow_goto {o : Int} (C : OwC p Z s m meth c own nm bytes maxL ret) (X : Stand p l e R s m args below meth c T locs cells slots) (hd : decode bytes pc = .ok (.goto o, 3)) (ho : 0 ≤ (pc : Int) + o) (ht : ((pc : Int) + o).toNat = pcT) (k : OwF p e below D T (mkF m pcT Ls r)) : OwF p e below D T (mkF m pc Ls r) :=
  OwF.st (fun _ q => XS.goto X.here C.1 rfl rfl (hb C.2.1 hd) ho ht q) k
theorem ow_if_eq {x : Int32} {o : Int} (C : OwC p Z s m meth c own nm bytes maxL ret) (X : Stand p l e R s m args below meth c T locs cells slots) (hd : decode bytes pc = .ok (.ifCond .eq o, 3)) (ho : 0 ≤ (pc : Int) + o) (ht : ((pc : Int) + o).toNat = pcT) (hp : pc + 3 = pc') (k1 : x = 0 → OwF p e below D T (mkF m pcT Ls r)) (k2 : ¬ x = 0 → OwF p e below D T (mkF m pc' Ls r)) : OwF p e below D T (mkF m pc Ls (.int x :: r)) := by
  subst hp
  by_cases hq : x = 0
  · exact OwF.st (fun _ q => XS.ifYes X.here C.1 rfl rfl (hb C.2.1 hd) rfl (XT.i0_eq_t hq) ho ht q) (k1 hq)
  · exact OwF.st (fun _ q => XS.ifNo X.here C.1 rfl (hb C.2.1 hd) rfl (XT.i0_eq_f hq) q) (k2 hq)
theorem ow_icmp_eq {x y : Int32} {o : Int} (C : OwC p Z s m meth c own nm bytes maxL ret) (X : Stand p l e R s m args below meth c T locs cells slots) (hd : decode bytes pc = .ok (.if_icmp .eq o, 3)) (ho : 0 ≤ (pc : Int) + o) (ht : ((pc : Int) + o).toNat = pcT) (hp : pc + 3 = pc') (k1 : x = y → OwF p e below D T (mkF m pcT Ls r)) (k2 : ¬ x = y → OwF p e below D T (mkF m pc' Ls r)) : OwF p e below D T (mkF m pc Ls (.int y :: .int x :: r)) := by
  subst hp
  by_cases hq : x = y
  · exact OwF.st (fun _ q => XS.icmpYes X.here C.1 rfl rfl (hb C.2.1 hd) rfl (XT.ii_eq_t hq) ho ht q) (k1 hq)
  · exact OwF.st (fun _ q => XS.icmpNo X.here C.1 rfl (hb C.2.1 hd) rfl (XT.ii_eq_f hq) q) (k2 hq)
theorem ow_lif_eq {x y : Int64} {o : Int} (C : OwC p Z s m meth c own nm bytes maxL ret) (X : Stand p l e R s m args below meth c T locs cells slots) (hd : decode bytes pc = .ok (.ifCond .eq o, 3)) (ho : 0 ≤ (pc : Int) + o) (ht : ((pc : Int) + o).toNat = pcT) (hp : pc + 3 = pc') (k1 : x = y → OwF p e below D T (mkF m pcT Ls r)) (k2 : ¬ x = y → OwF p e below D T (mkF m pc' Ls r)) : OwF p e below D T (mkF m pc Ls (.int (XT.cmpL x y) :: r)) := by
  subst hp
  by_cases hq : x = y
  · exact OwF.st (fun _ q => XS.ifYes X.here C.1 rfl rfl (hb C.2.1 hd) rfl (XT.ll_eq_t hq) ho ht q) (k1 hq)
  · exact OwF.st (fun _ q => XS.ifNo X.here C.1 rfl (hb C.2.1 hd) rfl (XT.ll_eq_f hq) q) (k2 hq)
theorem ow_if_ne {x : Int32} {o : Int} (C : OwC p Z s m meth c own nm bytes maxL ret) (X : Stand p l e R s m args below meth c T locs cells slots) (hd : decode bytes pc = .ok (.ifCond .ne o, 3)) (ho : 0 ≤ (pc : Int) + o) (ht : ((pc : Int) + o).toNat = pcT) (hp : pc + 3 = pc') (k1 : ¬ x = 0 → OwF p e below D T (mkF m pcT Ls r)) (k2 : x = 0 → OwF p e below D T (mkF m pc' Ls r)) : OwF p e below D T (mkF m pc Ls (.int x :: r)) := by
  subst hp
  by_cases hq : x = 0
  · exact OwF.st (fun _ q => XS.ifNo X.here C.1 rfl (hb C.2.1 hd) rfl (XT.i0_ne_f hq) q) (k2 hq)
  · exact OwF.st (fun _ q => XS.ifYes X.here C.1 rfl rfl (hb C.2.1 hd) rfl (XT.i0_ne_t hq) ho ht q) (k1 hq)
theorem ow_icmp_ne {x y : Int32} {o : Int} (C : OwC p Z s m meth c own nm bytes maxL ret) (X : Stand p l e R s m args below meth c T locs cells slots) (hd : decode bytes pc = .ok (.if_icmp .ne o, 3)) (ho : 0 ≤ (pc : Int) + o) (ht : ((pc : Int) + o).toNat = pcT) (hp : pc + 3 = pc') (k1 : ¬ x = y → OwF p e below D T (mkF m pcT Ls r)) (k2 : x = y → OwF p e below D T (mkF m pc' Ls r)) : OwF p e below D T (mkF m pc Ls (.int y :: .int x :: r)) := by
  subst hp
  by_cases hq : x = y
  · exact OwF.st (fun _ q => XS.icmpNo X.here C.1 rfl (hb C.2.1 hd) rfl (XT.ii_ne_f hq) q) (k2 hq)
  · exact OwF.st (fun _ q => XS.icmpYes X.here C.1 rfl rfl (hb C.2.1 hd) rfl (XT.ii_ne_t hq) ho ht q) (k1 hq)
theorem ow_lif_ne {x y : Int64} {o : Int} (C : OwC p Z s m meth c own nm bytes maxL ret) (X : Stand p l e R s m args below meth c T locs cells slots) (hd : decode bytes pc = .ok (.ifCond .ne o, 3)) (ho : 0 ≤ (pc : Int) + o) (ht : ((pc : Int) + o).toNat = pcT) (hp : pc + 3 = pc') (k1 : ¬ x = y → OwF p e below D T (mkF m pcT Ls r)) (k2 : x = y → OwF p e below D T (mkF m pc' Ls r)) : OwF p e below D T (mkF m pc Ls (.int (XT.cmpL x y) :: r)) := by
  subst hp
  by_cases hq : x = y
  · exact OwF.st (fun _ q => XS.ifNo X.here C.1 rfl (hb C.2.1 hd) rfl (XT.ll_ne_f hq) q) (k2 hq)
  · exact OwF.st (fun _ q => XS.ifYes X.here C.1 rfl rfl (hb C.2.1 hd) rfl (XT.ll_ne_t hq) ho ht q) (k1 hq)
theorem ow_if_lt {x : Int32} {o : Int} (C : OwC p Z s m meth c own nm bytes maxL ret) (X : Stand p l e R s m args below meth c T locs cells slots) (hd : decode bytes pc = .ok (.ifCond .lt o, 3)) (ho : 0 ≤ (pc : Int) + o) (ht : ((pc : Int) + o).toNat = pcT) (hp : pc + 3 = pc') (k1 : x < 0 → OwF p e below D T (mkF m pcT Ls r)) (k2 : ¬ x < 0 → OwF p e below D T (mkF m pc' Ls r)) : OwF p e below D T (mkF m pc Ls (.int x :: r)) := by
  subst hp
  by_cases hq : x < 0
  · exact OwF.st (fun _ q => XS.ifYes X.here C.1 rfl rfl (hb C.2.1 hd) rfl (XT.i0_lt_t hq) ho ht q) (k1 hq)
  · exact OwF.st (fun _ q => XS.ifNo X.here C.1 rfl (hb C.2.1 hd) rfl (XT.i0_lt_f hq) q) (k2 hq)
theorem ow_icmp_lt {x y : Int32} {o : Int} (C : OwC p Z s m meth c own nm bytes maxL ret) (X : Stand p l e R s m args below meth c T locs cells slots) (hd : decode bytes pc = .ok (.if_icmp .lt o, 3)) (ho : 0 ≤ (pc : Int) + o) (ht : ((pc : Int) + o).toNat = pcT) (hp : pc + 3 = pc') (k1 : x < y → OwF p e below D T (mkF m pcT Ls r)) (k2 : ¬ x < y → OwF p e below D T (mkF m pc' Ls r)) : OwF p e below D T (mkF m pc Ls (.int y :: .int x :: r)) := by
  subst hp
  by_cases hq : x < y
  · exact OwF.st (fun _ q => XS.icmpYes X.here C.1 rfl rfl (hb C.2.1 hd) rfl (XT.ii_lt_t hq) ho ht q) (k1 hq)
  · exact OwF.st (fun _ q => XS.icmpNo X.here C.1 rfl (hb C.2.1 hd) rfl (XT.ii_lt_f hq) q) (k2 hq)
theorem ow_lif_lt {x y : Int64} {o : Int} (C : OwC p Z s m meth c own nm bytes maxL ret) (X : Stand p l e R s m args below meth c T locs cells slots) (hd : decode bytes pc = .ok (.ifCond .lt o, 3)) (ho : 0 ≤ (pc : Int) + o) (ht : ((pc : Int) + o).toNat = pcT) (hp : pc + 3 = pc') (k1 : x < y → OwF p e below D T (mkF m pcT Ls r)) (k2 : ¬ x < y → OwF p e below D T (mkF m pc' Ls r)) : OwF p e below D T (mkF m pc Ls (.int (XT.cmpL x y) :: r)) := by
  subst hp
  by_cases hq : x < y
  · exact OwF.st (fun _ q => XS.ifYes X.here C.1 rfl rfl (hb C.2.1 hd) rfl (XT.ll_lt_t hq) ho ht q) (k1 hq)
  · exact OwF.st (fun _ q => XS.ifNo X.here C.1 rfl (hb C.2.1 hd) rfl (XT.ll_lt_f hq) q) (k2 hq)
theorem ow_if_ge {x : Int32} {o : Int} (C : OwC p Z s m meth c own nm bytes maxL ret) (X : Stand p l e R s m args below meth c T locs cells slots) (hd : decode bytes pc = .ok (.ifCond .ge o, 3)) (ho : 0 ≤ (pc : Int) + o) (ht : ((pc : Int) + o).toNat = pcT) (hp : pc + 3 = pc') (k1 : ¬ x < 0 → OwF p e below D T (mkF m pcT Ls r)) (k2 : x < 0 → OwF p e below D T (mkF m pc' Ls r)) : OwF p e below D T (mkF m pc Ls (.int x :: r)) := by
  subst hp
  by_cases hq : x < 0
  · exact OwF.st (fun _ q => XS.ifNo X.here C.1 rfl (hb C.2.1 hd) rfl (XT.i0_ge_f hq) q) (k2 hq)
  · exact OwF.st (fun _ q => XS.ifYes X.here C.1 rfl rfl (hb C.2.1 hd) rfl (XT.i0_ge_t hq) ho ht q) (k1 hq)
theorem ow_icmp_ge {x y : Int32} {o : Int} (C : OwC p Z s m meth c own nm bytes maxL ret) (X : Stand p l e R s m args below meth c T locs cells slots) (hd : decode bytes pc = .ok (.if_icmp .ge o, 3)) (ho : 0 ≤ (pc : Int) + o) (ht : ((pc : Int) + o).toNat = pcT) (hp : pc + 3 = pc') (k1 : ¬ x < y → OwF p e below D T (mkF m pcT Ls r)) (k2 : x < y → OwF p e below D T (mkF m pc' Ls r)) : OwF p e below D T (mkF m pc Ls (.int y :: .int x :: r)) := by
  subst hp
  by_cases hq : x < y
  · exact OwF.st (fun _ q => XS.icmpNo X.here C.1 rfl (hb C.2.1 hd) rfl (XT.ii_ge_f hq) q) (k2 hq)
  · exact OwF.st (fun _ q => XS.icmpYes X.here C.1 rfl rfl (hb C.2.1 hd) rfl (XT.ii_ge_t hq) ho ht q) (k1 hq)
theorem ow_lif_ge {x y : Int64} {o : Int} (C : OwC p Z s m meth c own nm bytes maxL ret) (X : Stand p l e R s m args below meth c T locs cells slots) (hd : decode bytes pc = .ok (.ifCond .ge o, 3)) (ho : 0 ≤ (pc : Int) + o) (ht : ((pc : Int) + o).toNat = pcT) (hp : pc + 3 = pc') (k1 : ¬ x < y → OwF p e below D T (mkF m pcT Ls r)) (k2 : x < y → OwF p e below D T (mkF m pc' Ls r)) : OwF p e below D T (mkF m pc Ls (.int (XT.cmpL x y) :: r)) := by
  subst hp
  by_cases hq : x < y
  · exact OwF.st (fun _ q => XS.ifNo X.here C.1 rfl (hb C.2.1 hd) rfl (XT.ll_ge_f hq) q) (k2 hq)
  · exact OwF.st (fun _ q => XS.ifYes X.here C.1 rfl rfl (hb C.2.1 hd) rfl (XT.ll_ge_t hq) ho ht q) (k1 hq)
theorem ow_if_gt {x : Int32} {o : Int} (C : OwC p Z s m meth c own nm bytes maxL ret) (X : Stand p l e R s m args below meth c T locs cells slots) (hd : decode bytes pc = .ok (.ifCond .gt o, 3)) (ho : 0 ≤ (pc : Int) + o) (ht : ((pc : Int) + o).toNat = pcT) (hp : pc + 3 = pc') (k1 : 0 < x → OwF p e below D T (mkF m pcT Ls r)) (k2 : ¬ 0 < x → OwF p e below D T (mkF m pc' Ls r)) : OwF p e below D T (mkF m pc Ls (.int x :: r)) := by
  subst hp
  by_cases hq : 0 < x
  · exact OwF.st (fun _ q => XS.ifYes X.here C.1 rfl rfl (hb C.2.1 hd) rfl (XT.i0_gt_t hq) ho ht q) (k1 hq)
  · exact OwF.st (fun _ q => XS.ifNo X.here C.1 rfl (hb C.2.1 hd) rfl (XT.i0_gt_f hq) q) (k2 hq)
theorem ow_icmp_gt {x y : Int32} {o : Int} (C : OwC p Z s m meth c own nm bytes maxL ret) (X : Stand p l e R s m args below meth c T locs cells slots) (hd : decode bytes pc = .ok (.if_icmp .gt o, 3)) (ho : 0 ≤ (pc : Int) + o) (ht : ((pc : Int) + o).toNat = pcT) (hp : pc + 3 = pc') (k1 : y < x → OwF p e below D T (mkF m pcT Ls r)) (k2 : ¬ y < x → OwF p e below D T (mkF m pc' Ls r)) : OwF p e below D T (mkF m pc Ls (.int y :: .int x :: r)) := by
  subst hp
  by_cases hq : y < x
  · exact OwF.st (fun _ q => XS.icmpYes X.here C.1 rfl rfl (hb C.2.1 hd) rfl (XT.ii_gt_t hq) ho ht q) (k1 hq)
  · exact OwF.st (fun _ q => XS.icmpNo X.here C.1 rfl (hb C.2.1 hd) rfl (XT.ii_gt_f hq) q) (k2 hq)
theorem ow_lif_gt {x y : Int64} {o : Int} (C : OwC p Z s m meth c own nm bytes maxL ret) (X : Stand p l e R s m args below meth c T locs cells slots) (hd : decode bytes pc = .ok (.ifCond .gt o, 3)) (ho : 0 ≤ (pc : Int) + o) (ht : ((pc : Int) + o).toNat = pcT) (hp : pc + 3 = pc') (k1 : y < x → OwF p e below D T (mkF m pcT Ls r)) (k2 : ¬ y < x → OwF p e below D T (mkF m pc' Ls r)) : OwF p e below D T (mkF m pc Ls (.int (XT.cmpL x y) :: r)) := by
  subst hp
  by_cases hq : y < x
  · exact OwF.st (fun _ q => XS.ifYes X.here C.1 rfl rfl (hb C.2.1 hd) rfl (XT.ll_gt_t hq) ho ht q) (k1 hq)
  · exact OwF.st (fun _ q => XS.ifNo X.here C.1 rfl (hb C.2.1 hd) rfl (XT.ll_gt_f hq) q) (k2 hq)
theorem ow_if_le {x : Int32} {o : Int} (C : OwC p Z s m meth c own nm bytes maxL ret) (X : Stand p l e R s m args below meth c T locs cells slots) (hd : decode bytes pc = .ok (.ifCond .le o, 3)) (ho : 0 ≤ (pc : Int) + o) (ht : ((pc : Int) + o).toNat = pcT) (hp : pc + 3 = pc') (k1 : ¬ 0 < x → OwF p e below D T (mkF m pcT Ls r)) (k2 : 0 < x → OwF p e below D T (mkF m pc' Ls r)) : OwF p e below D T (mkF m pc Ls (.int x :: r)) := by
  subst hp
  by_cases hq : 0 < x
  · exact OwF.st (fun _ q => XS.ifNo X.here C.1 rfl (hb C.2.1 hd) rfl (XT.i0_le_f hq) q) (k2 hq)
  · exact OwF.st (fun _ q => XS.ifYes X.here C.1 rfl rfl (hb C.2.1 hd) rfl (XT.i0_le_t hq) ho ht q) (k1 hq)
theorem ow_icmp_le {x y : Int32} {o : Int} (C : OwC p Z s m meth c own nm bytes maxL ret) (X : Stand p l e R s m args below meth c T locs cells slots) (hd : decode bytes pc = .ok (.if_icmp .le o, 3)) (ho : 0 ≤ (pc : Int) + o) (ht : ((pc : Int) + o).toNat = pcT) (hp : pc + 3 = pc') (k1 : ¬ y < x → OwF p e below D T (mkF m pcT Ls r)) (k2 : y < x → OwF p e below D T (mkF m pc' Ls r)) : OwF p e below D T (mkF m pc Ls (.int y :: .int x :: r)) := by
  subst hp
  by_cases hq : y < x
  · exact OwF.st (fun _ q => XS.icmpNo X.here C.1 rfl (hb C.2.1 hd) rfl (XT.ii_le_f hq) q) (k2 hq)
  · exact OwF.st (fun _ q => XS.icmpYes X.here C.1 rfl rfl (hb C.2.1 hd) rfl (XT.ii_le_t hq) ho ht q) (k1 hq)
theorem ow_lif_le {x y : Int64} {o : Int} (C : OwC p Z s m meth c own nm bytes maxL ret) (X : Stand p l e R s m args below meth c T locs cells slots) (hd : decode bytes pc = .ok (.ifCond .le o, 3)) (ho : 0 ≤ (pc : Int) + o) (ht : ((pc : Int) + o).toNat = pcT) (hp : pc + 3 = pc') (k1 : ¬ y < x → OwF p e below D T (mkF m pcT Ls r)) (k2 : y < x → OwF p e below D T (mkF m pc' Ls r)) : OwF p e below D T (mkF m pc Ls (.int (XT.cmpL x y) :: r)) := by
  subst hp
  by_cases hq : y < x
  · exact OwF.st (fun _ q => XS.ifNo X.here C.1 rfl (hb C.2.1 hd) rfl (XT.ll_le_f hq) q) (k2 hq)
  · exact OwF.st (fun _ q => XS.ifYes X.here C.1 rfl rfl (hb C.2.1 hd) rfl (XT.ll_le_t hq) ho ht q) (k1 hq)
end OwnSteps
section OwnObj
variable {p : Program} {l : Launch} {e : Env} {R : Room} {s : State} {m : MethodId} {args : Array Value} {below : List Frame} {meth : Method} {c : Code} {T : State} {locs : List Loc} {cells slots : Nat} {Z : State} {a0 : Array Value} {h : Heap}
variable {own nm : String} {bytes : ByteArray} {maxL : Nat} {ret : Option FieldType} {D : State → Outcome → Prop} {pc pc' pcT : Nat} {Ls Ls' : Array Slot} {r : List Value}
/-- what lies on a stack, in words -/
abbrev owCat (r : List Value) : Nat := (r.map fun v => v.category).sum
theorem ow_getF {O n d : String} {index : Nat} {a : Addr} {v : Value} (C : OwC p Z s m meth c own nm bytes maxL ret) (X : Stand p l e R s m args below meth c T locs cells slots) (eT : T.heap = h) (w : (Jvm.Cond.fieldLink own index O n d).before a0 Z = true) (F : Fld Z h a O n d v)
    (hd : decode bytes pc = .ok (.getfield index, 3)) (hp : pc + 3 = pc') (k : ∀ T', Stand p l e R s m args below meth c T' locs cells slots → T'.heap = h → OwF p e below D T' (mkF m pc' Ls (v :: r))) : OwF p e below D T (mkF m pc Ls (.ref a :: r)) := by
  subst hp
  obtain ⟨T', X', e', st⟩ := getF X C.1 C.2.2.2.2.2.2.2 C.2.2.2.1 (host := "") (Or.inl w) Via.refl eT F (g := mkF m pc Ls (.ref a :: r)) rfl rfl (hb C.2.1 hd)
  exact OwF.st st (k T' X' e')
theorem ow_putF {O n d K : String} {index kk : Nat} {ty : FieldType} {a : Addr} {v old : Value} (C : OwC p Z s m meth c own nm bytes maxL ret) (X : Stand p l e R s m args below meth c T locs cells slots) (eT : T.heap = h) (w : (Jvm.Cond.fieldLink own index O n d).before a0 Z = true) (F : Fld Z h a O n d old) (E : Exa Z h a K)
    (L : (Jvm.Cond.lays K O n d).before a0 Z = true ∨ ((Jvm.Cond.laysFinal K O n d).before a0 Z = true ∧ own = O ∧ nm = "<init>")) (wi : (Jvm.Cond.instantiable K kk).before a0 Z = true) (hty : parseFieldDescriptor d = some ty) (hn : narrow ty v = v) (hf : fits ty v = true)
    (hd : decode bytes pc = .ok (.putfield index, 3)) (hp : pc + 3 = pc')
    (k : ∀ T' h', Stand p l e R s m args below meth c T' (locs ++ [⟨a, Jvm.RoadKit.slotOf Z O n d⟩]) cells slots → T'.heap = h' → Wr h h' a (Jvm.RoadKit.slotOf Z O n d) v → OwF p e below D T' (mkF m pc' Ls r)) : OwF p e below D T (mkF m pc Ls (v :: .ref a :: r)) := by
  subst hp
  obtain ⟨T', h', X', e', W', st⟩ := putF X C.1 C.2.2.2.2.2.2.2 C.2.2.2.1 (host := "") (Or.inl w) Via.refl eT F E (L.imp id fun q => ⟨q.1, q.2.1, C.2.2.2.2.1.trans q.2.2⟩) wi hty hn hf (g := mkF m pc Ls (v :: .ref a :: r)) rfl rfl (hb C.2.1 hd)
  exact OwF.st st (k T' h' X' e' W')
theorem ow_getS {O n d : String} {index : Nat} {v : Value} (C : OwC p Z s m meth c own nm bytes maxL ret) (X : Stand p l e R s m args below meth c T locs cells slots) (eT : T.heap = h) (w : (Jvm.Cond.fieldLink own index O n d).before a0 Z = true) (F : Sta Z h O n d v)
    (hd : decode bytes pc = .ok (.getstatic index, 3)) (hp : pc + 3 = pc') (k : ∀ T', Stand p l e R s m args below meth c T' locs cells slots → T'.heap = h → OwF p e below D T' (mkF m pc' Ls (v :: r))) : OwF p e below D T (mkF m pc Ls r) := by
  subst hp
  obtain ⟨T', X', e', st⟩ := getS X C.1 C.2.2.2.2.2.2.2 C.2.2.2.1 (host := "") w Via.refl eT F (g := mkF m pc Ls r) rfl (hb C.2.1 hd)
  exact OwF.st st (k T' X' e')
theorem ow_new {K : String} {index n : Nat} (C : OwC p Z s m meth c own nm bytes maxL ret) (X : Stand p l e R s m args below meth c T locs cells slots) (eT : T.heap = h) (w : (Jvm.Cond.classLink own index K).before a0 Z = true) (wi : (Jvm.Cond.instantiable K n).before a0 Z = true) (wz : (Jvm.Cond.initialized K).before a0 Z = true)
    (hd : decode bytes pc = .ok (.new index, 3)) (hc : cells + 1 ≤ R.cells) (hl : slots + n ≤ R.slots) (hp : pc + 3 = pc')
    (k : ∀ T' h' a, a = h.size → Stand p l e R s m args below meth c T' locs (cells + 1) (slots + n) → T'.heap = h' → Ext h h' → Exa Z h' a K → (∀ {O nm d : String} {ty : FieldType}, Laid Z a0 K O nm d → parseFieldDescriptor d = some ty → Fld Z h' a O nm d (defaultValue ty)) → OwF p e below D T' (mkF m pc' Ls (.ref a :: r))) : OwF p e below D T (mkF m pc Ls r) := by
  subst hp
  obtain ⟨T', h', X', e', E', A', D', -, st⟩ := newO X C.1 C.2.2.2.2.2.2.2 C.2.2.2.1 w wi wz eT (g := mkF m pc Ls r) rfl (hb C.2.1 hd) hc hl
  exact OwF.st st (k T' h' _ rfl X' e' E' A' D')
theorem ow_initO {index : Nat} {a : Addr} (C : OwC p Z s m meth c own nm bytes maxL ret) (X : Stand p l e R s m args below meth c T locs cells slots) (eT : T.heap = h) (w1 : (Jvm.Cond.methodLink own index Lib.objectInit).before a0 Z = true) (w2 : (Jvm.Cond.instanceMethod Lib.objectInit).before a0 Z = true)
    (w3 : (Jvm.Cond.code Lib.objectInit ⟨#[0xb1]⟩ 1 none).before a0 Z = true) (hsz : Ls.size = maxL) (hd : decode bytes pc = .ok (.invokespecial index, 3)) (hf : 1 ≤ R.frames) (hl : owCat r + 12 ≤ R.locals) (hp : pc + 3 = pc')
    (k : ∀ T', Stand p l e R s m args below meth c T' locs cells slots → T'.heap = h → OwF p e below D T' (mkF m pc' Ls r)) : OwF p e below D T (mkF m pc Ls (.ref a :: r)) := by
  subst hp
  obtain ⟨T', X', e', st⟩ := initO X C.1 C.2.2.2.2.2.2.2 C.2.2.2.1 w1 w2 w3 eT (g := mkF m pc Ls (.ref a :: r)) rfl (by rw [C.2.2.1]; exact hsz) rfl (hb C.2.1 hd) hf (W := owCat r) (by show 2 * 0 + owCat r ≤ owCat r; omega) hl
  exact OwF.st st (k T' X' e')
/-- a static method by its contract -/
theorem ow_callS {index : Nat} {y : MethodName} {by' : ByteArray} {mx : Nat} {rt : Option FieldType} {rm : Room} {Q : Option Value → Heap → List Loc → Prop} {stk argsL rest : List Value} {ps : List FieldType} {pr : Option FieldType}
    (C : OwC p Z s m meth c own nm bytes maxL ret) (X : Stand p l e R s m args below meth c T locs cells slots) (eT : T.heap = h)
    (w1 : (Jvm.Cond.methodLink own index y).before a0 Z = true) (w2 : (Jvm.Cond.static y).before a0 Z = true) (w3 : (Jvm.Cond.initialized y.cls).before a0 Z = true) (w4 : (Jvm.Cond.code y by' mx rt).before a0 Z = true) (hy : y.cls ≠ "java/lang/invoke/MethodHandle" ∧ y.cls ≠ "java/lang/invoke/VarHandle")
    (M : OwCon l y by' mx rt rm Z argsL.toArray h Q) (hds : parseMethodDescriptor y.desc = some ⟨ps, pr⟩) (hln : argsL.length = ps.length) (hst : stk = argsL.reverse ++ rest) (hsz : Ls.size = maxL)
    (hd : decode bytes pc = .ok (.invokestatic index, 3)) (hfr : rm.frames + 1 ≤ R.frames) (hlo : owCat rest + (mx + 11) + rm.locals ≤ R.locals) (hcl : cells + rm.cells ≤ R.cells) (hsl : slots + rm.slots ≤ R.slots) (hp : pc + 3 = pc')
    (k : ∀ T' v L, Stand p l e R s m args below meth c T' (locs ++ L) (cells + rm.cells) (slots + rm.slots) → Q v T'.heap L → OwF p e below D T' (mkF m pc' Ls (v.toList ++ rest))) : OwF p e below D T (mkF m pc Ls stk) := by
  subst hp; subst hst
  have hZ := C.2.2.2.2.2.2.2
  obtain ⟨v, _, ⟨T', L', k', n'⟩, -, X', ⟨Lc, hQ, l', y', z'⟩, st⟩ := Jvm.LawKit.callS X C.1 (y := y) C.2.2.2.1 (mvT hZ w1) (mvT hZ w2) (mvT hZ w3) (mvT hZ w4) hy (backOf (W := owCat rest) (M []) hZ w4 w3 hfr hlo) (g := mkF m pc Ls (argsL.reverse ++ rest)) rfl (by rw [C.2.2.1]; exact hsz) (argsL := argsL) (rest := rest) (lenOf hds hln) rfl (by show 2 * 0 + owCat rest ≤ owCat rest; omega) (hb C.2.1 hd) (fun _ _ => ⟨rfl, eT, hcl, hsl⟩)
  dsimp only [Pt.U, Pt.locs, Pt.cells, Pt.slots] at X' l' y' z' st hQ
  subst l' y' z'
  exact OwF.st st (k T' v Lc X' hQ)
/-- a constructor by its contract -/
theorem ow_callN {index : Nat} {y : MethodName} {by' : ByteArray} {mx : Nat} {rm : Room} {Q : Option Value → Heap → List Loc → Prop} {stk argsL rest : List Value} {ps : List FieldType} {pr : Option FieldType} {a : Addr}
    (C : OwC p Z s m meth c own nm bytes maxL ret) (X : Stand p l e R s m args below meth c T locs cells slots) (eT : T.heap = h) (hni : y.name = "<init>")
    (w1 : (Jvm.Cond.methodLink own index y).before a0 Z = true) (w2 : (Jvm.Cond.instanceMethod y).before a0 Z = true) (w3 : (Jvm.Cond.initialized y.cls).before a0 Z = true) (w4 : (Jvm.Cond.code y by' mx none).before a0 Z = true) (hy : y.cls ≠ "java/lang/invoke/MethodHandle" ∧ y.cls ≠ "java/lang/invoke/VarHandle")
    (M : OwCon l y by' mx none rm Z (.ref a :: argsL).toArray h Q) (hds : parseMethodDescriptor y.desc = some ⟨ps, pr⟩) (hln : argsL.length = ps.length) (hst : stk = argsL.reverse ++ .ref a :: rest) (hsz : Ls.size = maxL)
    (hd : decode bytes pc = .ok (.invokespecial index, 3)) (hfr : rm.frames + 1 ≤ R.frames) (hlo : owCat rest + (mx + 11) + rm.locals ≤ R.locals) (hcl : cells + rm.cells ≤ R.cells) (hsl : slots + rm.slots ≤ R.slots) (hp : pc + 3 = pc')
    (k : ∀ T' v L, Stand p l e R s m args below meth c T' (locs ++ L) (cells + rm.cells) (slots + rm.slots) → Q v T'.heap L → OwF p e below D T' (mkF m pc' Ls (v.toList ++ rest))) : OwF p e below D T (mkF m pc Ls stk) := by
  subst hp; subst hst
  have hZ := C.2.2.2.2.2.2.2
  obtain ⟨v, _, ⟨T', L', k', n'⟩, -, X', ⟨Lc, hQ, l', y', z'⟩, st⟩ := X.specialBack C.1 (y := y) hni C.2.2.2.1 (mvT hZ w1) (mvT hZ w2) (mvT hZ w4) hy (backOf (W := owCat rest) (M []) hZ w4 w3 hfr hlo) (g := mkF m pc Ls (argsL.reverse ++ .ref a :: rest)) rfl (by rw [C.2.2.1]; exact hsz) (Steps.refl _) (a := a) (argsL := argsL) (rest := rest) (lenOf hds hln) rfl (by show 2 * 0 + owCat rest ≤ owCat rest; omega) (hb C.2.1 hd) (fun _ _ => ⟨rfl, eT, hcl, hsl⟩)
  dsimp only [Pt.U, Pt.locs, Pt.cells, Pt.slots] at X' l' y' z' st hQ
  subst l' y' z'
  exact OwF.st (fun _ q => st.trans q) (k T' v Lc X' hQ)
/-- an instance method by its contract -/
theorem ow_callV {K : String} {index : Nat} {y : MethodName} {by' : ByteArray} {mx : Nat} {rt : Option FieldType} {rm : Room} {Q : Option Value → Heap → List Loc → Prop} {stk argsL rest : List Value} {ps : List FieldType} {pr : Option FieldType} {a : Addr}
    (C : OwC p Z s m meth c own nm bytes maxL ret) (X : Stand p l e R s m args below meth c T locs cells slots) (eT : T.heap = h)
    (w1 : (Jvm.Cond.methodLink own index y).before a0 Z = true) (w2 : (Jvm.Cond.declares y).before a0 Z = true) (w5 : (Jvm.Cond.selects K y y).before a0 Z = true) (hK : K = y.cls) (w6 : (Jvm.Cond.instanceMethod y).before a0 Z = true) (w3 : (Jvm.Cond.initialized y.cls).before a0 Z = true) (w4 : (Jvm.Cond.code y by' mx rt).before a0 Z = true)
    (hy : y.cls ≠ "java/lang/invoke/MethodHandle" ∧ y.cls ≠ "java/lang/invoke/VarHandle") (E : Exa Z h a K)
    (M : OwCon l y by' mx rt rm Z (.ref a :: argsL).toArray h Q) (hds : parseMethodDescriptor y.desc = some ⟨ps, pr⟩) (hln : argsL.length = ps.length) (hst : stk = argsL.reverse ++ .ref a :: rest) (hsz : Ls.size = maxL)
    (hd : decode bytes pc = .ok (.invokevirtual index, 3)) (hfr : rm.frames + 1 ≤ R.frames) (hlo : owCat rest + (mx + 11) + rm.locals ≤ R.locals) (hcl : cells + rm.cells ≤ R.cells) (hsl : slots + rm.slots ≤ R.slots) (hp : pc + 3 = pc')
    (k : ∀ T' v L, Stand p l e R s m args below meth c T' (locs ++ L) (cells + rm.cells) (slots + rm.slots) → Q v T'.heap L → OwF p e below D T' (mkF m pc' Ls (v.toList ++ rest))) : OwF p e below D T (mkF m pc Ls stk) := by
  subst hp; subst hst; subst hK
  have hZ := C.2.2.2.2.2.2.2
  obtain ⟨cq, kq, q1, q2, q3⟩ := isOf hZ eT E
  obtain ⟨v, _, ⟨T', L', k', n'⟩, -, X', ⟨Lc, hQ, l', y', z'⟩, st⟩ := X.virtualBack C.1 (y := y) (z := y) C.2.2.2.1 (mvT hZ w1) (mvT hZ w2) (notFace_of_selects (args := #[]) (mvT hZ w5)) (mvT hZ w5) (mvT hZ w6) hy (backOf (W := owCat rest) (M []) hZ w4 w3 hfr hlo) q1 q3 (g := mkF m pc Ls (argsL.reverse ++ .ref a :: rest)) rfl (by rw [C.2.2.1]; exact hsz) (Steps.refl _) (argsL := argsL) (rest := rest) (lenOf hds hln) rfl (by show 2 * 0 + owCat rest ≤ owCat rest; omega) (hb C.2.1 hd) (fun _ _ => ⟨rfl, eT, hcl, hsl⟩)
  dsimp only [Pt.U, Pt.locs, Pt.cells, Pt.slots] at X' l' y' z' st hQ
  subst l' y' z'
  exact OwF.st (fun _ q => st.trans q) (k T' v Lc X' hQ)
/-- a pure answer: the value, nothing written, the heap as it was -/
abbrev OwP (v : Option Value) (h : Heap) (v' : Option Value) (h' : Heap) (L : List Loc) : Prop := v' = v ∧ L = [] ∧ h' = h
/-- a pure static method -/
theorem ow_callSP {index : Nat} {y : MethodName} {by' : ByteArray} {mx : Nat} {rt : Option FieldType} {rm : Room} {v : Value} {stk argsL rest : List Value} {ps : List FieldType} {pr : Option FieldType}
    (C : OwC p Z s m meth c own nm bytes maxL ret) (X : Stand p l e R s m args below meth c T locs cells slots) (eT : T.heap = h)
    (w1 : (Jvm.Cond.methodLink own index y).before a0 Z = true) (w2 : (Jvm.Cond.static y).before a0 Z = true) (w3 : (Jvm.Cond.initialized y.cls).before a0 Z = true) (w4 : (Jvm.Cond.code y by' mx rt).before a0 Z = true) (hy : y.cls ≠ "java/lang/invoke/MethodHandle" ∧ y.cls ≠ "java/lang/invoke/VarHandle")
    (M : OwCon l y by' mx rt rm Z argsL.toArray h (OwP (some v) h)) (hrm : rm.cells = 0 ∧ rm.slots = 0) (hds : parseMethodDescriptor y.desc = some ⟨ps, pr⟩) (hln : argsL.length = ps.length) (hst : stk = argsL.reverse ++ rest) (hsz : Ls.size = maxL)
    (hd : decode bytes pc = .ok (.invokestatic index, 3)) (hfr : rm.frames + 1 ≤ R.frames) (hlo : owCat rest + (mx + 11) + rm.locals ≤ R.locals) (hcl : cells ≤ R.cells) (hsl : slots ≤ R.slots) (hp : pc + 3 = pc')
    (k : ∀ T', Stand p l e R s m args below meth c T' locs cells slots → T'.heap = h → OwF p e below D T' (mkF m pc' Ls (v :: rest))) : OwF p e below D T (mkF m pc Ls stk) := by
  refine ow_callS C X eT w1 w2 w3 w4 hy M hds hln hst hsz hd hfr hlo (by rw [hrm.1]; exact hcl) (by rw [hrm.2]; exact hsl) hp fun T' v' L' X' hQ => ?_
  obtain ⟨rfl, rfl, hh⟩ := hQ
  rw [hrm.1, hrm.2, List.append_nil] at X'
  exact k T' X' hh
/-- a pure instance method -/
theorem ow_callVP {K : String} {index : Nat} {y : MethodName} {by' : ByteArray} {mx : Nat} {rt : Option FieldType} {rm : Room} {v : Value} {stk argsL rest : List Value} {ps : List FieldType} {pr : Option FieldType} {a : Addr}
    (C : OwC p Z s m meth c own nm bytes maxL ret) (X : Stand p l e R s m args below meth c T locs cells slots) (eT : T.heap = h)
    (w1 : (Jvm.Cond.methodLink own index y).before a0 Z = true) (w2 : (Jvm.Cond.declares y).before a0 Z = true) (w5 : (Jvm.Cond.selects K y y).before a0 Z = true) (hK : K = y.cls) (w6 : (Jvm.Cond.instanceMethod y).before a0 Z = true) (w3 : (Jvm.Cond.initialized y.cls).before a0 Z = true) (w4 : (Jvm.Cond.code y by' mx rt).before a0 Z = true)
    (hy : y.cls ≠ "java/lang/invoke/MethodHandle" ∧ y.cls ≠ "java/lang/invoke/VarHandle") (E : Exa Z h a K)
    (M : OwCon l y by' mx rt rm Z (.ref a :: argsL).toArray h (OwP (some v) h)) (hrm : rm.cells = 0 ∧ rm.slots = 0) (hds : parseMethodDescriptor y.desc = some ⟨ps, pr⟩) (hln : argsL.length = ps.length) (hst : stk = argsL.reverse ++ .ref a :: rest) (hsz : Ls.size = maxL)
    (hd : decode bytes pc = .ok (.invokevirtual index, 3)) (hfr : rm.frames + 1 ≤ R.frames) (hlo : owCat rest + (mx + 11) + rm.locals ≤ R.locals) (hcl : cells ≤ R.cells) (hsl : slots ≤ R.slots) (hp : pc + 3 = pc')
    (k : ∀ T', Stand p l e R s m args below meth c T' locs cells slots → T'.heap = h → OwF p e below D T' (mkF m pc' Ls (v :: rest))) : OwF p e below D T (mkF m pc Ls stk) := by
  refine ow_callV C X eT w1 w2 w5 hK w6 w3 w4 hy E M hds hln hst hsz hd hfr hlo (by rw [hrm.1]; exact hcl) (by rw [hrm.2]; exact hsl) hp fun T' v' L' X' hQ => ?_
  obtain ⟨rfl, rfl, hh⟩ := hQ
  rw [hrm.1, hrm.2, List.append_nil] at X'
  exact k T' X' hh
/-- a constructor that leaves all as it is -/
theorem ow_callNP {index : Nat} {y : MethodName} {by' : ByteArray} {mx : Nat} {rm : Room} {stk argsL rest : List Value} {ps : List FieldType} {pr : Option FieldType} {a : Addr}
    (C : OwC p Z s m meth c own nm bytes maxL ret) (X : Stand p l e R s m args below meth c T locs cells slots) (eT : T.heap = h) (hni : y.name = "<init>")
    (w1 : (Jvm.Cond.methodLink own index y).before a0 Z = true) (w2 : (Jvm.Cond.instanceMethod y).before a0 Z = true) (w3 : (Jvm.Cond.initialized y.cls).before a0 Z = true) (w4 : (Jvm.Cond.code y by' mx none).before a0 Z = true) (hy : y.cls ≠ "java/lang/invoke/MethodHandle" ∧ y.cls ≠ "java/lang/invoke/VarHandle")
    (M : OwCon l y by' mx none rm Z (.ref a :: argsL).toArray h (OwP none h)) (hrm : rm.cells = 0 ∧ rm.slots = 0) (hds : parseMethodDescriptor y.desc = some ⟨ps, pr⟩) (hln : argsL.length = ps.length) (hst : stk = argsL.reverse ++ .ref a :: rest) (hsz : Ls.size = maxL)
    (hd : decode bytes pc = .ok (.invokespecial index, 3)) (hfr : rm.frames + 1 ≤ R.frames) (hlo : owCat rest + (mx + 11) + rm.locals ≤ R.locals) (hcl : cells ≤ R.cells) (hsl : slots ≤ R.slots) (hp : pc + 3 = pc')
    (k : ∀ T', Stand p l e R s m args below meth c T' locs cells slots → T'.heap = h → OwF p e below D T' (mkF m pc' Ls rest)) : OwF p e below D T (mkF m pc Ls stk) := by
  refine ow_callN C X eT hni w1 w2 w3 w4 hy M hds hln hst hsz hd hfr hlo (by rw [hrm.1]; exact hcl) (by rw [hrm.2]; exact hsl) hp fun T' v' L' X' hQ => ?_
  obtain ⟨rfl, rfl, hh⟩ := hQ
  rw [hrm.1, hrm.2, List.append_nil] at X'
  exact k T' X' hh
end OwnObj
section OwnArr
variable {p : Program} {l : Launch} {e : Env} {R : Room} {s : State} {m : MethodId} {args : Array Value} {below : List Frame} {meth : Method} {c : Code} {T : State} {locs : List Loc} {cells slots : Nat} {Z : State} {a0 : Array Value} {h h' : Heap}
variable {own nm : String} {bytes : ByteArray} {maxL : Nat} {ret : Option FieldType} {D : State → Outcome → Prop} {pc pc' pcT : Nat} {Ls Ls' : Array Slot} {r : List Value}
variable {a b : Addr} {ty : FieldType} {n i : Nat} {f g : Nat → Value} {v : Value} {sl : Nat} {ws : List Addr} {K : String} {kk : Nat}
/-- an array of n places, place j holds f j -/
def OwA (Z : State) (h : Heap) (a : Addr) (ty : FieldType) (n : Nat) (f : Nat → Value) : Prop := ∃ c : Cell, Arr Z h a c ty ∧ c.slots.size = n ∧ ∀ j, j < n → c.slots[j]? = some (f j)
theorem OwA.lt (A : OwA Z h a ty n f) : a < h.size := by obtain ⟨c, A, -⟩ := A; exact A.lt
theorem OwA.ext (A : OwA Z h a ty n f) (E : Ext h h') : OwA Z h' a ty n f := by obtain ⟨c, A, r⟩ := A; exact ⟨c, A.ext E, r⟩
theorem OwA.other (A : OwA Z h b ty n f) (W : Wr h h' a sl v) (q : b ≠ a) : OwA Z h' b ty n f := by obtain ⟨c, A, r⟩ := A; exact ⟨c, A.other W q, r⟩
theorem OwA.keep (A : OwA Z h a ty n f) (K : Keep h h' ws) (q : a ∉ ws) : OwA Z h' a ty n f := by obtain ⟨c, A, r⟩ := A; exact ⟨c, ⟨K.2.1 a c A.1 q, A.2⟩, r⟩
theorem OwA.congr (A : OwA Z h a ty n f) (q : ∀ j, j < n → f j = g j) : OwA Z h a ty n g := by obtain ⟨c, A, S, H⟩ := A; exact ⟨c, A, S, fun j hj => by rw [← q j hj]; exact H j hj⟩
theorem OwA.set (A : OwA Z h a ty n f) (W : Wr h h' a i v) : OwA Z h' a ty n (fun j => if j = i then v else f j) := by
  obtain ⟨c, A, S, H⟩ := A
  refine ⟨c.setSlot i v, A.same W, by rw [sz_set]; exact S, fun j hj => ?_⟩
  show (c.slots.setIfInBounds i v)[j]? = some (if j = i then v else f j)
  by_cases q : j = i
  · subst q
    rw [if_pos rfl, Array.getElem?_setIfInBounds_self_of_lt (by omega)]
  · rw [if_neg q, Array.getElem?_setIfInBounds_ne (fun w => q w.symm)]; exact H j hj
theorem OwA.new {k : ClassId} {z : Int32} (A : Arr Z h a (newA k ty z) ty) : OwA Z h a ty z.toNatClampNeg (fun _ => defaultValue ty) := by
  refine ⟨_, A, sz_new _ _ _, fun j hj => ?_⟩
  show (Array.replicate z.toNatClampNeg (defaultValue ty))[j]? = _
  rw [Array.getElem?_replicate, if_pos hj]
theorem OwA.ne (A : OwA Z h b ty n f) (E : Exa Z h a K) (wi : (Jvm.Cond.instantiable K kk).before a0 Z = true) : a ≠ b := by obtain ⟨c, A, -⟩ := A; exact ne_arr E wi A
theorem ow_newarr {aty : ArrayType} {z : Int32} {N cap : Nat} (C : OwC p Z s m meth c own nm bytes maxL ret) (X : Stand p l e R s m args below meth c T locs cells slots) (eT : T.heap = h) (w : (Jvm.Cond.arrayClass (newarray.typeOf aty)).before a0 Z = true) (hd : decode bytes pc = .ok (.newarray aty, 2))
    (hn : ¬ z < 0) (hN : z.toNatClampNeg = N) (hcap : N ≤ cap) (hb8 : cap * 8 ≤ 536870912) (hc : cells + 1 ≤ R.cells) (hl : slots + cap ≤ R.slots) (hp : pc + 2 = pc')
    (k : ∀ T' h' a, a = h.size → Stand p l e R s m args below meth c T' locs (cells + 1) (slots + cap) → T'.heap = h' → Ext h h' → OwA Z h' a (newarray.typeOf aty) N (fun _ => defaultValue (newarray.typeOf aty)) → OwF p e below D T' (mkF m pc' Ls (.ref a :: r))) : OwF p e below D T (mkF m pc Ls (.int z :: r)) := by
  subst hp; subst hN
  obtain ⟨T', h', cA, X', e', E', A', st⟩ := newP X C.1 C.2.2.2.2.2.2.2 w eT (g := mkF m pc Ls (.int z :: r)) rfl (hb C.2.1 hd) rfl hn hcap hb8 hc hl
  exact OwF.st st (k T' h' _ rfl X' e' E' (OwA.new A'))
theorem ow_arraylength {z : Int32} (C : OwC p Z s m meth c own nm bytes maxL ret) (X : Stand p l e R s m args below meth c T locs cells slots) (eT : T.heap = h) (A : OwA Z h a ty n f) (hz : n.toInt32 = z) (hd : decode bytes pc = .ok (.arraylength, 1)) (hp : pc + 1 = pc')
    (k : OwF p e below D T (mkF m pc' Ls (.int z :: r))) : OwF p e below D T (mkF m pc Ls (.ref a :: r)) := by
  subst hp; subst hz
  obtain ⟨cl, A, S, -⟩ := A
  subst S
  exact OwF.st (fun t q => X.arraylength C.1 (by rw [eT]; exact A.1) (State.isArrayOf_alike C.2.2.2.2.2.2.2.alike A.2.1) (g := mkF m pc Ls (.ref a :: r)) rfl rfl (hb C.2.1 hd) t q) k
theorem ow_iaload {z : Int32} (C : OwC p Z s m meth c own nm bytes maxL ret) (X : Stand p l e R s m args below meth c T locs cells slots) (eT : T.heap = h) (A : OwA Z h a .int n f) (h0 : ¬ z < 0) (hj : z.toNatClampNeg = i) (hlt : i < n) (hv : f i = v) (hd : decode bytes pc = .ok (.iaload, 1)) (hp : pc + 1 = pc')
    (k : OwF p e below D T (mkF m pc' Ls (v :: r))) : OwF p e below D T (mkF m pc Ls (.int z :: .ref a :: r)) := by
  subst hp; subst hj; subst hv
  obtain ⟨cl, A, S, H⟩ := A
  exact OwF.st (fun t q => X.iaload C.1 (by rw [eT]; exact A.1) (State.isArrayOf_alike C.2.2.2.2.2.2.2.alike A.2.1) A.2.2 (fun w => w.elim h0 (fun w => by omega)) (H _ hlt) (g := mkF m pc Ls (.int z :: .ref a :: r)) rfl rfl (hb C.2.1 hd) t q) k
theorem ow_laload {z : Int32} (C : OwC p Z s m meth c own nm bytes maxL ret) (X : Stand p l e R s m args below meth c T locs cells slots) (eT : T.heap = h) (A : OwA Z h a .long n f) (h0 : ¬ z < 0) (hj : z.toNatClampNeg = i) (hlt : i < n) (hv : f i = v) (hd : decode bytes pc = .ok (.laload, 1)) (hp : pc + 1 = pc')
    (k : OwF p e below D T (mkF m pc' Ls (v :: r))) : OwF p e below D T (mkF m pc Ls (.int z :: .ref a :: r)) := by
  subst hp; subst hj; subst hv
  obtain ⟨cl, A, S, H⟩ := A
  exact OwF.st (fun t q => X.laload C.1 (by rw [eT]; exact A.1) (State.isArrayOf_alike C.2.2.2.2.2.2.2.alike A.2.1) A.2.2 (fun w => w.elim h0 (fun w => by omega)) (H _ hlt) (g := mkF m pc Ls (.int z :: .ref a :: r)) rfl rfl (hb C.2.1 hd) t q) k
theorem ow_caload {z : Int32} (C : OwC p Z s m meth c own nm bytes maxL ret) (X : Stand p l e R s m args below meth c T locs cells slots) (eT : T.heap = h) (A : OwA Z h a .char n f) (h0 : ¬ z < 0) (hj : z.toNatClampNeg = i) (hlt : i < n) (hv : f i = v) (hd : decode bytes pc = .ok (.caload, 1)) (hp : pc + 1 = pc')
    (k : OwF p e below D T (mkF m pc' Ls (v :: r))) : OwF p e below D T (mkF m pc Ls (.int z :: .ref a :: r)) := by
  subst hp; subst hj; subst hv
  obtain ⟨cl, A, S, H⟩ := A
  exact OwF.st (fun t q => X.caload C.1 (by rw [eT]; exact A.1) (State.isArrayOf_alike C.2.2.2.2.2.2.2.alike A.2.1) A.2.2 (fun w => w.elim h0 (fun w => by omega)) (H _ hlt) (g := mkF m pc Ls (.int z :: .ref a :: r)) rfl rfl (hb C.2.1 hd) t q) k
theorem ow_saload {z : Int32} (C : OwC p Z s m meth c own nm bytes maxL ret) (X : Stand p l e R s m args below meth c T locs cells slots) (eT : T.heap = h) (A : OwA Z h a .short n f) (h0 : ¬ z < 0) (hj : z.toNatClampNeg = i) (hlt : i < n) (hv : f i = v) (hd : decode bytes pc = .ok (.saload, 1)) (hp : pc + 1 = pc')
    (k : OwF p e below D T (mkF m pc' Ls (v :: r))) : OwF p e below D T (mkF m pc Ls (.int z :: .ref a :: r)) := by
  subst hp; subst hj; subst hv
  obtain ⟨cl, A, S, H⟩ := A
  exact OwF.st (fun t q => X.saload C.1 (by rw [eT]; exact A.1) (State.isArrayOf_alike C.2.2.2.2.2.2.2.alike A.2.1) A.2.2 (fun w => w.elim h0 (fun w => by omega)) (H _ hlt) (g := mkF m pc Ls (.int z :: .ref a :: r)) rfl rfl (hb C.2.1 hd) t q) k
theorem ow_aaload {z : Int32} (C : OwC p Z s m meth c own nm bytes maxL ret) (X : Stand p l e R s m args below meth c T locs cells slots) (eT : T.heap = h) (A : OwA Z h a ty n f) (hty : ty.isReference = true) (h0 : ¬ z < 0) (hj : z.toNatClampNeg = i) (hlt : i < n) (hv : f i = v) (hd : decode bytes pc = .ok (.aaload, 1)) (hp : pc + 1 = pc')
    (k : OwF p e below D T (mkF m pc' Ls (v :: r))) : OwF p e below D T (mkF m pc Ls (.int z :: .ref a :: r)) := by
  subst hp; subst hj; subst hv
  obtain ⟨cl, A, S, H⟩ := A
  exact OwF.st (fun t q => X.aaload C.1 (by rw [eT]; exact A.1) (State.isArrayOf_alike C.2.2.2.2.2.2.2.alike A.2.1) hty A.2.2 (fun w => w.elim h0 (fun w => by omega)) (H _ hlt) (g := mkF m pc Ls (.int z :: .ref a :: r)) rfl rfl (hb C.2.1 hd) t q) k
theorem ow_baload {z : Int32} (C : OwC p Z s m meth c own nm bytes maxL ret) (X : Stand p l e R s m args below meth c T locs cells slots) (eT : T.heap = h) (A : OwA Z h a .byte n f) (h0 : ¬ z < 0) (hj : z.toNatClampNeg = i) (hlt : i < n) (hv : f i = v) (hd : decode bytes pc = .ok (.baload, 1)) (hp : pc + 1 = pc')
    (k : OwF p e below D T (mkF m pc' Ls (v :: r))) : OwF p e below D T (mkF m pc Ls (.int z :: .ref a :: r)) := by
  subst hp; subst hj; subst hv
  obtain ⟨cl, A, S, H⟩ := A
  exact OwF.st (fun t q => X.baloadBytes C.1 (by rw [eT]; exact A.1) (State.isArrayOf_alike C.2.2.2.2.2.2.2.alike A.2.1) A.2.2 (fun w => w.elim h0 (fun w => by omega)) (H _ hlt) (g := mkF m pc Ls (.int z :: .ref a :: r)) rfl rfl (hb C.2.1 hd) t q) k
theorem ow_iastore {z : Int32} {x : Int32} (C : OwC p Z s m meth c own nm bytes maxL ret) (X : Stand p l e R s m args below meth c T locs cells slots) (eT : T.heap = h) (A : OwA Z h a .int n f) (h0 : ¬ z < 0) (hj : z.toNatClampNeg = i) (hlt : i < n) (hd : decode bytes pc = .ok (.iastore, 1)) (hp : pc + 1 = pc')
    (k : ∀ T' h', Stand p l e R s m args below meth c T' (locs ++ [⟨a, i⟩]) cells slots → T'.heap = h' → Wr h h' a i (.int x) → OwF p e below D T' (mkF m pc' Ls r)) : OwF p e below D T (mkF m pc Ls (.int x :: .int z :: .ref a :: r)) := by
  subst hp; subst hj
  obtain ⟨cl, A, S, H⟩ := A
  obtain ⟨T', h', X', e', W', st⟩ := stI X C.1 C.2.2.2.2.2.2.2 eT A (j := z) (x := x) (fun w => w.elim h0 (fun w => by omega)) (g := mkF m pc Ls (.int x :: .int z :: .ref a :: r)) rfl rfl (hb C.2.1 hd)
  exact OwF.st st (k T' h' X' e' W')
theorem ow_lastore {z : Int32} {x : Int64} (C : OwC p Z s m meth c own nm bytes maxL ret) (X : Stand p l e R s m args below meth c T locs cells slots) (eT : T.heap = h) (A : OwA Z h a .long n f) (h0 : ¬ z < 0) (hj : z.toNatClampNeg = i) (hlt : i < n) (hd : decode bytes pc = .ok (.lastore, 1)) (hp : pc + 1 = pc')
    (k : ∀ T' h', Stand p l e R s m args below meth c T' (locs ++ [⟨a, i⟩]) cells slots → T'.heap = h' → Wr h h' a i (.long x) → OwF p e below D T' (mkF m pc' Ls r)) : OwF p e below D T (mkF m pc Ls (.long x :: .int z :: .ref a :: r)) := by
  subst hp; subst hj
  obtain ⟨cl, A, S, H⟩ := A
  obtain ⟨T', h', X', e', W', st⟩ := stJ X C.1 C.2.2.2.2.2.2.2 eT A (j := z) (x := x) (fun w => w.elim h0 (fun w => by omega)) (g := mkF m pc Ls (.long x :: .int z :: .ref a :: r)) rfl rfl (hb C.2.1 hd)
  exact OwF.st st (k T' h' X' e' W')
theorem ow_castore {z : Int32} {x : Int32} (C : OwC p Z s m meth c own nm bytes maxL ret) (X : Stand p l e R s m args below meth c T locs cells slots) (eT : T.heap = h) (A : OwA Z h a .char n f) (h0 : ¬ z < 0) (hj : z.toNatClampNeg = i) (hlt : i < n) (hd : decode bytes pc = .ok (.castore, 1)) (hp : pc + 1 = pc')
    (k : ∀ T' h', Stand p l e R s m args below meth c T' (locs ++ [⟨a, i⟩]) cells slots → T'.heap = h' → Wr h h' a i (.int (nar .char x)) → OwF p e below D T' (mkF m pc' Ls r)) : OwF p e below D T (mkF m pc Ls (.int x :: .int z :: .ref a :: r)) := by
  subst hp; subst hj
  obtain ⟨cl, A, S, H⟩ := A
  obtain ⟨T', h', X', e', W', st⟩ := stC X C.1 C.2.2.2.2.2.2.2 eT A (j := z) (x := x) (fun w => w.elim h0 (fun w => by omega)) (g := mkF m pc Ls (.int x :: .int z :: .ref a :: r)) rfl rfl (hb C.2.1 hd)
  exact OwF.st st (k T' h' X' e' W')
theorem ow_sastore {z : Int32} {x : Int32} (C : OwC p Z s m meth c own nm bytes maxL ret) (X : Stand p l e R s m args below meth c T locs cells slots) (eT : T.heap = h) (A : OwA Z h a .short n f) (h0 : ¬ z < 0) (hj : z.toNatClampNeg = i) (hlt : i < n) (hd : decode bytes pc = .ok (.sastore, 1)) (hp : pc + 1 = pc')
    (k : ∀ T' h', Stand p l e R s m args below meth c T' (locs ++ [⟨a, i⟩]) cells slots → T'.heap = h' → Wr h h' a i (.int (nar .short x)) → OwF p e below D T' (mkF m pc' Ls r)) : OwF p e below D T (mkF m pc Ls (.int x :: .int z :: .ref a :: r)) := by
  subst hp; subst hj
  obtain ⟨cl, A, S, H⟩ := A
  obtain ⟨T', h', X', e', W', st⟩ := stS X C.1 C.2.2.2.2.2.2.2 eT A (j := z) (x := x) (fun w => w.elim h0 (fun w => by omega)) (g := mkF m pc Ls (.int x :: .int z :: .ref a :: r)) rfl rfl (hb C.2.1 hd)
  exact OwF.st st (k T' h' X' e' W')
theorem ow_bastore {z : Int32} {x : Int32} (C : OwC p Z s m meth c own nm bytes maxL ret) (X : Stand p l e R s m args below meth c T locs cells slots) (eT : T.heap = h) (A : OwA Z h a .byte n f) (h0 : ¬ z < 0) (hj : z.toNatClampNeg = i) (hlt : i < n) (hd : decode bytes pc = .ok (.bastore, 1)) (hp : pc + 1 = pc')
    (k : ∀ T' h', Stand p l e R s m args below meth c T' (locs ++ [⟨a, i⟩]) cells slots → T'.heap = h' → Wr h h' a i (.int (nar .byte x)) → OwF p e below D T' (mkF m pc' Ls r)) : OwF p e below D T (mkF m pc Ls (.int x :: .int z :: .ref a :: r)) := by
  subst hp; subst hj
  obtain ⟨cl, A, S, H⟩ := A
  obtain ⟨T', h', X', e', W', st⟩ := stB X C.1 C.2.2.2.2.2.2.2 eT A (j := z) (x := x) (fun w => w.elim h0 (fun w => by omega)) (g := mkF m pc Ls (.int x :: .int z :: .ref a :: r)) rfl rfl (hb C.2.1 hd)
  exact OwF.st st (k T' h' X' e' W')
end OwnArr
section OwnRef
variable {p : Program} {l : Launch} {e : Env} {R : Room} {s : State} {m : MethodId} {args : Array Value} {below : List Frame} {meth : Method} {c : Code} {T : State} {locs : List Loc} {cells slots : Nat} {Z : State} {a0 : Array Value} {h h' : Heap}
variable {own nm : String} {bytes : ByteArray} {maxL : Nat} {ret : Option FieldType} {D : State → Outcome → Prop} {pc pc' pcT : Nat} {Ls Ls' : Array Slot} {r : List Value} {a : Addr} {K K2 : String} {index n : Nat} {v : Value} {t : FieldType}
theorem ow_retA {Q : Option Value → Heap → List Loc → Prop} {kc ks : Nat} (C : OwC p Z s m meth c own nm bytes maxL (some t)) (X : Stand p l e R s m args below meth c T locs cells slots) (hd : decode bytes pc = .ok (.areturn, 1)) (hc : cells ≤ kc) (hs : slots ≤ ks) (hv : v.isRef = true) (ht : t.isReference = true)
    (hQ : Q (some v) T.heap locs) : OwF p e below (OwD s below Q kc ks) T (mkF m pc Ls [v]) := by
  obtain ⟨hx, hby, -, -, -, hret, hlk, -⟩ := C
  obtain ⟨fs, hr, hrun, hended, hW, hsame⟩ := X.leave (v := some v) (fun h => by rw [hret] at h; cases h) hlk
  exact ⟨_, _, X.areturnOut hx hv hret ht (hb hby hd) hr, hrun, hended, _, _, rfl, hQ, ⟨_, rfl⟩, hW, hsame.mono hc hs⟩
theorem ow_instNull (C : OwC p Z s m meth c own nm bytes maxL ret) (X : Stand p l e R s m args below meth c T locs cells slots) (hd : decode bytes pc = .ok (.instanceof index, 3)) (hp : pc + 3 = pc') (k : OwF p e below D T (mkF m pc' Ls (.int 0 :: r))) : OwF p e below D T (mkF m pc Ls (.null :: r)) := by
  subst hp; exact OwF.st (fun t q => X.instanceofNull C.1 (g := mkF m pc Ls (.null :: r)) rfl rfl (hb C.2.1 hd) t q) k
theorem ow_instY (C : OwC p Z s m meth c own nm bytes maxL ret) (X : Stand p l e R s m args below meth c T locs cells slots) (eT : T.heap = h) (w : (Jvm.Cond.classLink own index K).before a0 Z = true) (F : Ins Z h a K true) (hd : decode bytes pc = .ok (.instanceof index, 3)) (hp : pc + 3 = pc')
    (k : ∀ T', Stand p l e R s m args below meth c T' locs cells slots → T'.heap = h → OwF p e below D T' (mkF m pc' Ls (.int 1 :: r))) : OwF p e below D T (mkF m pc Ls (.ref a :: r)) := by
  subst hp
  obtain ⟨T', X', e', st⟩ := instY X C.1 C.2.2.2.2.2.2.2 C.2.2.2.1 w eT F (g := mkF m pc Ls (.ref a :: r)) rfl rfl (hb C.2.1 hd)
  exact OwF.st st (k T' X' e')
theorem ow_instN (C : OwC p Z s m meth c own nm bytes maxL ret) (X : Stand p l e R s m args below meth c T locs cells slots) (eT : T.heap = h) (w : (Jvm.Cond.classLink own index K).before a0 Z = true) (E : Exa Z h a K2) (F : ∃ c t, Z.vm.findClass K2 = some c ∧ Z.vm.findClass K = some t ∧ Z.vm.assignable c t = false) (hd : decode bytes pc = .ok (.instanceof index, 3)) (hp : pc + 3 = pc')
    (k : ∀ T', Stand p l e R s m args below meth c T' locs cells slots → T'.heap = h → OwF p e below D T' (mkF m pc' Ls (.int 0 :: r))) : OwF p e below D T (mkF m pc Ls (.ref a :: r)) := by
  subst hp
  obtain ⟨T', X', e', st⟩ := instNo X C.1 C.2.2.2.2.2.2.2 C.2.2.2.1 w eT E F (g := mkF m pc Ls (.ref a :: r)) rfl rfl (hb C.2.1 hd)
  exact OwF.st st (k T' X' e')
theorem ow_cast (C : OwC p Z s m meth c own nm bytes maxL ret) (X : Stand p l e R s m args below meth c T locs cells slots) (eT : T.heap = h) (w : (Jvm.Cond.classLink own index K).before a0 Z = true) (F : Ins Z h a K true) (hd : decode bytes pc = .ok (.checkcast index, 3)) (hp : pc + 3 = pc')
    (k : ∀ T', Stand p l e R s m args below meth c T' locs cells slots → T'.heap = h → OwF p e below D T' (mkF m pc' Ls (.ref a :: r))) : OwF p e below D T (mkF m pc Ls (.ref a :: r)) := by
  subst hp
  obtain ⟨T', X', e', st⟩ := castY X C.1 C.2.2.2.2.2.2.2 C.2.2.2.1 w eT F (g := mkF m pc Ls (.ref a :: r)) rfl rfl (hb C.2.1 hd)
  exact OwF.st st (k T' X' e')
theorem ow_ifnull_n {o : Int} (C : OwC p Z s m meth c own nm bytes maxL ret) (X : Stand p l e R s m args below meth c T locs cells slots) (hd : decode bytes pc = .ok (.ifnull o, 3)) (ho : 0 ≤ (pc : Int) + o) (ht : ((pc : Int) + o).toNat = pcT) (k : OwF p e below D T (mkF m pcT Ls r)) : OwF p e below D T (mkF m pc Ls (.null :: r)) :=
  OwF.st (fun _ q => XS.ifnullYes X.here C.1 rfl rfl (hb C.2.1 hd) rfl ho ht q) k
theorem ow_ifnull_r {o : Int} (C : OwC p Z s m meth c own nm bytes maxL ret) (X : Stand p l e R s m args below meth c T locs cells slots) (hd : decode bytes pc = .ok (.ifnull o, 3)) (hp : pc + 3 = pc') (k : OwF p e below D T (mkF m pc' Ls r)) : OwF p e below D T (mkF m pc Ls (.ref a :: r)) := by
  subst hp; exact OwF.st (fun _ q => XS.ifnullNo X.here C.1 rfl (hb C.2.1 hd) rfl q) k
theorem ow_ifnonnull_n {o : Int} (C : OwC p Z s m meth c own nm bytes maxL ret) (X : Stand p l e R s m args below meth c T locs cells slots) (hd : decode bytes pc = .ok (.ifnonnull o, 3)) (hp : pc + 3 = pc') (k : OwF p e below D T (mkF m pc' Ls r)) : OwF p e below D T (mkF m pc Ls (.null :: r)) := by
  subst hp; exact OwF.st (fun _ q => XT.ifnonnullNo X.here C.1 rfl (hb C.2.1 hd) rfl q) k
theorem ow_ifnonnull_r {o : Int} (C : OwC p Z s m meth c own nm bytes maxL ret) (X : Stand p l e R s m args below meth c T locs cells slots) (hd : decode bytes pc = .ok (.ifnonnull o, 3)) (ho : 0 ≤ (pc : Int) + o) (ht : ((pc : Int) + o).toNat = pcT) (k : OwF p e below D T (mkF m pcT Ls r)) : OwF p e below D T (mkF m pc Ls (.ref a :: r)) :=
  OwF.st (fun _ q => XT.ifnonnullYes X.here C.1 rfl rfl (hb C.2.1 hd) rfl ho ht q) k
theorem ow_acmpY {cd : ClassFile.ACond} {x y : Value} {o : Int} (C : OwC p Z s m meth c own nm bytes maxL ret) (X : Stand p l e R s m args below meth c T locs cells slots) (hd : decode bytes pc = .ok (.if_acmp cd o, 3)) (hx : x.isRef = true) (hy : y.isRef = true) (hc : XT.acmp cd x y = true) (ho : 0 ≤ (pc : Int) + o) (ht : ((pc : Int) + o).toNat = pcT) (k : OwF p e below D T (mkF m pcT Ls r)) : OwF p e below D T (mkF m pc Ls (y :: x :: r)) :=
  OwF.st (fun _ q => XT.acmpYes X.here C.1 rfl rfl (hb C.2.1 hd) rfl hx hy hc ho ht q) k
theorem ow_acmpN {cd : ClassFile.ACond} {x y : Value} {o : Int} (C : OwC p Z s m meth c own nm bytes maxL ret) (X : Stand p l e R s m args below meth c T locs cells slots) (hd : decode bytes pc = .ok (.if_acmp cd o, 3)) (hx : x.isRef = true) (hy : y.isRef = true) (hc : XT.acmp cd x y = false) (hp : pc + 3 = pc') (k : OwF p e below D T (mkF m pc' Ls r)) : OwF p e below D T (mkF m pc Ls (y :: x :: r)) := by
  subst hp; exact OwF.st (fun _ q => XT.acmpNo X.here C.1 rfl (hb C.2.1 hd) rfl hx hy hc q) k
theorem ow_clone {ad : String} {cl : Cell} {cap : Nat} (C : OwC p Z s m meth c own nm bytes maxL ret) (X : Stand p l e R s m args below meth c T locs cells slots) (eT : T.heap = h)
    (w1 : (Jvm.Cond.methodLink own index ⟨ad, "clone", "()Ljava/lang/Object;"⟩).before a0 Z = true) (w2 : (Jvm.Cond.sameMethod ad "java/lang/Object" "clone" "()Ljava/lang/Object;").before a0 Z = true) (w3 : (Jvm.Cond.native ⟨"java/lang/Object", "clone", "()Ljava/lang/Object;"⟩).before a0 Z = true)
    (w4 : (Jvm.Cond.instanceMethod ⟨"java/lang/Object", "clone", "()Ljava/lang/Object;"⟩).before a0 Z = true) (w5 : (Jvm.Cond.selects ad ⟨ad, "clone", "()Ljava/lang/Object;"⟩ ⟨"java/lang/Object", "clone", "()Ljava/lang/Object;"⟩).before a0 Z = true) (w6 : (Jvm.Cond.castable ad "java/lang/Cloneable").before a0 Z = true)
    (A : Arr Z h a cl t) (E : Exa Z h a ad) (F : FitC Z cl) (hsz : Ls.size = maxL) (hd : decode bytes pc = .ok (.invokevirtual index, 3)) (hf : 1 ≤ R.frames) (hl : owCat r + 14 ≤ R.locals) (hcap : cl.slots.size ≤ cap) (hc : cells + 1 ≤ R.cells) (hsl : slots + cap ≤ R.slots) (hp : pc + 3 = pc')
    (k : ∀ T' h' b, b = h.size → Stand p l e R s m args below meth c T' locs (cells + 1) (slots + cap) → T'.heap = h' → Ext h h' → Arr Z h' b (Jvm.RoadKit.cloneOf cl) t → Exa Z h' b ad → OwF p e below D T' (mkF m pc' Ls (.ref b :: r))) : OwF p e below D T (mkF m pc Ls (.ref a :: r)) := by
  subst hp
  obtain ⟨T', h', X', e', E', A', Ex', st⟩ := cloneA X C.1 C.2.2.2.2.2.2.2 C.2.2.2.1 w1 w2 w3 w4 w5 w6 eT A E F (g := mkF m pc Ls (.ref a :: r)) rfl (by rw [C.2.2.1]; exact hsz) rfl (hb C.2.1 hd) hf (W := owCat r) (by show 2 * 0 + owCat r ≤ owCat r; omega) hl hcap hc hsl
  exact OwF.st st (k T' h' _ rfl X' e' E' A' Ex')
/-- C's chain of superclasses doesn't meet an instantiable K -/
theorem own_ns0 {O : String} (w : (Jvm.Cond.noSuperclass O).before a0 Z = true) (wk : (Jvm.Cond.instantiable K n).before a0 Z = true) (hn : O ≠ K) : NS Z O K := by
  obtain ⟨c, k, h1, h2, h3, -, -⟩ := Cond.noSuperclass_spec w
  obtain ⟨t, _, g1, -⟩ := Cond.instantiable_spec wk
  have ne := ids_ne h1 g1 hn
  refine ⟨c, t, h1, g1, fun fuel => ?_⟩
  cases fuel with
  | zero => rfl
  | succ f => simp [Vm.isSubclassAux, ne, h2, h3]
theorem own_ns1 {S : String} (w : (Jvm.Cond.superclass K2 S).before a0 Z = true) (wk : (Jvm.Cond.instantiable K n).before a0 Z = true) (q : NS Z K2 K) (hn : K2 ≠ K) : ∃ c t, Z.vm.findClass K2 = some c ∧ Z.vm.findClass K = some t ∧ Z.vm.assignable c t = false := by
  obtain ⟨c, t, h0, g0, n3⟩ := q
  obtain ⟨p, k, kp, h1, h2, h3, h4, h5, -, h7⟩ := Cond.superclass_spec h0 w
  obtain ⟨t', k', g1, g2, g5, g6, -⟩ := Cond.instantiable_spec wk
  cases g0.symm.trans g1
  have ne := ids_ne h0 g0 hn
  have g7 : k'.isInterface = false := by simp only [Bool.or_eq_false_iff] at g6; exact g6.1
  refine ⟨c, t, h0, g0, ?_⟩
  show Z.vm.assignableAux (255 + 1) c t = false
  simp [Vm.assignableAux, ne, h2, g2, h5, g5, g7, Vm.isSubclass, n3]
end OwnRef
theorem own_nm {a b : Addr} (h : a ≠ b) : a ∉ [b] := fun q => h (List.mem_singleton.mp q)
theorem own_kt {n : Nat} {a : Addr} {ws : List Addr} (h : n ≤ a) : ∀ x ∈ [a], x ∈ ws ∨ n ≤ x := fun x q => by cases List.mem_singleton.mp q; exact Or.inr h
theorem own_nil {a : Addr} : a ∉ ([] : List Addr) := fun q => nomatch q
theorem own_all0 {n : Nat} : ∀ x ∈ ([] : List Addr), n ≤ x := fun x q => nomatch q
theorem own_all1 {n : Nat} {a : Addr} (h : n ≤ a) : ∀ x ∈ [a], n ≤ x := fun x q => by cases List.mem_singleton.mp q; exact h
def own_v (k : Nat) : Int32 := [1, 2, 3, 4, 5, 6, 7, 8, 9, 11, 12, 13, 14, 15, 100, 101, (-11)].getD k 0
def own_nms (k : Nat) : String := ["CREATE", "DELETE", "EXISTS", "GET_DATA", "SET_DATA", "GET_ACL", "SET_ACL", "GET_CHILDREN", "SYNC", "PING", "GET_CHILDREN2", "CHECK", "MULTI", "CREATE2", "AUTH", "SET_WATCHES", "CLOSE_SESSION"].getD k ""
def OwOps (Z : State) (av : Addr) (cl : Cell) (x : Nat → Addr) : Prop :=
  Sta Z Z.heap "com/example/total_order/totalorder/protocol/OpCode" "$VALUES" "[Lcom/example/total_order/totalorder/protocol/OpCode;" (.ref av) ∧ Arr Z Z.heap av cl (.object "com/example/total_order/totalorder/protocol/OpCode") ∧ Exa Z Z.heap av "[Lcom/example/total_order/totalorder/protocol/OpCode;" ∧ FitC Z cl ∧ cl.slots.size = 17 ∧ (∀ k, k < 17 → cl.slots[k]? = some (.ref (x k))) ∧ (∀ k, k < 17 → Exa Z Z.heap (x k) "com/example/total_order/totalorder/protocol/OpCode") ∧ (∀ k, k < 17 → Fld Z Z.heap (x k) "com/example/total_order/totalorder/protocol/OpCode" "value" "I" (.int (own_v k))) ∧ (∀ k, k < 17 → Sta Z Z.heap "com/example/total_order/totalorder/protocol/OpCode" (own_nms k) "Lcom/example/total_order/totalorder/protocol/OpCode;" (.ref (x k)))
theorem own_inc (i : Nat) : Int32.ofNat i + 1 = Int32.ofNat (i + 1) := by rw [Int32.ofNat_add]; rfl
theorem own_ixI {i : Nat} (h : i < 2147483648) : (Int32.ofNat i).toInt = i := by
  rw [Int32.toInt_ofNat_of_lt]; omega
theorem own_ix0 {i : Nat} (h : i < 2147483648) : ¬ Int32.ofNat i < 0 := by rw [Int32.lt_iff_toInt_lt, own_ixI h]; show ¬ (i : Int) < 0; omega
theorem own_ixN {i : Nat} (h : i < 2147483648) : (Int32.ofNat i).toNatClampNeg = i := by
  show (Int32.ofNat i).toInt.toNat = i
  rw [own_ixI h]; rfl
theorem own_lt17 {i : Nat} (h : i < 17) : Int32.ofNat i < 17 := by rw [Int32.lt_iff_toInt_lt, own_ixI (by omega)]; show (i : Int) < 17; omega
theorem own_vinj : ∀ i, i < 17 → ∀ j, j < 17 → own_v i = own_v j → i = j := by decide +kernel
theorem d2_0 : decode prog_72_method_1_code 0 = .ok (.getstatic 55, 3) := by decide +kernel
theorem d2_3 : decode prog_72_method_1_code 3 = .ok (.invokevirtual 59, 3) := by decide +kernel
theorem d2_6 : decode prog_72_method_1_code 6 = .ok (.checkcast 60, 3) := by decide +kernel
theorem d2_9 : decode prog_72_method_1_code 9 = .ok (.areturn, 1) := by decide +kernel
theorem pn_2 : plainFor (⟨"com/example/total_order/totalorder/protocol/OpCode", "values", "()[Lcom/example/total_order/totalorder/protocol/OpCode;"⟩ : MethodName) = true := by first | exact plainFor_of_name (by first | (simp [plainName, overriddenIn]; done) | decide +kernel) | decide +kernel
theorem pd_0 : parseMethodDescriptor "()[Lcom/example/total_order/totalorder/protocol/OpCode;" = some ⟨[], (some (.array (.object "com/example/total_order/totalorder/protocol/OpCode")))⟩ := by decide +kernel
set_option maxRecDepth 65536 in
set_option maxHeartbeats 40000000 in
theorem rm_vals (l : Launch) (Z : State) (a0 : Array Value) (hw : ∀ d ∈ tables_1, d.before a0 Z = true) (av : Addr) (cl : Cell) (x : Nat → Addr) (B : OwOps Z av cl x) (h0 : Heap) (n0 : Nat) (O0 : Old Z n0 h0) :
    OwCon l (⟨"com/example/total_order/totalorder/protocol/OpCode", "values", "()[Lcom/example/total_order/totalorder/protocol/OpCode;"⟩ : MethodName) prog_72_method_1_code 0 (some (.array (.object "com/example/total_order/totalorder/protocol/OpCode"))) ({ frames := 1, cells := 1, slots := 17, locals := 14 } : Room) Z #[] h0 (fun v h L => ∃ r : Addr, v = some (.ref r) ∧ L = [] ∧ Ext h0 h ∧ OwA Z h r (.object "com/example/total_order/totalorder/protocol/OpCode") 17 (fun k => .ref (x k))) := by
  obtain ⟨SV, AV, EV, FV, SZ, HX, -⟩ := B
  refine OwCon.of pn_2 (Ls := #[]) (fun m => rfl) ?_
  intro p e s m below meth c s₁ C X0 e0
  refine ow_getS C X0 e0 (hw _ (List.mem_of_getElem? (i := 7) rfl)) (SV.ext O0.2) d2_0 (pc' := 3) rfl (fun T1 X1 e1 => ?_)
  refine ow_clone C X1 e1 (hw _ (List.mem_of_getElem? (i := 9) rfl)) (hw _ (List.mem_of_getElem? (i := 10) rfl)) (hw _ (List.mem_of_getElem? (i := 14) rfl)) (hw _ (List.mem_of_getElem? (i := 12) rfl)) (hw _ (List.mem_of_getElem? (i := 13) rfl)) (hw _ (List.mem_of_getElem? (i := 15) rfl)) (AV.ext O0.2) (EV.ext O0.2) FV rfl d2_3 (Nat.le_of_ble_eq_true rfl) (Nat.le_of_ble_eq_true rfl) (cap := 17) (Nat.le_of_eq SZ) (Nat.le_of_ble_eq_true rfl) (Nat.le_of_ble_eq_true rfl) (pc' := 6) rfl (fun T2 h2 a2 g2 X2 e2 Ex2 A2 E2 => ?_)
  refine ow_cast C X2 e2 (hw _ (List.mem_of_getElem? (i := 34) rfl)) (Ins.self E2) d2_6 (pc' := 9) rfl (fun T3 X3 e3 => ?_)
  refine ow_retA C X3 d2_9 (Nat.le_of_ble_eq_true rfl) (Nat.le_of_ble_eq_true rfl) rfl rfl ?_
  rw [e3]
  exact ⟨a2, rfl, rfl, Ex2, _, A2, SZ, fun k hk => HX k hk⟩
theorem d3_0 : decode method_2_code 0 = .ok (.iload_n 0, 1) := by decide +kernel
theorem d3_1 : decode method_2_code 1 = .ok (.iconst 1, 1) := by decide +kernel
theorem d3_2 : decode method_2_code 2 = .ok (.if_icmp .ne 7, 3) := by decide +kernel
theorem d3_5 : decode method_2_code 5 = .ok (.getstatic 7, 3) := by decide +kernel
theorem d3_8 : decode method_2_code 8 = .ok (.areturn, 1) := by decide +kernel
theorem d3_9 : decode method_2_code 9 = .ok (.iload_n 0, 1) := by decide +kernel
theorem d3_10 : decode method_2_code 10 = .ok (.iconst 2, 1) := by decide +kernel
theorem d3_11 : decode method_2_code 11 = .ok (.if_icmp .ne 7, 3) := by decide +kernel
theorem d3_14 : decode method_2_code 14 = .ok (.getstatic 13, 3) := by decide +kernel
theorem d3_17 : decode method_2_code 17 = .ok (.areturn, 1) := by decide +kernel
theorem d3_18 : decode method_2_code 18 = .ok (.iload_n 0, 1) := by decide +kernel
theorem d3_19 : decode method_2_code 19 = .ok (.iconst 3, 1) := by decide +kernel
theorem d3_20 : decode method_2_code 20 = .ok (.if_icmp .ne 7, 3) := by decide +kernel
theorem d3_23 : decode method_2_code 23 = .ok (.getstatic 16, 3) := by decide +kernel
theorem d3_26 : decode method_2_code 26 = .ok (.areturn, 1) := by decide +kernel
theorem d3_27 : decode method_2_code 27 = .ok (.iload_n 0, 1) := by decide +kernel
theorem d3_28 : decode method_2_code 28 = .ok (.iconst 4, 1) := by decide +kernel
theorem d3_29 : decode method_2_code 29 = .ok (.if_icmp .ne 7, 3) := by decide +kernel
theorem d3_32 : decode method_2_code 32 = .ok (.getstatic 19, 3) := by decide +kernel
theorem d3_35 : decode method_2_code 35 = .ok (.areturn, 1) := by decide +kernel
theorem d3_36 : decode method_2_code 36 = .ok (.iload_n 0, 1) := by decide +kernel
theorem d3_37 : decode method_2_code 37 = .ok (.iconst 5, 1) := by decide +kernel
theorem d3_38 : decode method_2_code 38 = .ok (.if_icmp .ne 7, 3) := by decide +kernel
theorem d3_41 : decode method_2_code 41 = .ok (.getstatic 22, 3) := by decide +kernel
theorem d3_44 : decode method_2_code 44 = .ok (.areturn, 1) := by decide +kernel
theorem d3_45 : decode method_2_code 45 = .ok (.iload_n 0, 1) := by decide +kernel
theorem d3_46 : decode method_2_code 46 = .ok (.bipush 6, 2) := by decide +kernel
theorem d3_48 : decode method_2_code 48 = .ok (.if_icmp .ne 7, 3) := by decide +kernel
theorem d3_51 : decode method_2_code 51 = .ok (.getstatic 25, 3) := by decide +kernel
theorem d3_54 : decode method_2_code 54 = .ok (.areturn, 1) := by decide +kernel
theorem d3_55 : decode method_2_code 55 = .ok (.iload_n 0, 1) := by decide +kernel
theorem d3_56 : decode method_2_code 56 = .ok (.bipush 7, 2) := by decide +kernel
theorem d3_58 : decode method_2_code 58 = .ok (.if_icmp .ne 7, 3) := by decide +kernel
theorem d3_61 : decode method_2_code 61 = .ok (.getstatic 28, 3) := by decide +kernel
theorem d3_64 : decode method_2_code 64 = .ok (.areturn, 1) := by decide +kernel
theorem d3_65 : decode method_2_code 65 = .ok (.iload_n 0, 1) := by decide +kernel
theorem d3_66 : decode method_2_code 66 = .ok (.bipush 8, 2) := by decide +kernel
theorem d3_68 : decode method_2_code 68 = .ok (.if_icmp .ne 7, 3) := by decide +kernel
theorem d3_71 : decode method_2_code 71 = .ok (.getstatic 31, 3) := by decide +kernel
theorem d3_74 : decode method_2_code 74 = .ok (.areturn, 1) := by decide +kernel
theorem d3_75 : decode method_2_code 75 = .ok (.iload_n 0, 1) := by decide +kernel
theorem d3_76 : decode method_2_code 76 = .ok (.bipush 9, 2) := by decide +kernel
theorem d3_78 : decode method_2_code 78 = .ok (.if_icmp .ne 7, 3) := by decide +kernel
theorem d3_81 : decode method_2_code 81 = .ok (.getstatic 34, 3) := by decide +kernel
theorem d3_84 : decode method_2_code 84 = .ok (.areturn, 1) := by decide +kernel
theorem d3_85 : decode method_2_code 85 = .ok (.iload_n 0, 1) := by decide +kernel
theorem d3_86 : decode method_2_code 86 = .ok (.bipush 11, 2) := by decide +kernel
theorem d3_88 : decode method_2_code 88 = .ok (.if_icmp .ne 7, 3) := by decide +kernel
theorem d3_91 : decode method_2_code 91 = .ok (.getstatic 37, 3) := by decide +kernel
theorem d3_94 : decode method_2_code 94 = .ok (.areturn, 1) := by decide +kernel
theorem d3_95 : decode method_2_code 95 = .ok (.iload_n 0, 1) := by decide +kernel
theorem d3_96 : decode method_2_code 96 = .ok (.bipush 12, 2) := by decide +kernel
theorem d3_98 : decode method_2_code 98 = .ok (.if_icmp .ne 7, 3) := by decide +kernel
theorem d3_101 : decode method_2_code 101 = .ok (.getstatic 40, 3) := by decide +kernel
theorem d3_104 : decode method_2_code 104 = .ok (.areturn, 1) := by decide +kernel
theorem d3_105 : decode method_2_code 105 = .ok (.iload_n 0, 1) := by decide +kernel
theorem d3_106 : decode method_2_code 106 = .ok (.bipush 13, 2) := by decide +kernel
theorem d3_108 : decode method_2_code 108 = .ok (.if_icmp .ne 7, 3) := by decide +kernel
theorem d3_111 : decode method_2_code 111 = .ok (.getstatic 43, 3) := by decide +kernel
theorem d3_114 : decode method_2_code 114 = .ok (.areturn, 1) := by decide +kernel
theorem d3_115 : decode method_2_code 115 = .ok (.iload_n 0, 1) := by decide +kernel
theorem d3_116 : decode method_2_code 116 = .ok (.bipush 14, 2) := by decide +kernel
theorem d3_118 : decode method_2_code 118 = .ok (.if_icmp .ne 7, 3) := by decide +kernel
theorem d3_121 : decode method_2_code 121 = .ok (.getstatic 46, 3) := by decide +kernel
theorem d3_124 : decode method_2_code 124 = .ok (.areturn, 1) := by decide +kernel
theorem d3_125 : decode method_2_code 125 = .ok (.iload_n 0, 1) := by decide +kernel
theorem d3_126 : decode method_2_code 126 = .ok (.bipush 15, 2) := by decide +kernel
theorem d3_128 : decode method_2_code 128 = .ok (.if_icmp .ne 7, 3) := by decide +kernel
theorem d3_131 : decode method_2_code 131 = .ok (.getstatic 49, 3) := by decide +kernel
theorem d3_134 : decode method_2_code 134 = .ok (.areturn, 1) := by decide +kernel
theorem d3_135 : decode method_2_code 135 = .ok (.iload_n 0, 1) := by decide +kernel
theorem d3_136 : decode method_2_code 136 = .ok (.bipush 100, 2) := by decide +kernel
theorem d3_138 : decode method_2_code 138 = .ok (.if_icmp .ne 7, 3) := by decide +kernel
theorem d3_141 : decode method_2_code 141 = .ok (.getstatic 52, 3) := by decide +kernel
theorem d3_144 : decode method_2_code 144 = .ok (.areturn, 1) := by decide +kernel
theorem d3_145 : decode method_2_code 145 = .ok (.iload_n 0, 1) := by decide +kernel
theorem d3_146 : decode method_2_code 146 = .ok (.bipush 101, 2) := by decide +kernel
theorem d3_148 : decode method_2_code 148 = .ok (.if_icmp .ne 7, 3) := by decide +kernel
theorem d3_151 : decode method_2_code 151 = .ok (.getstatic 55, 3) := by decide +kernel
theorem d3_154 : decode method_2_code 154 = .ok (.areturn, 1) := by decide +kernel
theorem d3_155 : decode method_2_code 155 = .ok (.iload_n 0, 1) := by decide +kernel
theorem d3_156 : decode method_2_code 156 = .ok (.bipush (-11), 2) := by decide +kernel
theorem d3_158 : decode method_2_code 158 = .ok (.if_icmp .ne 7, 3) := by decide +kernel
theorem d3_161 : decode method_2_code 161 = .ok (.getstatic 58, 3) := by decide +kernel
theorem d3_164 : decode method_2_code 164 = .ok (.areturn, 1) := by decide +kernel
theorem d3_165 : decode method_2_code 165 = .ok (.aconst_null, 1) := by decide +kernel
theorem d3_166 : decode method_2_code 166 = .ok (.areturn, 1) := by decide +kernel
theorem pn_3 : plainFor (⟨"com/example/total_order/totalorder/protocol/OpCodeOfPinLaw", "expected", "(I)Lcom/example/total_order/totalorder/protocol/OpCode;"⟩ : MethodName) = true := by first | exact plainFor_of_name (by first | (simp [plainName, overriddenIn]; done) | decide +kernel) | decide +kernel
theorem pd_1 : parseMethodDescriptor "(I)Lcom/example/total_order/totalorder/protocol/OpCode;" = some ⟨[.int], (some (.object "com/example/total_order/totalorder/protocol/OpCode"))⟩ := by decide +kernel
def own_exp (x : Nat → Addr) (q0 : Int32) : Value := if q0 = (1 : Int32) then .ref (x 0) else if q0 = (2 : Int32) then .ref (x 1) else if q0 = (3 : Int32) then .ref (x 2) else if q0 = (4 : Int32) then .ref (x 3) else if q0 = (5 : Int32) then .ref (x 4) else if q0 = (6 : Int32) then .ref (x 5) else if q0 = (7 : Int32) then .ref (x 6) else if q0 = (8 : Int32) then .ref (x 7) else if q0 = (9 : Int32) then .ref (x 8) else if q0 = (11 : Int32) then .ref (x 9) else if q0 = (12 : Int32) then .ref (x 10) else if q0 = (13 : Int32) then .ref (x 11) else if q0 = (14 : Int32) then .ref (x 12) else if q0 = (15 : Int32) then .ref (x 13) else if q0 = (100 : Int32) then .ref (x 14) else if q0 = (101 : Int32) then .ref (x 15) else if q0 = (-11 : Int32) then .ref (x 16) else .null
set_option maxRecDepth 65536 in
set_option maxHeartbeats 40000000 in
theorem rm_exp (l : Launch) (Z : State) (a0 : Array Value) (hw : ∀ d ∈ tables_1, d.before a0 Z = true) (q0 : Int32) (av : Addr) (cl : Cell) (x : Nat → Addr) (B : OwOps Z av cl x) (h0 : Heap) (n0 : Nat) (O0 : Old Z n0 h0) :
    OwCon l (⟨"com/example/total_order/totalorder/protocol/OpCodeOfPinLaw", "expected", "(I)Lcom/example/total_order/totalorder/protocol/OpCode;"⟩ : MethodName) method_2_code 1 (some (.object "com/example/total_order/totalorder/protocol/OpCode")) ({ frames := 0, cells := 0, slots := 0, locals := 0 } : Room) Z #[(.int q0)] h0 (OwP (some (own_exp x q0)) h0) := by
  refine OwCon.of pn_3 (Ls := #[.val (.int q0)]) (fun m => by first | (simp [entryFrame, mkF, argsToLocals, Value.category]; done) | rfl) ?_
  intro p e s m below meth c s₁ C X0 e0
  refine ow_iloadN C X0 d3_0 rfl (pc' := 1) rfl ?_
  refine ow_iconst (1 : Int32) C X0 d3_1 (by decide) (pc' := 2) rfl ?_
  refine ow_icmp_ne C X0 d3_2 (pcT := 9) (pc' := 5) (by decide) (by decide) rfl (fun b2 => ?_) (fun b2 => ?_)
  · refine ow_iloadN C X0 d3_9 rfl (pc' := 10) rfl ?_
    refine ow_iconst (2 : Int32) C X0 d3_10 (by decide) (pc' := 11) rfl ?_
    refine ow_icmp_ne C X0 d3_11 (pcT := 18) (pc' := 14) (by decide) (by decide) rfl (fun b11 => ?_) (fun b11 => ?_)
    · refine ow_iloadN C X0 d3_18 rfl (pc' := 19) rfl ?_
      refine ow_iconst (3 : Int32) C X0 d3_19 (by decide) (pc' := 20) rfl ?_
      refine ow_icmp_ne C X0 d3_20 (pcT := 27) (pc' := 23) (by decide) (by decide) rfl (fun b20 => ?_) (fun b20 => ?_)
      · refine ow_iloadN C X0 d3_27 rfl (pc' := 28) rfl ?_
        refine ow_iconst (4 : Int32) C X0 d3_28 (by decide) (pc' := 29) rfl ?_
        refine ow_icmp_ne C X0 d3_29 (pcT := 36) (pc' := 32) (by decide) (by decide) rfl (fun b29 => ?_) (fun b29 => ?_)
        · refine ow_iloadN C X0 d3_36 rfl (pc' := 37) rfl ?_
          refine ow_iconst (5 : Int32) C X0 d3_37 (by decide) (pc' := 38) rfl ?_
          refine ow_icmp_ne C X0 d3_38 (pcT := 45) (pc' := 41) (by decide) (by decide) rfl (fun b38 => ?_) (fun b38 => ?_)
          · refine ow_iloadN C X0 d3_45 rfl (pc' := 46) rfl ?_
            refine ow_bipush (6 : Int32) C X0 d3_46 (by decide) (pc' := 48) rfl ?_
            refine ow_icmp_ne C X0 d3_48 (pcT := 55) (pc' := 51) (by decide) (by decide) rfl (fun b48 => ?_) (fun b48 => ?_)
            · refine ow_iloadN C X0 d3_55 rfl (pc' := 56) rfl ?_
              refine ow_bipush (7 : Int32) C X0 d3_56 (by decide) (pc' := 58) rfl ?_
              refine ow_icmp_ne C X0 d3_58 (pcT := 65) (pc' := 61) (by decide) (by decide) rfl (fun b58 => ?_) (fun b58 => ?_)
              · refine ow_iloadN C X0 d3_65 rfl (pc' := 66) rfl ?_
                refine ow_bipush (8 : Int32) C X0 d3_66 (by decide) (pc' := 68) rfl ?_
                refine ow_icmp_ne C X0 d3_68 (pcT := 75) (pc' := 71) (by decide) (by decide) rfl (fun b68 => ?_) (fun b68 => ?_)
                · refine ow_iloadN C X0 d3_75 rfl (pc' := 76) rfl ?_
                  refine ow_bipush (9 : Int32) C X0 d3_76 (by decide) (pc' := 78) rfl ?_
                  refine ow_icmp_ne C X0 d3_78 (pcT := 85) (pc' := 81) (by decide) (by decide) rfl (fun b78 => ?_) (fun b78 => ?_)
                  · refine ow_iloadN C X0 d3_85 rfl (pc' := 86) rfl ?_
                    refine ow_bipush (11 : Int32) C X0 d3_86 (by decide) (pc' := 88) rfl ?_
                    refine ow_icmp_ne C X0 d3_88 (pcT := 95) (pc' := 91) (by decide) (by decide) rfl (fun b88 => ?_) (fun b88 => ?_)
                    · refine ow_iloadN C X0 d3_95 rfl (pc' := 96) rfl ?_
                      refine ow_bipush (12 : Int32) C X0 d3_96 (by decide) (pc' := 98) rfl ?_
                      refine ow_icmp_ne C X0 d3_98 (pcT := 105) (pc' := 101) (by decide) (by decide) rfl (fun b98 => ?_) (fun b98 => ?_)
                      · refine ow_iloadN C X0 d3_105 rfl (pc' := 106) rfl ?_
                        refine ow_bipush (13 : Int32) C X0 d3_106 (by decide) (pc' := 108) rfl ?_
                        refine ow_icmp_ne C X0 d3_108 (pcT := 115) (pc' := 111) (by decide) (by decide) rfl (fun b108 => ?_) (fun b108 => ?_)
                        · refine ow_iloadN C X0 d3_115 rfl (pc' := 116) rfl ?_
                          refine ow_bipush (14 : Int32) C X0 d3_116 (by decide) (pc' := 118) rfl ?_
                          refine ow_icmp_ne C X0 d3_118 (pcT := 125) (pc' := 121) (by decide) (by decide) rfl (fun b118 => ?_) (fun b118 => ?_)
                          · refine ow_iloadN C X0 d3_125 rfl (pc' := 126) rfl ?_
                            refine ow_bipush (15 : Int32) C X0 d3_126 (by decide) (pc' := 128) rfl ?_
                            refine ow_icmp_ne C X0 d3_128 (pcT := 135) (pc' := 131) (by decide) (by decide) rfl (fun b128 => ?_) (fun b128 => ?_)
                            · refine ow_iloadN C X0 d3_135 rfl (pc' := 136) rfl ?_
                              refine ow_bipush (100 : Int32) C X0 d3_136 (by decide) (pc' := 138) rfl ?_
                              refine ow_icmp_ne C X0 d3_138 (pcT := 145) (pc' := 141) (by decide) (by decide) rfl (fun b138 => ?_) (fun b138 => ?_)
                              · refine ow_iloadN C X0 d3_145 rfl (pc' := 146) rfl ?_
                                refine ow_bipush (101 : Int32) C X0 d3_146 (by decide) (pc' := 148) rfl ?_
                                refine ow_icmp_ne C X0 d3_148 (pcT := 155) (pc' := 151) (by decide) (by decide) rfl (fun b148 => ?_) (fun b148 => ?_)
                                · refine ow_iloadN C X0 d3_155 rfl (pc' := 156) rfl ?_
                                  refine ow_bipush (-11 : Int32) C X0 d3_156 (by decide) (pc' := 158) rfl ?_
                                  refine ow_icmp_ne C X0 d3_158 (pcT := 165) (pc' := 161) (by decide) (by decide) rfl (fun b158 => ?_) (fun b158 => ?_)
                                  · refine ow_aconstNull C X0 d3_165 (pc' := 166) rfl ?_
                                    exact ow_retA C X0 d3_166 (Nat.le_of_ble_eq_true rfl) (Nat.le_of_ble_eq_true rfl) rfl rfl ⟨(show some Value.null = some (own_exp x q0) from congrArg some (by unfold own_exp; rw [if_neg b2, if_neg b11, if_neg b20, if_neg b29, if_neg b38, if_neg b48, if_neg b58, if_neg b68, if_neg b78, if_neg b88, if_neg b98, if_neg b108, if_neg b118, if_neg b128, if_neg b138, if_neg b148, if_neg b158])), rfl, e0⟩
                                  · refine ow_getS C X0 e0 (hw _ (List.mem_of_getElem? (i := 52) rfl)) ((B.2.2.2.2.2.2.2.2 16 (by decide)).ext O0.2) d3_161 (pc' := 164) rfl (fun T17 X17 e17 => ?_)
                                    exact ow_retA C X17 d3_164 (Nat.le_of_ble_eq_true rfl) (Nat.le_of_ble_eq_true rfl) rfl rfl ⟨(show some (.ref (x 16)) = some (own_exp x q0) from congrArg some (by unfold own_exp; rw [if_neg b2, if_neg b11, if_neg b20, if_neg b29, if_neg b38, if_neg b48, if_neg b58, if_neg b68, if_neg b78, if_neg b88, if_neg b98, if_neg b108, if_neg b118, if_neg b128, if_neg b138, if_neg b148, if_pos b158])), rfl, e17⟩
                                · refine ow_getS C X0 e0 (hw _ (List.mem_of_getElem? (i := 60) rfl)) ((B.2.2.2.2.2.2.2.2 15 (by decide)).ext O0.2) d3_151 (pc' := 154) rfl (fun T16 X16 e16 => ?_)
                                  exact ow_retA C X16 d3_154 (Nat.le_of_ble_eq_true rfl) (Nat.le_of_ble_eq_true rfl) rfl rfl ⟨(show some (.ref (x 15)) = some (own_exp x q0) from congrArg some (by unfold own_exp; rw [if_neg b2, if_neg b11, if_neg b20, if_neg b29, if_neg b38, if_neg b48, if_neg b58, if_neg b68, if_neg b78, if_neg b88, if_neg b98, if_neg b108, if_neg b118, if_neg b128, if_neg b138, if_pos b148])), rfl, e16⟩
                              · refine ow_getS C X0 e0 (hw _ (List.mem_of_getElem? (i := 61) rfl)) ((B.2.2.2.2.2.2.2.2 14 (by decide)).ext O0.2) d3_141 (pc' := 144) rfl (fun T15 X15 e15 => ?_)
                                exact ow_retA C X15 d3_144 (Nat.le_of_ble_eq_true rfl) (Nat.le_of_ble_eq_true rfl) rfl rfl ⟨(show some (.ref (x 14)) = some (own_exp x q0) from congrArg some (by unfold own_exp; rw [if_neg b2, if_neg b11, if_neg b20, if_neg b29, if_neg b38, if_neg b48, if_neg b58, if_neg b68, if_neg b78, if_neg b88, if_neg b98, if_neg b108, if_neg b118, if_neg b128, if_pos b138])), rfl, e15⟩
                            · refine ow_getS C X0 e0 (hw _ (List.mem_of_getElem? (i := 62) rfl)) ((B.2.2.2.2.2.2.2.2 13 (by decide)).ext O0.2) d3_131 (pc' := 134) rfl (fun T14 X14 e14 => ?_)
                              exact ow_retA C X14 d3_134 (Nat.le_of_ble_eq_true rfl) (Nat.le_of_ble_eq_true rfl) rfl rfl ⟨(show some (.ref (x 13)) = some (own_exp x q0) from congrArg some (by unfold own_exp; rw [if_neg b2, if_neg b11, if_neg b20, if_neg b29, if_neg b38, if_neg b48, if_neg b58, if_neg b68, if_neg b78, if_neg b88, if_neg b98, if_neg b108, if_neg b118, if_pos b128])), rfl, e14⟩
                          · refine ow_getS C X0 e0 (hw _ (List.mem_of_getElem? (i := 54) rfl)) ((B.2.2.2.2.2.2.2.2 12 (by decide)).ext O0.2) d3_121 (pc' := 124) rfl (fun T13 X13 e13 => ?_)
                            exact ow_retA C X13 d3_124 (Nat.le_of_ble_eq_true rfl) (Nat.le_of_ble_eq_true rfl) rfl rfl ⟨(show some (.ref (x 12)) = some (own_exp x q0) from congrArg some (by unfold own_exp; rw [if_neg b2, if_neg b11, if_neg b20, if_neg b29, if_neg b38, if_neg b48, if_neg b58, if_neg b68, if_neg b78, if_neg b88, if_neg b98, if_neg b108, if_pos b118])), rfl, e13⟩
                        · refine ow_getS C X0 e0 (hw _ (List.mem_of_getElem? (i := 53) rfl)) ((B.2.2.2.2.2.2.2.2 11 (by decide)).ext O0.2) d3_111 (pc' := 114) rfl (fun T12 X12 e12 => ?_)
                          exact ow_retA C X12 d3_114 (Nat.le_of_ble_eq_true rfl) (Nat.le_of_ble_eq_true rfl) rfl rfl ⟨(show some (.ref (x 11)) = some (own_exp x q0) from congrArg some (by unfold own_exp; rw [if_neg b2, if_neg b11, if_neg b20, if_neg b29, if_neg b38, if_neg b48, if_neg b58, if_neg b68, if_neg b78, if_neg b88, if_neg b98, if_pos b108])), rfl, e12⟩
                      · refine ow_getS C X0 e0 (hw _ (List.mem_of_getElem? (i := 59) rfl)) ((B.2.2.2.2.2.2.2.2 10 (by decide)).ext O0.2) d3_101 (pc' := 104) rfl (fun T11 X11 e11 => ?_)
                        exact ow_retA C X11 d3_104 (Nat.le_of_ble_eq_true rfl) (Nat.le_of_ble_eq_true rfl) rfl rfl ⟨(show some (.ref (x 10)) = some (own_exp x q0) from congrArg some (by unfold own_exp; rw [if_neg b2, if_neg b11, if_neg b20, if_neg b29, if_neg b38, if_neg b48, if_neg b58, if_neg b68, if_neg b78, if_neg b88, if_pos b98])), rfl, e11⟩
                    · refine ow_getS C X0 e0 (hw _ (List.mem_of_getElem? (i := 58) rfl)) ((B.2.2.2.2.2.2.2.2 9 (by decide)).ext O0.2) d3_91 (pc' := 94) rfl (fun T10 X10 e10 => ?_)
                      exact ow_retA C X10 d3_94 (Nat.le_of_ble_eq_true rfl) (Nat.le_of_ble_eq_true rfl) rfl rfl ⟨(show some (.ref (x 9)) = some (own_exp x q0) from congrArg some (by unfold own_exp; rw [if_neg b2, if_neg b11, if_neg b20, if_neg b29, if_neg b38, if_neg b48, if_neg b58, if_neg b68, if_neg b78, if_pos b88])), rfl, e10⟩
                  · refine ow_getS C X0 e0 (hw _ (List.mem_of_getElem? (i := 63) rfl)) ((B.2.2.2.2.2.2.2.2 8 (by decide)).ext O0.2) d3_81 (pc' := 84) rfl (fun T9 X9 e9 => ?_)
                    exact ow_retA C X9 d3_84 (Nat.le_of_ble_eq_true rfl) (Nat.le_of_ble_eq_true rfl) rfl rfl ⟨(show some (.ref (x 8)) = some (own_exp x q0) from congrArg some (by unfold own_exp; rw [if_neg b2, if_neg b11, if_neg b20, if_neg b29, if_neg b38, if_neg b48, if_neg b58, if_neg b68, if_pos b78])), rfl, e9⟩
                · refine ow_getS C X0 e0 (hw _ (List.mem_of_getElem? (i := 57) rfl)) ((B.2.2.2.2.2.2.2.2 7 (by decide)).ext O0.2) d3_71 (pc' := 74) rfl (fun T8 X8 e8 => ?_)
                  exact ow_retA C X8 d3_74 (Nat.le_of_ble_eq_true rfl) (Nat.le_of_ble_eq_true rfl) rfl rfl ⟨(show some (.ref (x 7)) = some (own_exp x q0) from congrArg some (by unfold own_exp; rw [if_neg b2, if_neg b11, if_neg b20, if_neg b29, if_neg b38, if_neg b48, if_neg b58, if_pos b68])), rfl, e8⟩
              · refine ow_getS C X0 e0 (hw _ (List.mem_of_getElem? (i := 51) rfl)) ((B.2.2.2.2.2.2.2.2 6 (by decide)).ext O0.2) d3_61 (pc' := 64) rfl (fun T7 X7 e7 => ?_)
                exact ow_retA C X7 d3_64 (Nat.le_of_ble_eq_true rfl) (Nat.le_of_ble_eq_true rfl) rfl rfl ⟨(show some (.ref (x 6)) = some (own_exp x q0) from congrArg some (by unfold own_exp; rw [if_neg b2, if_neg b11, if_neg b20, if_neg b29, if_neg b38, if_neg b48, if_pos b58])), rfl, e7⟩
            · refine ow_getS C X0 e0 (hw _ (List.mem_of_getElem? (i := 55) rfl)) ((B.2.2.2.2.2.2.2.2 5 (by decide)).ext O0.2) d3_51 (pc' := 54) rfl (fun T6 X6 e6 => ?_)
              exact ow_retA C X6 d3_54 (Nat.le_of_ble_eq_true rfl) (Nat.le_of_ble_eq_true rfl) rfl rfl ⟨(show some (.ref (x 5)) = some (own_exp x q0) from congrArg some (by unfold own_exp; rw [if_neg b2, if_neg b11, if_neg b20, if_neg b29, if_neg b38, if_pos b48])), rfl, e6⟩
          · refine ow_getS C X0 e0 (hw _ (List.mem_of_getElem? (i := 49) rfl)) ((B.2.2.2.2.2.2.2.2 4 (by decide)).ext O0.2) d3_41 (pc' := 44) rfl (fun T5 X5 e5 => ?_)
            exact ow_retA C X5 d3_44 (Nat.le_of_ble_eq_true rfl) (Nat.le_of_ble_eq_true rfl) rfl rfl ⟨(show some (.ref (x 4)) = some (own_exp x q0) from congrArg some (by unfold own_exp; rw [if_neg b2, if_neg b11, if_neg b20, if_neg b29, if_pos b38])), rfl, e5⟩
        · refine ow_getS C X0 e0 (hw _ (List.mem_of_getElem? (i := 56) rfl)) ((B.2.2.2.2.2.2.2.2 3 (by decide)).ext O0.2) d3_32 (pc' := 35) rfl (fun T4 X4 e4 => ?_)
          exact ow_retA C X4 d3_35 (Nat.le_of_ble_eq_true rfl) (Nat.le_of_ble_eq_true rfl) rfl rfl ⟨(show some (.ref (x 3)) = some (own_exp x q0) from congrArg some (by unfold own_exp; rw [if_neg b2, if_neg b11, if_neg b20, if_pos b29])), rfl, e4⟩
      · refine ow_getS C X0 e0 (hw _ (List.mem_of_getElem? (i := 42) rfl)) ((B.2.2.2.2.2.2.2.2 2 (by decide)).ext O0.2) d3_23 (pc' := 26) rfl (fun T3 X3 e3 => ?_)
        exact ow_retA C X3 d3_26 (Nat.le_of_ble_eq_true rfl) (Nat.le_of_ble_eq_true rfl) rfl rfl ⟨(show some (.ref (x 2)) = some (own_exp x q0) from congrArg some (by unfold own_exp; rw [if_neg b2, if_neg b11, if_pos b20])), rfl, e3⟩
    · refine ow_getS C X0 e0 (hw _ (List.mem_of_getElem? (i := 50) rfl)) ((B.2.2.2.2.2.2.2.2 1 (by decide)).ext O0.2) d3_14 (pc' := 17) rfl (fun T2 X2 e2 => ?_)
      exact ow_retA C X2 d3_17 (Nat.le_of_ble_eq_true rfl) (Nat.le_of_ble_eq_true rfl) rfl rfl ⟨(show some (.ref (x 1)) = some (own_exp x q0) from congrArg some (by unfold own_exp; rw [if_neg b2, if_pos b11])), rfl, e2⟩
  · refine ow_getS C X0 e0 (hw _ (List.mem_of_getElem? (i := 48) rfl)) ((B.2.2.2.2.2.2.2.2 0 (by decide)).ext O0.2) d3_5 (pc' := 8) rfl (fun T1 X1 e1 => ?_)
    exact ow_retA C X1 d3_8 (Nat.le_of_ble_eq_true rfl) (Nat.le_of_ble_eq_true rfl) rfl rfl ⟨(show some (.ref (x 0)) = some (own_exp x q0) from congrArg some (by unfold own_exp; rw [if_pos b2])), rfl, e1⟩
theorem own_exp_cases (x : Nat → Addr) (q : Int32) : (own_exp x q = .null ∧ ∀ k, k < 17 → own_v k ≠ q) ∨ ∃ k, k < 17 ∧ own_exp x q = .ref (x k) ∧ own_v k = q := by
  unfold own_exp
  by_cases h0 : q = (1 : Int32)
  · exact Or.inr ⟨0, by decide, by rw [if_pos h0], h0 ▸ rfl⟩
  by_cases h1 : q = (2 : Int32)
  · exact Or.inr ⟨1, by decide, by rw [if_neg h0, if_pos h1], h1 ▸ rfl⟩
  by_cases h2 : q = (3 : Int32)
  · exact Or.inr ⟨2, by decide, by rw [if_neg h0, if_neg h1, if_pos h2], h2 ▸ rfl⟩
  by_cases h3 : q = (4 : Int32)
  · exact Or.inr ⟨3, by decide, by rw [if_neg h0, if_neg h1, if_neg h2, if_pos h3], h3 ▸ rfl⟩
  by_cases h4 : q = (5 : Int32)
  · exact Or.inr ⟨4, by decide, by rw [if_neg h0, if_neg h1, if_neg h2, if_neg h3, if_pos h4], h4 ▸ rfl⟩
  by_cases h5 : q = (6 : Int32)
  · exact Or.inr ⟨5, by decide, by rw [if_neg h0, if_neg h1, if_neg h2, if_neg h3, if_neg h4, if_pos h5], h5 ▸ rfl⟩
  by_cases h6 : q = (7 : Int32)
  · exact Or.inr ⟨6, by decide, by rw [if_neg h0, if_neg h1, if_neg h2, if_neg h3, if_neg h4, if_neg h5, if_pos h6], h6 ▸ rfl⟩
  by_cases h7 : q = (8 : Int32)
  · exact Or.inr ⟨7, by decide, by rw [if_neg h0, if_neg h1, if_neg h2, if_neg h3, if_neg h4, if_neg h5, if_neg h6, if_pos h7], h7 ▸ rfl⟩
  by_cases h8 : q = (9 : Int32)
  · exact Or.inr ⟨8, by decide, by rw [if_neg h0, if_neg h1, if_neg h2, if_neg h3, if_neg h4, if_neg h5, if_neg h6, if_neg h7, if_pos h8], h8 ▸ rfl⟩
  by_cases h9 : q = (11 : Int32)
  · exact Or.inr ⟨9, by decide, by rw [if_neg h0, if_neg h1, if_neg h2, if_neg h3, if_neg h4, if_neg h5, if_neg h6, if_neg h7, if_neg h8, if_pos h9], h9 ▸ rfl⟩
  by_cases h10 : q = (12 : Int32)
  · exact Or.inr ⟨10, by decide, by rw [if_neg h0, if_neg h1, if_neg h2, if_neg h3, if_neg h4, if_neg h5, if_neg h6, if_neg h7, if_neg h8, if_neg h9, if_pos h10], h10 ▸ rfl⟩
  by_cases h11 : q = (13 : Int32)
  · exact Or.inr ⟨11, by decide, by rw [if_neg h0, if_neg h1, if_neg h2, if_neg h3, if_neg h4, if_neg h5, if_neg h6, if_neg h7, if_neg h8, if_neg h9, if_neg h10, if_pos h11], h11 ▸ rfl⟩
  by_cases h12 : q = (14 : Int32)
  · exact Or.inr ⟨12, by decide, by rw [if_neg h0, if_neg h1, if_neg h2, if_neg h3, if_neg h4, if_neg h5, if_neg h6, if_neg h7, if_neg h8, if_neg h9, if_neg h10, if_neg h11, if_pos h12], h12 ▸ rfl⟩
  by_cases h13 : q = (15 : Int32)
  · exact Or.inr ⟨13, by decide, by rw [if_neg h0, if_neg h1, if_neg h2, if_neg h3, if_neg h4, if_neg h5, if_neg h6, if_neg h7, if_neg h8, if_neg h9, if_neg h10, if_neg h11, if_neg h12, if_pos h13], h13 ▸ rfl⟩
  by_cases h14 : q = (100 : Int32)
  · exact Or.inr ⟨14, by decide, by rw [if_neg h0, if_neg h1, if_neg h2, if_neg h3, if_neg h4, if_neg h5, if_neg h6, if_neg h7, if_neg h8, if_neg h9, if_neg h10, if_neg h11, if_neg h12, if_neg h13, if_pos h14], h14 ▸ rfl⟩
  by_cases h15 : q = (101 : Int32)
  · exact Or.inr ⟨15, by decide, by rw [if_neg h0, if_neg h1, if_neg h2, if_neg h3, if_neg h4, if_neg h5, if_neg h6, if_neg h7, if_neg h8, if_neg h9, if_neg h10, if_neg h11, if_neg h12, if_neg h13, if_neg h14, if_pos h15], h15 ▸ rfl⟩
  by_cases h16 : q = (-11 : Int32)
  · exact Or.inr ⟨16, by decide, by rw [if_neg h0, if_neg h1, if_neg h2, if_neg h3, if_neg h4, if_neg h5, if_neg h6, if_neg h7, if_neg h8, if_neg h9, if_neg h10, if_neg h11, if_neg h12, if_neg h13, if_neg h14, if_neg h15, if_pos h16], h16 ▸ rfl⟩
  refine Or.inl ⟨by rw [if_neg h0, if_neg h1, if_neg h2, if_neg h3, if_neg h4, if_neg h5, if_neg h6, if_neg h7, if_neg h8, if_neg h9, if_neg h10, if_neg h11, if_neg h12, if_neg h13, if_neg h14, if_neg h15, if_neg h16], fun k hk => ?_⟩
  match k, hk with
  | 0, _ => exact fun w => h0 w.symm
  | 1, _ => exact fun w => h1 w.symm
  | 2, _ => exact fun w => h2 w.symm
  | 3, _ => exact fun w => h3 w.symm
  | 4, _ => exact fun w => h4 w.symm
  | 5, _ => exact fun w => h5 w.symm
  | 6, _ => exact fun w => h6 w.symm
  | 7, _ => exact fun w => h7 w.symm
  | 8, _ => exact fun w => h8 w.symm
  | 9, _ => exact fun w => h9 w.symm
  | 10, _ => exact fun w => h10 w.symm
  | 11, _ => exact fun w => h11 w.symm
  | 12, _ => exact fun w => h12 w.symm
  | 13, _ => exact fun w => h13 w.symm
  | 14, _ => exact fun w => h14 w.symm
  | 15, _ => exact fun w => h15 w.symm
  | 16, _ => exact fun w => h16 w.symm
  | n + 17, hk => exact absurd hk (by omega)
theorem d1_0 : decode prog_72_method_4_code 0 = .ok (.aconst_null, 1) := by decide +kernel
theorem d1_1 : decode prog_72_method_4_code 1 = .ok (.astore_n 1, 1) := by decide +kernel
theorem d1_2 : decode prog_72_method_4_code 2 = .ok (.invokestatic 78, 3) := by decide +kernel
theorem d1_5 : decode prog_72_method_4_code 5 = .ok (.astore_n 2, 1) := by decide +kernel
theorem d1_6 : decode prog_72_method_4_code 6 = .ok (.aload_n 2, 1) := by decide +kernel
theorem d1_7 : decode prog_72_method_4_code 7 = .ok (.arraylength, 1) := by decide +kernel
theorem d1_8 : decode prog_72_method_4_code 8 = .ok (.istore_n 3, 1) := by decide +kernel
theorem d1_9 : decode prog_72_method_4_code 9 = .ok (.iconst 0, 1) := by decide +kernel
theorem d1_10 : decode prog_72_method_4_code 10 = .ok (.istore 4, 2) := by decide +kernel
theorem d1_12 : decode prog_72_method_4_code 12 = .ok (.iload 4, 2) := by decide +kernel
theorem d1_14 : decode prog_72_method_4_code 14 = .ok (.iload_n 3, 1) := by decide +kernel
theorem d1_15 : decode prog_72_method_4_code 15 = .ok (.if_icmp .ge 30, 3) := by decide +kernel
theorem d1_18 : decode prog_72_method_4_code 18 = .ok (.aload_n 2, 1) := by decide +kernel
theorem d1_19 : decode prog_72_method_4_code 19 = .ok (.iload 4, 2) := by decide +kernel
theorem d1_21 : decode prog_72_method_4_code 21 = .ok (.aaload, 1) := by decide +kernel
theorem d1_22 : decode prog_72_method_4_code 22 = .ok (.astore 5, 2) := by decide +kernel
theorem d1_24 : decode prog_72_method_4_code 24 = .ok (.aload 5, 2) := by decide +kernel
theorem d1_26 : decode prog_72_method_4_code 26 = .ok (.getfield 74, 3) := by decide +kernel
theorem d1_29 : decode prog_72_method_4_code 29 = .ok (.iload_n 0, 1) := by decide +kernel
theorem d1_30 : decode prog_72_method_4_code 30 = .ok (.if_icmp .ne 9, 3) := by decide +kernel
theorem d1_33 : decode prog_72_method_4_code 33 = .ok (.aload 5, 2) := by decide +kernel
theorem d1_35 : decode prog_72_method_4_code 35 = .ok (.astore_n 1, 1) := by decide +kernel
theorem d1_36 : decode prog_72_method_4_code 36 = .ok (.goto 9, 3) := by decide +kernel
theorem d1_39 : decode prog_72_method_4_code 39 = .ok (.iinc 4 1, 3) := by decide +kernel
theorem d1_42 : decode prog_72_method_4_code 42 = .ok (.goto (-30), 3) := by decide +kernel
theorem d1_45 : decode prog_72_method_4_code 45 = .ok (.aload_n 1, 1) := by decide +kernel
theorem d1_46 : decode prog_72_method_4_code 46 = .ok (.areturn, 1) := by decide +kernel
theorem pn_1 : plainFor (⟨"com/example/total_order/totalorder/protocol/OpCode", "of", "(I)Lcom/example/total_order/totalorder/protocol/OpCode;"⟩ : MethodName) = true := by first | exact plainFor_of_name (by first | (simp [plainName, overriddenIn]; done) | decide +kernel) | decide +kernel
set_option maxRecDepth 65536 in
set_option maxHeartbeats 40000000 in
theorem lp_of {p : Program} {e : Env} {R : Room} {s : State} {m : MethodId} {args : Array Value} {below : List Frame} {meth : Method} {c : Code} {locs : List Loc} {cells slots : Nat} {D : State → Outcome → Prop} (l : Launch) (Z : State) (a0 : Array Value) (hw : ∀ d ∈ tables_1, d.before a0 Z = true) (q0 : Int32) (x : Nat → Addr) (r : Addr) (h1 : Heap) (A : OwA Z h1 r (.object "com/example/total_order/totalorder/protocol/OpCode") 17 (fun k => .ref (x k))) (VX : ∀ k, k < 17 → Fld Z h1 (x k) "com/example/total_order/totalorder/protocol/OpCode" "value" "I" (.int (own_v k)))
    (C : OwC p Z s m meth c "com/example/total_order/totalorder/protocol/OpCode" "of" prog_72_method_4_code 6 (some (.object "com/example/total_order/totalorder/protocol/OpCode")))
    (kN : (∀ j, j < 17 → own_v j ≠ q0) → ∀ T x5, Jvm.RoadKit.One x5 → Stand p l e R s m args below meth c T locs cells slots → T.heap = h1 → OwF p e below D T (mkF m 45 #[.val (.int q0), .val .null, .val (.ref r), .val (.int (17 : Int32)), .val (.int (Int32.ofNat 17)), x5] []))
    (kF : ∀ i, i < 17 → own_v i = q0 → ∀ T, Stand p l e R s m args below meth c T locs cells slots → T.heap = h1 → OwF p e below D T (mkF m 45 #[.val (.int q0), .val (.ref (x i)), .val (.ref r), .val (.int (17 : Int32)), .val (.int (Int32.ofNat i)), .val (.ref (x i))] [])) :
    ∀ k i, i + k = 17 → (∀ j, j < i → own_v j ≠ q0) → ∀ T x5, Jvm.RoadKit.One x5 → Stand p l e R s m args below meth c T locs cells slots → T.heap = h1 → OwF p e below D T (mkF m 12 #[.val (.int q0), .val .null, .val (.ref r), .val (.int (17 : Int32)), .val (.int (Int32.ofNat i)), x5] []) := by
  intro k
  induction k with
  | zero =>
    intro i hi hj Tz x5 o5 Xz ez
    obtain rfl : i = 17 := by omega
    refine ow_iload C Xz d1_12 rfl (pc' := 14) rfl ?_
    refine ow_iloadN C Xz d1_14 rfl (pc' := 15) rfl ?_
    refine ow_icmp_ge C Xz d1_15 (pcT := 45) (pc' := 18) (by decide) (by decide) rfl (fun _ => ?_) (fun bq => absurd bq (by decide))
    exact kN hj Tz x5 o5 Xz ez
  | succ k ih =>
    intro i hi hj Tz x5 o5 Xz ez
    have hi17 : i < 17 := by omega
    refine ow_iload C Xz d1_12 rfl (pc' := 14) rfl ?_
    refine ow_iloadN C Xz d1_14 rfl (pc' := 15) rfl ?_
    refine ow_icmp_ge C Xz d1_15 (pcT := 45) (pc' := 18) (by decide) (by decide) rfl (fun bq => absurd (own_lt17 hi17) bq) (fun _ => ?_)
    refine ow_aloadN C Xz d1_18 rfl rfl (pc' := 19) rfl ?_
    refine ow_iload C Xz d1_19 rfl (pc' := 21) rfl ?_
    refine ow_aaload C Xz ez A rfl (own_ix0 (by omega)) (own_ixN (by omega)) hi17 (v := (.ref (x i))) rfl d1_21 (pc' := 22) rfl ?_
    refine ow_astore C Xz d1_22 rfl (Ls' := #[.val (.int q0), .val .null, .val (.ref r), .val (.int (17 : Int32)), .val (.int (Int32.ofNat i)), .val (.ref (x i))]) (XS.store1 rfl o5 rfl) (pc' := 24) rfl ?_
    refine ow_aload C Xz d1_24 rfl rfl (pc' := 26) rfl ?_
    refine ow_getF C Xz ez (hw _ (List.mem_of_getElem? (i := 36) rfl)) (VX i hi17) d1_26 (pc' := 29) rfl (fun T18 X18 e18 => ?_)
    refine ow_iloadN C X18 d1_29 rfl (pc' := 30) rfl ?_
    refine ow_icmp_ne C X18 d1_30 (pcT := 39) (pc' := 33) (by decide) (by decide) rfl (fun b30 => ?_) (fun b30 => ?_)
    · refine ow_iinc (1 : Int32) C X18 d1_39 (by decide) rfl (Ls' := #[.val (.int q0), .val .null, .val (.ref r), .val (.int (17 : Int32)), .val (.int ((Int32.ofNat i) + (1 : Int32))), .val (.ref (x i))]) rfl (pc' := 42) rfl ?_
      rw [own_inc i]
      refine ow_goto C X18 d1_42 (pcT := 12) (by decide) (by decide) ?_
      exact ih (i + 1) (by omega) (fun j hj2 => by rcases Nat.lt_or_eq_of_le (Nat.le_of_lt_succ hj2) with w | w; exact hj j w; subst w; exact b30) T18 (.val (.ref (x i))) (Or.inr ⟨_, rfl, rfl⟩) X18 e18
    · refine ow_aload C X18 d1_33 rfl rfl (pc' := 35) rfl ?_
      refine ow_astoreN C X18 d1_35 rfl (Ls' := #[.val (.int q0), .val (.ref (x i)), .val (.ref r), .val (.int (17 : Int32)), .val (.int (Int32.ofNat i)), .val (.ref (x i))]) rfl (pc' := 36) rfl ?_
      refine ow_goto C X18 d1_36 (pcT := 45) (by decide) (by decide) ?_
      exact kF i hi17 b30 T18 X18 e18
theorem own_none {x : Nat → Addr} {q : Int32} {w : Value} (hn : ∀ j, j < 17 → own_v j ≠ q) (hw : own_exp x q = w) : Value.null = w := by
  rcases own_exp_cases x q with h | ⟨k, hk, h, hv⟩
  · exact h.1.symm.trans hw
  · exact absurd hv (hn k hk)
theorem own_some {x : Nat → Addr} {q : Int32} {w : Value} {i : Nat} (hi : i < 17) (hv : own_v i = q) (hw : own_exp x q = w) : Value.ref (x i) = w := by
  rcases own_exp_cases x q with h | ⟨k, hk, h, hv'⟩
  · exact absurd hv (h.2 i hi)
  · obtain rfl := own_vinj i hi k hk (hv.trans hv'.symm)
    exact h.symm.trans hw
set_option maxRecDepth 65536 in
set_option maxHeartbeats 40000000 in
theorem rm_of (l : Launch) (Z : State) (a0 : Array Value) (hw : ∀ d ∈ tables_1, d.before a0 Z = true) (q0 : Int32) (w : Value) (av : Addr) (cl : Cell) (x : Nat → Addr) (B : OwOps Z av cl x) (hwv : own_exp x q0 = w) (h0 : Heap) (n0 : Nat) (O0 : Old Z n0 h0) :
    OwCon l (⟨"com/example/total_order/totalorder/protocol/OpCode", "of", "(I)Lcom/example/total_order/totalorder/protocol/OpCode;"⟩ : MethodName) prog_72_method_4_code 6 (some (.object "com/example/total_order/totalorder/protocol/OpCode")) ({ frames := 2, cells := 1, slots := 17, locals := 25 } : Room) Z #[(.int q0)] h0 (fun v h L => v = some w ∧ Fr n0 L ∧ Keep h0 h []) := by
  refine OwCon.of pn_1 (Ls := #[.val (.int q0), .unset, .unset, .unset, .unset, .unset]) (fun m => by first | (simp [entryFrame, mkF, argsToLocals, Value.category]; done) | rfl) ?_
  intro p e s m below meth c s₁ C X0 e0
  refine ow_aconstNull C X0 d1_0 (pc' := 1) rfl ?_
  refine ow_astoreN C X0 d1_1 rfl (Ls' := #[.val (.int q0), .val .null, .unset, .unset, .unset, .unset]) rfl (pc' := 2) rfl ?_
  refine ow_callS C X0 e0 (hw _ (List.mem_of_getElem? (i := 4) rfl)) (hw _ (List.mem_of_getElem? (i := 5) rfl)) (hw _ (List.mem_of_getElem? (i := 2) rfl)) (hw _ (List.mem_of_getElem? (i := 6) rfl)) (by decide) (rm_vals l Z a0 hw av cl x B h0 n0 O0) pd_0 rfl (argsL := []) (rest := []) rfl rfl d1_2 (Nat.le_of_ble_eq_true rfl) (Nat.le_of_ble_eq_true rfl) (Nat.le_of_ble_eq_true rfl) (Nat.le_of_ble_eq_true rfl) (pc' := 5) rfl (fun T19 v19 L19 X19 Q19 => ?_)
  obtain ⟨r19, rfl, rfl, Ex19, A19⟩ := Q19
  have O19 := O0.ext Ex19
  show OwF p e below _ T19 (mkF m 5 #[.val (.int q0), .val .null, .unset, .unset, .unset, .unset] [(.ref r19)])
  refine ow_astoreN C X19 d1_5 rfl (Ls' := #[.val (.int q0), .val .null, .val (.ref r19), .unset, .unset, .unset]) rfl (pc' := 6) rfl ?_
  refine ow_aloadN C X19 d1_6 rfl rfl (pc' := 7) rfl ?_
  refine ow_arraylength C X19 rfl A19 (z := (17 : Int32)) (by decide) d1_7 (pc' := 8) rfl ?_
  refine ow_istoreN C X19 d1_8 (Ls' := #[.val (.int q0), .val .null, .val (.ref r19), .val (.int (17 : Int32)), .unset, .unset]) rfl (pc' := 9) rfl ?_
  refine ow_iconst (0 : Int32) C X19 d1_9 (by decide) (pc' := 10) rfl ?_
  refine ow_istore C X19 d1_10 (Ls' := #[.val (.int q0), .val .null, .val (.ref r19), .val (.int (17 : Int32)), .val (.int (0 : Int32)), .unset]) rfl (pc' := 12) rfl ?_
  have VX : ∀ k, k < 17 → Fld Z T19.heap (x k) "com/example/total_order/totalorder/protocol/OpCode" "value" "I" (.int (own_v k)) := fun k hk => (B.2.2.2.2.2.2.2.1 k hk).ext O19.2
  refine lp_of l Z a0 hw q0 x r19 _ A19 VX C ?_ ?_ 17 0 rfl (fun j hj => absurd hj (Nat.not_lt_zero j)) T19 _ One.u X19 rfl
  · intro hn Tz x5 o5 Xz ez
    refine ow_aloadN C Xz d1_45 rfl rfl (pc' := 46) rfl ?_
    refine ow_retA C Xz d1_46 (Nat.le_of_ble_eq_true rfl) (Nat.le_of_ble_eq_true rfl) rfl rfl ?_
    rw [ez]
    exact ⟨congrArg some (own_none hn hwv), (Fr.app (Fr.nil n0) (Fr.nil n0)), (Keep.refl h0 []).ext Ex19⟩
  · intro i hi hv Tz Xz ez
    refine ow_aloadN C Xz d1_45 rfl rfl (pc' := 46) rfl ?_
    refine ow_retA C Xz d1_46 (Nat.le_of_ble_eq_true rfl) (Nat.le_of_ble_eq_true rfl) rfl rfl ?_
    rw [ez]
    exact ⟨congrArg some (own_some hi hv hwv), (Fr.app (Fr.nil n0) (Fr.nil n0)), (Keep.refl h0 []).ext Ex19⟩
theorem d4_0 : decode prog_72_method_5_code 0 = .ok (.aload_n 0, 1) := by decide +kernel
theorem d4_1 : decode prog_72_method_5_code 1 = .ok (.getfield 74, 3) := by decide +kernel
theorem d4_4 : decode prog_72_method_5_code 4 = .ok (.ireturn, 1) := by decide +kernel
theorem pn_4 : plainFor (⟨"com/example/total_order/totalorder/protocol/OpCode", "value", "()I"⟩ : MethodName) = true := by first | exact plainFor_of_name (by first | (simp [plainName, overriddenIn]; done) | decide +kernel) | decide +kernel
theorem pd_2 : parseMethodDescriptor "()I" = some ⟨[], (some .int)⟩ := by decide +kernel
def own_value (u_value_o0 : Int32) : Int32 := u_value_o0
set_option maxRecDepth 65536 in
set_option maxHeartbeats 40000000 in
theorem rm_value (l : Launch) (Z : State) (a0 : Array Value) (hw : ∀ d ∈ tables_1, d.before a0 Z = true) (o0 : Addr) (u_value_o0 : Int32) (h0 : Heap)  (F_value_o0 : Fld Z h0 o0 "com/example/total_order/totalorder/protocol/OpCode" "value" "I" (.int u_value_o0)) :
    OwCon l (⟨"com/example/total_order/totalorder/protocol/OpCode", "value", "()I"⟩ : MethodName) prog_72_method_5_code 1 (some .int) ({ frames := 0, cells := 0, slots := 0, locals := 0 } : Room) Z #[(.ref o0)] h0 (OwP (some (.int (own_value u_value_o0))) h0) := by
  refine OwCon.of pn_4 (Ls := #[.val (.ref o0)]) (fun m => by first | (simp [entryFrame, mkF, argsToLocals, Value.category]; done) | rfl) ?_
  intro p e s m below meth c s₁ C X0 e0
  refine ow_aloadN C X0 d4_0 rfl rfl (pc' := 1) rfl ?_
  refine ow_getF C X0 e0 (hw _ (List.mem_of_getElem? (i := 36) rfl)) F_value_o0 d4_1 (pc' := 4) rfl (fun T20 X20 e20 => ?_)
  exact ow_retI C X20 d4_4 (Nat.le_of_ble_eq_true rfl) (Nat.le_of_ble_eq_true rfl) ⟨(show some (Value.int u_value_o0) = some (Value.int (own_value u_value_o0)) from congrArg (fun z => some (Value.int z)) rfl), rfl, e20⟩
theorem pn_0 : plainFor (⟨"com/example/total_order/totalorder/protocol/OpCodeOfPinLaw", "law", "(II)Z"⟩ : MethodName) = true := by first | exact plainFor_of_name (by first | (simp [plainName, overriddenIn]; done) | decide +kernel) | decide +kernel
theorem pd_3 : parseMethodDescriptor "(II)Z" = some ⟨[.int, .int], (some .boolean)⟩ := by decide +kernel
def own_V (q0 q1 : Int32) : Int32 := if (q0 &&& (1 : Int32)) = 0 then q1 else ((q1 &&& (127 : Int32)) - (16 : Int32))
set_option maxRecDepth 65536 in
set_option maxHeartbeats 40000000 in
theorem rm_law (l : Launch) (Z : State) (a0 : Array Value) (hw : ∀ d ∈ tables_1, d.before a0 Z = true) (q0 q1 : Int32) (h0 : Heap) (n0 : Nat) (Z0 : n0 ≤ h0.size) (av : Addr) (cl : Cell) (x : Nat → Addr) (B : OwOps Z av cl x) (O0 : Old Z n0 h0) :
    OwCon l (⟨"com/example/total_order/totalorder/protocol/OpCodeOfPinLaw", "law", "(II)Z"⟩ : MethodName) code maxLocals ret room_1 Z #[(.int q0), (.int q1)] h0 (fun v h L => v = some (.int 1) ∧ Fr n0 L) := by
  refine OwCon.of pn_0 (Ls := #[.val (.int q0), .val (.int q1), .unset, .unset, .unset]) (fun m => by first | (simp [entryFrame, mkF, argsToLocals, Value.category, maxLocals]; done) | rfl) ?_
  intro p e s m below meth c s₁ C X0 e0
  refine ow_join X0 e0 (f' := (mkF m 17 #[.val (.int q0), .val (.int q1), .unset, .unset, .unset] [(.int (own_V q0 q1))])) ?_ (fun T1 X1 e1 => ?_)
  · intro D1 jk1
    refine ow_iloadN C X0 at_0 rfl (pc' := 1) rfl ?_
    refine ow_iconst (1 : Int32) C X0 at_1 (by decide) (pc' := 2) rfl ?_
    refine ow_iand C X0 at_2 (pc' := 3) rfl ?_
    refine ow_if_ne C X0 at_3 (pcT := 10) (pc' := 6) (by decide) (by decide) rfl (fun b3 => ?_) (fun b3 => ?_)
    · refine ow_iloadN C X0 at_10 rfl (pc' := 11) rfl ?_
      refine ow_bipush (127 : Int32) C X0 at_11 (by decide) (pc' := 13) rfl ?_
      refine ow_iand C X0 at_13 (pc' := 14) rfl ?_
      refine ow_bipush (16 : Int32) C X0 at_14 (by decide) (pc' := 16) rfl ?_
      refine ow_isub C X0 at_16 (pc' := 17) rfl ?_
      have jq := jk1 s₁ X0 e0
      rw [show own_V q0 q1 = ((q1 &&& (127 : Int32)) - (16 : Int32)) from by unfold own_V; rw [if_neg b3]] at jq
      exact jq
    · refine ow_iloadN C X0 at_6 rfl (pc' := 7) rfl ?_
      refine ow_goto C X0 at_7 (pcT := 17) (by decide) (by decide) ?_
      have jq := jk1 s₁ X0 e0
      rw [show own_V q0 q1 = q1 from by unfold own_V; rw [if_pos b3]] at jq
      exact jq
  rcases own_exp_cases x (own_V q0 q1) with ⟨hE, -⟩ | ⟨k, hk, hE, hv⟩
  · refine ow_istoreN C X1 at_17 (Ls' := #[.val (.int q0), .val (.int q1), .val (.int (own_V q0 q1)), .unset, .unset]) rfl (pc' := 18) rfl ?_
    refine ow_iloadN C X1 at_18 rfl (pc' := 19) rfl ?_
    refine ow_callS C X1 e1 (hw _ (List.mem_of_getElem? (i := 0) rfl)) (hw _ (List.mem_of_getElem? (i := 1) rfl)) (hw _ (List.mem_of_getElem? (i := 2) rfl)) (hw _ (List.mem_of_getElem? (i := 3) rfl)) (by decide) (rm_of l Z a0 hw (own_V q0 q1) _ av cl x B hE h0 n0 O0) pd_1 rfl (argsL := [(.int (own_V q0 q1))]) (rest := []) rfl rfl at_19 (Nat.le_of_ble_eq_true rfl) (Nat.le_of_ble_eq_true rfl) (Nat.le_of_ble_eq_true rfl) (Nat.le_of_ble_eq_true rfl) (pc' := 22) rfl (fun T21 v21 L21 X21 Q21 => ?_)
    obtain ⟨rfl, N21, K21⟩ := Q21
    have Nn21 := Fr.app (Fr.nil n0) N21
    have O21 := O0.keep K21 own_all0
    show OwF p e below _ T21 (mkF m 22 #[.val (.int q0), .val (.int q1), .val (.int (own_V q0 q1)), .unset, .unset] [.null])
    refine ow_astoreN C X21 at_22 rfl (Ls' := #[.val (.int q0), .val (.int q1), .val (.int (own_V q0 q1)), .val .null, .unset]) rfl (pc' := 23) rfl ?_
    refine ow_iloadN C X21 at_23 rfl (pc' := 24) rfl ?_
    refine ow_callS C X21 rfl (hw _ (List.mem_of_getElem? (i := 38) rfl)) (hw _ (List.mem_of_getElem? (i := 39) rfl)) (hw _ (List.mem_of_getElem? (i := 40) rfl)) (hw _ (List.mem_of_getElem? (i := 41) rfl)) (by decide) (rm_exp l Z a0 hw (own_V q0 q1) av cl x B T21.heap n0 O21) pd_1 rfl (argsL := [(.int (own_V q0 q1))]) (rest := []) rfl rfl at_24 (Nat.le_of_ble_eq_true rfl) (Nat.le_of_ble_eq_true rfl) (Nat.le_of_ble_eq_true rfl) (Nat.le_of_ble_eq_true rfl) (pc' := 27) rfl (fun T22 v22 L22 X22 Q22 => ?_)
    obtain ⟨rfl, rfl, e22⟩ := Q22
    rw [List.append_nil] at X22
    rw [hE]
    show OwF p e below _ T22 (mkF m 27 #[.val (.int q0), .val (.int q1), .val (.int (own_V q0 q1)), .val .null, .unset] [.null])
    refine ow_astore C X22 at_27 rfl (Ls' := #[.val (.int q0), .val (.int q1), .val (.int (own_V q0 q1)), .val .null, .val .null]) rfl (pc' := 29) rfl ?_
    refine ow_aloadN C X22 at_29 rfl rfl (pc' := 30) rfl ?_
    refine ow_aload C X22 at_30 rfl rfl (pc' := 32) rfl ?_
    refine ow_acmpY C X22 at_32 rfl rfl (XT.aa_eq_t rfl) (pcT := 37) (by decide) (by decide) ?_
    refine ow_aloadN C X22 at_37 rfl rfl (pc' := 38) rfl ?_
    refine ow_ifnull_n C X22 at_38 (pcT := 51) (by decide) (by decide) ?_
    refine ow_iconst (1 : Int32) C X22 at_51 (by decide) (pc' := 52) rfl ?_
    exact ow_retZ C X22 at_52 (Nat.le_of_ble_eq_true rfl) (Nat.le_of_ble_eq_true rfl) (Or.inr rfl) ⟨rfl, Nn21⟩
  · have hv2 : own_value (own_v k) = own_V q0 q1 := hv
    refine ow_istoreN C X1 at_17 (Ls' := #[.val (.int q0), .val (.int q1), .val (.int (own_V q0 q1)), .unset, .unset]) rfl (pc' := 18) rfl ?_
    refine ow_iloadN C X1 at_18 rfl (pc' := 19) rfl ?_
    refine ow_callS C X1 e1 (hw _ (List.mem_of_getElem? (i := 0) rfl)) (hw _ (List.mem_of_getElem? (i := 1) rfl)) (hw _ (List.mem_of_getElem? (i := 2) rfl)) (hw _ (List.mem_of_getElem? (i := 3) rfl)) (by decide) (rm_of l Z a0 hw (own_V q0 q1) _ av cl x B hE h0 n0 O0) pd_1 rfl (argsL := [(.int (own_V q0 q1))]) (rest := []) rfl rfl at_19 (Nat.le_of_ble_eq_true rfl) (Nat.le_of_ble_eq_true rfl) (Nat.le_of_ble_eq_true rfl) (Nat.le_of_ble_eq_true rfl) (pc' := 22) rfl (fun T23 v23 L23 X23 Q23 => ?_)
    obtain ⟨rfl, N23, K23⟩ := Q23
    have Nn23 := Fr.app (Fr.nil n0) N23
    have O23 := O0.keep K23 own_all0
    show OwF p e below _ T23 (mkF m 22 #[.val (.int q0), .val (.int q1), .val (.int (own_V q0 q1)), .unset, .unset] [(.ref (x k))])
    refine ow_astoreN C X23 at_22 rfl (Ls' := #[.val (.int q0), .val (.int q1), .val (.int (own_V q0 q1)), .val (.ref (x k)), .unset]) rfl (pc' := 23) rfl ?_
    refine ow_iloadN C X23 at_23 rfl (pc' := 24) rfl ?_
    refine ow_callS C X23 rfl (hw _ (List.mem_of_getElem? (i := 38) rfl)) (hw _ (List.mem_of_getElem? (i := 39) rfl)) (hw _ (List.mem_of_getElem? (i := 40) rfl)) (hw _ (List.mem_of_getElem? (i := 41) rfl)) (by decide) (rm_exp l Z a0 hw (own_V q0 q1) av cl x B T23.heap n0 O23) pd_1 rfl (argsL := [(.int (own_V q0 q1))]) (rest := []) rfl rfl at_24 (Nat.le_of_ble_eq_true rfl) (Nat.le_of_ble_eq_true rfl) (Nat.le_of_ble_eq_true rfl) (Nat.le_of_ble_eq_true rfl) (pc' := 27) rfl (fun T24 v24 L24 X24 Q24 => ?_)
    obtain ⟨rfl, rfl, e24⟩ := Q24
    rw [List.append_nil] at X24
    rw [hE]
    show OwF p e below _ T24 (mkF m 27 #[.val (.int q0), .val (.int q1), .val (.int (own_V q0 q1)), .val (.ref (x k)), .unset] [(.ref (x k))])
    refine ow_astore C X24 at_27 rfl (Ls' := #[.val (.int q0), .val (.int q1), .val (.int (own_V q0 q1)), .val (.ref (x k)), .val (.ref (x k))]) rfl (pc' := 29) rfl ?_
    refine ow_aloadN C X24 at_29 rfl rfl (pc' := 30) rfl ?_
    refine ow_aload C X24 at_30 rfl rfl (pc' := 32) rfl ?_
    refine ow_acmpY C X24 at_32 rfl rfl (XT.aa_eq_t rfl) (pcT := 37) (by decide) (by decide) ?_
    refine ow_aloadN C X24 at_37 rfl rfl (pc' := 38) rfl ?_
    refine ow_ifnull_r C X24 at_38 (pc' := 41) rfl ?_
    refine ow_aloadN C X24 at_41 rfl rfl (pc' := 42) rfl ?_
    refine ow_callVP C X24 e24 (hw _ (List.mem_of_getElem? (i := 43) rfl)) (hw _ (List.mem_of_getElem? (i := 44) rfl)) (hw _ (List.mem_of_getElem? (i := 46) rfl)) rfl (hw _ (List.mem_of_getElem? (i := 45) rfl)) (hw _ (List.mem_of_getElem? (i := 2) rfl)) (hw _ (List.mem_of_getElem? (i := 47) rfl)) (by decide) ((B.2.2.2.2.2.2.1 k hk).ext O23.2) (rm_value l Z a0 hw (x k) (own_v k) T23.heap ((B.2.2.2.2.2.2.2.1 k hk).ext O23.2)) ⟨rfl, rfl⟩ pd_2 rfl (argsL := []) (rest := []) rfl rfl at_42 (Nat.le_of_ble_eq_true rfl) (Nat.le_of_ble_eq_true rfl) (Nat.le_of_ble_eq_true rfl) (Nat.le_of_ble_eq_true rfl) (pc' := 45) rfl (fun T25 X25 e25 => ?_)
    refine ow_iloadN C X25 at_45 rfl (pc' := 46) rfl ?_
    refine ow_icmp_eq C X25 at_46 (pcT := 51) (pc' := 49) (by decide) (by decide) rfl (fun _ => ?_) (fun bq => absurd hv2 bq)
    refine ow_iconst (1 : Int32) C X25 at_51 (by decide) (pc' := 52) rfl ?_
    exact ow_retZ C X25 at_52 (Nat.le_of_ble_eq_true rfl) (Nat.le_of_ble_eq_true rfl) (Or.inr rfl) ⟨rfl, Nn23⟩
theorem own_len {t : Term} {args : Array Value} {s : State} {a : Addr} {cl : Cell} {z : Int32} (ev : t.eval args s none [] s = some (.ref a)) (ha : s.arrayAt? a = some cl) (h : (Term.length t).eval args s none [] s = some (.int z)) : cl.slots.size < 2 ^ 31 ∧ cl.slots.size.toInt32 = z := by
  by_cases hn : cl.slots.size < 2147483648
  · rw [len_f ev ha hn] at h; cases h; exact ⟨hn, rfl⟩
  · exfalso; simp [Term.eval, ev, ha, hn] at h
theorem own_el {t j u : Term} {args : Array Value} {s : State} {a x : Addr} {cl : Cell} {z : Int32} (ev : t.eval args s none [] s = some (.ref a)) (eu : u.eval args s none [] s = some (.ref x)) (ej : j.eval args s none [] s = some (.int z)) (hc : s.heap[a]? = some cl) (h : (Jvm.Cond.eq (.elem t j) u).value args s none s [] = some true) : cl.slots[z.toNatClampNeg]? = some (.ref x) := by
  obtain ⟨v, w, e1, e2, k1, k2⟩ := cmp_v (Or.inl h)
  cases eu.symm.trans e2
  have hr : v.isRef = true := by cases v <;> simp [Kin, Value.isRef] at k1 k2 ⊢
  have := gotT (eq_R e1 e2 hr rfl) h
  subst this
  exact (elem_in e1 ev ej hc).2
set_option maxRecDepth 65536 in
set_option maxHeartbeats 40000000 in
theorem comes_1 {Post : Tables → Env → Array Value → State → Outcome → State → Prop} (hpost : ∀ tb e args s v u, (limb_1_1.after args s (.returned v) u = true ∧ limb_1_2.after args s (.returned v) u = true ∧ True) → FrameEnd s (.returned v) u (Jvm.fieldLocs frame_1_writes args s ++ Jvm.arrayLocs frame_1_arrays args s ++ Jvm.staticLocs frame_1_statics s) 16 128 → Post tb e args s (.returned v) u) :
    ArmFor flags0 classFile x code maxLocals ret World_1 tables_1 room_1 Calls_1 rest_1 Pre_1 Post := by
  intro l hfl _ _ p e ha hc hk s m args below hf hA hF happ hP
  obtain ⟨hcalls, hrest, hpre⟩ := hP
  obtain ⟨-, -, -, hnamed, -, -, -, hat⟩ := (Spec.applies_iff hf).mp happ
  obtain ⟨hg, hn⟩ := and_e (Cond.before_iff.mp (show (Jvm.Cond.and given_1 narrow_1).before args s = true from hpre))
  obtain ⟨h1, hg0⟩ := and_e hg
  obtain ⟨ha0, hg1⟩ := and_e hg0
  obtain ⟨w0, w1, rfl⟩ : ∃ w0 w1 : Value, args = #[w0, w1] := by
    have hs : args.size = 2 := by simpa [Cond.value, given_1] using h1
    obtain ⟨L⟩ := args
    match L, hs with
    | [w0, w1], _ => exact ⟨w0, w1, rfl⟩
  have hw := fun d (hd : d ∈ tables_1) => atoms_spec (ws := Jvm.Cond.code x code maxLocals ret :: tables_1) hat d (List.mem_cons_of_mem _ hd)
  obtain ⟨q0, ev0⟩ := is_v ha0
  obtain rfl : w0 = (.int q0) := Option.some.inj ev0
  obtain ⟨q1, ev1⟩ := is_v hg1
  obtain rfl : w1 = (.int q1) := Option.some.inj ev1
  have hn0r := hn
  obtain ⟨hn0, hn1r⟩ := and_e hn0r
  obtain ⟨hn1, hn2r⟩ := and_e hn1r
  obtain ⟨hn2, hn3r⟩ := and_e hn2r
  obtain ⟨hn3, hn4r⟩ := and_e hn3r
  obtain ⟨hn4, hn5r⟩ := and_e hn4r
  obtain ⟨hn5, hn6r⟩ := and_e hn5r
  obtain ⟨hn6, hn7r⟩ := and_e hn6r
  obtain ⟨hn7, hn8r⟩ := and_e hn7r
  obtain ⟨hn8, hn9r⟩ := and_e hn8r
  obtain ⟨hn9, hn10r⟩ := and_e hn9r
  obtain ⟨hn10, hn11r⟩ := and_e hn10r
  obtain ⟨hn11, hn12r⟩ := and_e hn11r
  obtain ⟨hn12, hn13r⟩ := and_e hn12r
  obtain ⟨hn13, hn14r⟩ := and_e hn13r
  obtain ⟨hn14, hn15r⟩ := and_e hn14r
  obtain ⟨hn15, hn16r⟩ := and_e hn15r
  obtain ⟨hn16, hn17r⟩ := and_e hn16r
  obtain ⟨hn17, hn18r⟩ := and_e hn17r
  obtain ⟨hn18, hn19r⟩ := and_e hn18r
  obtain ⟨hn19, hn20r⟩ := and_e hn19r
  obtain ⟨hn20, hn21r⟩ := and_e hn20r
  obtain ⟨hn21, hn22r⟩ := and_e hn21r
  obtain ⟨hn22, hn23r⟩ := and_e hn22r
  obtain ⟨hn23, hn24r⟩ := and_e hn23r
  obtain ⟨hn24, hn25r⟩ := and_e hn24r
  obtain ⟨hn25, hn26r⟩ := and_e hn25r
  obtain ⟨hn26, hn27r⟩ := and_e hn26r
  obtain ⟨hn27, hn28r⟩ := and_e hn27r
  obtain ⟨hn28, hn29r⟩ := and_e hn28r
  obtain ⟨hn29, hn30r⟩ := and_e hn29r
  obtain ⟨hn30, hn31r⟩ := and_e hn30r
  obtain ⟨hn31, hn32r⟩ := and_e hn31r
  obtain ⟨hn32, hn33r⟩ := and_e hn32r
  obtain ⟨hn33, hn34r⟩ := and_e hn33r
  obtain ⟨hn34, hn35r⟩ := and_e hn34r
  obtain ⟨hn35, hn36r⟩ := and_e hn35r
  obtain ⟨hn36, hn37r⟩ := and_e hn36r
  obtain ⟨hn37, hn38r⟩ := and_e hn37r
  obtain ⟨hn38, hn39r⟩ := and_e hn38r
  obtain ⟨hn39, hn40r⟩ := and_e hn39r
  obtain ⟨hn40, hn41r⟩ := and_e hn40r
  obtain ⟨hn41, hn42r⟩ := and_e hn41r
  obtain ⟨hn42, hn43r⟩ := and_e hn42r
  obtain ⟨hn43, hn44r⟩ := and_e hn43r
  obtain ⟨hn44, hn45r⟩ := and_e hn44r
  obtain ⟨hn45, hn46r⟩ := and_e hn45r
  obtain ⟨hn46, hn47r⟩ := and_e hn46r
  obtain ⟨hn47, hn48r⟩ := and_e hn47r
  obtain ⟨hn48, hn49r⟩ := and_e hn48r
  obtain ⟨hn49, hn50r⟩ := and_e hn49r
  obtain ⟨hn50, hn51r⟩ := and_e hn50r
  obtain ⟨hn51, hn52r⟩ := and_e hn51r
  obtain ⟨hn52, hn53r⟩ := and_e hn52r
  have hn53 := hn53r
  have hfit : Fit s := fun {y c} hc i hi => by
    obtain ⟨ha, rfl⟩ := Array.getElem?_eq_some_iff.mp hc
    have q := List.all_eq_true.mp ((Array.all_eq_true_iff_forall_mem.mp hF) _ (Array.getElem_mem ha)) i (List.mem_range.mpr hi)
    simpa [Array.getElem?_eq_getElem hi] using q
  obtain ⟨av, eva⟩ := exa_v hn1
  obtain ⟨cl, AC⟩ := Arr.start eva hn0
  have hlen := own_len eva (AC.fin (Vm.Alike.refl _)) (eqv_i (Term.int_eval (17)) hn2)
  have hsz : cl.slots.size = 17 := by have h1 := len_toInt hlen.1; rw [hlen.2] at h1; have h2 : (17 : Int32).toInt = 17 := rfl; omega
  obtain ⟨x0, ev_0⟩ := exa_v hn3
  obtain ⟨x1, ev_1⟩ := exa_v hn5
  obtain ⟨x2, ev_2⟩ := exa_v hn7
  obtain ⟨x3, ev_3⟩ := exa_v hn9
  obtain ⟨x4, ev_4⟩ := exa_v hn11
  obtain ⟨x5, ev_5⟩ := exa_v hn13
  obtain ⟨x6, ev_6⟩ := exa_v hn15
  obtain ⟨x7, ev_7⟩ := exa_v hn17
  obtain ⟨x8, ev_8⟩ := exa_v hn19
  obtain ⟨x9, ev_9⟩ := exa_v hn21
  obtain ⟨x10, ev_10⟩ := exa_v hn23
  obtain ⟨x11, ev_11⟩ := exa_v hn25
  obtain ⟨x12, ev_12⟩ := exa_v hn27
  obtain ⟨x13, ev_13⟩ := exa_v hn29
  obtain ⟨x14, ev_14⟩ := exa_v hn31
  obtain ⟨x15, ev_15⟩ := exa_v hn33
  obtain ⟨x16, ev_16⟩ := exa_v hn35
  have B : OwOps s av cl (fun k => [x0, x1, x2, x3, x4, x5, x6, x7, x8, x9, x10, x11, x12, x13, x14, x15, x16].getD k 0) := by
    refine ⟨Sta.start eva (Or.inr ⟨(hw _ (List.mem_of_getElem? (i := 2) rfl)), (hw _ (List.mem_of_getElem? (i := 8) rfl))⟩), AC, Exa.start eva hn1, FitC.start hfit AC, hsz, ?_, ?_, ?_, ?_⟩
    · intro k hk
      match k, hk with
      | 0, _ => exact own_el eva ev_0 (Term.int_eval (0)) AC.1 hn4
      | 1, _ => exact own_el eva ev_1 (Term.int_eval (1)) AC.1 hn6
      | 2, _ => exact own_el eva ev_2 (Term.int_eval (2)) AC.1 hn8
      | 3, _ => exact own_el eva ev_3 (Term.int_eval (3)) AC.1 hn10
      | 4, _ => exact own_el eva ev_4 (Term.int_eval (4)) AC.1 hn12
      | 5, _ => exact own_el eva ev_5 (Term.int_eval (5)) AC.1 hn14
      | 6, _ => exact own_el eva ev_6 (Term.int_eval (6)) AC.1 hn16
      | 7, _ => exact own_el eva ev_7 (Term.int_eval (7)) AC.1 hn18
      | 8, _ => exact own_el eva ev_8 (Term.int_eval (8)) AC.1 hn20
      | 9, _ => exact own_el eva ev_9 (Term.int_eval (9)) AC.1 hn22
      | 10, _ => exact own_el eva ev_10 (Term.int_eval (10)) AC.1 hn24
      | 11, _ => exact own_el eva ev_11 (Term.int_eval (11)) AC.1 hn26
      | 12, _ => exact own_el eva ev_12 (Term.int_eval (12)) AC.1 hn28
      | 13, _ => exact own_el eva ev_13 (Term.int_eval (13)) AC.1 hn30
      | 14, _ => exact own_el eva ev_14 (Term.int_eval (14)) AC.1 hn32
      | 15, _ => exact own_el eva ev_15 (Term.int_eval (15)) AC.1 hn34
      | 16, _ => exact own_el eva ev_16 (Term.int_eval (16)) AC.1 hn36
      | n + 17, hk => exact absurd hk (by omega)
    · intro k hk
      match k, hk with
      | 0, _ => exact Exa.start ev_0 hn3
      | 1, _ => exact Exa.start ev_1 hn5
      | 2, _ => exact Exa.start ev_2 hn7
      | 3, _ => exact Exa.start ev_3 hn9
      | 4, _ => exact Exa.start ev_4 hn11
      | 5, _ => exact Exa.start ev_5 hn13
      | 6, _ => exact Exa.start ev_6 hn15
      | 7, _ => exact Exa.start ev_7 hn17
      | 8, _ => exact Exa.start ev_8 hn19
      | 9, _ => exact Exa.start ev_9 hn21
      | 10, _ => exact Exa.start ev_10 hn23
      | 11, _ => exact Exa.start ev_11 hn25
      | 12, _ => exact Exa.start ev_12 hn27
      | 13, _ => exact Exa.start ev_13 hn29
      | 14, _ => exact Exa.start ev_14 hn31
      | 15, _ => exact Exa.start ev_15 hn33
      | 16, _ => exact Exa.start ev_16 hn35
      | n + 17, hk => exact absurd hk (by omega)
    · intro k hk
      match k, hk with
      | 0, _ => exact Fld.start ((fld_at ev_0).symm.trans (eqv_i (Term.int_eval (1)) hn37))
      | 1, _ => exact Fld.start ((fld_at ev_1).symm.trans (eqv_i (Term.int_eval (2)) hn38))
      | 2, _ => exact Fld.start ((fld_at ev_2).symm.trans (eqv_i (Term.int_eval (3)) hn39))
      | 3, _ => exact Fld.start ((fld_at ev_3).symm.trans (eqv_i (Term.int_eval (4)) hn40))
      | 4, _ => exact Fld.start ((fld_at ev_4).symm.trans (eqv_i (Term.int_eval (5)) hn41))
      | 5, _ => exact Fld.start ((fld_at ev_5).symm.trans (eqv_i (Term.int_eval (6)) hn42))
      | 6, _ => exact Fld.start ((fld_at ev_6).symm.trans (eqv_i (Term.int_eval (7)) hn43))
      | 7, _ => exact Fld.start ((fld_at ev_7).symm.trans (eqv_i (Term.int_eval (8)) hn44))
      | 8, _ => exact Fld.start ((fld_at ev_8).symm.trans (eqv_i (Term.int_eval (9)) hn45))
      | 9, _ => exact Fld.start ((fld_at ev_9).symm.trans (eqv_i (Term.int_eval (11)) hn46))
      | 10, _ => exact Fld.start ((fld_at ev_10).symm.trans (eqv_i (Term.int_eval (12)) hn47))
      | 11, _ => exact Fld.start ((fld_at ev_11).symm.trans (eqv_i (Term.int_eval (13)) hn48))
      | 12, _ => exact Fld.start ((fld_at ev_12).symm.trans (eqv_i (Term.int_eval (14)) hn49))
      | 13, _ => exact Fld.start ((fld_at ev_13).symm.trans (eqv_i (Term.int_eval (15)) hn50))
      | 14, _ => exact Fld.start ((fld_at ev_14).symm.trans (eqv_i (Term.int_eval (100)) hn51))
      | 15, _ => exact Fld.start ((fld_at ev_15).symm.trans (eqv_i (Term.int_eval (101)) hn52))
      | 16, _ => exact Fld.start ((fld_at ev_16).symm.trans (eqv_i (Term.int_eval (-11)) hn53))
      | n + 17, hk => exact absurd hk (by omega)
    · intro k hk
      match k, hk with
      | 0, _ => exact Sta.start ev_0 (Or.inr ⟨(hw _ (List.mem_of_getElem? (i := 2) rfl)), (hw _ (List.mem_of_getElem? (i := 16) rfl))⟩)
      | 1, _ => exact Sta.start ev_1 (Or.inr ⟨(hw _ (List.mem_of_getElem? (i := 2) rfl)), (hw _ (List.mem_of_getElem? (i := 17) rfl))⟩)
      | 2, _ => exact Sta.start ev_2 (Or.inr ⟨(hw _ (List.mem_of_getElem? (i := 2) rfl)), (hw _ (List.mem_of_getElem? (i := 18) rfl))⟩)
      | 3, _ => exact Sta.start ev_3 (Or.inr ⟨(hw _ (List.mem_of_getElem? (i := 2) rfl)), (hw _ (List.mem_of_getElem? (i := 19) rfl))⟩)
      | 4, _ => exact Sta.start ev_4 (Or.inr ⟨(hw _ (List.mem_of_getElem? (i := 2) rfl)), (hw _ (List.mem_of_getElem? (i := 20) rfl))⟩)
      | 5, _ => exact Sta.start ev_5 (Or.inr ⟨(hw _ (List.mem_of_getElem? (i := 2) rfl)), (hw _ (List.mem_of_getElem? (i := 21) rfl))⟩)
      | 6, _ => exact Sta.start ev_6 (Or.inr ⟨(hw _ (List.mem_of_getElem? (i := 2) rfl)), (hw _ (List.mem_of_getElem? (i := 22) rfl))⟩)
      | 7, _ => exact Sta.start ev_7 (Or.inr ⟨(hw _ (List.mem_of_getElem? (i := 2) rfl)), (hw _ (List.mem_of_getElem? (i := 23) rfl))⟩)
      | 8, _ => exact Sta.start ev_8 (Or.inr ⟨(hw _ (List.mem_of_getElem? (i := 2) rfl)), (hw _ (List.mem_of_getElem? (i := 24) rfl))⟩)
      | 9, _ => exact Sta.start ev_9 (Or.inr ⟨(hw _ (List.mem_of_getElem? (i := 2) rfl)), (hw _ (List.mem_of_getElem? (i := 25) rfl))⟩)
      | 10, _ => exact Sta.start ev_10 (Or.inr ⟨(hw _ (List.mem_of_getElem? (i := 2) rfl)), (hw _ (List.mem_of_getElem? (i := 26) rfl))⟩)
      | 11, _ => exact Sta.start ev_11 (Or.inr ⟨(hw _ (List.mem_of_getElem? (i := 2) rfl)), (hw _ (List.mem_of_getElem? (i := 27) rfl))⟩)
      | 12, _ => exact Sta.start ev_12 (Or.inr ⟨(hw _ (List.mem_of_getElem? (i := 2) rfl)), (hw _ (List.mem_of_getElem? (i := 28) rfl))⟩)
      | 13, _ => exact Sta.start ev_13 (Or.inr ⟨(hw _ (List.mem_of_getElem? (i := 2) rfl)), (hw _ (List.mem_of_getElem? (i := 29) rfl))⟩)
      | 14, _ => exact Sta.start ev_14 (Or.inr ⟨(hw _ (List.mem_of_getElem? (i := 2) rfl)), (hw _ (List.mem_of_getElem? (i := 30) rfl))⟩)
      | 15, _ => exact Sta.start ev_15 (Or.inr ⟨(hw _ (List.mem_of_getElem? (i := 2) rfl)), (hw _ (List.mem_of_getElem? (i := 31) rfl))⟩)
      | 16, _ => exact Sta.start ev_16 (Or.inr ⟨(hw _ (List.mem_of_getElem? (i := 2) rfl)), (hw _ (List.mem_of_getElem? (i := 32) rfl))⟩)
      | n + 17, hk => exact absurd hk (by omega)
  obtain ⟨n, o, h1, h2, h3, _, L, rfl, ⟨rfl, N⟩, hq⟩ := rm_law l s _ hw q0 q1 s.heap s.heap.size (Nat.le_refl _) av cl _ B (Old.start s) tables_1 p e ha hc hk s m _ below hf ((Spec.applies_iff_loose hf).mp happ).1 ⟨rfl, State.Warmed39.refl s, rfl⟩ trivial
  refine ⟨n, _, h1, h2, h3, hpost _ _ _ _ _ _ ⟨Cond.after_iff.mpr rfl, Cond.after_iff.mpr (eq_i res_at (Term.int_eval (1)) rfl), trivial⟩ ⟨hq.1, hq.2.1, (hq.2.2.sift fun y hy => Or.inr (N y hy)).mono (by decide) (by decide)⟩⟩
theorem main_1_1 : Claimed_1_1 := comes_1 fun _ _ _ _ _ _ h hF => ⟨h.1, hF⟩
theorem main_1_2 : Claimed_1_2 := comes_1 fun _ _ _ _ _ _ h hF => ⟨h.2.1, hF⟩
end Jvm.Pilot.@@N@@
namespace Jvm.Pilot.@@N@@
open Jvm Jvm.ClassFile Sem Op Lib Jvm.Free Jvm.Stand Jvm.Pilot.@@N@@.Jvm.D
/-! MADE BY PROGRAM (witnessworld.py) out of the Statement's table words and the real class files: 13 classes; the members and pool entries that the words name. The judged class is class 1, her method 2. -/
namespace start1
open Jvm.ClassFile
def u (s : String) : CpInfo := .utf8 (stringToUtf16 s)
/-- a pool by its gaps: so many unusable entries, then the entry; so many at the end -/
def gap : Nat → List CpInfo → List CpInfo
  | 0, r => r
  | n + 1, r => .unusable :: gap n r
def poolList (es : List (Nat × CpInfo)) (last : Nat) : List CpInfo := es.foldr (fun e r => gap e.1 (e.2 :: r)) (gap last [])
def pool (es : List (Nat × CpInfo)) (last : Nat) : Array CpInfo := ⟨poolList es last⟩
def fileOf (pool : Array CpInfo) (this : Nat) (attrs : Array Attribute := #[]) (ms : Array MethodInfo := #[]) (fl : Nat := 33) (sup : Nat := 0) (ifs : Array Nat := #[]) (fds : Array FieldInfo := #[]) : ClassFile where
  minorVersion := 0
  majorVersion := 65
  constantPool := pool
  accessFlags := fl
  thisClass := this
  superClass := sup
  interfaces := ifs
  fields := fds
  methods := ms
  attributes := attrs
def plain (name : String) (sup : Option ClassId) : Class where
  name := name
  kind := .ordinary
  loader := none
  accessFlags := 33
  super := sup
  interfaces := #[]
  cf := none
  fields := #[]
  methods := #[]
  instanceTypes := #[]
  staticTypes := #[]
  resolved := #[]
  callSites := []
  init := .initialized
  statics := none
  mirror := none

def pool0 : Array CpInfo := pool [(5, u "<init>"), (0, u "()V"), (1, .class_ 10), (1, u "java/lang/Object"), (85, u "clone"), (0, u "()Ljava/lang/Object;")] 26

def k0m0 : Method := { name := "<init>", desc := "()V", sig := { parameters := [], returnType := none }, accessFlags := 1, code := none }
def k0m1 : Method := { name := "clone", desc := "()Ljava/lang/Object;", sig := { parameters := [], returnType := some (.object "java/lang/Object") }, accessFlags := 260, code := none }
/-- java/lang/Object -/
def k0 : Class := { plain "java/lang/Object" none with
  accessFlags := 33
  interfaces := #[]
  cf := some (fileOf pool0 8 #[] #[{ accessFlags := 1, nameIndex := 5, descriptorIndex := 6, attributes := #[] }, { accessFlags := 260, nameIndex := 96, descriptorIndex := 97, attributes := #[] }] 33 0 #[] #[])
  fields := #[]
  methods := #[k0m0, k0m1]
  instanceTypes := #[]
  staticTypes := #[]
  resolved := Array.replicate 124 none
  statics := none }

def pool1 : Array CpInfo := pool [(2, .class_ 4), (1, u "java/lang/Object"), (0, u "<init>"), (0, u "()V"), (0, .fieldref 8 9), (0, .class_ 10), (0, .nameAndType 11 12), (0, u "com/example/total_order/totalorder/protocol/OpCode"), (0, u "CREATE"), (0, u "Lcom/example/total_order/totalorder/protocol/OpCode;"), (0, .fieldref 8 14), (0, .nameAndType 15 12), (0, u "DELETE"), (0, .fieldref 8 17), (0, .nameAndType 18 12), (0, u "EXISTS"), (0, .fieldref 8 20), (0, .nameAndType 21 12), (0, u "GET_DATA"), (0, .fieldref 8 23), (0, .nameAndType 24 12), (0, u "SET_DATA"), (0, .fieldref 8 26), (0, .nameAndType 27 12), (0, u "GET_ACL"), (0, .fieldref 8 29), (0, .nameAndType 30 12), (0, u "SET_ACL"), (0, .fieldref 8 32), (0, .nameAndType 33 12), (0, u "GET_CHILDREN"), (0, .fieldref 8 35), (0, .nameAndType 36 12), (0, u "SYNC"), (0, .fieldref 8 38), (0, .nameAndType 39 12), (0, u "PING"), (0, .fieldref 8 41), (0, .nameAndType 42 12), (0, u "GET_CHILDREN2"), (0, .fieldref 8 44), (0, .nameAndType 45 12), (0, u "CHECK"), (0, .fieldref 8 47), (0, .nameAndType 48 12), (0, u "MULTI"), (0, .fieldref 8 50), (0, .nameAndType 51 12), (0, u "CREATE2"), (0, .fieldref 8 53), (0, .nameAndType 54 12), (0, u "AUTH"), (0, .fieldref 8 56), (0, .nameAndType 57 12), (0, u "SET_WATCHES"), (0, .fieldref 8 59), (0, .nameAndType 60 12), (0, u "CLOSE_SESSION"), (0, .methodref 8 62), (0, .nameAndType 63 64), (0, u "of"), (0, u "(I)Lcom/example/total_order/totalorder/protocol/OpCode;"), (0, .methodref 66 67), (0, .class_ 68), (0, .nameAndType 69 64), (0, u "com/example/total_order/totalorder/protocol/OpCodeOfPinLaw"), (0, u "expected"), (0, .methodref 8 71), (0, .nameAndType 72 73), (0, u "value"), (0, u "()I"), (3, u "law"), (0, u "(II)Z")] 2

def k1m0 : Method := { name := "<init>", desc := "()V", sig := { parameters := [], returnType := none }, accessFlags := 2, code := none }
def k1c1 : Code := { maxStack := 2, maxLocals := 1, code := method_2_code, exceptionTable := #[], attributes := #[] }
def k1m1 : Method := { name := "expected", desc := "(I)Lcom/example/total_order/totalorder/protocol/OpCode;", sig := { parameters := [.int], returnType := some (.object "com/example/total_order/totalorder/protocol/OpCode") }, accessFlags := 10, code := some k1c1 }
def k1c2 : Code := { maxStack := 2, maxLocals := 5, code := code, exceptionTable := #[], attributes := #[] }
def k1m2 : Method := { name := "law", desc := "(II)Z", sig := { parameters := [.int, .int], returnType := some .boolean }, accessFlags := 9, code := some k1c2 }
/-- com/example/total_order/totalorder/protocol/OpCodeOfPinLaw -/
def k1 : Class := { plain "com/example/total_order/totalorder/protocol/OpCodeOfPinLaw" (some 0) with
  accessFlags := 49
  interfaces := #[]
  cf := some (fileOf pool1 66 #[] #[{ accessFlags := 2, nameIndex := 5, descriptorIndex := 6, attributes := #[] }, { accessFlags := 10, nameIndex := 69, descriptorIndex := 64, attributes := #[] }, { accessFlags := 9, nameIndex := 77, descriptorIndex := 78, attributes := #[] }] 49 2 #[] #[])
  fields := #[]
  methods := #[k1m0, k1m1, k1m2]
  instanceTypes := #[]
  staticTypes := #[]
  resolved := Array.replicate 81 none
  statics := none }

def pool2 : Array CpInfo := pool [(1, .class_ 2), (0, u "java/lang/constant/Constable"), (0, .class_ 4), (0, u "java/lang/Object")] 6

/-- java/lang/constant/Constable -/
def k2 : Class := { plain "java/lang/constant/Constable" (some 0) with
  accessFlags := 1537
  interfaces := #[]
  cf := some (fileOf pool2 1 #[] #[] 1537 3 #[] #[])
  fields := #[]
  methods := #[]
  instanceTypes := #[]
  staticTypes := #[]
  resolved := Array.replicate 11 none
  statics := none }

def pool3 : Array CpInfo := pool [(1, .class_ 2), (0, u "java/lang/Comparable"), (0, .class_ 4), (0, u "java/lang/Object")] 7

/-- java/lang/Comparable -/
def k3 : Class := { plain "java/lang/Comparable" (some 0) with
  accessFlags := 1537
  interfaces := #[]
  cf := some (fileOf pool3 1 #[] #[] 1537 3 #[] #[])
  fields := #[]
  methods := #[]
  instanceTypes := #[]
  staticTypes := #[]
  resolved := Array.replicate 12 none
  statics := none }

def pool4 : Array CpInfo := pool [(1, .class_ 2), (0, u "java/io/Serializable"), (0, .class_ 4), (0, u "java/lang/Object")] 2

/-- java/io/Serializable -/
def k4 : Class := { plain "java/io/Serializable" (some 0) with
  accessFlags := 1537
  interfaces := #[]
  cf := some (fileOf pool4 1 #[] #[] 1537 3 #[] #[])
  fields := #[]
  methods := #[]
  instanceTypes := #[]
  staticTypes := #[]
  resolved := Array.replicate 7 none
  statics := none }

def pool5 : Array CpInfo := pool [(2, .class_ 4), (1, u "java/lang/Enum"), (0, u "name"), (0, u "Ljava/lang/String;"), (2, u "ordinal"), (0, u "I"), (1, .class_ 14), (1, u "java/lang/Object"), (4, u "hash"), (86, .class_ 108), (1, u "java/lang/Enum$EnumDesc"), (2, .class_ 112), (0, u "java/lang/constant/Constable"), (0, .class_ 114), (0, u "java/lang/Comparable"), (0, .class_ 116), (0, u "java/io/Serializable")] 87

/-- java/lang/Enum -/
def k5 : Class := { plain "java/lang/Enum" (some 0) with
  accessFlags := 1057
  interfaces := #[2, 3, 4]
  cf := some (fileOf pool5 2 #[.nestMembers #[106]] #[] 1057 12 #[111, 113, 115] #[{ accessFlags := 18, nameIndex := 5, descriptorIndex := 6, attributes := #[] }, { accessFlags := 18, nameIndex := 9, descriptorIndex := 10, attributes := #[] }, { accessFlags := 2, nameIndex := 19, descriptorIndex := 10, attributes := #[] }])
  fields := #[{ name := "name", type := (.object "java/lang/String"), accessFlags := 18, slot := 0, constantValue := 0 }, { name := "ordinal", type := .int, accessFlags := 18, slot := 1, constantValue := 0 }, { name := "hash", type := .int, accessFlags := 2, slot := 2, constantValue := 0 }]
  methods := #[]
  instanceTypes := #[(.object "java/lang/String"), .int, .int]
  staticTypes := #[]
  resolved := Array.replicate 204 none
  statics := none }

def pool6 : Array CpInfo := pool [(1, .class_ 2), (0, u "com/example/total_order/totalorder/protocol/OpCode"), (2, u "CREATE"), (0, u "Lcom/example/total_order/totalorder/protocol/OpCode;"), (2, u "DELETE"), (2, u "EXISTS"), (2, u "GET_DATA"), (2, u "SET_DATA"), (2, u "GET_ACL"), (2, u "SET_ACL"), (2, u "GET_CHILDREN"), (2, u "SYNC"), (2, u "PING"), (2, u "GET_CHILDREN2"), (2, u "CHECK"), (2, u "MULTI"), (2, u "CREATE2"), (2, u "AUTH"), (2, u "SET_WATCHES"), (2, u "CLOSE_SESSION"), (0, .fieldref 1 56), (0, .nameAndType 57 58), (0, u "$VALUES"), (0, u "[Lcom/example/total_order/totalorder/protocol/OpCode;"), (0, .methodref 60 61), (0, .class_ 58), (0, .nameAndType 62 63), (0, u "clone"), (0, u "()Ljava/lang/Object;"), (1, .class_ 67), (1, u "java/lang/Enum"), (6, .fieldref 1 75), (0, .nameAndType 76 77), (0, u "value"), (0, u "I"), (0, .methodref 1 79), (0, .nameAndType 80 81), (0, u "values"), (0, u "()[Lcom/example/total_order/totalorder/protocol/OpCode;"), (29, u "of"), (0, u "(I)Lcom/example/total_order/totalorder/protocol/OpCode;"), (1, u "()I")] 5

def k6c0 : Code := { maxStack := 1, maxLocals := 0, code := prog_72_method_1_code, exceptionTable := #[], attributes := #[] }
def k6m0 : Method := { name := "values", desc := "()[Lcom/example/total_order/totalorder/protocol/OpCode;", sig := { parameters := [], returnType := some (.array (.object "com/example/total_order/totalorder/protocol/OpCode")) }, accessFlags := 9, code := some k6c0 }
def k6c1 : Code := { maxStack := 2, maxLocals := 6, code := prog_72_method_4_code, exceptionTable := #[], attributes := #[] }
def k6m1 : Method := { name := "of", desc := "(I)Lcom/example/total_order/totalorder/protocol/OpCode;", sig := { parameters := [.int], returnType := some (.object "com/example/total_order/totalorder/protocol/OpCode") }, accessFlags := 9, code := some k6c1 }
def k6c2 : Code := { maxStack := 1, maxLocals := 1, code := prog_72_method_5_code, exceptionTable := #[], attributes := #[] }
def k6m2 : Method := { name := "value", desc := "()I", sig := { parameters := [], returnType := some .int }, accessFlags := 1, code := some k6c2 }
/-- com/example/total_order/totalorder/protocol/OpCode -/
def k6 : Class := { plain "com/example/total_order/totalorder/protocol/OpCode" (some 5) with
  accessFlags := 16433
  interfaces := #[]
  cf := some (fileOf pool6 1 #[] #[{ accessFlags := 9, nameIndex := 80, descriptorIndex := 81, attributes := #[] }, { accessFlags := 9, nameIndex := 111, descriptorIndex := 112, attributes := #[] }, { accessFlags := 1, nameIndex := 76, descriptorIndex := 114, attributes := #[] }] 16433 65 #[] #[{ accessFlags := 16409, nameIndex := 5, descriptorIndex := 6, attributes := #[] }, { accessFlags := 16409, nameIndex := 9, descriptorIndex := 6, attributes := #[] }, { accessFlags := 16409, nameIndex := 12, descriptorIndex := 6, attributes := #[] }, { accessFlags := 16409, nameIndex := 15, descriptorIndex := 6, attributes := #[] }, { accessFlags := 16409, nameIndex := 18, descriptorIndex := 6, attributes := #[] }, { accessFlags := 16409, nameIndex := 21, descriptorIndex := 6, attributes := #[] }, { accessFlags := 16409, nameIndex := 24, descriptorIndex := 6, attributes := #[] }, { accessFlags := 16409, nameIndex := 27, descriptorIndex := 6, attributes := #[] }, { accessFlags := 16409, nameIndex := 30, descriptorIndex := 6, attributes := #[] }, { accessFlags := 16409, nameIndex := 33, descriptorIndex := 6, attributes := #[] }, { accessFlags := 16409, nameIndex := 36, descriptorIndex := 6, attributes := #[] }, { accessFlags := 16409, nameIndex := 39, descriptorIndex := 6, attributes := #[] }, { accessFlags := 16409, nameIndex := 42, descriptorIndex := 6, attributes := #[] }, { accessFlags := 16409, nameIndex := 45, descriptorIndex := 6, attributes := #[] }, { accessFlags := 16409, nameIndex := 48, descriptorIndex := 6, attributes := #[] }, { accessFlags := 16409, nameIndex := 51, descriptorIndex := 6, attributes := #[] }, { accessFlags := 16409, nameIndex := 54, descriptorIndex := 6, attributes := #[] }, { accessFlags := 18, nameIndex := 76, descriptorIndex := 77, attributes := #[] }, { accessFlags := 4122, nameIndex := 57, descriptorIndex := 58, attributes := #[] }])
  fields := #[{ name := "CREATE", type := (.object "com/example/total_order/totalorder/protocol/OpCode"), accessFlags := 16409, slot := 0, constantValue := 0 }, { name := "DELETE", type := (.object "com/example/total_order/totalorder/protocol/OpCode"), accessFlags := 16409, slot := 1, constantValue := 0 }, { name := "EXISTS", type := (.object "com/example/total_order/totalorder/protocol/OpCode"), accessFlags := 16409, slot := 2, constantValue := 0 }, { name := "GET_DATA", type := (.object "com/example/total_order/totalorder/protocol/OpCode"), accessFlags := 16409, slot := 3, constantValue := 0 }, { name := "SET_DATA", type := (.object "com/example/total_order/totalorder/protocol/OpCode"), accessFlags := 16409, slot := 4, constantValue := 0 }, { name := "GET_ACL", type := (.object "com/example/total_order/totalorder/protocol/OpCode"), accessFlags := 16409, slot := 5, constantValue := 0 }, { name := "SET_ACL", type := (.object "com/example/total_order/totalorder/protocol/OpCode"), accessFlags := 16409, slot := 6, constantValue := 0 }, { name := "GET_CHILDREN", type := (.object "com/example/total_order/totalorder/protocol/OpCode"), accessFlags := 16409, slot := 7, constantValue := 0 }, { name := "SYNC", type := (.object "com/example/total_order/totalorder/protocol/OpCode"), accessFlags := 16409, slot := 8, constantValue := 0 }, { name := "PING", type := (.object "com/example/total_order/totalorder/protocol/OpCode"), accessFlags := 16409, slot := 9, constantValue := 0 }, { name := "GET_CHILDREN2", type := (.object "com/example/total_order/totalorder/protocol/OpCode"), accessFlags := 16409, slot := 10, constantValue := 0 }, { name := "CHECK", type := (.object "com/example/total_order/totalorder/protocol/OpCode"), accessFlags := 16409, slot := 11, constantValue := 0 }, { name := "MULTI", type := (.object "com/example/total_order/totalorder/protocol/OpCode"), accessFlags := 16409, slot := 12, constantValue := 0 }, { name := "CREATE2", type := (.object "com/example/total_order/totalorder/protocol/OpCode"), accessFlags := 16409, slot := 13, constantValue := 0 }, { name := "AUTH", type := (.object "com/example/total_order/totalorder/protocol/OpCode"), accessFlags := 16409, slot := 14, constantValue := 0 }, { name := "SET_WATCHES", type := (.object "com/example/total_order/totalorder/protocol/OpCode"), accessFlags := 16409, slot := 15, constantValue := 0 }, { name := "CLOSE_SESSION", type := (.object "com/example/total_order/totalorder/protocol/OpCode"), accessFlags := 16409, slot := 16, constantValue := 0 }, { name := "value", type := .int, accessFlags := 18, slot := 3, constantValue := 0 }, { name := "$VALUES", type := (.array (.object "com/example/total_order/totalorder/protocol/OpCode")), accessFlags := 4122, slot := 17, constantValue := 0 }]
  methods := #[k6m0, k6m1, k6m2]
  instanceTypes := #[(.object "java/lang/String"), .int, .int, .int]
  staticTypes := #[(.object "com/example/total_order/totalorder/protocol/OpCode"), (.object "com/example/total_order/totalorder/protocol/OpCode"), (.object "com/example/total_order/totalorder/protocol/OpCode"), (.object "com/example/total_order/totalorder/protocol/OpCode"), (.object "com/example/total_order/totalorder/protocol/OpCode"), (.object "com/example/total_order/totalorder/protocol/OpCode"), (.object "com/example/total_order/totalorder/protocol/OpCode"), (.object "com/example/total_order/totalorder/protocol/OpCode"), (.object "com/example/total_order/totalorder/protocol/OpCode"), (.object "com/example/total_order/totalorder/protocol/OpCode"), (.object "com/example/total_order/totalorder/protocol/OpCode"), (.object "com/example/total_order/totalorder/protocol/OpCode"), (.object "com/example/total_order/totalorder/protocol/OpCode"), (.object "com/example/total_order/totalorder/protocol/OpCode"), (.object "com/example/total_order/totalorder/protocol/OpCode"), (.object "com/example/total_order/totalorder/protocol/OpCode"), (.object "com/example/total_order/totalorder/protocol/OpCode"), (.array (.object "com/example/total_order/totalorder/protocol/OpCode"))]
  resolved := Array.replicate 120 none
  statics := some 0 }

def pool7 : Array CpInfo := pool [(1, .class_ 2), (0, u "java/lang/Cloneable"), (0, .class_ 4), (0, u "java/lang/Object")] 2

/-- java/lang/Cloneable -/
def k7 : Class := { plain "java/lang/Cloneable" (some 0) with
  accessFlags := 1537
  interfaces := #[]
  cf := some (fileOf pool7 1 #[] #[] 1537 3 #[] #[])
  fields := #[]
  methods := #[]
  instanceTypes := #[]
  staticTypes := #[]
  resolved := Array.replicate 7 none
  statics := none }

/-- the primitive byte -/
def k8 : Class := { plain "byte" none with kind := .primitive 'B', accessFlags := 0x411 }
/-- [B -/
def k9 : Class := { plain "[B" (some 0) with kind := .array 8 .byte, interfaces := #[7, 4], accessFlags := 1041 }

/-- the primitive int -/
def k10 : Class := { plain "int" none with kind := .primitive 'I', accessFlags := 0x411 }
/-- [I -/
def k11 : Class := { plain "[I" (some 0) with kind := .array 10 .int, interfaces := #[7, 4], accessFlags := 1041 }

/-- [Lcom/example/total_order/totalorder/protocol/OpCode; -/
def k12 : Class := { plain "[Lcom/example/total_order/totalorder/protocol/OpCode;" (some 0) with kind := .array 6 (.object "com/example/total_order/totalorder/protocol/OpCode"), interfaces := #[7, 4], accessFlags := 1041 }

def heap : Heap := #[{ cls := 6, slots := #[.ref 2, .ref 3, .ref 4, .ref 5, .ref 6, .ref 7, .ref 8, .ref 9, .ref 10, .ref 11, .ref 12, .ref 13, .ref 14, .ref 15, .ref 16, .ref 17, .ref 18, .ref 1], vm := .statics 6 },
  { cls := 12, slots := #[.ref 2, .ref 3, .ref 4, .ref 5, .ref 6, .ref 7, .ref 8, .ref 9, .ref 10, .ref 11, .ref 12, .ref 13, .ref 14, .ref 15, .ref 16, .ref 17, .ref 18], vm := .none },
  { cls := 6, slots := #[.null, .int 0, .int 0, .int (1)], vm := .none },
  { cls := 6, slots := #[.null, .int 1, .int 0, .int (2)], vm := .none },
  { cls := 6, slots := #[.null, .int 2, .int 0, .int (3)], vm := .none },
  { cls := 6, slots := #[.null, .int 3, .int 0, .int (4)], vm := .none },
  { cls := 6, slots := #[.null, .int 4, .int 0, .int (5)], vm := .none },
  { cls := 6, slots := #[.null, .int 5, .int 0, .int (6)], vm := .none },
  { cls := 6, slots := #[.null, .int 6, .int 0, .int (7)], vm := .none },
  { cls := 6, slots := #[.null, .int 7, .int 0, .int (8)], vm := .none },
  { cls := 6, slots := #[.null, .int 8, .int 0, .int (9)], vm := .none },
  { cls := 6, slots := #[.null, .int 9, .int 0, .int (11)], vm := .none },
  { cls := 6, slots := #[.null, .int 10, .int 0, .int (12)], vm := .none },
  { cls := 6, slots := #[.null, .int 11, .int 0, .int (13)], vm := .none },
  { cls := 6, slots := #[.null, .int 12, .int 0, .int (14)], vm := .none },
  { cls := 6, slots := #[.null, .int 13, .int 0, .int (15)], vm := .none },
  { cls := 6, slots := #[.null, .int 14, .int 0, .int (100)], vm := .none },
  { cls := 6, slots := #[.null, .int 15, .int 0, .int (101)], vm := .none },
  { cls := 6, slots := #[.null, .int 16, .int 0, .int (-11)], vm := .none }]
def classes : Array Class := #[k0, k1, k2, k3, k4, k5, k6, k7, k8, k9, k10, k11, k12]
def interned : List (Array UInt16 × Addr) := []
def slotsUsed : Nat := 103
def theMethod : MethodId := ⟨1, 2⟩
def args0 : Array Value := #[.int 5, .int 5]
def aboutOver (below : List Frame) : State where
  vm := { classes := classes, interned := interned.toArray }
  heap := heap
  slotsUsed := slotsUsed
  threads := #[{ frames := .invoking theMethod args0 :: below }]
def below0 : List Frame := [.native { method := ⟨0, 0⟩, args := #[] }]
def about1 : State := aboutOver below0
def p0 : Program := .bare "" "" ""
def e0 : Env := launch0.env 0 0 0
theorem w_frames : about1.frames = Frame.invoking theMethod args0 :: below0 := rfl
set_option maxRecDepth 65536 in
theorem w_args : argsFit about1.vm theMethod args0 = true := by decide +kernel
set_option maxRecDepth 65536 in
theorem w_heap : heapFits about1 = true := by decide +kernel
set_option maxRecDepth 65536 in
theorem w_runnable : about1.curStatus? = some .runnable := by decide +kernel
set_option maxRecDepth 65536 in
theorem w_alone : about1.alone = true := by decide +kernel
set_option maxRecDepth 65536 in
theorem w_named : about1.methodNamed? x = some theMethod := by decide +kernel
set_option maxRecDepth 65536 in
theorem w_hears : about1.hears theMethod below0 = true := by decide +kernel
set_option maxRecDepth 65536 in
theorem w_ripe : about1.ripe theMethod args0 below0 = true := by decide +kernel
theorem w_running : about1.status = .running := rfl
set_option maxRecDepth 65536 in
theorem w_room : about1.hasRoom e0.platform room_1 = true :=
  launch0.hasRoom_least _ room_1 (by decide +kernel) (by decide +kernel) (by decide +kernel) (by decide +kernel) (by decide +kernel) (by decide +kernel)
theorem allAtoms_all (ts : List Jvm.Cond) (a : Array Jvm.Value) (st : Jvm.State) : (allAtoms ts).before a st = ts.all (fun c => c.before a st) := by
  induction ts with
  | nil => rfl
  | cons c t ih =>
    show (Jvm.Cond.and c (allAtoms t)).before a st = _
    rw [Jvm.Cond.before_and, ih, List.all_cons]
def words1 : List Jvm.Cond := Jvm.Cond.code x code maxLocals ret :: tables_1
/-- a 'code' word, met by the world's own term for the bytes: nothing is compared byte by byte -/
theorem code_word {y : MethodName} {bytes : ByteArray} {mx : Nat} {rt : Option FieldType} {a : Array Value} {s : State} {m : MethodId} {meth : Method} {c : Code} (h1 : s.methodNamed? y = some m) (h2 : s.vm.method? m = some meth) (h3 : meth.code = some c) (h4 : c.code = bytes)
    (h5 : (c.maxLocals == mx && c.exceptionTable.isEmpty && decide (c.maxStack ≤ mostOperands) && decide (meth.sig.returnType = rt) && !meth.locks && decide (parseMethodDescriptor y.desc = some meth.sig)) = true) : (Jvm.Cond.code y bytes mx rt).before a s = true := by
  simp only [Bool.and_eq_true, beq_iff_eq, Bool.not_eq_true', decide_eq_true_eq] at h5
  obtain ⟨⟨⟨⟨⟨g1, g2⟩, g3⟩, g4⟩, g5⟩, g6⟩ := h5
  simp [Cond.before, Cond.holds, Cond.value, h1, h2, h3, h4, g1, g2, g3, g4, g5, g6]
def isCode : Jvm.Cond → Bool
  | .code _ _ _ _ => true
  | _ => false
theorem all_split {L : List Jvm.Cond} {P : Jvm.Cond → Bool} (h1 : L.all (fun c => isCode c || P c) = true) (h2 : ∀ c ∈ L.filter isCode, P c = true) : L.all P = true := by
  refine List.all_eq_true.mpr fun c hc => ?_
  have h := List.all_eq_true.mp h1 c hc
  rcases Bool.eq_false_or_eq_true (isCode c) with hi | hi
  · exact h2 c (List.mem_filter.mpr ⟨hc, hi⟩)
  · simpa [hi] using h
set_option maxRecDepth 65536 in
theorem w_c0 : (Jvm.Cond.code x code maxLocals ret).before args0 about1 = true := code_word (m := ⟨1, 2⟩) (meth := k1m2) (c := k1c2) (by decide +kernel) rfl rfl rfl (by decide +kernel)
set_option maxRecDepth 65536 in
theorem w_c1 : (Jvm.Cond.code ({ cls := "com/example/total_order/totalorder/protocol/OpCode", name := "of", desc := "(I)Lcom/example/total_order/totalorder/protocol/OpCode;" } : Jvm.MethodName) prog_72_method_4_code (6 : Nat) (Option.some (Jvm.ClassFile.FieldType.object "com/example/total_order/totalorder/protocol/OpCode"))).before args0 about1 = true := code_word (m := ⟨6, 1⟩) (meth := k6m1) (c := k6c1) (by decide +kernel) rfl rfl rfl (by decide +kernel)
set_option maxRecDepth 65536 in
theorem w_c2 : (Jvm.Cond.code ({ cls := "com/example/total_order/totalorder/protocol/OpCode", name := "values", desc := "()[Lcom/example/total_order/totalorder/protocol/OpCode;" } : Jvm.MethodName) prog_72_method_1_code (0 : Nat) (Option.some (Jvm.ClassFile.FieldType.array (Jvm.ClassFile.FieldType.object "com/example/total_order/totalorder/protocol/OpCode")))).before args0 about1 = true := code_word (m := ⟨6, 0⟩) (meth := k6m0) (c := k6c0) (by decide +kernel) rfl rfl rfl (by decide +kernel)
set_option maxRecDepth 65536 in
theorem w_c3 : (Jvm.Cond.code ({ cls := "com/example/total_order/totalorder/protocol/OpCodeOfPinLaw", name := "expected", desc := "(I)Lcom/example/total_order/totalorder/protocol/OpCode;" } : Jvm.MethodName) method_2_code (1 : Nat) (Option.some (Jvm.ClassFile.FieldType.object "com/example/total_order/totalorder/protocol/OpCode"))).before args0 about1 = true := code_word (m := ⟨1, 1⟩) (meth := k1m1) (c := k1c1) (by decide +kernel) rfl rfl rfl (by decide +kernel)
set_option maxRecDepth 65536 in
theorem w_c4 : (Jvm.Cond.code ({ cls := "com/example/total_order/totalorder/protocol/OpCode", name := "value", desc := "()I" } : Jvm.MethodName) prog_72_method_5_code (1 : Nat) (Option.some Jvm.ClassFile.FieldType.int)).before args0 about1 = true := code_word (m := ⟨6, 2⟩) (meth := k6m2) (c := k6c2) (by decide +kernel) rfl rfl rfl (by decide +kernel)
def codes1 : List Jvm.Cond := [Jvm.Cond.code x code maxLocals ret, Jvm.Cond.code ({ cls := "com/example/total_order/totalorder/protocol/OpCode", name := "of", desc := "(I)Lcom/example/total_order/totalorder/protocol/OpCode;" } : Jvm.MethodName) prog_72_method_4_code (6 : Nat) (Option.some (Jvm.ClassFile.FieldType.object "com/example/total_order/totalorder/protocol/OpCode")), Jvm.Cond.code ({ cls := "com/example/total_order/totalorder/protocol/OpCode", name := "values", desc := "()[Lcom/example/total_order/totalorder/protocol/OpCode;" } : Jvm.MethodName) prog_72_method_1_code (0 : Nat) (Option.some (Jvm.ClassFile.FieldType.array (Jvm.ClassFile.FieldType.object "com/example/total_order/totalorder/protocol/OpCode"))), Jvm.Cond.code ({ cls := "com/example/total_order/totalorder/protocol/OpCodeOfPinLaw", name := "expected", desc := "(I)Lcom/example/total_order/totalorder/protocol/OpCode;" } : Jvm.MethodName) method_2_code (1 : Nat) (Option.some (Jvm.ClassFile.FieldType.object "com/example/total_order/totalorder/protocol/OpCode")), Jvm.Cond.code ({ cls := "com/example/total_order/totalorder/protocol/OpCode", name := "value", desc := "()I" } : Jvm.MethodName) prog_72_method_5_code (1 : Nat) (Option.some Jvm.ClassFile.FieldType.int)]
set_option maxRecDepth 65536 in
theorem codes_eq : words1.filter isCode = codes1 := rfl
theorem w_codes : ∀ c ∈ words1.filter isCode, c.before args0 about1 = true := by
  rw [codes_eq]
  intro c hc
  simp only [codes1, List.mem_cons, List.not_mem_nil, or_false] at hc
  rcases hc with rfl | rfl | rfl | rfl | rfl
  · exact w_c0
  · exact w_c1
  · exact w_c2
  · exact w_c3
  · exact w_c4
set_option maxRecDepth 65536 in
theorem w_t1 : (words1.take 24).all (fun c => isCode c || c.before args0 about1) = true := by decide +kernel
set_option maxRecDepth 65536 in
theorem w_t2 : ((words1.drop 24).take 24).all (fun c => isCode c || c.before args0 about1) = true := by decide +kernel
set_option maxRecDepth 65536 in
theorem w_t3 : ((words1.drop 24).drop 24).all (fun c => isCode c || c.before args0 about1) = true := by decide +kernel
theorem w_tables : (allAtoms (Jvm.Cond.code x code maxLocals ret :: tables_1)).before args0 about1 = true := by
  rw [allAtoms_all]
  show words1.all (fun c => c.before args0 about1) = true
  refine all_split ?_ w_codes
  rw [← List.take_append_drop 24 words1, List.all_append, w_t1, ← List.take_append_drop 24 (words1.drop 24), List.all_append, w_t2, w_t3]
  rfl
set_option maxRecDepth 65536 in
theorem w_case : (Jvm.Cond.and given_1 narrow_1).before args0 about1 = true := by decide +kernel
theorem w_applies : (headSpec (Jvm.Cond.code x code maxLocals ret :: tables_1) room_1).applies x e0.platform about1 = true :=
  (Spec.applies_iff w_frames).mpr ⟨w_running, w_runnable, w_alone, w_named, w_hears, w_ripe, w_room, w_tables⟩
theorem atStart : AtStart classFile x code maxLocals ret World_1 tables_1 room_1 Calls_1 rest_1 Pre_1 launch0 p0 e0 about1 theMethod args0 below0 :=
  ⟨lists_1, trivial, launch0.admits_env _ _ _, launch0.least_env, fairChoices_fair.cas, fairChoices_fair.clock, w_frames, w_args, w_heap, w_applies, trivial, trivial, w_case⟩
end start1
theorem witness_1 : WitnessClaimed_1 := ⟨start1.p0, start1.e0, start1.about1, start1.theMethod, start1.args0, start1.below0, start1.atStart⟩
end Jvm.Pilot.@@N@@
