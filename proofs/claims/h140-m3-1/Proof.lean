import JvmDerived
import JvmDerived.Pilot.@@N@@Statement
import JvmDerived.Pilot.@@N@@Code
set_option linter.unusedVariables false
set_option linter.unusedSimpArgs false
namespace Jvm.RoadKit
open Sem ClassFile Op Lib Jvm.Stand Jvm.Free Jvm.LawKit
section New
variable {p : Program} {l : Launch} {e : Env} {R : Room} {s : State} {m : MethodId} {args : Array Value} {below : List Frame} {meth : Method} {c : Code} {T : State} {locs : List Loc} {cells slots : Nat}
theorem retI (X : Stand p l e R s m args below meth c T locs cells slots) (hx : p.tables.exec = Jvm.exec) {pc : Nat} {Ls : Array Slot} {z : Int32} {rest : List Value} (hret : meth.sig.returnType = some .int) (hd : decode c.code pc = .ok (.ireturn, 1)) {fs : List Frame}
    (hl : ∀ (f : JFrame) (acts : List Action), f.method = m → f.locked = none → f.entered = [] → (doReturn e (T.setTop f) acts (some (.int z))).1 = T.setFrames fs) : Steps p.tables e below (T.setTop (mkF m pc Ls (.int z :: rest))) (T.setFrames fs) := by
  have hm' : T.vm.method? m = some meth := X.method'
  have hn : narrow .int (.int z) = .int z := rfl
  show Steps p.tables e below (T.setTop { method := m, pc := pc, locals := Ls, stack := _ :: rest, locked := none }) _
  jvm_step X.here [X.here.top, hx, hd, hm', hret, hn]
  first | (intro acts; rw [hl _ acts rfl rfl rfl]) | rw [hl _ _ rfl rfl rfl]
  exact Steps.refl _
end New
end Jvm.RoadKit
namespace Jvm.Pilot.@@N@@
open Jvm Jvm.ClassFile Sem Op Lib Jvm.Free Jvm.Stand Jvm.LawKit Jvm.RoadKit Bundle Jvm.Pilot.@@N@@.Jvm.D
/-! OWN KIT: a walk as one forward chain. OwF: from frame f at T the run ends, and D says how. OwC: the setting of a body. OwCon: a body's contract. -/
section OwnKit
variable {p : Program} {l : Launch} {e : Env} {R : Room} {s : State} {m : MethodId} {args : Array Value} {below : List Frame} {meth : Method} {c : Code} {T : State} {locs : List Loc} {cells slots : Nat} {Z : State} {a0 : Array Value} {h : Heap}
variable {own nm : String} {bytes : ByteArray} {maxL : Nat} {ret : Option FieldType} {D : State → Outcome → Prop} {pc pc' : Nat} {Ls : Array Slot} {r : List Value}
def OwF (p : Program) (e : Env) (below : List Frame) (D : State → Outcome → Prop) (T : State) (f : JFrame) : Prop := ∃ t o, Steps p.tables e below (T.setTop f) t ∧ D t o
def OwC (p : Program) (Z s : State) (m : MethodId) (meth : Method) (c : Code) (own nm : String) (bytes : ByteArray) (maxL : Nat) (ret : Option FieldType) : Prop :=
  p.tables.exec = Jvm.exec ∧ c.code = bytes ∧ c.maxLocals = maxL ∧ s.vm.findClass own = some m.cls ∧ meth.name = nm ∧ meth.sig.returnType = ret ∧ meth.locks = false ∧ Z.Warmed39 s.vm
def OwD (s : State) (below : List Frame) (Q : Option Value → Heap → List Loc → Prop) (kc ks : Nat) (t : State) (o : Outcome) : Prop :=
  t.status = .running ∧ Ended t below o ∧ ∃ v L, o = .returned v ∧ Q v t.heap L ∧ FrameEnd s o t L kc ks
def OwCon (l : Launch) (y : MethodName) (bytes : ByteArray) (maxL : Nat) (ret : Option FieldType) (rm : Room) (Z : State) (as' : Array Value) (h : Heap) (Q : Option Value → Heap → List Loc → Prop) : Prop :=
  ∀ ws, MetFree l y (head1 (Jvm.Cond.code y bytes maxL ret :: ws) rm) (fun a U => a = as' ∧ Z.Warmed39 U.vm ∧ U.heap = h) (fun _ _ _ _ _ => True) (fun _ U o U' => ∃ v L, o = .returned v ∧ Q v U'.heap L ∧ FrameEnd U o U' L rm.cells rm.slots)
theorem OwF.st {T' : State} {f f' : JFrame} (h : ∀ t, Steps p.tables e below (T'.setTop f') t → Steps p.tables e below (T.setTop f) t) (k : OwF p e below D T' f') : OwF p e below D T f := by
  obtain ⟨t, o, q, d⟩ := k; exact ⟨t, o, h t q, d⟩
theorem OwCon.of {y : MethodName} {rm : Room} {as' : Array Value} {Q : Option Value → Heap → List Loc → Prop} (hpl : plainFor y = true) {Ls : Array Slot} (hent : ∀ m, entryFrame m as' maxL = mkF m 0 Ls [])
    (body : ∀ (p : Program) (e : Env) (s : State) (m : MethodId) (below : List Frame) (meth : Method) (c : Code) (s₁ : State), OwC p Z s m meth c y.cls y.name bytes maxL ret → Stand p l e rm s m as' below meth c s₁ [] 0 0 → s₁.heap = h → OwF p e below (OwD s below Q rm.cells rm.slots) s₁ (mkF m 0 Ls [])) :
    OwCon l y bytes maxL ret rm Z as' h Q := by
  intro ws
  refine MetFree.of_bodySF hpl hisR ?_
  intro p e s m args below meth c s₁ Bd hml0 hP hK
  obtain ⟨rfl, hZ, hh⟩ := hP
  have X0 : Stand p l e rm s m args below meth c s₁ [] 0 0 := Stand.of_body Bd
  obtain ⟨t, o, h1, h2, h3, h4⟩ := body p e s m below meth c s₁ ⟨Bd.exec, Bd.bytes, hml0, findClass_of_methodNamed Bd.named, (name_of_methodNamed Bd.named Bd.method).1, Bd.returns, BodyLoose.notSynchronized Bd, hZ⟩ X0 (by rw [← hh, Bd.state]; rfl)
  exact ⟨t, o, castTop (hent m) h1, h2, h3, h4⟩
/-- a contract may say less -/
theorem OwCon.mono {y : MethodName} {rm : Room} {as' : Array Value} {Q Q' : Option Value → Heap → List Loc → Prop} (M : OwCon l y bytes maxL ret rm Z as' h Q) (hq : ∀ v h' L, Q v h' L → Q' v h' L) : OwCon l y bytes maxL ret rm Z as' h Q' := by
  intro ws p e ha hc hk s m args below hf happ hP hK
  obtain ⟨n, o, h1, h2, h3, v, L, h4, h5, h6⟩ := M ws p e ha hc hk s m args below hf happ hP hK
  exact ⟨n, o, h1, h2, h3, v, L, h4, hq _ _ _ h5, h6⟩
/-- two roads that meet -/
theorem ow_join {f f' : JFrame} (X : Stand p l e R s m args below meth c T locs cells slots) (eT : T.heap = h) (A : ∀ D : State → Outcome → Prop, (∀ T', Stand p l e R s m args below meth c T' locs cells slots → T'.heap = h → OwF p e below D T' f') → OwF p e below D T f)
    (k : ∀ T', Stand p l e R s m args below meth c T' locs cells slots → T'.heap = h → OwF p e below D T' f') : OwF p e below D T f := A D k
/-- a long or nothing, in two places -/
def OwTwo (x y : Slot) : Prop := (x = .unset ∧ y = .unset) ∨ ∃ v : Int64, x = .val (.long v) ∧ y = .second
/-- two roads that meet, with locals that are read no more -/
theorem ow_joinL {f : JFrame} {r' : List Value} {P : Array Slot → Prop} (X : Stand p l e R s m args below meth c T locs cells slots) (eT : T.heap = h) (A : ∀ D : State → Outcome → Prop, (∀ Ls' T', P Ls' → Stand p l e R s m args below meth c T' locs cells slots → T'.heap = h → OwF p e below D T' (mkF m pc' Ls' r')) → OwF p e below D T f)
    (k : ∀ Ls' T', P Ls' → Stand p l e R s m args below meth c T' locs cells slots → T'.heap = h → OwF p e below D T' (mkF m pc' Ls' r')) : OwF p e below D T f := A D k
/-! returns -/
theorem ow_retI {Q : Option Value → Heap → List Loc → Prop} {kc ks : Nat} {z : Int32} (C : OwC p Z s m meth c own nm bytes maxL (some .int)) (X : Stand p l e R s m args below meth c T locs cells slots) (hd : decode bytes pc = .ok (.ireturn, 1)) (hc : cells ≤ kc) (hs : slots ≤ ks)
    (hQ : Q (some (.int z)) T.heap locs) : OwF p e below (OwD s below Q kc ks) T (mkF m pc Ls (.int z :: r)) := by
  obtain ⟨hx, hby, -, -, -, hret, hlk, -⟩ := C
  obtain ⟨fs, hr, hrun, hended, hW, hsame⟩ := X.leave (v := some (.int z)) (fun h => by rw [hret] at h; cases h) hlk
  exact ⟨_, _, retI X hx hret (hb hby hd) hr, hrun, hended, _, _, rfl, hQ, ⟨_, rfl⟩, hW, hsame.mono hc hs⟩
theorem ow_retZ {Q : Option Value → Heap → List Loc → Prop} {kc ks : Nat} {z : Int32} (C : OwC p Z s m meth c own nm bytes maxL (some .boolean)) (X : Stand p l e R s m args below meth c T locs cells slots) (hd : decode bytes pc = .ok (.ireturn, 1)) (hc : cells ≤ kc) (hs : slots ≤ ks) (hz : z = 0 ∨ z = 1)
    (hQ : Q (some (.int z)) T.heap locs) : OwF p e below (OwD s below Q kc ks) T (mkF m pc Ls (.int z :: r)) := by
  obtain ⟨hx, hby, -, -, -, hret, hlk, -⟩ := C
  have hn : nar .boolean z = z := by rcases hz with rfl | rfl <;> decide
  obtain ⟨fs, hr, hrun, hended, hW, hsame⟩ := X.leave (v := some (.int z)) (fun h => by rw [hret] at h; cases h) hlk
  exact ⟨_, _, retN X hx hret (by simp) (hb hby hd) (by rw [hn]; exact hr), hrun, hended, _, _, rfl, hQ, ⟨_, rfl⟩, hW, hsame.mono hc hs⟩
theorem ow_retJ {Q : Option Value → Heap → List Loc → Prop} {kc ks : Nat} {z : Int64} (C : OwC p Z s m meth c own nm bytes maxL (some .long)) (X : Stand p l e R s m args below meth c T locs cells slots) (hd : decode bytes pc = .ok (.lreturn, 1)) (hc : cells ≤ kc) (hs : slots ≤ ks)
    (hQ : Q (some (.long z)) T.heap locs) : OwF p e below (OwD s below Q kc ks) T (mkF m pc Ls [.long z]) := by
  obtain ⟨hx, hby, -, -, -, hret, hlk, -⟩ := C
  obtain ⟨fs, hr, hrun, hended, hW, hsame⟩ := X.leave (v := some (.long z)) (fun h => by rw [hret] at h; cases h) hlk
  exact ⟨_, _, X.lreturnOut hx hret (hb hby hd) hr, hrun, hended, _, _, rfl, hQ, ⟨_, rfl⟩, hW, hsame.mono hc hs⟩
theorem ow_retV {Q : Option Value → Heap → List Loc → Prop} {kc ks : Nat} (C : OwC p Z s m meth c own nm bytes maxL none) (X : Stand p l e R s m args below meth c T locs cells slots) (hd : decode bytes pc = .ok (.return_, 1)) (hc : cells ≤ kc) (hs : slots ≤ ks)
    (hQ : Q none T.heap locs) : OwF p e below (OwD s below Q kc ks) T (mkF m pc Ls []) := by
  obtain ⟨hx, hby, -, -, -, hret, hlk, -⟩ := C
  obtain ⟨fs, hr, hrun, hended, hW, hsame⟩ := X.leave (v := none) (fun _ => rfl) hlk
  exact ⟨_, _, X.returnOut hx hret (hb hby hd) hr, hrun, hended, _, _, rfl, hQ, ⟨_, rfl⟩, hW, hsame.mono hc hs⟩
end OwnKit
section OwnSteps
variable {p : Program} {l : Launch} {e : Env} {R : Room} {s : State} {m : MethodId} {args : Array Value} {below : List Frame} {meth : Method} {c : Code} {T : State} {locs : List Loc} {cells slots : Nat} {Z : State} {a0 : Array Value} {h : Heap}
variable {own nm : String} {bytes : ByteArray} {maxL : Nat} {ret : Option FieldType} {D : State → Outcome → Prop} {pc pc' pcT : Nat} {Ls Ls' : Array Slot} {r : List Value}
theorem ow_iadd {x y : Int32} (C : OwC p Z s m meth c own nm bytes maxL ret) (X : Stand p l e R s m args below meth c T locs cells slots) (hd : decode bytes pc = .ok (.iadd, 1))  (hp : pc + 1 = pc') (k : OwF p e below D T (mkF m pc' Ls (.int (x + y) :: r))) : OwF p e below D T (mkF m pc Ls (.int y :: .int x :: r)) := by
  subst hp; exact OwF.st (fun _ q => XS.iadd X.here C.1 rfl (hb C.2.1 hd) rfl q) k
theorem ow_isub {x y : Int32} (C : OwC p Z s m meth c own nm bytes maxL ret) (X : Stand p l e R s m args below meth c T locs cells slots) (hd : decode bytes pc = .ok (.isub, 1))  (hp : pc + 1 = pc') (k : OwF p e below D T (mkF m pc' Ls (.int (x - y) :: r))) : OwF p e below D T (mkF m pc Ls (.int y :: .int x :: r)) := by
  subst hp; exact OwF.st (fun _ q => XS.isub X.here C.1 rfl (hb C.2.1 hd) rfl q) k
theorem ow_imul {x y : Int32} (C : OwC p Z s m meth c own nm bytes maxL ret) (X : Stand p l e R s m args below meth c T locs cells slots) (hd : decode bytes pc = .ok (.imul, 1))  (hp : pc + 1 = pc') (k : OwF p e below D T (mkF m pc' Ls (.int (x * y) :: r))) : OwF p e below D T (mkF m pc Ls (.int y :: .int x :: r)) := by
  subst hp; exact OwF.st (fun _ q => XS.imul X.here C.1 rfl (hb C.2.1 hd) rfl q) k
theorem ow_iand {x y : Int32} (C : OwC p Z s m meth c own nm bytes maxL ret) (X : Stand p l e R s m args below meth c T locs cells slots) (hd : decode bytes pc = .ok (.iand, 1))  (hp : pc + 1 = pc') (k : OwF p e below D T (mkF m pc' Ls (.int (x &&& y) :: r))) : OwF p e below D T (mkF m pc Ls (.int y :: .int x :: r)) := by
  subst hp; exact OwF.st (fun _ q => XS.iand X.here C.1 rfl (hb C.2.1 hd) rfl q) k
theorem ow_ior {x y : Int32} (C : OwC p Z s m meth c own nm bytes maxL ret) (X : Stand p l e R s m args below meth c T locs cells slots) (hd : decode bytes pc = .ok (.ior, 1))  (hp : pc + 1 = pc') (k : OwF p e below D T (mkF m pc' Ls (.int (x ||| y) :: r))) : OwF p e below D T (mkF m pc Ls (.int y :: .int x :: r)) := by
  subst hp; exact OwF.st (fun _ q => XT.ior X.here C.1 rfl (hb C.2.1 hd) rfl q) k
theorem ow_ixor {x y : Int32} (C : OwC p Z s m meth c own nm bytes maxL ret) (X : Stand p l e R s m args below meth c T locs cells slots) (hd : decode bytes pc = .ok (.ixor, 1))  (hp : pc + 1 = pc') (k : OwF p e below D T (mkF m pc' Ls (.int (x ^^^ y) :: r))) : OwF p e below D T (mkF m pc Ls (.int y :: .int x :: r)) := by
  subst hp; exact OwF.st (fun _ q => XT.ixor X.here C.1 rfl (hb C.2.1 hd) rfl q) k
theorem ow_ishl {x y : Int32} (C : OwC p Z s m meth c own nm bytes maxL ret) (X : Stand p l e R s m args below meth c T locs cells slots) (hd : decode bytes pc = .ok (.ishl, 1))  (hp : pc + 1 = pc') (k : OwF p e below D T (mkF m pc' Ls (.int (x <<< (y &&& 31)) :: r))) : OwF p e below D T (mkF m pc Ls (.int y :: .int x :: r)) := by
  subst hp; exact OwF.st (fun _ q => XT.ishl X.here C.1 rfl (hb C.2.1 hd) rfl q) k
theorem ow_ishr {x y : Int32} (C : OwC p Z s m meth c own nm bytes maxL ret) (X : Stand p l e R s m args below meth c T locs cells slots) (hd : decode bytes pc = .ok (.ishr, 1))  (hp : pc + 1 = pc') (k : OwF p e below D T (mkF m pc' Ls (.int (x >>> (y &&& 31)) :: r))) : OwF p e below D T (mkF m pc Ls (.int y :: .int x :: r)) := by
  subst hp; exact OwF.st (fun _ q => XT.ishr X.here C.1 rfl (hb C.2.1 hd) rfl q) k
theorem ow_iushr {x y : Int32} (C : OwC p Z s m meth c own nm bytes maxL ret) (X : Stand p l e R s m args below meth c T locs cells slots) (hd : decode bytes pc = .ok (.iushr, 1))  (hp : pc + 1 = pc') (k : OwF p e below D T (mkF m pc' Ls (.int (XT.ushr x y) :: r))) : OwF p e below D T (mkF m pc Ls (.int y :: .int x :: r)) := by
  subst hp; exact OwF.st (fun _ q => XT.iushr X.here C.1 rfl (hb C.2.1 hd) rfl q) k
theorem ow_idiv {x y : Int32} (C : OwC p Z s m meth c own nm bytes maxL ret) (X : Stand p l e R s m args below meth c T locs cells slots) (hd : decode bytes pc = .ok (.idiv, 1)) (hy : y ≠ 0) (hp : pc + 1 = pc') (k : OwF p e below D T (mkF m pc' Ls (.int (x / y) :: r))) : OwF p e below D T (mkF m pc Ls (.int y :: .int x :: r)) := by
  subst hp; exact OwF.st (fun _ q => XS.idiv X.here C.1 rfl (hb C.2.1 hd) rfl hy q) k
theorem ow_irem {x y : Int32} (C : OwC p Z s m meth c own nm bytes maxL ret) (X : Stand p l e R s m args below meth c T locs cells slots) (hd : decode bytes pc = .ok (.irem, 1)) (hy : y ≠ 0) (hp : pc + 1 = pc') (k : OwF p e below D T (mkF m pc' Ls (.int (x - (x / y) * y) :: r))) : OwF p e below D T (mkF m pc Ls (.int y :: .int x :: r)) := by
  subst hp; exact OwF.st (fun _ q => XS.irem X.here C.1 rfl (hb C.2.1 hd) rfl hy q) k
theorem ow_ladd {x y : Int64} (C : OwC p Z s m meth c own nm bytes maxL ret) (X : Stand p l e R s m args below meth c T locs cells slots) (hd : decode bytes pc = .ok (.ladd, 1))  (hp : pc + 1 = pc') (k : OwF p e below D T (mkF m pc' Ls (.long (x + y) :: r))) : OwF p e below D T (mkF m pc Ls (.long y :: .long x :: r)) := by
  subst hp; exact OwF.st (fun _ q => XT.ladd X.here C.1 rfl (hb C.2.1 hd) rfl q) k
theorem ow_lsub {x y : Int64} (C : OwC p Z s m meth c own nm bytes maxL ret) (X : Stand p l e R s m args below meth c T locs cells slots) (hd : decode bytes pc = .ok (.lsub, 1))  (hp : pc + 1 = pc') (k : OwF p e below D T (mkF m pc' Ls (.long (x - y) :: r))) : OwF p e below D T (mkF m pc Ls (.long y :: .long x :: r)) := by
  subst hp; exact OwF.st (fun _ q => XT.lsub X.here C.1 rfl (hb C.2.1 hd) rfl q) k
theorem ow_lmul {x y : Int64} (C : OwC p Z s m meth c own nm bytes maxL ret) (X : Stand p l e R s m args below meth c T locs cells slots) (hd : decode bytes pc = .ok (.lmul, 1))  (hp : pc + 1 = pc') (k : OwF p e below D T (mkF m pc' Ls (.long (x * y) :: r))) : OwF p e below D T (mkF m pc Ls (.long y :: .long x :: r)) := by
  subst hp; exact OwF.st (fun _ q => XT.lmul X.here C.1 rfl (hb C.2.1 hd) rfl q) k
theorem ow_land {x y : Int64} (C : OwC p Z s m meth c own nm bytes maxL ret) (X : Stand p l e R s m args below meth c T locs cells slots) (hd : decode bytes pc = .ok (.land, 1))  (hp : pc + 1 = pc') (k : OwF p e below D T (mkF m pc' Ls (.long (x &&& y) :: r))) : OwF p e below D T (mkF m pc Ls (.long y :: .long x :: r)) := by
  subst hp; exact OwF.st (fun _ q => XT.land X.here C.1 rfl (hb C.2.1 hd) rfl q) k
theorem ow_lor {x y : Int64} (C : OwC p Z s m meth c own nm bytes maxL ret) (X : Stand p l e R s m args below meth c T locs cells slots) (hd : decode bytes pc = .ok (.lor, 1))  (hp : pc + 1 = pc') (k : OwF p e below D T (mkF m pc' Ls (.long (x ||| y) :: r))) : OwF p e below D T (mkF m pc Ls (.long y :: .long x :: r)) := by
  subst hp; exact OwF.st (fun _ q => XT.lor X.here C.1 rfl (hb C.2.1 hd) rfl q) k
theorem ow_lxor {x y : Int64} (C : OwC p Z s m meth c own nm bytes maxL ret) (X : Stand p l e R s m args below meth c T locs cells slots) (hd : decode bytes pc = .ok (.lxor, 1))  (hp : pc + 1 = pc') (k : OwF p e below D T (mkF m pc' Ls (.long (x ^^^ y) :: r))) : OwF p e below D T (mkF m pc Ls (.long y :: .long x :: r)) := by
  subst hp; exact OwF.st (fun _ q => XT.lxor X.here C.1 rfl (hb C.2.1 hd) rfl q) k
theorem ow_ldiv {x y : Int64} (C : OwC p Z s m meth c own nm bytes maxL ret) (X : Stand p l e R s m args below meth c T locs cells slots) (hd : decode bytes pc = .ok (.ldiv, 1)) (hy : y ≠ 0) (hp : pc + 1 = pc') (k : OwF p e below D T (mkF m pc' Ls (.long (x / y) :: r))) : OwF p e below D T (mkF m pc Ls (.long y :: .long x :: r)) := by
  subst hp; exact OwF.st (fun _ q => XT.ldiv X.here C.1 rfl (hb C.2.1 hd) rfl hy q) k
theorem ow_lrem {x y : Int64} (C : OwC p Z s m meth c own nm bytes maxL ret) (X : Stand p l e R s m args below meth c T locs cells slots) (hd : decode bytes pc = .ok (.lrem, 1)) (hy : y ≠ 0) (hp : pc + 1 = pc') (k : OwF p e below D T (mkF m pc' Ls (.long (x - (x / y) * y) :: r))) : OwF p e below D T (mkF m pc Ls (.long y :: .long x :: r)) := by
  subst hp; exact OwF.st (fun _ q => XT.lrem X.here C.1 rfl (hb C.2.1 hd) rfl hy q) k
theorem ow_lshl {x : Int64} {y : Int32} (C : OwC p Z s m meth c own nm bytes maxL ret) (X : Stand p l e R s m args below meth c T locs cells slots) (hd : decode bytes pc = .ok (.lshl, 1))  (hp : pc + 1 = pc') (k : OwF p e below D T (mkF m pc' Ls (.long (x <<< (y.toInt64 &&& 63)) :: r))) : OwF p e below D T (mkF m pc Ls (.int y :: .long x :: r)) := by
  subst hp; exact OwF.st (fun _ q => XT.lshl X.here C.1 rfl (hb C.2.1 hd) rfl q) k
theorem ow_lshr {x : Int64} {y : Int32} (C : OwC p Z s m meth c own nm bytes maxL ret) (X : Stand p l e R s m args below meth c T locs cells slots) (hd : decode bytes pc = .ok (.lshr, 1))  (hp : pc + 1 = pc') (k : OwF p e below D T (mkF m pc' Ls (.long (x >>> (y.toInt64 &&& 63)) :: r))) : OwF p e below D T (mkF m pc Ls (.int y :: .long x :: r)) := by
  subst hp; exact OwF.st (fun _ q => XT.lshr X.here C.1 rfl (hb C.2.1 hd) rfl q) k
theorem ow_lushr {x : Int64} {y : Int32} (C : OwC p Z s m meth c own nm bytes maxL ret) (X : Stand p l e R s m args below meth c T locs cells slots) (hd : decode bytes pc = .ok (.lushr, 1))  (hp : pc + 1 = pc') (k : OwF p e below D T (mkF m pc' Ls (.long (XT.ushrL x y) :: r))) : OwF p e below D T (mkF m pc Ls (.int y :: .long x :: r)) := by
  subst hp; exact OwF.st (fun _ q => XT.lushr X.here C.1 rfl (hb C.2.1 hd) rfl q) k
theorem ow_lcmp {x y : Int64} (C : OwC p Z s m meth c own nm bytes maxL ret) (X : Stand p l e R s m args below meth c T locs cells slots) (hd : decode bytes pc = .ok (.lcmp, 1))  (hp : pc + 1 = pc') (k : OwF p e below D T (mkF m pc' Ls (.int (XT.cmpL x y) :: r))) : OwF p e below D T (mkF m pc Ls (.long y :: .long x :: r)) := by
  subst hp; exact OwF.st (fun _ q => XT.lcmp X.here C.1 rfl (hb C.2.1 hd) rfl q) k
theorem ow_ineg {x : Int32} (C : OwC p Z s m meth c own nm bytes maxL ret) (X : Stand p l e R s m args below meth c T locs cells slots) (hd : decode bytes pc = .ok (.ineg, 1))  (hp : pc + 1 = pc') (k : OwF p e below D T (mkF m pc' Ls (.int (-x) :: r))) : OwF p e below D T (mkF m pc Ls (.int x :: r)) := by
  subst hp; exact OwF.st (fun _ q => XS.ineg X.here C.1 rfl (hb C.2.1 hd) rfl q) k
theorem ow_lneg {x : Int64} (C : OwC p Z s m meth c own nm bytes maxL ret) (X : Stand p l e R s m args below meth c T locs cells slots) (hd : decode bytes pc = .ok (.lneg, 1))  (hp : pc + 1 = pc') (k : OwF p e below D T (mkF m pc' Ls (.long (-x) :: r))) : OwF p e below D T (mkF m pc Ls (.long x :: r)) := by
  subst hp; exact OwF.st (fun _ q => XT.lneg X.here C.1 rfl (hb C.2.1 hd) rfl q) k
theorem ow_i2l {x : Int32} (C : OwC p Z s m meth c own nm bytes maxL ret) (X : Stand p l e R s m args below meth c T locs cells slots) (hd : decode bytes pc = .ok (.i2l, 1))  (hp : pc + 1 = pc') (k : OwF p e below D T (mkF m pc' Ls (.long x.toInt64 :: r))) : OwF p e below D T (mkF m pc Ls (.int x :: r)) := by
  subst hp; exact OwF.st (fun _ q => XT.i2l X.here C.1 rfl (hb C.2.1 hd) rfl q) k
theorem ow_l2i {x : Int64} (C : OwC p Z s m meth c own nm bytes maxL ret) (X : Stand p l e R s m args below meth c T locs cells slots) (hd : decode bytes pc = .ok (.l2i, 1))  (hp : pc + 1 = pc') (k : OwF p e below D T (mkF m pc' Ls (.int x.toInt32 :: r))) : OwF p e below D T (mkF m pc Ls (.long x :: r)) := by
  subst hp; exact OwF.st (fun _ q => XT.l2i X.here C.1 rfl (hb C.2.1 hd) rfl q) k
theorem ow_i2b {x : Int32} (C : OwC p Z s m meth c own nm bytes maxL ret) (X : Stand p l e R s m args below meth c T locs cells slots) (hd : decode bytes pc = .ok (.i2b, 1))  (hp : pc + 1 = pc') (k : OwF p e below D T (mkF m pc' Ls (.int x.toInt8.toInt32 :: r))) : OwF p e below D T (mkF m pc Ls (.int x :: r)) := by
  subst hp; exact OwF.st (fun _ q => XT.i2b X.here C.1 rfl (hb C.2.1 hd) rfl q) k
theorem ow_i2c {x : Int32} (C : OwC p Z s m meth c own nm bytes maxL ret) (X : Stand p l e R s m args below meth c T locs cells slots) (hd : decode bytes pc = .ok (.i2c, 1))  (hp : pc + 1 = pc') (k : OwF p e below D T (mkF m pc' Ls (.int x.toUInt32.toUInt16.toUInt32.toInt32 :: r))) : OwF p e below D T (mkF m pc Ls (.int x :: r)) := by
  subst hp; exact OwF.st (fun _ q => XT.i2c X.here C.1 rfl (hb C.2.1 hd) rfl q) k
theorem ow_i2s {x : Int32} (C : OwC p Z s m meth c own nm bytes maxL ret) (X : Stand p l e R s m args below meth c T locs cells slots) (hd : decode bytes pc = .ok (.i2s, 1))  (hp : pc + 1 = pc') (k : OwF p e below D T (mkF m pc' Ls (.int x.toInt16.toInt32 :: r))) : OwF p e below D T (mkF m pc Ls (.int x :: r)) := by
  subst hp; exact OwF.st (fun _ q => XT.i2s X.here C.1 rfl (hb C.2.1 hd) rfl q) k
theorem ow_dup {v : Value} (C : OwC p Z s m meth c own nm bytes maxL ret) (X : Stand p l e R s m args below meth c T locs cells slots) (hd : decode bytes pc = .ok (.dup, 1)) (hc : v.category = 1) (hp : pc + 1 = pc') (k : OwF p e below D T (mkF m pc' Ls (v :: v :: r))) : OwF p e below D T (mkF m pc Ls (v :: r)) := by
  subst hp; exact OwF.st (fun _ q => XS.dup X.here C.1 rfl (hb C.2.1 hd) rfl hc q) k
theorem ow_pop {v : Value} (C : OwC p Z s m meth c own nm bytes maxL ret) (X : Stand p l e R s m args below meth c T locs cells slots) (hd : decode bytes pc = .ok (.pop, 1)) (hc : v.category = 1) (hp : pc + 1 = pc') (k : OwF p e below D T (mkF m pc' Ls (r))) : OwF p e below D T (mkF m pc Ls (v :: r)) := by
  subst hp; exact OwF.st (fun _ q => XT.pop X.here C.1 rfl (hb C.2.1 hd) rfl hc q) k
theorem ow_dupX1 {v w : Value} (C : OwC p Z s m meth c own nm bytes maxL ret) (X : Stand p l e R s m args below meth c T locs cells slots) (hd : decode bytes pc = .ok (.dup_x1, 1)) (hc : v.category = 1) (hc' : w.category = 1) (hp : pc + 1 = pc') (k : OwF p e below D T (mkF m pc' Ls (v :: w :: v :: r))) : OwF p e below D T (mkF m pc Ls (v :: w :: r)) := by
  subst hp; exact OwF.st (fun _ q => XT.dupX1 X.here C.1 rfl (hb C.2.1 hd) rfl hc hc' q) k
theorem ow_dup2 {v w : Value} (C : OwC p Z s m meth c own nm bytes maxL ret) (X : Stand p l e R s m args below meth c T locs cells slots) (hd : decode bytes pc = .ok (.dup2, 1)) (hc : v.category = 1) (hc' : w.category = 1) (hp : pc + 1 = pc') (k : OwF p e below D T (mkF m pc' Ls (v :: w :: v :: w :: r))) : OwF p e below D T (mkF m pc Ls (v :: w :: r)) := by
  subst hp; exact OwF.st (fun _ q => XT.dup2 X.here C.1 rfl (hb C.2.1 hd) rfl hc hc' q) k
theorem ow_dup2L {x : Int64} (C : OwC p Z s m meth c own nm bytes maxL ret) (X : Stand p l e R s m args below meth c T locs cells slots) (hd : decode bytes pc = .ok (.dup2, 1))  (hp : pc + 1 = pc') (k : OwF p e below D T (mkF m pc' Ls (.long x :: .long x :: r))) : OwF p e below D T (mkF m pc Ls (.long x :: r)) := by
  subst hp; exact OwF.st (fun _ q => XT.dup2L X.here C.1 rfl (hb C.2.1 hd) rfl q) k
theorem ow_aconstNull  (C : OwC p Z s m meth c own nm bytes maxL ret) (X : Stand p l e R s m args below meth c T locs cells slots) (hd : decode bytes pc = .ok (.aconst_null, 1))  (hp : pc + 1 = pc') (k : OwF p e below D T (mkF m pc' Ls (.null :: r))) : OwF p e below D T (mkF m pc Ls (r)) := by
  subst hp; exact OwF.st (fun _ q => XS.aconstNull X.here C.1 rfl (hb C.2.1 hd)  q) k
theorem ow_iloadN {j : Fin 4} {v : Int32} (C : OwC p Z s m meth c own nm bytes maxL ret) (X : Stand p l e R s m args below meth c T locs cells slots) (hd : decode bytes pc = .ok (.iload_n j, 1)) (hl : Ls[j.val]? = some (.val (.int v))) (hp : pc + 1 = pc') (k : OwF p e below D T (mkF m pc' Ls (.int v :: r))) : OwF p e below D T (mkF m pc Ls (r)) := by
  subst hp; exact OwF.st (fun _ q => XS.iloadN X.here C.1 rfl (hb C.2.1 hd) hl q) k
theorem ow_iload {j : Nat} {v : Int32} (C : OwC p Z s m meth c own nm bytes maxL ret) (X : Stand p l e R s m args below meth c T locs cells slots) (hd : decode bytes pc = .ok (.iload j, 2)) (hl : Ls[j]? = some (.val (.int v))) (hp : pc + 2 = pc') (k : OwF p e below D T (mkF m pc' Ls (.int v :: r))) : OwF p e below D T (mkF m pc Ls (r)) := by
  subst hp; exact OwF.st (fun _ q => XS.iload X.here C.1 rfl (hb C.2.1 hd) hl q) k
theorem ow_lloadN {j : Fin 4} {v : Int64} (C : OwC p Z s m meth c own nm bytes maxL ret) (X : Stand p l e R s m args below meth c T locs cells slots) (hd : decode bytes pc = .ok (.lload_n j, 1)) (hl : Ls[j.val]? = some (.val (.long v))) (hp : pc + 1 = pc') (k : OwF p e below D T (mkF m pc' Ls (.long v :: r))) : OwF p e below D T (mkF m pc Ls (r)) := by
  subst hp; exact OwF.st (fun _ q => XT.lloadN X.here C.1 rfl (hb C.2.1 hd) hl q) k
theorem ow_lload {j : Nat} {v : Int64} (C : OwC p Z s m meth c own nm bytes maxL ret) (X : Stand p l e R s m args below meth c T locs cells slots) (hd : decode bytes pc = .ok (.lload j, 2)) (hl : Ls[j]? = some (.val (.long v))) (hp : pc + 2 = pc') (k : OwF p e below D T (mkF m pc' Ls (.long v :: r))) : OwF p e below D T (mkF m pc Ls (r)) := by
  subst hp; exact OwF.st (fun _ q => XT.lload X.here C.1 rfl (hb C.2.1 hd) hl q) k
theorem ow_aloadN {j : Fin 4} {v : Value} (C : OwC p Z s m meth c own nm bytes maxL ret) (X : Stand p l e R s m args below meth c T locs cells slots) (hd : decode bytes pc = .ok (.aload_n j, 1)) (hl : Ls[j.val]? = some (.val v)) (hv : v.isRef = true) (hp : pc + 1 = pc') (k : OwF p e below D T (mkF m pc' Ls (v :: r))) : OwF p e below D T (mkF m pc Ls (r)) := by
  subst hp; exact OwF.st (fun _ q => XS.aloadN X.here C.1 rfl (hb C.2.1 hd) hl hv q) k
theorem ow_aload {j : Nat} {v : Value} (C : OwC p Z s m meth c own nm bytes maxL ret) (X : Stand p l e R s m args below meth c T locs cells slots) (hd : decode bytes pc = .ok (.aload j, 2)) (hl : Ls[j]? = some (.val v)) (hv : v.isRef = true) (hp : pc + 2 = pc') (k : OwF p e below D T (mkF m pc' Ls (v :: r))) : OwF p e below D T (mkF m pc Ls (r)) := by
  subst hp; exact OwF.st (fun _ q => XS.aload X.here C.1 rfl (hb C.2.1 hd) hl hv q) k
theorem ow_istoreN {j : Fin 4} {v : Int32} (C : OwC p Z s m meth c own nm bytes maxL ret) (X : Stand p l e R s m args below meth c T locs cells slots) (hd : decode bytes pc = .ok (.istore_n j, 1)) (hl : storeLocals Ls j.val (.int v) = some Ls') (hp : pc + 1 = pc') (k : OwF p e below D T (mkF m pc' Ls' (r))) : OwF p e below D T (mkF m pc Ls (.int v :: r)) := by
  subst hp; exact OwF.st (fun _ q => XS.istoreN X.here C.1 rfl (hb C.2.1 hd) rfl hl q) k
theorem ow_istore {j : Nat} {v : Int32} (C : OwC p Z s m meth c own nm bytes maxL ret) (X : Stand p l e R s m args below meth c T locs cells slots) (hd : decode bytes pc = .ok (.istore j, 2)) (hl : storeLocals Ls j (.int v) = some Ls') (hp : pc + 2 = pc') (k : OwF p e below D T (mkF m pc' Ls' (r))) : OwF p e below D T (mkF m pc Ls (.int v :: r)) := by
  subst hp; exact OwF.st (fun _ q => XS.istore X.here C.1 rfl (hb C.2.1 hd) rfl hl q) k
theorem ow_lstoreN {j : Fin 4} {v : Int64} (C : OwC p Z s m meth c own nm bytes maxL ret) (X : Stand p l e R s m args below meth c T locs cells slots) (hd : decode bytes pc = .ok (.lstore_n j, 1)) (hl : storeLocals Ls j.val (.long v) = some Ls') (hp : pc + 1 = pc') (k : OwF p e below D T (mkF m pc' Ls' (r))) : OwF p e below D T (mkF m pc Ls (.long v :: r)) := by
  subst hp; exact OwF.st (fun _ q => XT.lstoreN X.here C.1 rfl (hb C.2.1 hd) rfl hl q) k
theorem ow_lstore {j : Nat} {v : Int64} (C : OwC p Z s m meth c own nm bytes maxL ret) (X : Stand p l e R s m args below meth c T locs cells slots) (hd : decode bytes pc = .ok (.lstore j, 2)) (hl : storeLocals Ls j (.long v) = some Ls') (hp : pc + 2 = pc') (k : OwF p e below D T (mkF m pc' Ls' (r))) : OwF p e below D T (mkF m pc Ls (.long v :: r)) := by
  subst hp; exact OwF.st (fun _ q => XT.lstore X.here C.1 rfl (hb C.2.1 hd) rfl hl q) k
theorem ow_astoreN {j : Fin 4} {v : Value} (C : OwC p Z s m meth c own nm bytes maxL ret) (X : Stand p l e R s m args below meth c T locs cells slots) (hd : decode bytes pc = .ok (.astore_n j, 1)) (hv : v.isRef = true) (hl : storeLocals Ls j.val v = some Ls') (hp : pc + 1 = pc') (k : OwF p e below D T (mkF m pc' Ls' (r))) : OwF p e below D T (mkF m pc Ls (v :: r)) := by
  subst hp; exact OwF.st (fun _ q => XS.astoreN X.here C.1 rfl (hb C.2.1 hd) rfl hv hl q) k
theorem ow_astore {j : Nat} {v : Value} (C : OwC p Z s m meth c own nm bytes maxL ret) (X : Stand p l e R s m args below meth c T locs cells slots) (hd : decode bytes pc = .ok (.astore j, 2)) (hv : v.isRef = true) (hl : storeLocals Ls j v = some Ls') (hp : pc + 2 = pc') (k : OwF p e below D T (mkF m pc' Ls' (r))) : OwF p e below D T (mkF m pc Ls (v :: r)) := by
  subst hp; exact OwF.st (fun _ q => XS.astore X.here C.1 rfl (hb C.2.1 hd) rfl hv hl q) k
theorem ow_iconst {i : Int} (v : Int32) (C : OwC p Z s m meth c own nm bytes maxL ret) (X : Stand p l e R s m args below meth c T locs cells slots) (hd : decode bytes pc = .ok (.iconst i, 1)) (hv : Int32.ofInt i = v) (hp : pc + 1 = pc') (k : OwF p e below D T (mkF m pc' Ls (.int v :: r))) : OwF p e below D T (mkF m pc Ls r) := by
  subst hp; subst hv; exact OwF.st (fun _ q => XS.iconst X.here C.1 rfl (hb C.2.1 hd) q) k
theorem ow_bipush {i : Int} (v : Int32) (C : OwC p Z s m meth c own nm bytes maxL ret) (X : Stand p l e R s m args below meth c T locs cells slots) (hd : decode bytes pc = .ok (.bipush i, 2)) (hv : (Int8.ofInt i).toInt32 = v) (hp : pc + 2 = pc') (k : OwF p e below D T (mkF m pc' Ls (.int v :: r))) : OwF p e below D T (mkF m pc Ls r) := by
  subst hp; subst hv; exact OwF.st (fun _ q => XS.bipush X.here C.1 rfl (hb C.2.1 hd) q) k
theorem ow_sipush {i : Int} (v : Int32) (C : OwC p Z s m meth c own nm bytes maxL ret) (X : Stand p l e R s m args below meth c T locs cells slots) (hd : decode bytes pc = .ok (.sipush i, 3)) (hv : (Int16.ofInt i).toInt32 = v) (hp : pc + 3 = pc') (k : OwF p e below D T (mkF m pc' Ls (.int v :: r))) : OwF p e below D T (mkF m pc Ls r) := by
  subst hp; subst hv; exact OwF.st (fun _ q => XS.sipush X.here C.1 rfl (hb C.2.1 hd) q) k
theorem ow_lconst {i : Fin 2} (v : Int64) (C : OwC p Z s m meth c own nm bytes maxL ret) (X : Stand p l e R s m args below meth c T locs cells slots) (hd : decode bytes pc = .ok (.lconst i, 1)) (hv : Int64.ofNat i = v) (hp : pc + 1 = pc') (k : OwF p e below D T (mkF m pc' Ls (.long v :: r))) : OwF p e below D T (mkF m pc Ls r) := by
  subst hp; subst hv; exact OwF.st (fun _ q => XT.lconst X.here C.1 rfl (hb C.2.1 hd) q) k
theorem ow_iinc {i : Int} {j : Nat} {x : Int32} (v : Int32) (C : OwC p Z s m meth c own nm bytes maxL ret) (X : Stand p l e R s m args below meth c T locs cells slots) (hd : decode bytes pc = .ok (.iinc j i, 3)) (hv : Int32.ofInt i = v) (hl : Ls[j]? = some (.val (.int x))) (hl' : storeLocals Ls j (.int (x + v)) = some Ls') (hp : pc + 3 = pc') (k : OwF p e below D T (mkF m pc' Ls' r)) : OwF p e below D T (mkF m pc Ls r) := by
  subst hp; subst hv; exact OwF.st (fun _ q => XS.iinc X.here C.1 rfl (hb C.2.1 hd) hl hl' q) k
theorem ow_ldc {i : Nat} {v : Int32} (C : OwC p Z s m meth c own nm bytes maxL ret) (X : Stand p l e R s m args below meth c T locs cells slots) (w : (Jvm.Cond.constant own i v).before a0 Z = true) (hd : decode bytes pc = .ok (.ldc i, 2)) (hp : pc + 2 = pc') (k : OwF p e below D T (mkF m pc' Ls (.int v :: r))) : OwF p e below D T (mkF m pc Ls r) := by
  subst hp; exact OwF.st (fun _ q => X.ldcI C.1 C.2.2.2.1 (mvT C.2.2.2.2.2.2.2 w) rfl (hb C.2.1 hd) q) k
theorem ow_ldcW {i : Nat} {v : Int32} (C : OwC p Z s m meth c own nm bytes maxL ret) (X : Stand p l e R s m args below meth c T locs cells slots) (w : (Jvm.Cond.constant own i v).before a0 Z = true) (hd : decode bytes pc = .ok (.ldc_w i, 3)) (hp : pc + 3 = pc') (k : OwF p e below D T (mkF m pc' Ls (.int v :: r))) : OwF p e below D T (mkF m pc Ls r) := by
  subst hp; exact OwF.st (fun _ q => X.ldcWI C.1 C.2.2.2.1 (mvT C.2.2.2.2.2.2.2 w) rfl (hb C.2.1 hd) q) k
theorem ow_ldc2 {i : Nat} {v : Int64} (C : OwC p Z s m meth c own nm bytes maxL ret) (X : Stand p l e R s m args below meth c T locs cells slots) (w : (Jvm.Cond.constantLong own i v).before a0 Z = true) (hd : decode bytes pc = .ok (.ldc2_w i, 3)) (hp : pc + 3 = pc') (k : OwF p e below D T (mkF m pc' Ls (.long v :: r))) : OwF p e below D T (mkF m pc Ls r) := by
  subst hp; exact OwF.st (fun _ q => X.ldc2J C.1 C.2.2.2.1 (mvT C.2.2.2.2.2.2.2 w) rfl (hb C.2.1 hd) q) k
theorem ow_goto {o : Int} (C : OwC p Z s m meth c own nm bytes maxL ret) (X : Stand p l e R s m args below meth c T locs cells slots) (hd : decode bytes pc = .ok (.goto o, 3)) (ho : 0 ≤ (pc : Int) + o) (ht : ((pc : Int) + o).toNat = pcT) (k : OwF p e below D T (mkF m pcT Ls r)) : OwF p e below D T (mkF m pc Ls r) :=
  OwF.st (fun _ q => XS.goto X.here C.1 rfl rfl (hb C.2.1 hd) ho ht q) k
theorem ow_if_eq {x : Int32} {o : Int} (C : OwC p Z s m meth c own nm bytes maxL ret) (X : Stand p l e R s m args below meth c T locs cells slots) (hd : decode bytes pc = .ok (.ifCond .eq o, 3)) (ho : 0 ≤ (pc : Int) + o) (ht : ((pc : Int) + o).toNat = pcT) (hp : pc + 3 = pc') (k1 : x = 0 → OwF p e below D T (mkF m pcT Ls r)) (k2 : ¬ x = 0 → OwF p e below D T (mkF m pc' Ls r)) : OwF p e below D T (mkF m pc Ls (.int x :: r)) := by
  subst hp
  by_cases hq : x = 0
  · exact OwF.st (fun _ q => XS.ifYes X.here C.1 rfl rfl (hb C.2.1 hd) rfl (XT.i0_eq_t hq) ho ht q) (k1 hq)
  · exact OwF.st (fun _ q => XS.ifNo X.here C.1 rfl (hb C.2.1 hd) rfl (XT.i0_eq_f hq) q) (k2 hq)
theorem ow_icmp_eq {x y : Int32} {o : Int} (C : OwC p Z s m meth c own nm bytes maxL ret) (X : Stand p l e R s m args below meth c T locs cells slots) (hd : decode bytes pc = .ok (.if_icmp .eq o, 3)) (ho : 0 ≤ (pc : Int) + o) (ht : ((pc : Int) + o).toNat = pcT) (hp : pc + 3 = pc') (k1 : x = y → OwF p e below D T (mkF m pcT Ls r)) (k2 : ¬ x = y → OwF p e below D T (mkF m pc' Ls r)) : OwF p e below D T (mkF m pc Ls (.int y :: .int x :: r)) := by
  subst hp
  by_cases hq : x = y
  · exact OwF.st (fun _ q => XS.icmpYes X.here C.1 rfl rfl (hb C.2.1 hd) rfl (XT.ii_eq_t hq) ho ht q) (k1 hq)
  · exact OwF.st (fun _ q => XS.icmpNo X.here C.1 rfl (hb C.2.1 hd) rfl (XT.ii_eq_f hq) q) (k2 hq)
theorem ow_lif_eq {x y : Int64} {o : Int} (C : OwC p Z s m meth c own nm bytes maxL ret) (X : Stand p l e R s m args below meth c T locs cells slots) (hd : decode bytes pc = .ok (.ifCond .eq o, 3)) (ho : 0 ≤ (pc : Int) + o) (ht : ((pc : Int) + o).toNat = pcT) (hp : pc + 3 = pc') (k1 : x = y → OwF p e below D T (mkF m pcT Ls r)) (k2 : ¬ x = y → OwF p e below D T (mkF m pc' Ls r)) : OwF p e below D T (mkF m pc Ls (.int (XT.cmpL x y) :: r)) := by
  subst hp
  by_cases hq : x = y
  · exact OwF.st (fun _ q => XS.ifYes X.here C.1 rfl rfl (hb C.2.1 hd) rfl (XT.ll_eq_t hq) ho ht q) (k1 hq)
  · exact OwF.st (fun _ q => XS.ifNo X.here C.1 rfl (hb C.2.1 hd) rfl (XT.ll_eq_f hq) q) (k2 hq)
theorem ow_if_ne {x : Int32} {o : Int} (C : OwC p Z s m meth c own nm bytes maxL ret) (X : Stand p l e R s m args below meth c T locs cells slots) (hd : decode bytes pc = .ok (.ifCond .ne o, 3)) (ho : 0 ≤ (pc : Int) + o) (ht : ((pc : Int) + o).toNat = pcT) (hp : pc + 3 = pc') (k1 : ¬ x = 0 → OwF p e below D T (mkF m pcT Ls r)) (k2 : x = 0 → OwF p e below D T (mkF m pc' Ls r)) : OwF p e below D T (mkF m pc Ls (.int x :: r)) := by
  subst hp
  by_cases hq : x = 0
  · exact OwF.st (fun _ q => XS.ifNo X.here C.1 rfl (hb C.2.1 hd) rfl (XT.i0_ne_f hq) q) (k2 hq)
  · exact OwF.st (fun _ q => XS.ifYes X.here C.1 rfl rfl (hb C.2.1 hd) rfl (XT.i0_ne_t hq) ho ht q) (k1 hq)
theorem ow_icmp_ne {x y : Int32} {o : Int} (C : OwC p Z s m meth c own nm bytes maxL ret) (X : Stand p l e R s m args below meth c T locs cells slots) (hd : decode bytes pc = .ok (.if_icmp .ne o, 3)) (ho : 0 ≤ (pc : Int) + o) (ht : ((pc : Int) + o).toNat = pcT) (hp : pc + 3 = pc') (k1 : ¬ x = y → OwF p e below D T (mkF m pcT Ls r)) (k2 : x = y → OwF p e below D T (mkF m pc' Ls r)) : OwF p e below D T (mkF m pc Ls (.int y :: .int x :: r)) := by
  subst hp
  by_cases hq : x = y
  · exact OwF.st (fun _ q => XS.icmpNo X.here C.1 rfl (hb C.2.1 hd) rfl (XT.ii_ne_f hq) q) (k2 hq)
  · exact OwF.st (fun _ q => XS.icmpYes X.here C.1 rfl rfl (hb C.2.1 hd) rfl (XT.ii_ne_t hq) ho ht q) (k1 hq)
theorem ow_lif_ne {x y : Int64} {o : Int} (C : OwC p Z s m meth c own nm bytes maxL ret) (X : Stand p l e R s m args below meth c T locs cells slots) (hd : decode bytes pc = .ok (.ifCond .ne o, 3)) (ho : 0 ≤ (pc : Int) + o) (ht : ((pc : Int) + o).toNat = pcT) (hp : pc + 3 = pc') (k1 : ¬ x = y → OwF p e below D T (mkF m pcT Ls r)) (k2 : x = y → OwF p e below D T (mkF m pc' Ls r)) : OwF p e below D T (mkF m pc Ls (.int (XT.cmpL x y) :: r)) := by
  subst hp
  by_cases hq : x = y
  · exact OwF.st (fun _ q => XS.ifNo X.here C.1 rfl (hb C.2.1 hd) rfl (XT.ll_ne_f hq) q) (k2 hq)
  · exact OwF.st (fun _ q => XS.ifYes X.here C.1 rfl rfl (hb C.2.1 hd) rfl (XT.ll_ne_t hq) ho ht q) (k1 hq)
theorem ow_if_lt {x : Int32} {o : Int} (C : OwC p Z s m meth c own nm bytes maxL ret) (X : Stand p l e R s m args below meth c T locs cells slots) (hd : decode bytes pc = .ok (.ifCond .lt o, 3)) (ho : 0 ≤ (pc : Int) + o) (ht : ((pc : Int) + o).toNat = pcT) (hp : pc + 3 = pc') (k1 : x < 0 → OwF p e below D T (mkF m pcT Ls r)) (k2 : ¬ x < 0 → OwF p e below D T (mkF m pc' Ls r)) : OwF p e below D T (mkF m pc Ls (.int x :: r)) := by
  subst hp
  by_cases hq : x < 0
  · exact OwF.st (fun _ q => XS.ifYes X.here C.1 rfl rfl (hb C.2.1 hd) rfl (XT.i0_lt_t hq) ho ht q) (k1 hq)
  · exact OwF.st (fun _ q => XS.ifNo X.here C.1 rfl (hb C.2.1 hd) rfl (XT.i0_lt_f hq) q) (k2 hq)
theorem ow_icmp_lt {x y : Int32} {o : Int} (C : OwC p Z s m meth c own nm bytes maxL ret) (X : Stand p l e R s m args below meth c T locs cells slots) (hd : decode bytes pc = .ok (.if_icmp .lt o, 3)) (ho : 0 ≤ (pc : Int) + o) (ht : ((pc : Int) + o).toNat = pcT) (hp : pc + 3 = pc') (k1 : x < y → OwF p e below D T (mkF m pcT Ls r)) (k2 : ¬ x < y → OwF p e below D T (mkF m pc' Ls r)) : OwF p e below D T (mkF m pc Ls (.int y :: .int x :: r)) := by
  subst hp
  by_cases hq : x < y
  · exact OwF.st (fun _ q => XS.icmpYes X.here C.1 rfl rfl (hb C.2.1 hd) rfl (XT.ii_lt_t hq) ho ht q) (k1 hq)
  · exact OwF.st (fun _ q => XS.icmpNo X.here C.1 rfl (hb C.2.1 hd) rfl (XT.ii_lt_f hq) q) (k2 hq)
theorem ow_lif_lt {x y : Int64} {o : Int} (C : OwC p Z s m meth c own nm bytes maxL ret) (X : Stand p l e R s m args below meth c T locs cells slots) (hd : decode bytes pc = .ok (.ifCond .lt o, 3)) (ho : 0 ≤ (pc : Int) + o) (ht : ((pc : Int) + o).toNat = pcT) (hp : pc + 3 = pc') (k1 : x < y → OwF p e below D T (mkF m pcT Ls r)) (k2 : ¬ x < y → OwF p e below D T (mkF m pc' Ls r)) : OwF p e below D T (mkF m pc Ls (.int (XT.cmpL x y) :: r)) := by
  subst hp
  by_cases hq : x < y
  · exact OwF.st (fun _ q => XS.ifYes X.here C.1 rfl rfl (hb C.2.1 hd) rfl (XT.ll_lt_t hq) ho ht q) (k1 hq)
  · exact OwF.st (fun _ q => XS.ifNo X.here C.1 rfl (hb C.2.1 hd) rfl (XT.ll_lt_f hq) q) (k2 hq)
theorem ow_if_ge {x : Int32} {o : Int} (C : OwC p Z s m meth c own nm bytes maxL ret) (X : Stand p l e R s m args below meth c T locs cells slots) (hd : decode bytes pc = .ok (.ifCond .ge o, 3)) (ho : 0 ≤ (pc : Int) + o) (ht : ((pc : Int) + o).toNat = pcT) (hp : pc + 3 = pc') (k1 : ¬ x < 0 → OwF p e below D T (mkF m pcT Ls r)) (k2 : x < 0 → OwF p e below D T (mkF m pc' Ls r)) : OwF p e below D T (mkF m pc Ls (.int x :: r)) := by
  subst hp
  by_cases hq : x < 0
  · exact OwF.st (fun _ q => XS.ifNo X.here C.1 rfl (hb C.2.1 hd) rfl (XT.i0_ge_f hq) q) (k2 hq)
  · exact OwF.st (fun _ q => XS.ifYes X.here C.1 rfl rfl (hb C.2.1 hd) rfl (XT.i0_ge_t hq) ho ht q) (k1 hq)
theorem ow_icmp_ge {x y : Int32} {o : Int} (C : OwC p Z s m meth c own nm bytes maxL ret) (X : Stand p l e R s m args below meth c T locs cells slots) (hd : decode bytes pc = .ok (.if_icmp .ge o, 3)) (ho : 0 ≤ (pc : Int) + o) (ht : ((pc : Int) + o).toNat = pcT) (hp : pc + 3 = pc') (k1 : ¬ x < y → OwF p e below D T (mkF m pcT Ls r)) (k2 : x < y → OwF p e below D T (mkF m pc' Ls r)) : OwF p e below D T (mkF m pc Ls (.int y :: .int x :: r)) := by
  subst hp
  by_cases hq : x < y
  · exact OwF.st (fun _ q => XS.icmpNo X.here C.1 rfl (hb C.2.1 hd) rfl (XT.ii_ge_f hq) q) (k2 hq)
  · exact OwF.st (fun _ q => XS.icmpYes X.here C.1 rfl rfl (hb C.2.1 hd) rfl (XT.ii_ge_t hq) ho ht q) (k1 hq)
theorem ow_lif_ge {x y : Int64} {o : Int} (C : OwC p Z s m meth c own nm bytes maxL ret) (X : Stand p l e R s m args below meth c T locs cells slots) (hd : decode bytes pc = .ok (.ifCond .ge o, 3)) (ho : 0 ≤ (pc : Int) + o) (ht : ((pc : Int) + o).toNat = pcT) (hp : pc + 3 = pc') (k1 : ¬ x < y → OwF p e below D T (mkF m pcT Ls r)) (k2 : x < y → OwF p e below D T (mkF m pc' Ls r)) : OwF p e below D T (mkF m pc Ls (.int (XT.cmpL x y) :: r)) := by
  subst hp
  by_cases hq : x < y
  · exact OwF.st (fun _ q => XS.ifNo X.here C.1 rfl (hb C.2.1 hd) rfl (XT.ll_ge_f hq) q) (k2 hq)
  · exact OwF.st (fun _ q => XS.ifYes X.here C.1 rfl rfl (hb C.2.1 hd) rfl (XT.ll_ge_t hq) ho ht q) (k1 hq)
theorem ow_if_gt {x : Int32} {o : Int} (C : OwC p Z s m meth c own nm bytes maxL ret) (X : Stand p l e R s m args below meth c T locs cells slots) (hd : decode bytes pc = .ok (.ifCond .gt o, 3)) (ho : 0 ≤ (pc : Int) + o) (ht : ((pc : Int) + o).toNat = pcT) (hp : pc + 3 = pc') (k1 : 0 < x → OwF p e below D T (mkF m pcT Ls r)) (k2 : ¬ 0 < x → OwF p e below D T (mkF m pc' Ls r)) : OwF p e below D T (mkF m pc Ls (.int x :: r)) := by
  subst hp
  by_cases hq : 0 < x
  · exact OwF.st (fun _ q => XS.ifYes X.here C.1 rfl rfl (hb C.2.1 hd) rfl (XT.i0_gt_t hq) ho ht q) (k1 hq)
  · exact OwF.st (fun _ q => XS.ifNo X.here C.1 rfl (hb C.2.1 hd) rfl (XT.i0_gt_f hq) q) (k2 hq)
theorem ow_icmp_gt {x y : Int32} {o : Int} (C : OwC p Z s m meth c own nm bytes maxL ret) (X : Stand p l e R s m args below meth c T locs cells slots) (hd : decode bytes pc = .ok (.if_icmp .gt o, 3)) (ho : 0 ≤ (pc : Int) + o) (ht : ((pc : Int) + o).toNat = pcT) (hp : pc + 3 = pc') (k1 : y < x → OwF p e below D T (mkF m pcT Ls r)) (k2 : ¬ y < x → OwF p e below D T (mkF m pc' Ls r)) : OwF p e below D T (mkF m pc Ls (.int y :: .int x :: r)) := by
  subst hp
  by_cases hq : y < x
  · exact OwF.st (fun _ q => XS.icmpYes X.here C.1 rfl rfl (hb C.2.1 hd) rfl (XT.ii_gt_t hq) ho ht q) (k1 hq)
  · exact OwF.st (fun _ q => XS.icmpNo X.here C.1 rfl (hb C.2.1 hd) rfl (XT.ii_gt_f hq) q) (k2 hq)
theorem ow_lif_gt {x y : Int64} {o : Int} (C : OwC p Z s m meth c own nm bytes maxL ret) (X : Stand p l e R s m args below meth c T locs cells slots) (hd : decode bytes pc = .ok (.ifCond .gt o, 3)) (ho : 0 ≤ (pc : Int) + o) (ht : ((pc : Int) + o).toNat = pcT) (hp : pc + 3 = pc') (k1 : y < x → OwF p e below D T (mkF m pcT Ls r)) (k2 : ¬ y < x → OwF p e below D T (mkF m pc' Ls r)) : OwF p e below D T (mkF m pc Ls (.int (XT.cmpL x y) :: r)) := by
  subst hp
  by_cases hq : y < x
  · exact OwF.st (fun _ q => XS.ifYes X.here C.1 rfl rfl (hb C.2.1 hd) rfl (XT.ll_gt_t hq) ho ht q) (k1 hq)
  · exact OwF.st (fun _ q => XS.ifNo X.here C.1 rfl (hb C.2.1 hd) rfl (XT.ll_gt_f hq) q) (k2 hq)
theorem ow_if_le {x : Int32} {o : Int} (C : OwC p Z s m meth c own nm bytes maxL ret) (X : Stand p l e R s m args below meth c T locs cells slots) (hd : decode bytes pc = .ok (.ifCond .le o, 3)) (ho : 0 ≤ (pc : Int) + o) (ht : ((pc : Int) + o).toNat = pcT) (hp : pc + 3 = pc') (k1 : ¬ 0 < x → OwF p e below D T (mkF m pcT Ls r)) (k2 : 0 < x → OwF p e below D T (mkF m pc' Ls r)) : OwF p e below D T (mkF m pc Ls (.int x :: r)) := by
  subst hp
  by_cases hq : 0 < x
  · exact OwF.st (fun _ q => XS.ifNo X.here C.1 rfl (hb C.2.1 hd) rfl (XT.i0_le_f hq) q) (k2 hq)
  · exact OwF.st (fun _ q => XS.ifYes X.here C.1 rfl rfl (hb C.2.1 hd) rfl (XT.i0_le_t hq) ho ht q) (k1 hq)
theorem ow_icmp_le {x y : Int32} {o : Int} (C : OwC p Z s m meth c own nm bytes maxL ret) (X : Stand p l e R s m args below meth c T locs cells slots) (hd : decode bytes pc = .ok (.if_icmp .le o, 3)) (ho : 0 ≤ (pc : Int) + o) (ht : ((pc : Int) + o).toNat = pcT) (hp : pc + 3 = pc') (k1 : ¬ y < x → OwF p e below D T (mkF m pcT Ls r)) (k2 : y < x → OwF p e below D T (mkF m pc' Ls r)) : OwF p e below D T (mkF m pc Ls (.int y :: .int x :: r)) := by
  subst hp
  by_cases hq : y < x
  · exact OwF.st (fun _ q => XS.icmpNo X.here C.1 rfl (hb C.2.1 hd) rfl (XT.ii_le_f hq) q) (k2 hq)
  · exact OwF.st (fun _ q => XS.icmpYes X.here C.1 rfl rfl (hb C.2.1 hd) rfl (XT.ii_le_t hq) ho ht q) (k1 hq)
theorem ow_lif_le {x y : Int64} {o : Int} (C : OwC p Z s m meth c own nm bytes maxL ret) (X : Stand p l e R s m args below meth c T locs cells slots) (hd : decode bytes pc = .ok (.ifCond .le o, 3)) (ho : 0 ≤ (pc : Int) + o) (ht : ((pc : Int) + o).toNat = pcT) (hp : pc + 3 = pc') (k1 : ¬ y < x → OwF p e below D T (mkF m pcT Ls r)) (k2 : y < x → OwF p e below D T (mkF m pc' Ls r)) : OwF p e below D T (mkF m pc Ls (.int (XT.cmpL x y) :: r)) := by
  subst hp
  by_cases hq : y < x
  · exact OwF.st (fun _ q => XS.ifNo X.here C.1 rfl (hb C.2.1 hd) rfl (XT.ll_le_f hq) q) (k2 hq)
  · exact OwF.st (fun _ q => XS.ifYes X.here C.1 rfl rfl (hb C.2.1 hd) rfl (XT.ll_le_t hq) ho ht q) (k1 hq)
end OwnSteps
section OwnObj
variable {p : Program} {l : Launch} {e : Env} {R : Room} {s : State} {m : MethodId} {args : Array Value} {below : List Frame} {meth : Method} {c : Code} {T : State} {locs : List Loc} {cells slots : Nat} {Z : State} {a0 : Array Value} {h : Heap}
variable {own nm : String} {bytes : ByteArray} {maxL : Nat} {ret : Option FieldType} {D : State → Outcome → Prop} {pc pc' pcT : Nat} {Ls Ls' : Array Slot} {r : List Value}
/-- what lies on a stack, in words -/
abbrev owCat (r : List Value) : Nat := (r.map fun v => v.category).sum
theorem ow_getF {O n d : String} {index : Nat} {a : Addr} {v : Value} (C : OwC p Z s m meth c own nm bytes maxL ret) (X : Stand p l e R s m args below meth c T locs cells slots) (eT : T.heap = h) (w : (Jvm.Cond.fieldLink own index O n d).before a0 Z = true) (F : Fld Z h a O n d v)
    (hd : decode bytes pc = .ok (.getfield index, 3)) (hp : pc + 3 = pc') (k : ∀ T', Stand p l e R s m args below meth c T' locs cells slots → T'.heap = h → OwF p e below D T' (mkF m pc' Ls (v :: r))) : OwF p e below D T (mkF m pc Ls (.ref a :: r)) := by
  subst hp
  obtain ⟨T', X', e', st⟩ := getF X C.1 C.2.2.2.2.2.2.2 C.2.2.2.1 (host := "") (Or.inl w) Via.refl eT F (g := mkF m pc Ls (.ref a :: r)) rfl rfl (hb C.2.1 hd)
  exact OwF.st st (k T' X' e')
theorem ow_putF {O n d K : String} {index kk : Nat} {ty : FieldType} {a : Addr} {v old : Value} (C : OwC p Z s m meth c own nm bytes maxL ret) (X : Stand p l e R s m args below meth c T locs cells slots) (eT : T.heap = h) (w : (Jvm.Cond.fieldLink own index O n d).before a0 Z = true) (F : Fld Z h a O n d old) (E : Exa Z h a K)
    (L : (Jvm.Cond.lays K O n d).before a0 Z = true ∨ ((Jvm.Cond.laysFinal K O n d).before a0 Z = true ∧ own = O ∧ nm = "<init>")) (wi : (Jvm.Cond.instantiable K kk).before a0 Z = true) (hty : parseFieldDescriptor d = some ty) (hn : narrow ty v = v) (hf : fits ty v = true)
    (hd : decode bytes pc = .ok (.putfield index, 3)) (hp : pc + 3 = pc')
    (k : ∀ T' h', Stand p l e R s m args below meth c T' (locs ++ [⟨a, Jvm.RoadKit.slotOf Z O n d⟩]) cells slots → T'.heap = h' → Wr h h' a (Jvm.RoadKit.slotOf Z O n d) v → OwF p e below D T' (mkF m pc' Ls r)) : OwF p e below D T (mkF m pc Ls (v :: .ref a :: r)) := by
  subst hp
  obtain ⟨T', h', X', e', W', st⟩ := putF X C.1 C.2.2.2.2.2.2.2 C.2.2.2.1 (host := "") (Or.inl w) Via.refl eT F E (L.imp id fun q => ⟨q.1, q.2.1, C.2.2.2.2.1.trans q.2.2⟩) wi hty hn hf (g := mkF m pc Ls (v :: .ref a :: r)) rfl rfl (hb C.2.1 hd)
  exact OwF.st st (k T' h' X' e' W')
theorem ow_getS {O n d : String} {index : Nat} {v : Value} (C : OwC p Z s m meth c own nm bytes maxL ret) (X : Stand p l e R s m args below meth c T locs cells slots) (eT : T.heap = h) (w : (Jvm.Cond.fieldLink own index O n d).before a0 Z = true) (F : Sta Z h O n d v)
    (hd : decode bytes pc = .ok (.getstatic index, 3)) (hp : pc + 3 = pc') (k : ∀ T', Stand p l e R s m args below meth c T' locs cells slots → T'.heap = h → OwF p e below D T' (mkF m pc' Ls (v :: r))) : OwF p e below D T (mkF m pc Ls r) := by
  subst hp
  obtain ⟨T', X', e', st⟩ := getS X C.1 C.2.2.2.2.2.2.2 C.2.2.2.1 (host := "") w Via.refl eT F (g := mkF m pc Ls r) rfl (hb C.2.1 hd)
  exact OwF.st st (k T' X' e')
theorem ow_new {K : String} {index n : Nat} (C : OwC p Z s m meth c own nm bytes maxL ret) (X : Stand p l e R s m args below meth c T locs cells slots) (eT : T.heap = h) (w : (Jvm.Cond.classLink own index K).before a0 Z = true) (wi : (Jvm.Cond.instantiable K n).before a0 Z = true) (wz : (Jvm.Cond.initialized K).before a0 Z = true)
    (hd : decode bytes pc = .ok (.new index, 3)) (hc : cells + 1 ≤ R.cells) (hl : slots + n ≤ R.slots) (hp : pc + 3 = pc')
    (k : ∀ T' h' a, a = h.size → Stand p l e R s m args below meth c T' locs (cells + 1) (slots + n) → T'.heap = h' → Ext h h' → Exa Z h' a K → (∀ {O nm d : String} {ty : FieldType}, Laid Z a0 K O nm d → parseFieldDescriptor d = some ty → Fld Z h' a O nm d (defaultValue ty)) → OwF p e below D T' (mkF m pc' Ls (.ref a :: r))) : OwF p e below D T (mkF m pc Ls r) := by
  subst hp
  obtain ⟨T', h', X', e', E', A', D', -, st⟩ := newO X C.1 C.2.2.2.2.2.2.2 C.2.2.2.1 w wi wz eT (g := mkF m pc Ls r) rfl (hb C.2.1 hd) hc hl
  exact OwF.st st (k T' h' _ rfl X' e' E' A' D')
theorem ow_initO {index : Nat} {a : Addr} (C : OwC p Z s m meth c own nm bytes maxL ret) (X : Stand p l e R s m args below meth c T locs cells slots) (eT : T.heap = h) (w1 : (Jvm.Cond.methodLink own index Lib.objectInit).before a0 Z = true) (w2 : (Jvm.Cond.instanceMethod Lib.objectInit).before a0 Z = true)
    (w3 : (Jvm.Cond.code Lib.objectInit ⟨#[0xb1]⟩ 1 none).before a0 Z = true) (hsz : Ls.size = maxL) (hd : decode bytes pc = .ok (.invokespecial index, 3)) (hf : 1 ≤ R.frames) (hl : owCat r + 12 ≤ R.locals) (hp : pc + 3 = pc')
    (k : ∀ T', Stand p l e R s m args below meth c T' locs cells slots → T'.heap = h → OwF p e below D T' (mkF m pc' Ls r)) : OwF p e below D T (mkF m pc Ls (.ref a :: r)) := by
  subst hp
  obtain ⟨T', X', e', st⟩ := initO X C.1 C.2.2.2.2.2.2.2 C.2.2.2.1 w1 w2 w3 eT (g := mkF m pc Ls (.ref a :: r)) rfl (by rw [C.2.2.1]; exact hsz) rfl (hb C.2.1 hd) hf (W := owCat r) (by show 2 * 0 + owCat r ≤ owCat r; omega) hl
  exact OwF.st st (k T' X' e')
/-- a static method by its contract -/
theorem ow_callS {index : Nat} {y : MethodName} {by' : ByteArray} {mx : Nat} {rt : Option FieldType} {rm : Room} {Q : Option Value → Heap → List Loc → Prop} {stk argsL rest : List Value} {ps : List FieldType} {pr : Option FieldType}
    (C : OwC p Z s m meth c own nm bytes maxL ret) (X : Stand p l e R s m args below meth c T locs cells slots) (eT : T.heap = h)
    (w1 : (Jvm.Cond.methodLink own index y).before a0 Z = true) (w2 : (Jvm.Cond.static y).before a0 Z = true) (w3 : (Jvm.Cond.initialized y.cls).before a0 Z = true) (w4 : (Jvm.Cond.code y by' mx rt).before a0 Z = true) (hy : y.cls ≠ "java/lang/invoke/MethodHandle" ∧ y.cls ≠ "java/lang/invoke/VarHandle")
    (M : OwCon l y by' mx rt rm Z argsL.toArray h Q) (hds : parseMethodDescriptor y.desc = some ⟨ps, pr⟩) (hln : argsL.length = ps.length) (hst : stk = argsL.reverse ++ rest) (hsz : Ls.size = maxL)
    (hd : decode bytes pc = .ok (.invokestatic index, 3)) (hfr : rm.frames + 1 ≤ R.frames) (hlo : owCat rest + (mx + 11) + rm.locals ≤ R.locals) (hcl : cells + rm.cells ≤ R.cells) (hsl : slots + rm.slots ≤ R.slots) (hp : pc + 3 = pc')
    (k : ∀ T' v L, Stand p l e R s m args below meth c T' (locs ++ L) (cells + rm.cells) (slots + rm.slots) → Q v T'.heap L → OwF p e below D T' (mkF m pc' Ls (v.toList ++ rest))) : OwF p e below D T (mkF m pc Ls stk) := by
  subst hp; subst hst
  have hZ := C.2.2.2.2.2.2.2
  obtain ⟨v, _, ⟨T', L', k', n'⟩, -, X', ⟨Lc, hQ, l', y', z'⟩, st⟩ := Jvm.LawKit.callS X C.1 (y := y) C.2.2.2.1 (mvT hZ w1) (mvT hZ w2) (mvT hZ w3) (mvT hZ w4) hy (backOf (W := owCat rest) (M []) hZ w4 w3 hfr hlo) (g := mkF m pc Ls (argsL.reverse ++ rest)) rfl (by rw [C.2.2.1]; exact hsz) (argsL := argsL) (rest := rest) (lenOf hds hln) rfl (by show 2 * 0 + owCat rest ≤ owCat rest; omega) (hb C.2.1 hd) (fun _ _ => ⟨rfl, eT, hcl, hsl⟩)
  dsimp only [Pt.U, Pt.locs, Pt.cells, Pt.slots] at X' l' y' z' st hQ
  subst l' y' z'
  exact OwF.st st (k T' v Lc X' hQ)
/-- a constructor by its contract -/
theorem ow_callN {index : Nat} {y : MethodName} {by' : ByteArray} {mx : Nat} {rm : Room} {Q : Option Value → Heap → List Loc → Prop} {stk argsL rest : List Value} {ps : List FieldType} {pr : Option FieldType} {a : Addr}
    (C : OwC p Z s m meth c own nm bytes maxL ret) (X : Stand p l e R s m args below meth c T locs cells slots) (eT : T.heap = h) (hni : y.name = "<init>")
    (w1 : (Jvm.Cond.methodLink own index y).before a0 Z = true) (w2 : (Jvm.Cond.instanceMethod y).before a0 Z = true) (w3 : (Jvm.Cond.initialized y.cls).before a0 Z = true) (w4 : (Jvm.Cond.code y by' mx none).before a0 Z = true) (hy : y.cls ≠ "java/lang/invoke/MethodHandle" ∧ y.cls ≠ "java/lang/invoke/VarHandle")
    (M : OwCon l y by' mx none rm Z (.ref a :: argsL).toArray h Q) (hds : parseMethodDescriptor y.desc = some ⟨ps, pr⟩) (hln : argsL.length = ps.length) (hst : stk = argsL.reverse ++ .ref a :: rest) (hsz : Ls.size = maxL)
    (hd : decode bytes pc = .ok (.invokespecial index, 3)) (hfr : rm.frames + 1 ≤ R.frames) (hlo : owCat rest + (mx + 11) + rm.locals ≤ R.locals) (hcl : cells + rm.cells ≤ R.cells) (hsl : slots + rm.slots ≤ R.slots) (hp : pc + 3 = pc')
    (k : ∀ T' v L, Stand p l e R s m args below meth c T' (locs ++ L) (cells + rm.cells) (slots + rm.slots) → Q v T'.heap L → OwF p e below D T' (mkF m pc' Ls (v.toList ++ rest))) : OwF p e below D T (mkF m pc Ls stk) := by
  subst hp; subst hst
  have hZ := C.2.2.2.2.2.2.2
  obtain ⟨v, _, ⟨T', L', k', n'⟩, -, X', ⟨Lc, hQ, l', y', z'⟩, st⟩ := X.specialBack C.1 (y := y) hni C.2.2.2.1 (mvT hZ w1) (mvT hZ w2) (mvT hZ w4) hy (backOf (W := owCat rest) (M []) hZ w4 w3 hfr hlo) (g := mkF m pc Ls (argsL.reverse ++ .ref a :: rest)) rfl (by rw [C.2.2.1]; exact hsz) (Steps.refl _) (a := a) (argsL := argsL) (rest := rest) (lenOf hds hln) rfl (by show 2 * 0 + owCat rest ≤ owCat rest; omega) (hb C.2.1 hd) (fun _ _ => ⟨rfl, eT, hcl, hsl⟩)
  dsimp only [Pt.U, Pt.locs, Pt.cells, Pt.slots] at X' l' y' z' st hQ
  subst l' y' z'
  exact OwF.st (fun _ q => st.trans q) (k T' v Lc X' hQ)
/-- an instance method by its contract -/
theorem ow_callV {K : String} {index : Nat} {y : MethodName} {by' : ByteArray} {mx : Nat} {rt : Option FieldType} {rm : Room} {Q : Option Value → Heap → List Loc → Prop} {stk argsL rest : List Value} {ps : List FieldType} {pr : Option FieldType} {a : Addr}
    (C : OwC p Z s m meth c own nm bytes maxL ret) (X : Stand p l e R s m args below meth c T locs cells slots) (eT : T.heap = h)
    (w1 : (Jvm.Cond.methodLink own index y).before a0 Z = true) (w2 : (Jvm.Cond.declares y).before a0 Z = true) (w5 : (Jvm.Cond.selects K y y).before a0 Z = true) (hK : K = y.cls) (w6 : (Jvm.Cond.instanceMethod y).before a0 Z = true) (w3 : (Jvm.Cond.initialized y.cls).before a0 Z = true) (w4 : (Jvm.Cond.code y by' mx rt).before a0 Z = true)
    (hy : y.cls ≠ "java/lang/invoke/MethodHandle" ∧ y.cls ≠ "java/lang/invoke/VarHandle") (E : Exa Z h a K)
    (M : OwCon l y by' mx rt rm Z (.ref a :: argsL).toArray h Q) (hds : parseMethodDescriptor y.desc = some ⟨ps, pr⟩) (hln : argsL.length = ps.length) (hst : stk = argsL.reverse ++ .ref a :: rest) (hsz : Ls.size = maxL)
    (hd : decode bytes pc = .ok (.invokevirtual index, 3)) (hfr : rm.frames + 1 ≤ R.frames) (hlo : owCat rest + (mx + 11) + rm.locals ≤ R.locals) (hcl : cells + rm.cells ≤ R.cells) (hsl : slots + rm.slots ≤ R.slots) (hp : pc + 3 = pc')
    (k : ∀ T' v L, Stand p l e R s m args below meth c T' (locs ++ L) (cells + rm.cells) (slots + rm.slots) → Q v T'.heap L → OwF p e below D T' (mkF m pc' Ls (v.toList ++ rest))) : OwF p e below D T (mkF m pc Ls stk) := by
  subst hp; subst hst; subst hK
  have hZ := C.2.2.2.2.2.2.2
  obtain ⟨cq, kq, q1, q2, q3⟩ := isOf hZ eT E
  obtain ⟨v, _, ⟨T', L', k', n'⟩, -, X', ⟨Lc, hQ, l', y', z'⟩, st⟩ := X.virtualBack C.1 (y := y) (z := y) C.2.2.2.1 (mvT hZ w1) (mvT hZ w2) (notFace_of_selects (args := #[]) (mvT hZ w5)) (mvT hZ w5) (mvT hZ w6) hy (backOf (W := owCat rest) (M []) hZ w4 w3 hfr hlo) q1 q3 (g := mkF m pc Ls (argsL.reverse ++ .ref a :: rest)) rfl (by rw [C.2.2.1]; exact hsz) (Steps.refl _) (argsL := argsL) (rest := rest) (lenOf hds hln) rfl (by show 2 * 0 + owCat rest ≤ owCat rest; omega) (hb C.2.1 hd) (fun _ _ => ⟨rfl, eT, hcl, hsl⟩)
  dsimp only [Pt.U, Pt.locs, Pt.cells, Pt.slots] at X' l' y' z' st hQ
  subst l' y' z'
  exact OwF.st (fun _ q => st.trans q) (k T' v Lc X' hQ)
/-- a pure answer: the value, nothing written, the heap as it was -/
abbrev OwP (v : Option Value) (h : Heap) (v' : Option Value) (h' : Heap) (L : List Loc) : Prop := v' = v ∧ L = [] ∧ h' = h
/-- a pure static method -/
theorem ow_callSP {index : Nat} {y : MethodName} {by' : ByteArray} {mx : Nat} {rt : Option FieldType} {rm : Room} {v : Value} {stk argsL rest : List Value} {ps : List FieldType} {pr : Option FieldType}
    (C : OwC p Z s m meth c own nm bytes maxL ret) (X : Stand p l e R s m args below meth c T locs cells slots) (eT : T.heap = h)
    (w1 : (Jvm.Cond.methodLink own index y).before a0 Z = true) (w2 : (Jvm.Cond.static y).before a0 Z = true) (w3 : (Jvm.Cond.initialized y.cls).before a0 Z = true) (w4 : (Jvm.Cond.code y by' mx rt).before a0 Z = true) (hy : y.cls ≠ "java/lang/invoke/MethodHandle" ∧ y.cls ≠ "java/lang/invoke/VarHandle")
    (M : OwCon l y by' mx rt rm Z argsL.toArray h (OwP (some v) h)) (hrm : rm.cells = 0 ∧ rm.slots = 0) (hds : parseMethodDescriptor y.desc = some ⟨ps, pr⟩) (hln : argsL.length = ps.length) (hst : stk = argsL.reverse ++ rest) (hsz : Ls.size = maxL)
    (hd : decode bytes pc = .ok (.invokestatic index, 3)) (hfr : rm.frames + 1 ≤ R.frames) (hlo : owCat rest + (mx + 11) + rm.locals ≤ R.locals) (hcl : cells ≤ R.cells) (hsl : slots ≤ R.slots) (hp : pc + 3 = pc')
    (k : ∀ T', Stand p l e R s m args below meth c T' locs cells slots → T'.heap = h → OwF p e below D T' (mkF m pc' Ls (v :: rest))) : OwF p e below D T (mkF m pc Ls stk) := by
  refine ow_callS C X eT w1 w2 w3 w4 hy M hds hln hst hsz hd hfr hlo (by rw [hrm.1]; exact hcl) (by rw [hrm.2]; exact hsl) hp fun T' v' L' X' hQ => ?_
  obtain ⟨rfl, rfl, hh⟩ := hQ
  rw [hrm.1, hrm.2, List.append_nil] at X'
  exact k T' X' hh
/-- a pure instance method -/
theorem ow_callVP {K : String} {index : Nat} {y : MethodName} {by' : ByteArray} {mx : Nat} {rt : Option FieldType} {rm : Room} {v : Value} {stk argsL rest : List Value} {ps : List FieldType} {pr : Option FieldType} {a : Addr}
    (C : OwC p Z s m meth c own nm bytes maxL ret) (X : Stand p l e R s m args below meth c T locs cells slots) (eT : T.heap = h)
    (w1 : (Jvm.Cond.methodLink own index y).before a0 Z = true) (w2 : (Jvm.Cond.declares y).before a0 Z = true) (w5 : (Jvm.Cond.selects K y y).before a0 Z = true) (hK : K = y.cls) (w6 : (Jvm.Cond.instanceMethod y).before a0 Z = true) (w3 : (Jvm.Cond.initialized y.cls).before a0 Z = true) (w4 : (Jvm.Cond.code y by' mx rt).before a0 Z = true)
    (hy : y.cls ≠ "java/lang/invoke/MethodHandle" ∧ y.cls ≠ "java/lang/invoke/VarHandle") (E : Exa Z h a K)
    (M : OwCon l y by' mx rt rm Z (.ref a :: argsL).toArray h (OwP (some v) h)) (hrm : rm.cells = 0 ∧ rm.slots = 0) (hds : parseMethodDescriptor y.desc = some ⟨ps, pr⟩) (hln : argsL.length = ps.length) (hst : stk = argsL.reverse ++ .ref a :: rest) (hsz : Ls.size = maxL)
    (hd : decode bytes pc = .ok (.invokevirtual index, 3)) (hfr : rm.frames + 1 ≤ R.frames) (hlo : owCat rest + (mx + 11) + rm.locals ≤ R.locals) (hcl : cells ≤ R.cells) (hsl : slots ≤ R.slots) (hp : pc + 3 = pc')
    (k : ∀ T', Stand p l e R s m args below meth c T' locs cells slots → T'.heap = h → OwF p e below D T' (mkF m pc' Ls (v :: rest))) : OwF p e below D T (mkF m pc Ls stk) := by
  refine ow_callV C X eT w1 w2 w5 hK w6 w3 w4 hy E M hds hln hst hsz hd hfr hlo (by rw [hrm.1]; exact hcl) (by rw [hrm.2]; exact hsl) hp fun T' v' L' X' hQ => ?_
  obtain ⟨rfl, rfl, hh⟩ := hQ
  rw [hrm.1, hrm.2, List.append_nil] at X'
  exact k T' X' hh
/-- a constructor that leaves all as it is -/
theorem ow_callNP {index : Nat} {y : MethodName} {by' : ByteArray} {mx : Nat} {rm : Room} {stk argsL rest : List Value} {ps : List FieldType} {pr : Option FieldType} {a : Addr}
    (C : OwC p Z s m meth c own nm bytes maxL ret) (X : Stand p l e R s m args below meth c T locs cells slots) (eT : T.heap = h) (hni : y.name = "<init>")
    (w1 : (Jvm.Cond.methodLink own index y).before a0 Z = true) (w2 : (Jvm.Cond.instanceMethod y).before a0 Z = true) (w3 : (Jvm.Cond.initialized y.cls).before a0 Z = true) (w4 : (Jvm.Cond.code y by' mx none).before a0 Z = true) (hy : y.cls ≠ "java/lang/invoke/MethodHandle" ∧ y.cls ≠ "java/lang/invoke/VarHandle")
    (M : OwCon l y by' mx none rm Z (.ref a :: argsL).toArray h (OwP none h)) (hrm : rm.cells = 0 ∧ rm.slots = 0) (hds : parseMethodDescriptor y.desc = some ⟨ps, pr⟩) (hln : argsL.length = ps.length) (hst : stk = argsL.reverse ++ .ref a :: rest) (hsz : Ls.size = maxL)
    (hd : decode bytes pc = .ok (.invokespecial index, 3)) (hfr : rm.frames + 1 ≤ R.frames) (hlo : owCat rest + (mx + 11) + rm.locals ≤ R.locals) (hcl : cells ≤ R.cells) (hsl : slots ≤ R.slots) (hp : pc + 3 = pc')
    (k : ∀ T', Stand p l e R s m args below meth c T' locs cells slots → T'.heap = h → OwF p e below D T' (mkF m pc' Ls rest)) : OwF p e below D T (mkF m pc Ls stk) := by
  refine ow_callN C X eT hni w1 w2 w3 w4 hy M hds hln hst hsz hd hfr hlo (by rw [hrm.1]; exact hcl) (by rw [hrm.2]; exact hsl) hp fun T' v' L' X' hQ => ?_
  obtain ⟨rfl, rfl, hh⟩ := hQ
  rw [hrm.1, hrm.2, List.append_nil] at X'
  exact k T' X' hh
end OwnObj
section OwnArr
variable {p : Program} {l : Launch} {e : Env} {R : Room} {s : State} {m : MethodId} {args : Array Value} {below : List Frame} {meth : Method} {c : Code} {T : State} {locs : List Loc} {cells slots : Nat} {Z : State} {a0 : Array Value} {h h' : Heap}
variable {own nm : String} {bytes : ByteArray} {maxL : Nat} {ret : Option FieldType} {D : State → Outcome → Prop} {pc pc' pcT : Nat} {Ls Ls' : Array Slot} {r : List Value}
variable {a b : Addr} {ty : FieldType} {n i : Nat} {f g : Nat → Value} {v : Value} {sl : Nat} {ws : List Addr} {K : String} {kk : Nat}
/-- an array of n places, place j holds f j -/
def OwA (Z : State) (h : Heap) (a : Addr) (ty : FieldType) (n : Nat) (f : Nat → Value) : Prop := ∃ c : Cell, Arr Z h a c ty ∧ c.slots.size = n ∧ ∀ j, j < n → c.slots[j]? = some (f j)
theorem OwA.lt (A : OwA Z h a ty n f) : a < h.size := by obtain ⟨c, A, -⟩ := A; exact A.lt
theorem OwA.ext (A : OwA Z h a ty n f) (E : Ext h h') : OwA Z h' a ty n f := by obtain ⟨c, A, r⟩ := A; exact ⟨c, A.ext E, r⟩
theorem OwA.other (A : OwA Z h b ty n f) (W : Wr h h' a sl v) (q : b ≠ a) : OwA Z h' b ty n f := by obtain ⟨c, A, r⟩ := A; exact ⟨c, A.other W q, r⟩
theorem OwA.keep (A : OwA Z h a ty n f) (K : Keep h h' ws) (q : a ∉ ws) : OwA Z h' a ty n f := by obtain ⟨c, A, r⟩ := A; exact ⟨c, ⟨K.2.1 a c A.1 q, A.2⟩, r⟩
theorem OwA.congr (A : OwA Z h a ty n f) (q : ∀ j, j < n → f j = g j) : OwA Z h a ty n g := by obtain ⟨c, A, S, H⟩ := A; exact ⟨c, A, S, fun j hj => by rw [← q j hj]; exact H j hj⟩
theorem OwA.set (A : OwA Z h a ty n f) (W : Wr h h' a i v) : OwA Z h' a ty n (fun j => if j = i then v else f j) := by
  obtain ⟨c, A, S, H⟩ := A
  refine ⟨c.setSlot i v, A.same W, by rw [sz_set]; exact S, fun j hj => ?_⟩
  show (c.slots.setIfInBounds i v)[j]? = some (if j = i then v else f j)
  by_cases q : j = i
  · subst q
    rw [if_pos rfl, Array.getElem?_setIfInBounds_self_of_lt (by omega)]
  · rw [if_neg q, Array.getElem?_setIfInBounds_ne (fun w => q w.symm)]; exact H j hj
theorem OwA.new {k : ClassId} {z : Int32} (A : Arr Z h a (newA k ty z) ty) : OwA Z h a ty z.toNatClampNeg (fun _ => defaultValue ty) := by
  refine ⟨_, A, sz_new _ _ _, fun j hj => ?_⟩
  show (Array.replicate z.toNatClampNeg (defaultValue ty))[j]? = _
  rw [Array.getElem?_replicate, if_pos hj]
theorem OwA.ne (A : OwA Z h b ty n f) (E : Exa Z h a K) (wi : (Jvm.Cond.instantiable K kk).before a0 Z = true) : a ≠ b := by obtain ⟨c, A, -⟩ := A; exact ne_arr E wi A
theorem ow_newarr {aty : ArrayType} {z : Int32} {N cap : Nat} (C : OwC p Z s m meth c own nm bytes maxL ret) (X : Stand p l e R s m args below meth c T locs cells slots) (eT : T.heap = h) (w : (Jvm.Cond.arrayClass (newarray.typeOf aty)).before a0 Z = true) (hd : decode bytes pc = .ok (.newarray aty, 2))
    (hn : ¬ z < 0) (hN : z.toNatClampNeg = N) (hcap : N ≤ cap) (hb8 : cap * 8 ≤ 536870912) (hc : cells + 1 ≤ R.cells) (hl : slots + cap ≤ R.slots) (hp : pc + 2 = pc')
    (k : ∀ T' h' a, a = h.size → Stand p l e R s m args below meth c T' locs (cells + 1) (slots + cap) → T'.heap = h' → Ext h h' → OwA Z h' a (newarray.typeOf aty) N (fun _ => defaultValue (newarray.typeOf aty)) → OwF p e below D T' (mkF m pc' Ls (.ref a :: r))) : OwF p e below D T (mkF m pc Ls (.int z :: r)) := by
  subst hp; subst hN
  obtain ⟨T', h', cA, X', e', E', A', st⟩ := newP X C.1 C.2.2.2.2.2.2.2 w eT (g := mkF m pc Ls (.int z :: r)) rfl (hb C.2.1 hd) rfl hn hcap hb8 hc hl
  exact OwF.st st (k T' h' _ rfl X' e' E' (OwA.new A'))
theorem ow_arraylength {z : Int32} (C : OwC p Z s m meth c own nm bytes maxL ret) (X : Stand p l e R s m args below meth c T locs cells slots) (eT : T.heap = h) (A : OwA Z h a ty n f) (hz : n.toInt32 = z) (hd : decode bytes pc = .ok (.arraylength, 1)) (hp : pc + 1 = pc')
    (k : OwF p e below D T (mkF m pc' Ls (.int z :: r))) : OwF p e below D T (mkF m pc Ls (.ref a :: r)) := by
  subst hp; subst hz
  obtain ⟨cl, A, S, -⟩ := A
  subst S
  exact OwF.st (fun t q => X.arraylength C.1 (by rw [eT]; exact A.1) (State.isArrayOf_alike C.2.2.2.2.2.2.2.alike A.2.1) (g := mkF m pc Ls (.ref a :: r)) rfl rfl (hb C.2.1 hd) t q) k
theorem ow_iaload {z : Int32} (C : OwC p Z s m meth c own nm bytes maxL ret) (X : Stand p l e R s m args below meth c T locs cells slots) (eT : T.heap = h) (A : OwA Z h a .int n f) (h0 : ¬ z < 0) (hj : z.toNatClampNeg = i) (hlt : i < n) (hv : f i = v) (hd : decode bytes pc = .ok (.iaload, 1)) (hp : pc + 1 = pc')
    (k : OwF p e below D T (mkF m pc' Ls (v :: r))) : OwF p e below D T (mkF m pc Ls (.int z :: .ref a :: r)) := by
  subst hp; subst hj; subst hv
  obtain ⟨cl, A, S, H⟩ := A
  exact OwF.st (fun t q => X.iaload C.1 (by rw [eT]; exact A.1) (State.isArrayOf_alike C.2.2.2.2.2.2.2.alike A.2.1) A.2.2 (fun w => w.elim h0 (fun w => by omega)) (H _ hlt) (g := mkF m pc Ls (.int z :: .ref a :: r)) rfl rfl (hb C.2.1 hd) t q) k
theorem ow_laload {z : Int32} (C : OwC p Z s m meth c own nm bytes maxL ret) (X : Stand p l e R s m args below meth c T locs cells slots) (eT : T.heap = h) (A : OwA Z h a .long n f) (h0 : ¬ z < 0) (hj : z.toNatClampNeg = i) (hlt : i < n) (hv : f i = v) (hd : decode bytes pc = .ok (.laload, 1)) (hp : pc + 1 = pc')
    (k : OwF p e below D T (mkF m pc' Ls (v :: r))) : OwF p e below D T (mkF m pc Ls (.int z :: .ref a :: r)) := by
  subst hp; subst hj; subst hv
  obtain ⟨cl, A, S, H⟩ := A
  exact OwF.st (fun t q => X.laload C.1 (by rw [eT]; exact A.1) (State.isArrayOf_alike C.2.2.2.2.2.2.2.alike A.2.1) A.2.2 (fun w => w.elim h0 (fun w => by omega)) (H _ hlt) (g := mkF m pc Ls (.int z :: .ref a :: r)) rfl rfl (hb C.2.1 hd) t q) k
theorem ow_caload {z : Int32} (C : OwC p Z s m meth c own nm bytes maxL ret) (X : Stand p l e R s m args below meth c T locs cells slots) (eT : T.heap = h) (A : OwA Z h a .char n f) (h0 : ¬ z < 0) (hj : z.toNatClampNeg = i) (hlt : i < n) (hv : f i = v) (hd : decode bytes pc = .ok (.caload, 1)) (hp : pc + 1 = pc')
    (k : OwF p e below D T (mkF m pc' Ls (v :: r))) : OwF p e below D T (mkF m pc Ls (.int z :: .ref a :: r)) := by
  subst hp; subst hj; subst hv
  obtain ⟨cl, A, S, H⟩ := A
  exact OwF.st (fun t q => X.caload C.1 (by rw [eT]; exact A.1) (State.isArrayOf_alike C.2.2.2.2.2.2.2.alike A.2.1) A.2.2 (fun w => w.elim h0 (fun w => by omega)) (H _ hlt) (g := mkF m pc Ls (.int z :: .ref a :: r)) rfl rfl (hb C.2.1 hd) t q) k
theorem ow_saload {z : Int32} (C : OwC p Z s m meth c own nm bytes maxL ret) (X : Stand p l e R s m args below meth c T locs cells slots) (eT : T.heap = h) (A : OwA Z h a .short n f) (h0 : ¬ z < 0) (hj : z.toNatClampNeg = i) (hlt : i < n) (hv : f i = v) (hd : decode bytes pc = .ok (.saload, 1)) (hp : pc + 1 = pc')
    (k : OwF p e below D T (mkF m pc' Ls (v :: r))) : OwF p e below D T (mkF m pc Ls (.int z :: .ref a :: r)) := by
  subst hp; subst hj; subst hv
  obtain ⟨cl, A, S, H⟩ := A
  exact OwF.st (fun t q => X.saload C.1 (by rw [eT]; exact A.1) (State.isArrayOf_alike C.2.2.2.2.2.2.2.alike A.2.1) A.2.2 (fun w => w.elim h0 (fun w => by omega)) (H _ hlt) (g := mkF m pc Ls (.int z :: .ref a :: r)) rfl rfl (hb C.2.1 hd) t q) k
theorem ow_aaload {z : Int32} (C : OwC p Z s m meth c own nm bytes maxL ret) (X : Stand p l e R s m args below meth c T locs cells slots) (eT : T.heap = h) (A : OwA Z h a ty n f) (hty : ty.isReference = true) (h0 : ¬ z < 0) (hj : z.toNatClampNeg = i) (hlt : i < n) (hv : f i = v) (hd : decode bytes pc = .ok (.aaload, 1)) (hp : pc + 1 = pc')
    (k : OwF p e below D T (mkF m pc' Ls (v :: r))) : OwF p e below D T (mkF m pc Ls (.int z :: .ref a :: r)) := by
  subst hp; subst hj; subst hv
  obtain ⟨cl, A, S, H⟩ := A
  exact OwF.st (fun t q => X.aaload C.1 (by rw [eT]; exact A.1) (State.isArrayOf_alike C.2.2.2.2.2.2.2.alike A.2.1) hty A.2.2 (fun w => w.elim h0 (fun w => by omega)) (H _ hlt) (g := mkF m pc Ls (.int z :: .ref a :: r)) rfl rfl (hb C.2.1 hd) t q) k
theorem ow_baload {z : Int32} (C : OwC p Z s m meth c own nm bytes maxL ret) (X : Stand p l e R s m args below meth c T locs cells slots) (eT : T.heap = h) (A : OwA Z h a .byte n f) (h0 : ¬ z < 0) (hj : z.toNatClampNeg = i) (hlt : i < n) (hv : f i = v) (hd : decode bytes pc = .ok (.baload, 1)) (hp : pc + 1 = pc')
    (k : OwF p e below D T (mkF m pc' Ls (v :: r))) : OwF p e below D T (mkF m pc Ls (.int z :: .ref a :: r)) := by
  subst hp; subst hj; subst hv
  obtain ⟨cl, A, S, H⟩ := A
  exact OwF.st (fun t q => X.baloadBytes C.1 (by rw [eT]; exact A.1) (State.isArrayOf_alike C.2.2.2.2.2.2.2.alike A.2.1) A.2.2 (fun w => w.elim h0 (fun w => by omega)) (H _ hlt) (g := mkF m pc Ls (.int z :: .ref a :: r)) rfl rfl (hb C.2.1 hd) t q) k
theorem ow_iastore {z : Int32} {x : Int32} (C : OwC p Z s m meth c own nm bytes maxL ret) (X : Stand p l e R s m args below meth c T locs cells slots) (eT : T.heap = h) (A : OwA Z h a .int n f) (h0 : ¬ z < 0) (hj : z.toNatClampNeg = i) (hlt : i < n) (hd : decode bytes pc = .ok (.iastore, 1)) (hp : pc + 1 = pc')
    (k : ∀ T' h', Stand p l e R s m args below meth c T' (locs ++ [⟨a, i⟩]) cells slots → T'.heap = h' → Wr h h' a i (.int x) → OwF p e below D T' (mkF m pc' Ls r)) : OwF p e below D T (mkF m pc Ls (.int x :: .int z :: .ref a :: r)) := by
  subst hp; subst hj
  obtain ⟨cl, A, S, H⟩ := A
  obtain ⟨T', h', X', e', W', st⟩ := stI X C.1 C.2.2.2.2.2.2.2 eT A (j := z) (x := x) (fun w => w.elim h0 (fun w => by omega)) (g := mkF m pc Ls (.int x :: .int z :: .ref a :: r)) rfl rfl (hb C.2.1 hd)
  exact OwF.st st (k T' h' X' e' W')
theorem ow_lastore {z : Int32} {x : Int64} (C : OwC p Z s m meth c own nm bytes maxL ret) (X : Stand p l e R s m args below meth c T locs cells slots) (eT : T.heap = h) (A : OwA Z h a .long n f) (h0 : ¬ z < 0) (hj : z.toNatClampNeg = i) (hlt : i < n) (hd : decode bytes pc = .ok (.lastore, 1)) (hp : pc + 1 = pc')
    (k : ∀ T' h', Stand p l e R s m args below meth c T' (locs ++ [⟨a, i⟩]) cells slots → T'.heap = h' → Wr h h' a i (.long x) → OwF p e below D T' (mkF m pc' Ls r)) : OwF p e below D T (mkF m pc Ls (.long x :: .int z :: .ref a :: r)) := by
  subst hp; subst hj
  obtain ⟨cl, A, S, H⟩ := A
  obtain ⟨T', h', X', e', W', st⟩ := stJ X C.1 C.2.2.2.2.2.2.2 eT A (j := z) (x := x) (fun w => w.elim h0 (fun w => by omega)) (g := mkF m pc Ls (.long x :: .int z :: .ref a :: r)) rfl rfl (hb C.2.1 hd)
  exact OwF.st st (k T' h' X' e' W')
theorem ow_castore {z : Int32} {x : Int32} (C : OwC p Z s m meth c own nm bytes maxL ret) (X : Stand p l e R s m args below meth c T locs cells slots) (eT : T.heap = h) (A : OwA Z h a .char n f) (h0 : ¬ z < 0) (hj : z.toNatClampNeg = i) (hlt : i < n) (hd : decode bytes pc = .ok (.castore, 1)) (hp : pc + 1 = pc')
    (k : ∀ T' h', Stand p l e R s m args below meth c T' (locs ++ [⟨a, i⟩]) cells slots → T'.heap = h' → Wr h h' a i (.int (nar .char x)) → OwF p e below D T' (mkF m pc' Ls r)) : OwF p e below D T (mkF m pc Ls (.int x :: .int z :: .ref a :: r)) := by
  subst hp; subst hj
  obtain ⟨cl, A, S, H⟩ := A
  obtain ⟨T', h', X', e', W', st⟩ := stC X C.1 C.2.2.2.2.2.2.2 eT A (j := z) (x := x) (fun w => w.elim h0 (fun w => by omega)) (g := mkF m pc Ls (.int x :: .int z :: .ref a :: r)) rfl rfl (hb C.2.1 hd)
  exact OwF.st st (k T' h' X' e' W')
theorem ow_sastore {z : Int32} {x : Int32} (C : OwC p Z s m meth c own nm bytes maxL ret) (X : Stand p l e R s m args below meth c T locs cells slots) (eT : T.heap = h) (A : OwA Z h a .short n f) (h0 : ¬ z < 0) (hj : z.toNatClampNeg = i) (hlt : i < n) (hd : decode bytes pc = .ok (.sastore, 1)) (hp : pc + 1 = pc')
    (k : ∀ T' h', Stand p l e R s m args below meth c T' (locs ++ [⟨a, i⟩]) cells slots → T'.heap = h' → Wr h h' a i (.int (nar .short x)) → OwF p e below D T' (mkF m pc' Ls r)) : OwF p e below D T (mkF m pc Ls (.int x :: .int z :: .ref a :: r)) := by
  subst hp; subst hj
  obtain ⟨cl, A, S, H⟩ := A
  obtain ⟨T', h', X', e', W', st⟩ := stS X C.1 C.2.2.2.2.2.2.2 eT A (j := z) (x := x) (fun w => w.elim h0 (fun w => by omega)) (g := mkF m pc Ls (.int x :: .int z :: .ref a :: r)) rfl rfl (hb C.2.1 hd)
  exact OwF.st st (k T' h' X' e' W')
theorem ow_bastore {z : Int32} {x : Int32} (C : OwC p Z s m meth c own nm bytes maxL ret) (X : Stand p l e R s m args below meth c T locs cells slots) (eT : T.heap = h) (A : OwA Z h a .byte n f) (h0 : ¬ z < 0) (hj : z.toNatClampNeg = i) (hlt : i < n) (hd : decode bytes pc = .ok (.bastore, 1)) (hp : pc + 1 = pc')
    (k : ∀ T' h', Stand p l e R s m args below meth c T' (locs ++ [⟨a, i⟩]) cells slots → T'.heap = h' → Wr h h' a i (.int (nar .byte x)) → OwF p e below D T' (mkF m pc' Ls r)) : OwF p e below D T (mkF m pc Ls (.int x :: .int z :: .ref a :: r)) := by
  subst hp; subst hj
  obtain ⟨cl, A, S, H⟩ := A
  obtain ⟨T', h', X', e', W', st⟩ := stB X C.1 C.2.2.2.2.2.2.2 eT A (j := z) (x := x) (fun w => w.elim h0 (fun w => by omega)) (g := mkF m pc Ls (.int x :: .int z :: .ref a :: r)) rfl rfl (hb C.2.1 hd)
  exact OwF.st st (k T' h' X' e' W')
end OwnArr
theorem own_nm {a b : Addr} (h : a ≠ b) : a ∉ [b] := fun q => h (List.mem_singleton.mp q)
theorem d2_0 : decode jdk_30_method_1_code 0 = .ok (.aload_n 0, 1) := by decide +kernel
theorem d2_1 : decode jdk_30_method_1_code 1 = .ok (.invokespecial 1, 3) := by decide +kernel
theorem d2_4 : decode jdk_30_method_1_code 4 = .ok (.return_, 1) := by decide +kernel
theorem pn_2 : plainFor (⟨"java/lang/Record", "<init>", "()V"⟩ : MethodName) = true := by first | exact plainFor_of_name (by first | (simp [plainName, overriddenIn]; done) | decide +kernel) | decide +kernel
theorem pd_0 : parseMethodDescriptor "()V" = some ⟨[], none⟩ := by decide +kernel
set_option maxRecDepth 65536 in
set_option maxHeartbeats 40000000 in
theorem rm_rec (l : Launch) (Z : State) (a0 : Array Value) (hw : ∀ d ∈ tables_1, d.before a0 Z = true) (o0 : Addr)  (h0 : Heap)   :
    OwCon l (⟨"java/lang/Record", "<init>", "()V"⟩ : MethodName) jdk_30_method_1_code 1 none ({ frames := 1, cells := 0, slots := 0, locals := 12 } : Room) Z #[(.ref o0)] h0 (OwP none h0) := by
  refine OwCon.of pn_2 (Ls := #[.val (.ref o0)]) (fun m => by first | (simp [entryFrame, mkF, argsToLocals, Value.category]; done) | rfl) ?_
  intro p e s m below meth c s₁ C X0 e0
  refine ow_aloadN C X0 d2_0 rfl rfl (pc' := 1) rfl ?_
  refine ow_initO C X0 e0 (hw _ (List.mem_of_getElem? (i := 13) rfl)) (hw _ (List.mem_of_getElem? (i := 14) rfl)) (hw _ (List.mem_of_getElem? (i := 15) rfl)) rfl d2_1 (Nat.le_of_ble_eq_true rfl) (Nat.le_of_ble_eq_true rfl) (pc' := 4) rfl (fun T1 X1 e1 => ?_)
  exact ow_retV C X1 d2_4 (Nat.le_of_ble_eq_true rfl) (Nat.le_of_ble_eq_true rfl) ⟨rfl, rfl, e1⟩
theorem d1_0 : decode prog_27_method_1_code 0 = .ok (.aload_n 0, 1) := by decide +kernel
theorem d1_1 : decode prog_27_method_1_code 1 = .ok (.invokespecial 1, 3) := by decide +kernel
theorem d1_4 : decode prog_27_method_1_code 4 = .ok (.aload_n 0, 1) := by decide +kernel
theorem d1_5 : decode prog_27_method_1_code 5 = .ok (.lload_n 1, 1) := by decide +kernel
theorem d1_6 : decode prog_27_method_1_code 6 = .ok (.putfield 7, 3) := by decide +kernel
theorem d1_9 : decode prog_27_method_1_code 9 = .ok (.aload_n 0, 1) := by decide +kernel
theorem d1_10 : decode prog_27_method_1_code 10 = .ok (.lload_n 3, 1) := by decide +kernel
theorem d1_11 : decode prog_27_method_1_code 11 = .ok (.putfield 13, 3) := by decide +kernel
theorem d1_14 : decode prog_27_method_1_code 14 = .ok (.return_, 1) := by decide +kernel
theorem pn_1 : plainFor (⟨"com/example/total_order/totalorder/io/HeapShare", "<init>", "(JJ)V"⟩ : MethodName) = true := by first | exact plainFor_of_name (by first | (simp [plainName, overriddenIn]; done) | decide +kernel) | decide +kernel
theorem pd_1 : parseMethodDescriptor "(JJ)V" = some ⟨[.long, .long], none⟩ := by decide +kernel
set_option maxRecDepth 65536 in
set_option maxHeartbeats 40000000 in
theorem rm_init (l : Launch) (Z : State) (a0 : Array Value) (hw : ∀ d ∈ tables_1, d.before a0 Z = true) (o0 : Addr) (q1 : Int64) (q2 : Int64) (u_maxBytes_o0 : Value) (u_reservedBytes_o0 : Value) (h0 : Heap) (n0 : Nat) (E_o0 : Exa Z h0 o0 "com/example/total_order/totalorder/io/HeapShare") (g_o0 : n0 ≤ o0) (F_maxBytes_o0 : Fld Z h0 o0 "com/example/total_order/totalorder/io/HeapShare" "maxBytes" "J" u_maxBytes_o0) (F_reservedBytes_o0 : Fld Z h0 o0 "com/example/total_order/totalorder/io/HeapShare" "reservedBytes" "J" u_reservedBytes_o0) :
    OwCon l (⟨"com/example/total_order/totalorder/io/HeapShare", "<init>", "(JJ)V"⟩ : MethodName) prog_27_method_1_code 5 none ({ frames := 2, cells := 0, slots := 0, locals := 24 } : Room) Z #[(.ref o0), (.long q1), (.long q2)] h0 (fun v h L => v = none ∧ Fr n0 L ∧ Keep h0 h [o0] ∧ Exa Z h o0 "com/example/total_order/totalorder/io/HeapShare" ∧ Fld Z h o0 "com/example/total_order/totalorder/io/HeapShare" "maxBytes" "J" (.long q1) ∧ Fld Z h o0 "com/example/total_order/totalorder/io/HeapShare" "reservedBytes" "J" (.long q2)) := by
  refine OwCon.of pn_1 (Ls := #[.val (.ref o0), .val (.long q1), .second, .val (.long q2), .second]) (fun m => by first | (simp [entryFrame, mkF, argsToLocals, Value.category]; done) | rfl) ?_
  intro p e s m below meth c s₁ C X0 e0
  refine ow_aloadN C X0 d1_0 rfl rfl (pc' := 1) rfl ?_
  refine ow_callNP C X0 e0 rfl (hw _ (List.mem_of_getElem? (i := 8) rfl)) (hw _ (List.mem_of_getElem? (i := 9) rfl)) (hw _ (List.mem_of_getElem? (i := 11) rfl)) (hw _ (List.mem_of_getElem? (i := 12) rfl)) (by decide) (rm_rec l Z a0 hw o0 h0) ⟨rfl, rfl⟩ pd_0 rfl (argsL := []) (rest := []) rfl rfl d1_1 (Nat.le_of_ble_eq_true rfl) (Nat.le_of_ble_eq_true rfl) (Nat.le_of_ble_eq_true rfl) (Nat.le_of_ble_eq_true rfl) (pc' := 4) rfl (fun T2 X2 e2 => ?_)
  refine ow_aloadN C X2 d1_4 rfl rfl (pc' := 5) rfl ?_
  refine ow_lloadN C X2 d1_5 rfl (pc' := 6) rfl ?_
  refine ow_putF C X2 e2 (hw _ (List.mem_of_getElem? (i := 16) rfl)) F_maxBytes_o0 E_o0 (Or.inr ⟨(hw _ (List.mem_of_getElem? (i := 17) rfl)), rfl, rfl⟩) (hw _ (List.mem_of_getElem? (i := 3) rfl)) (ty := .long) (by decide) rfl rfl d1_6 (pc' := 9) rfl (fun T3 h3 X3 e3 W3 => ?_)
  have E3_0 := E_o0.wr W3
  have F3_1 := F_maxBytes_o0.same W3
  have F3_2 := F_reservedBytes_o0.other W3 (Or.inr (slot_ne (Or.inr (hw _ (List.mem_of_getElem? (i := 19) rfl))) (Or.inr (hw _ (List.mem_of_getElem? (i := 17) rfl))) (by decide) (t := .long) (t' := .long) (by decide) (by decide)))
  have K3 : Keep h0 h3 [o0] := (Keep.refl h0 [o0]).wr W3 (Or.inl (List.mem_singleton.mpr rfl))
  have N3 := Fr.snoc X3 (Fr.nil n0) g_o0
  refine ow_aloadN C X3 d1_9 rfl rfl (pc' := 10) rfl ?_
  refine ow_lloadN C X3 d1_10 rfl (pc' := 11) rfl ?_
  refine ow_putF C X3 e3 (hw _ (List.mem_of_getElem? (i := 18) rfl)) F3_2 E3_0 (Or.inr ⟨(hw _ (List.mem_of_getElem? (i := 19) rfl)), rfl, rfl⟩) (hw _ (List.mem_of_getElem? (i := 3) rfl)) (ty := .long) (by decide) rfl rfl d1_11 (pc' := 14) rfl (fun T4 h4 X4 e4 W4 => ?_)
  have E4_0 := E3_0.wr W4
  have F4_1 := F3_1.other W4 (Or.inr (slot_ne (Or.inr (hw _ (List.mem_of_getElem? (i := 17) rfl))) (Or.inr (hw _ (List.mem_of_getElem? (i := 19) rfl))) (by decide) (t := .long) (t' := .long) (by decide) (by decide)))
  have F4_2 := F3_2.same W4
  have K4 : Keep h0 h4 [o0] := K3.wr W4 (Or.inl (List.mem_singleton.mpr rfl))
  have N4 := Fr.snoc X4 N3 g_o0
  refine ow_retV C X4 d1_14 (Nat.le_of_ble_eq_true rfl) (Nat.le_of_ble_eq_true rfl) ?_
  rw [e4]
  exact ⟨rfl, N4, K4, E4_0, F4_1, F4_2⟩
theorem d5_0 : decode prog_27_method_2_code 0 = .ok (.aload_n 0, 1) := by decide +kernel
theorem d5_1 : decode prog_27_method_2_code 1 = .ok (.getfield 7, 3) := by decide +kernel
theorem d5_4 : decode prog_27_method_2_code 4 = .ok (.aload_n 0, 1) := by decide +kernel
theorem d5_5 : decode prog_27_method_2_code 5 = .ok (.getfield 7, 3) := by decide +kernel
theorem d5_8 : decode prog_27_method_2_code 8 = .ok (.ldc2_w 16, 3) := by decide +kernel
theorem d5_11 : decode prog_27_method_2_code 11 = .ok (.ldiv, 1) := by decide +kernel
theorem d5_12 : decode prog_27_method_2_code 12 = .ok (.lsub, 1) := by decide +kernel
theorem d5_13 : decode prog_27_method_2_code 13 = .ok (.lreturn, 1) := by decide +kernel
theorem pn_5 : plainFor (⟨"com/example/total_order/totalorder/io/HeapShare", "sharedBytes", "()J"⟩ : MethodName) = true := by first | exact plainFor_of_name (by first | (simp [plainName, overriddenIn]; done) | decide +kernel) | decide +kernel
theorem pd_2 : parseMethodDescriptor "()J" = some ⟨[], (some .long)⟩ := by decide +kernel
def own_shared (u_maxBytes_o0 : Int64) : Int64 := (u_maxBytes_o0 - (u_maxBytes_o0 / (4 : Int64)))
set_option maxRecDepth 65536 in
set_option maxHeartbeats 40000000 in
theorem rm_shared (l : Launch) (Z : State) (a0 : Array Value) (hw : ∀ d ∈ tables_1, d.before a0 Z = true) (o0 : Addr) (u_maxBytes_o0 : Int64) (h0 : Heap)  (F_maxBytes_o0 : Fld Z h0 o0 "com/example/total_order/totalorder/io/HeapShare" "maxBytes" "J" (.long u_maxBytes_o0)) :
    OwCon l (⟨"com/example/total_order/totalorder/io/HeapShare", "sharedBytes", "()J"⟩ : MethodName) prog_27_method_2_code 1 (some .long) ({ frames := 0, cells := 0, slots := 0, locals := 0 } : Room) Z #[(.ref o0)] h0 (OwP (some (.long (own_shared u_maxBytes_o0))) h0) := by
  refine OwCon.of pn_5 (Ls := #[.val (.ref o0)]) (fun m => by first | (simp [entryFrame, mkF, argsToLocals, Value.category]; done) | rfl) ?_
  intro p e s m below meth c s₁ C X0 e0
  refine ow_aloadN C X0 d5_0 rfl rfl (pc' := 1) rfl ?_
  refine ow_getF C X0 e0 (hw _ (List.mem_of_getElem? (i := 16) rfl)) F_maxBytes_o0 d5_1 (pc' := 4) rfl (fun T5 X5 e5 => ?_)
  refine ow_aloadN C X5 d5_4 rfl rfl (pc' := 5) rfl ?_
  refine ow_getF C X5 e5 (hw _ (List.mem_of_getElem? (i := 16) rfl)) F_maxBytes_o0 d5_5 (pc' := 8) rfl (fun T6 X6 e6 => ?_)
  refine ow_ldc2 C X6 (hw _ (List.mem_of_getElem? (i := 30) rfl)) d5_8 (pc' := 11) rfl ?_
  refine ow_ldiv C X6 d5_11 (by decide) (pc' := 12) rfl ?_
  refine ow_lsub C X6 d5_12 (pc' := 13) rfl ?_
  exact ow_retJ C X6 d5_13 (Nat.le_of_ble_eq_true rfl) (Nat.le_of_ble_eq_true rfl) ⟨(show some (Value.long (u_maxBytes_o0 - (u_maxBytes_o0 / (4 : Int64)))) = some (Value.long (own_shared u_maxBytes_o0)) from congrArg (fun z => some (Value.long z)) rfl), rfl, e6⟩
theorem d4_0 : decode prog_27_method_3_code 0 = .ok (.lload_n 3, 1) := by decide +kernel
theorem d4_1 : decode prog_27_method_3_code 1 = .ok (.aload_n 0, 1) := by decide +kernel
theorem d4_2 : decode prog_27_method_3_code 2 = .ok (.getfield 7, 3) := by decide +kernel
theorem d4_5 : decode prog_27_method_3_code 5 = .ok (.lcmp, 1) := by decide +kernel
theorem d4_6 : decode prog_27_method_3_code 6 = .ok (.ifCond .gt 25, 3) := by decide +kernel
theorem d4_9 : decode prog_27_method_3_code 9 = .ok (.lload_n 3, 1) := by decide +kernel
theorem d4_10 : decode prog_27_method_3_code 10 = .ok (.aload_n 0, 1) := by decide +kernel
theorem d4_11 : decode prog_27_method_3_code 11 = .ok (.invokevirtual 18, 3) := by decide +kernel
theorem d4_14 : decode prog_27_method_3_code 14 = .ok (.lcmp, 1) := by decide +kernel
theorem d4_15 : decode prog_27_method_3_code 15 = .ok (.ifCond .le 12, 3) := by decide +kernel
theorem d4_18 : decode prog_27_method_3_code 18 = .ok (.lload_n 1, 1) := by decide +kernel
theorem d4_19 : decode prog_27_method_3_code 19 = .ok (.aload_n 0, 1) := by decide +kernel
theorem d4_20 : decode prog_27_method_3_code 20 = .ok (.getfield 13, 3) := by decide +kernel
theorem d4_23 : decode prog_27_method_3_code 23 = .ok (.lcmp, 1) := by decide +kernel
theorem d4_24 : decode prog_27_method_3_code 24 = .ok (.ifCond .gt 7, 3) := by decide +kernel
theorem d4_27 : decode prog_27_method_3_code 27 = .ok (.iconst 1, 1) := by decide +kernel
theorem d4_28 : decode prog_27_method_3_code 28 = .ok (.goto 4, 3) := by decide +kernel
theorem d4_31 : decode prog_27_method_3_code 31 = .ok (.iconst 0, 1) := by decide +kernel
theorem d4_32 : decode prog_27_method_3_code 32 = .ok (.ireturn, 1) := by decide +kernel
theorem pn_4 : plainFor (⟨"com/example/total_order/totalorder/io/HeapShare", "allows", "(JJ)Z"⟩ : MethodName) = true := by first | exact plainFor_of_name (by first | (simp [plainName, overriddenIn]; done) | decide +kernel) | decide +kernel
theorem pd_3 : parseMethodDescriptor "(JJ)Z" = some ⟨[.long, .long], (some .boolean)⟩ := by decide +kernel
def own_allows (q1 : Int64) (q2 : Int64) (u_maxBytes_o0 : Int64) (u_reservedBytes_o0 : Int64) : Int32 := if u_maxBytes_o0 < q2 then (0 : Int32) else if (own_shared u_maxBytes_o0) < q2 then (if u_reservedBytes_o0 < q1 then (0 : Int32) else (1 : Int32)) else (1 : Int32)
theorem own_allows_01 (q1 : Int64) (q2 : Int64) (u_maxBytes_o0 : Int64) (u_reservedBytes_o0 : Int64) : own_allows q1 q2 u_maxBytes_o0 u_reservedBytes_o0 = 0 ∨ own_allows q1 q2 u_maxBytes_o0 u_reservedBytes_o0 = 1 := by
  unfold own_allows
  repeat' split
  all_goals first | exact Or.inl rfl | exact Or.inr rfl
set_option maxRecDepth 65536 in
set_option maxHeartbeats 40000000 in
theorem rm_allows (l : Launch) (Z : State) (a0 : Array Value) (hw : ∀ d ∈ tables_1, d.before a0 Z = true) (o0 : Addr) (q1 : Int64) (q2 : Int64) (u_maxBytes_o0 : Int64) (u_reservedBytes_o0 : Int64) (h0 : Heap) (E_o0 : Exa Z h0 o0 "com/example/total_order/totalorder/io/HeapShare") (F_maxBytes_o0 : Fld Z h0 o0 "com/example/total_order/totalorder/io/HeapShare" "maxBytes" "J" (.long u_maxBytes_o0)) (F_reservedBytes_o0 : Fld Z h0 o0 "com/example/total_order/totalorder/io/HeapShare" "reservedBytes" "J" (.long u_reservedBytes_o0)) :
    OwCon l (⟨"com/example/total_order/totalorder/io/HeapShare", "allows", "(JJ)Z"⟩ : MethodName) prog_27_method_3_code 5 (some .boolean) ({ frames := 1, cells := 0, slots := 0, locals := 14 } : Room) Z #[(.ref o0), (.long q1), (.long q2)] h0 (OwP (some (.int (own_allows q1 q2 u_maxBytes_o0 u_reservedBytes_o0))) h0) := by
  refine OwCon.of pn_4 (Ls := #[.val (.ref o0), .val (.long q1), .second, .val (.long q2), .second]) (fun m => by first | (simp [entryFrame, mkF, argsToLocals, Value.category]; done) | rfl) ?_
  intro p e s m below meth c s₁ C X0 e0
  refine ow_lloadN C X0 d4_0 rfl (pc' := 1) rfl ?_
  refine ow_aloadN C X0 d4_1 rfl rfl (pc' := 2) rfl ?_
  refine ow_getF C X0 e0 (hw _ (List.mem_of_getElem? (i := 16) rfl)) F_maxBytes_o0 d4_2 (pc' := 5) rfl (fun T7 X7 e7 => ?_)
  refine ow_lcmp C X7 d4_5 (pc' := 6) rfl ?_
  refine ow_lif_gt C X7 d4_6 (pcT := 31) (pc' := 9) (by decide) (by decide) rfl (fun b6 => ?_) (fun b6 => ?_)
  · refine ow_iconst (0 : Int32) C X7 d4_31 (by decide) (pc' := 32) rfl ?_
    exact ow_retZ C X7 d4_32 (Nat.le_of_ble_eq_true rfl) (Nat.le_of_ble_eq_true rfl) (Or.inl rfl) ⟨(show some (Value.int (0 : Int32)) = some (Value.int (own_allows q1 q2 u_maxBytes_o0 u_reservedBytes_o0)) from congrArg (fun z => some (Value.int z)) (by unfold own_allows; rw [if_pos b6])), rfl, e7⟩
  · refine ow_lloadN C X7 d4_9 rfl (pc' := 10) rfl ?_
    refine ow_aloadN C X7 d4_10 rfl rfl (pc' := 11) rfl ?_
    refine ow_callVP C X7 e7 (hw _ (List.mem_of_getElem? (i := 25) rfl)) (hw _ (List.mem_of_getElem? (i := 26) rfl)) (hw _ (List.mem_of_getElem? (i := 28) rfl)) rfl (hw _ (List.mem_of_getElem? (i := 27) rfl)) (hw _ (List.mem_of_getElem? (i := 4) rfl)) (hw _ (List.mem_of_getElem? (i := 29) rfl)) (by decide) E_o0 (rm_shared l Z a0 hw o0 u_maxBytes_o0 h0 F_maxBytes_o0) ⟨rfl, rfl⟩ pd_2 rfl (argsL := []) (rest := [(.long q2)]) rfl rfl d4_11 (Nat.le_of_ble_eq_true rfl) (Nat.le_of_ble_eq_true rfl) (Nat.le_of_ble_eq_true rfl) (Nat.le_of_ble_eq_true rfl) (pc' := 14) rfl (fun T8 X8 e8 => ?_)
    refine ow_lcmp C X8 d4_14 (pc' := 15) rfl ?_
    refine ow_lif_le C X8 d4_15 (pcT := 27) (pc' := 18) (by decide) (by decide) rfl (fun b15 => ?_) (fun b15 => ?_)
    · refine ow_iconst (1 : Int32) C X8 d4_27 (by decide) (pc' := 28) rfl ?_
      refine ow_goto C X8 d4_28 (pcT := 32) (by decide) (by decide) ?_
      exact ow_retZ C X8 d4_32 (Nat.le_of_ble_eq_true rfl) (Nat.le_of_ble_eq_true rfl) (Or.inr rfl) ⟨(show some (Value.int (1 : Int32)) = some (Value.int (own_allows q1 q2 u_maxBytes_o0 u_reservedBytes_o0)) from congrArg (fun z => some (Value.int z)) (by unfold own_allows; rw [if_neg b6, if_neg b15])), rfl, e8⟩
    · refine ow_lloadN C X8 d4_18 rfl (pc' := 19) rfl ?_
      refine ow_aloadN C X8 d4_19 rfl rfl (pc' := 20) rfl ?_
      refine ow_getF C X8 e8 (hw _ (List.mem_of_getElem? (i := 18) rfl)) F_reservedBytes_o0 d4_20 (pc' := 23) rfl (fun T9 X9 e9 => ?_)
      refine ow_lcmp C X9 d4_23 (pc' := 24) rfl ?_
      refine ow_lif_gt C X9 d4_24 (pcT := 31) (pc' := 27) (by decide) (by decide) rfl (fun b24 => ?_) (fun b24 => ?_)
      · refine ow_iconst (0 : Int32) C X9 d4_31 (by decide) (pc' := 32) rfl ?_
        exact ow_retZ C X9 d4_32 (Nat.le_of_ble_eq_true rfl) (Nat.le_of_ble_eq_true rfl) (Or.inl rfl) ⟨(show some (Value.int (0 : Int32)) = some (Value.int (own_allows q1 q2 u_maxBytes_o0 u_reservedBytes_o0)) from congrArg (fun z => some (Value.int z)) (by unfold own_allows; rw [if_neg b6, if_pos b15, if_pos b24])), rfl, e9⟩
      · refine ow_iconst (1 : Int32) C X9 d4_27 (by decide) (pc' := 28) rfl ?_
        refine ow_goto C X9 d4_28 (pcT := 32) (by decide) (by decide) ?_
        exact ow_retZ C X9 d4_32 (Nat.le_of_ble_eq_true rfl) (Nat.le_of_ble_eq_true rfl) (Or.inr rfl) ⟨(show some (Value.int (1 : Int32)) = some (Value.int (own_allows q1 q2 u_maxBytes_o0 u_reservedBytes_o0)) from congrArg (fun z => some (Value.int z)) (by unfold own_allows; rw [if_neg b6, if_pos b15, if_neg b24])), rfl, e9⟩
theorem pn_0 : plainFor (⟨"com/example/total_order/totalorder/io/HeapShareAllowsPinLaw", "law", "(JJJJI)Z"⟩ : MethodName) = true := by first | exact plainFor_of_name (by first | (simp [plainName, overriddenIn]; done) | decide +kernel) | decide +kernel
theorem pd_4 : parseMethodDescriptor "(JJJJI)Z" = some ⟨[.long, .long, .long, .long, .int], (some .boolean)⟩ := by decide +kernel
def own_law_j71_l12 (q0 : Int64) (q1 : Int64) (q2 : Int64) (q3 : Int64) (q4 : Int32) : Int64 := if (q4 &&& (3 : Int32)) = (1 : Int32) then (q0 + (((q4 >>> ((2 : Int32) &&& 31)) &&& (7 : Int32)) - (4 : Int32)).toInt64) else if (q4 &&& (3 : Int32)) = (2 : Int32) then ((((3 : Int64) * (q0 / (4 : Int64))) + (q0 - (q0 / (4 : Int64)) * (4 : Int64))) + (((q4 >>> ((2 : Int32) &&& 31)) &&& (7 : Int32)) - (4 : Int32)).toInt64) else q3
def own_law_j99_l14 (q0 : Int64) (q1 : Int64) (q2 : Int64) (q3 : Int64) (q4 : Int32) : Int64 := if ((q4 >>> ((5 : Int32) &&& 31)) &&& (1 : Int32)) = 0 then q2 else (q1 + (((q4 >>> ((6 : Int32) &&& 31)) &&& (7 : Int32)) - (4 : Int32)).toInt64)
def own_law_j132 (q0 : Int64) (q1 : Int64) (q2 : Int64) (q3 : Int64) (q4 : Int32) : Int32 := if q1 < (own_law_j99_l14 q0 q1 q2 q3 q4) then (0 : Int32) else (1 : Int32)
theorem own_law_j132_01 (q0 : Int64) (q1 : Int64) (q2 : Int64) (q3 : Int64) (q4 : Int32) : own_law_j132 q0 q1 q2 q3 q4 = 0 ∨ own_law_j132 q0 q1 q2 q3 q4 = 1 := by
  unfold own_law_j132
  repeat' split
  all_goals first | exact Or.inl rfl | exact Or.inr rfl
def own_law_j140_l16 (q0 : Int64) (q1 : Int64) (q2 : Int64) (q3 : Int64) (q4 : Int32) : Int32 := if q0 < (own_law_j71_l12 q0 q1 q2 q3 q4) then (0 : Int32) else if (((3 : Int64) * (q0 / (4 : Int64))) + (q0 - (q0 / (4 : Int64)) * (4 : Int64))) < (own_law_j71_l12 q0 q1 q2 q3 q4) then (own_law_j132 q0 q1 q2 q3 q4) else (1 : Int32)
theorem own_law_j140_l16_01 (q0 : Int64) (q1 : Int64) (q2 : Int64) (q3 : Int64) (q4 : Int32) : own_law_j140_l16 q0 q1 q2 q3 q4 = 0 ∨ own_law_j140_l16 q0 q1 q2 q3 q4 = 1 := by
  unfold own_law_j140_l16
  repeat' split
  all_goals first | exact Or.inl rfl | exact Or.inr rfl | exact (own_law_j132_01 q0 q1 q2 q3 q4)
def own_law (q0 : Int64) (q1 : Int64) (q2 : Int64) (q3 : Int64) (q4 : Int32) : Int32 := if (own_allows (own_law_j99_l14 q0 q1 q2 q3 q4) (own_law_j71_l12 q0 q1 q2 q3 q4) q0 q1) = (own_law_j140_l16 q0 q1 q2 q3 q4) then (1 : Int32) else (0 : Int32)
set_option maxRecDepth 65536 in
set_option maxHeartbeats 40000000 in
theorem rm_law (l : Launch) (Z : State) (a0 : Array Value) (hw : ∀ d ∈ tables_1, d.before a0 Z = true) (q0 : Int64) (q1 : Int64) (q2 : Int64) (q3 : Int64) (q4 : Int32) (h0 : Heap) (n0 : Nat) (Z0 : n0 ≤ h0.size) :
    OwCon l (⟨"com/example/total_order/totalorder/io/HeapShareAllowsPinLaw", "law", "(JJJJI)Z"⟩ : MethodName) code maxLocals ret room_1 Z #[(.long q0), (.long q1), (.long q2), (.long q3), (.int q4)] h0 (fun v h L => v = some (.int (own_law q0 q1 q2 q3 q4)) ∧ Fr n0 L) := by
  refine OwCon.of pn_0 (Ls := #[.val (.long q0), .second, .val (.long q1), .second, .val (.long q2), .second, .val (.long q3), .second, .val (.int q4), .unset, .unset, .unset, .unset, .unset, .unset, .unset, .unset, .unset]) (fun m => by first | (simp [entryFrame, mkF, argsToLocals, Value.category]; done) | rfl) ?_
  intro p e s m below meth c s₁ C X0 e0
  refine ow_ldc2 C X0 (hw _ (List.mem_of_getElem? (i := 0) rfl)) at_0 (pc' := 3) rfl ?_
  refine ow_lloadN C X0 at_3 rfl (pc' := 4) rfl ?_
  refine ow_ldc2 C X0 (hw _ (List.mem_of_getElem? (i := 1) rfl)) at_4 (pc' := 7) rfl ?_
  refine ow_ldiv C X0 at_7 (by decide) (pc' := 8) rfl ?_
  refine ow_lmul C X0 at_8 (pc' := 9) rfl ?_
  refine ow_lloadN C X0 at_9 rfl (pc' := 10) rfl ?_
  refine ow_ldc2 C X0 (hw _ (List.mem_of_getElem? (i := 1) rfl)) at_10 (pc' := 13) rfl ?_
  refine ow_lrem C X0 at_13 (by decide) (pc' := 14) rfl ?_
  refine ow_ladd C X0 at_14 (pc' := 15) rfl ?_
  refine ow_lstore C X0 at_15 (Ls' := #[.val (.long q0), .second, .val (.long q1), .second, .val (.long q2), .second, .val (.long q3), .second, .val (.int q4), .val (.long (((3 : Int64) * (q0 / (4 : Int64))) + (q0 - (q0 / (4 : Int64)) * (4 : Int64)))), .second, .unset, .unset, .unset, .unset, .unset, .unset, .unset]) rfl (pc' := 17) rfl ?_
  refine ow_iload C X0 at_17 rfl (pc' := 19) rfl ?_
  refine ow_iconst (3 : Int32) C X0 at_19 (by decide) (pc' := 20) rfl ?_
  refine ow_iand C X0 at_20 (pc' := 21) rfl ?_
  refine ow_istore C X0 at_21 (Ls' := #[.val (.long q0), .second, .val (.long q1), .second, .val (.long q2), .second, .val (.long q3), .second, .val (.int q4), .val (.long (((3 : Int64) * (q0 / (4 : Int64))) + (q0 - (q0 / (4 : Int64)) * (4 : Int64)))), .second, .val (.int (q4 &&& (3 : Int32))), .unset, .unset, .unset, .unset, .unset, .unset]) rfl (pc' := 23) rfl ?_
  refine ow_lload C X0 at_23 rfl (pc' := 25) rfl ?_
  refine ow_lstore C X0 at_25 (Ls' := #[.val (.long q0), .second, .val (.long q1), .second, .val (.long q2), .second, .val (.long q3), .second, .val (.int q4), .val (.long (((3 : Int64) * (q0 / (4 : Int64))) + (q0 - (q0 / (4 : Int64)) * (4 : Int64)))), .second, .val (.int (q4 &&& (3 : Int32))), .val (.long q3), .second, .unset, .unset, .unset, .unset]) rfl (pc' := 27) rfl ?_
  refine ow_iload C X0 at_27 rfl (pc' := 29) rfl ?_
  refine ow_iconst (1 : Int32) C X0 at_29 (by decide) (pc' := 30) rfl ?_
  refine ow_join X0 e0 (f' := (mkF m 71 #[.val (.long q0), .second, .val (.long q1), .second, .val (.long q2), .second, .val (.long q3), .second, .val (.int q4), .val (.long (((3 : Int64) * (q0 / (4 : Int64))) + (q0 - (q0 / (4 : Int64)) * (4 : Int64)))), .second, .val (.int (q4 &&& (3 : Int32))), .val (.long (own_law_j71_l12 q0 q1 q2 q3 q4)), .second, .unset, .unset, .unset, .unset] [])) ?_ (fun T10 X10 e10 => ?_)
  · intro D10 jk10
    refine ow_icmp_ne C X0 at_30 (pcT := 50) (pc' := 33) (by decide) (by decide) rfl (fun b30 => ?_) (fun b30 => ?_)
    · refine ow_iload C X0 at_50 rfl (pc' := 52) rfl ?_
      refine ow_iconst (2 : Int32) C X0 at_52 (by decide) (pc' := 53) rfl ?_
      refine ow_icmp_ne C X0 at_53 (pcT := 71) (pc' := 56) (by decide) (by decide) rfl (fun b53 => ?_) (fun b53 => ?_)
      · have jq := jk10 s₁ X0 e0
        rw [show (own_law_j71_l12 q0 q1 q2 q3 q4) = q3 from by unfold own_law_j71_l12; (try rw [if_neg b30]); (try rw [if_neg b53]); (try rfl)] at jq
        exact jq
      · refine ow_lload C X0 at_56 rfl (pc' := 58) rfl ?_
        refine ow_iload C X0 at_58 rfl (pc' := 60) rfl ?_
        refine ow_iconst (2 : Int32) C X0 at_60 (by decide) (pc' := 61) rfl ?_
        refine ow_ishr C X0 at_61 (pc' := 62) rfl ?_
        refine ow_bipush (7 : Int32) C X0 at_62 (by decide) (pc' := 64) rfl ?_
        refine ow_iand C X0 at_64 (pc' := 65) rfl ?_
        refine ow_iconst (4 : Int32) C X0 at_65 (by decide) (pc' := 66) rfl ?_
        refine ow_isub C X0 at_66 (pc' := 67) rfl ?_
        refine ow_i2l C X0 at_67 (pc' := 68) rfl ?_
        refine ow_ladd C X0 at_68 (pc' := 69) rfl ?_
        refine ow_lstore C X0 at_69 (Ls' := #[.val (.long q0), .second, .val (.long q1), .second, .val (.long q2), .second, .val (.long q3), .second, .val (.int q4), .val (.long (((3 : Int64) * (q0 / (4 : Int64))) + (q0 - (q0 / (4 : Int64)) * (4 : Int64)))), .second, .val (.int (q4 &&& (3 : Int32))), .val (.long ((((3 : Int64) * (q0 / (4 : Int64))) + (q0 - (q0 / (4 : Int64)) * (4 : Int64))) + (((q4 >>> ((2 : Int32) &&& 31)) &&& (7 : Int32)) - (4 : Int32)).toInt64)), .second, .unset, .unset, .unset, .unset]) rfl (pc' := 71) rfl ?_
        have jq := jk10 s₁ X0 e0
        rw [show (own_law_j71_l12 q0 q1 q2 q3 q4) = ((((3 : Int64) * (q0 / (4 : Int64))) + (q0 - (q0 / (4 : Int64)) * (4 : Int64))) + (((q4 >>> ((2 : Int32) &&& 31)) &&& (7 : Int32)) - (4 : Int32)).toInt64) from by unfold own_law_j71_l12; (try rw [if_neg b30]); (try rw [if_pos b53]); (try rfl)] at jq
        exact jq
    · refine ow_lloadN C X0 at_33 rfl (pc' := 34) rfl ?_
      refine ow_iload C X0 at_34 rfl (pc' := 36) rfl ?_
      refine ow_iconst (2 : Int32) C X0 at_36 (by decide) (pc' := 37) rfl ?_
      refine ow_ishr C X0 at_37 (pc' := 38) rfl ?_
      refine ow_bipush (7 : Int32) C X0 at_38 (by decide) (pc' := 40) rfl ?_
      refine ow_iand C X0 at_40 (pc' := 41) rfl ?_
      refine ow_iconst (4 : Int32) C X0 at_41 (by decide) (pc' := 42) rfl ?_
      refine ow_isub C X0 at_42 (pc' := 43) rfl ?_
      refine ow_i2l C X0 at_43 (pc' := 44) rfl ?_
      refine ow_ladd C X0 at_44 (pc' := 45) rfl ?_
      refine ow_lstore C X0 at_45 (Ls' := #[.val (.long q0), .second, .val (.long q1), .second, .val (.long q2), .second, .val (.long q3), .second, .val (.int q4), .val (.long (((3 : Int64) * (q0 / (4 : Int64))) + (q0 - (q0 / (4 : Int64)) * (4 : Int64)))), .second, .val (.int (q4 &&& (3 : Int32))), .val (.long (q0 + (((q4 >>> ((2 : Int32) &&& 31)) &&& (7 : Int32)) - (4 : Int32)).toInt64)), .second, .unset, .unset, .unset, .unset]) rfl (pc' := 47) rfl ?_
      refine ow_goto C X0 at_47 (pcT := 71) (by decide) (by decide) ?_
      have jq := jk10 s₁ X0 e0
      rw [show (own_law_j71_l12 q0 q1 q2 q3 q4) = (q0 + (((q4 >>> ((2 : Int32) &&& 31)) &&& (7 : Int32)) - (4 : Int32)).toInt64) from by unfold own_law_j71_l12; (try rw [if_pos b30]); (try rfl)] at jq
      exact jq
  refine ow_lload C X10 at_71 rfl (pc' := 73) rfl ?_
  refine ow_lstore C X10 at_73 (Ls' := #[.val (.long q0), .second, .val (.long q1), .second, .val (.long q2), .second, .val (.long q3), .second, .val (.int q4), .val (.long (((3 : Int64) * (q0 / (4 : Int64))) + (q0 - (q0 / (4 : Int64)) * (4 : Int64)))), .second, .val (.int (q4 &&& (3 : Int32))), .val (.long (own_law_j71_l12 q0 q1 q2 q3 q4)), .second, .val (.long q2), .second, .unset, .unset]) rfl (pc' := 75) rfl ?_
  refine ow_iload C X10 at_75 rfl (pc' := 77) rfl ?_
  refine ow_iconst (5 : Int32) C X10 at_77 (by decide) (pc' := 78) rfl ?_
  refine ow_ishr C X10 at_78 (pc' := 79) rfl ?_
  refine ow_iconst (1 : Int32) C X10 at_79 (by decide) (pc' := 80) rfl ?_
  refine ow_iand C X10 at_80 (pc' := 81) rfl ?_
  refine ow_join X10 e10 (f' := (mkF m 99 #[.val (.long q0), .second, .val (.long q1), .second, .val (.long q2), .second, .val (.long q3), .second, .val (.int q4), .val (.long (((3 : Int64) * (q0 / (4 : Int64))) + (q0 - (q0 / (4 : Int64)) * (4 : Int64)))), .second, .val (.int (q4 &&& (3 : Int32))), .val (.long (own_law_j71_l12 q0 q1 q2 q3 q4)), .second, .val (.long (own_law_j99_l14 q0 q1 q2 q3 q4)), .second, .unset, .unset] [])) ?_ (fun T11 X11 e11 => ?_)
  · intro D11 jk11
    refine ow_if_eq C X10 at_81 (pcT := 99) (pc' := 84) (by decide) (by decide) rfl (fun b81 => ?_) (fun b81 => ?_)
    · have jq := jk11 T10 X10 e10
      rw [show (own_law_j99_l14 q0 q1 q2 q3 q4) = q2 from by unfold own_law_j99_l14; (try rw [if_pos b81]); (try rfl)] at jq
      exact jq
    · refine ow_lloadN C X10 at_84 rfl (pc' := 85) rfl ?_
      refine ow_iload C X10 at_85 rfl (pc' := 87) rfl ?_
      refine ow_bipush (6 : Int32) C X10 at_87 (by decide) (pc' := 89) rfl ?_
      refine ow_ishr C X10 at_89 (pc' := 90) rfl ?_
      refine ow_bipush (7 : Int32) C X10 at_90 (by decide) (pc' := 92) rfl ?_
      refine ow_iand C X10 at_92 (pc' := 93) rfl ?_
      refine ow_iconst (4 : Int32) C X10 at_93 (by decide) (pc' := 94) rfl ?_
      refine ow_isub C X10 at_94 (pc' := 95) rfl ?_
      refine ow_i2l C X10 at_95 (pc' := 96) rfl ?_
      refine ow_ladd C X10 at_96 (pc' := 97) rfl ?_
      refine ow_lstore C X10 at_97 (Ls' := #[.val (.long q0), .second, .val (.long q1), .second, .val (.long q2), .second, .val (.long q3), .second, .val (.int q4), .val (.long (((3 : Int64) * (q0 / (4 : Int64))) + (q0 - (q0 / (4 : Int64)) * (4 : Int64)))), .second, .val (.int (q4 &&& (3 : Int32))), .val (.long (own_law_j71_l12 q0 q1 q2 q3 q4)), .second, .val (.long (q1 + (((q4 >>> ((6 : Int32) &&& 31)) &&& (7 : Int32)) - (4 : Int32)).toInt64)), .second, .unset, .unset]) rfl (pc' := 99) rfl ?_
      have jq := jk11 T10 X10 e10
      rw [show (own_law_j99_l14 q0 q1 q2 q3 q4) = (q1 + (((q4 >>> ((6 : Int32) &&& 31)) &&& (7 : Int32)) - (4 : Int32)).toInt64) from by unfold own_law_j99_l14; (try rw [if_neg b81]); (try rfl)] at jq
      exact jq
  refine ow_lload C X11 at_99 rfl (pc' := 101) rfl ?_
  refine ow_lloadN C X11 at_101 rfl (pc' := 102) rfl ?_
  refine ow_lcmp C X11 at_102 (pc' := 103) rfl ?_
  refine ow_join X11 e11 (f' := (mkF m 140 #[.val (.long q0), .second, .val (.long q1), .second, .val (.long q2), .second, .val (.long q3), .second, .val (.int q4), .val (.long (((3 : Int64) * (q0 / (4 : Int64))) + (q0 - (q0 / (4 : Int64)) * (4 : Int64)))), .second, .val (.int (q4 &&& (3 : Int32))), .val (.long (own_law_j71_l12 q0 q1 q2 q3 q4)), .second, .val (.long (own_law_j99_l14 q0 q1 q2 q3 q4)), .second, .val (.int (own_law_j140_l16 q0 q1 q2 q3 q4)), .unset] [])) ?_ (fun T13 X13 e13 => ?_)
  · intro D13 jk13
    refine ow_lif_le C X11 at_103 (pcT := 112) (pc' := 106) (by decide) (by decide) rfl (fun b103 => ?_) (fun b103 => ?_)
    · refine ow_lload C X11 at_112 rfl (pc' := 114) rfl ?_
      refine ow_lload C X11 at_114 rfl (pc' := 116) rfl ?_
      refine ow_lcmp C X11 at_116 (pc' := 117) rfl ?_
      refine ow_lif_le C X11 at_117 (pcT := 137) (pc' := 120) (by decide) (by decide) rfl (fun b117 => ?_) (fun b117 => ?_)
      · refine ow_iconst (1 : Int32) C X11 at_137 (by decide) (pc' := 138) rfl ?_
        refine ow_istore C X11 at_138 (Ls' := #[.val (.long q0), .second, .val (.long q1), .second, .val (.long q2), .second, .val (.long q3), .second, .val (.int q4), .val (.long (((3 : Int64) * (q0 / (4 : Int64))) + (q0 - (q0 / (4 : Int64)) * (4 : Int64)))), .second, .val (.int (q4 &&& (3 : Int32))), .val (.long (own_law_j71_l12 q0 q1 q2 q3 q4)), .second, .val (.long (own_law_j99_l14 q0 q1 q2 q3 q4)), .second, .val (.int (1 : Int32)), .unset]) rfl (pc' := 140) rfl ?_
        have jq := jk13 T11 X11 e11
        rw [show (own_law_j140_l16 q0 q1 q2 q3 q4) = (1 : Int32) from by unfold own_law_j140_l16; (try rw [if_neg b103]); (try rw [if_neg b117]); (try rfl)] at jq
        exact jq
      · refine ow_lload C X11 at_120 rfl (pc' := 122) rfl ?_
        refine ow_lloadN C X11 at_122 rfl (pc' := 123) rfl ?_
        refine ow_lcmp C X11 at_123 (pc' := 124) rfl ?_
        refine ow_join X11 e11 (f' := (mkF m 132 #[.val (.long q0), .second, .val (.long q1), .second, .val (.long q2), .second, .val (.long q3), .second, .val (.int q4), .val (.long (((3 : Int64) * (q0 / (4 : Int64))) + (q0 - (q0 / (4 : Int64)) * (4 : Int64)))), .second, .val (.int (q4 &&& (3 : Int32))), .val (.long (own_law_j71_l12 q0 q1 q2 q3 q4)), .second, .val (.long (own_law_j99_l14 q0 q1 q2 q3 q4)), .second, .unset, .unset] [(.int (own_law_j132 q0 q1 q2 q3 q4))])) ?_ (fun T12 X12 e12 => ?_)
        · intro D12 jk12
          refine ow_lif_gt C X11 at_124 (pcT := 131) (pc' := 127) (by decide) (by decide) rfl (fun b124 => ?_) (fun b124 => ?_)
          · refine ow_iconst (0 : Int32) C X11 at_131 (by decide) (pc' := 132) rfl ?_
            have jq := jk12 T11 X11 e11
            rw [show (own_law_j132 q0 q1 q2 q3 q4) = (0 : Int32) from by unfold own_law_j132; (try rw [if_pos b124]); (try rfl)] at jq
            exact jq
          · refine ow_iconst (1 : Int32) C X11 at_127 (by decide) (pc' := 128) rfl ?_
            refine ow_goto C X11 at_128 (pcT := 132) (by decide) (by decide) ?_
            have jq := jk12 T11 X11 e11
            rw [show (own_law_j132 q0 q1 q2 q3 q4) = (1 : Int32) from by unfold own_law_j132; (try rw [if_neg b124]); (try rfl)] at jq
            exact jq
        refine ow_istore C X12 at_132 (Ls' := #[.val (.long q0), .second, .val (.long q1), .second, .val (.long q2), .second, .val (.long q3), .second, .val (.int q4), .val (.long (((3 : Int64) * (q0 / (4 : Int64))) + (q0 - (q0 / (4 : Int64)) * (4 : Int64)))), .second, .val (.int (q4 &&& (3 : Int32))), .val (.long (own_law_j71_l12 q0 q1 q2 q3 q4)), .second, .val (.long (own_law_j99_l14 q0 q1 q2 q3 q4)), .second, .val (.int (own_law_j132 q0 q1 q2 q3 q4)), .unset]) rfl (pc' := 134) rfl ?_
        refine ow_goto C X12 at_134 (pcT := 140) (by decide) (by decide) ?_
        have jq := jk13 T12 X12 e12
        rw [show (own_law_j140_l16 q0 q1 q2 q3 q4) = (own_law_j132 q0 q1 q2 q3 q4) from by unfold own_law_j140_l16; (try rw [if_neg b103]); (try rw [if_pos b117]); (try rfl)] at jq
        exact jq
    · refine ow_iconst (0 : Int32) C X11 at_106 (by decide) (pc' := 107) rfl ?_
      refine ow_istore C X11 at_107 (Ls' := #[.val (.long q0), .second, .val (.long q1), .second, .val (.long q2), .second, .val (.long q3), .second, .val (.int q4), .val (.long (((3 : Int64) * (q0 / (4 : Int64))) + (q0 - (q0 / (4 : Int64)) * (4 : Int64)))), .second, .val (.int (q4 &&& (3 : Int32))), .val (.long (own_law_j71_l12 q0 q1 q2 q3 q4)), .second, .val (.long (own_law_j99_l14 q0 q1 q2 q3 q4)), .second, .val (.int (0 : Int32)), .unset]) rfl (pc' := 109) rfl ?_
      refine ow_goto C X11 at_109 (pcT := 140) (by decide) (by decide) ?_
      have jq := jk13 T11 X11 e11
      rw [show (own_law_j140_l16 q0 q1 q2 q3 q4) = (0 : Int32) from by unfold own_law_j140_l16; (try rw [if_pos b103]); (try rfl)] at jq
      exact jq
  refine ow_new C X13 e13 (hw _ (List.mem_of_getElem? (i := 2) rfl)) (hw _ (List.mem_of_getElem? (i := 3) rfl)) (hw _ (List.mem_of_getElem? (i := 4) rfl)) at_140 (Nat.le_of_ble_eq_true rfl) (Nat.le_of_ble_eq_true rfl) (pc' := 143) rfl (fun T14 h14 a14 g14 X14 e14 Ex14 A14 D14 => ?_)
  have Fn14_0 : Fld Z h14 a14 "com/example/total_order/totalorder/io/HeapShare" "maxBytes" "J" (.long (0 : Int64)) := D14 (Or.inr (hw _ (List.mem_of_getElem? (i := 17) rfl))) (ty := .long) (by decide)
  have Fn14_1 : Fld Z h14 a14 "com/example/total_order/totalorder/io/HeapShare" "reservedBytes" "J" (.long (0 : Int64)) := D14 (Or.inr (hw _ (List.mem_of_getElem? (i := 19) rfl))) (ty := .long) (by decide)
  have Ge14 : n0 ≤ a14 := Nat.le_trans Z0 (Nat.le_of_eq g14.symm)
  have Z14 : n0 ≤ h14.size := Nat.le_trans Z0 Ex14.1
  refine ow_dup C X14 at_143 rfl (pc' := 144) rfl ?_
  refine ow_lloadN C X14 at_144 rfl (pc' := 145) rfl ?_
  refine ow_lloadN C X14 at_145 rfl (pc' := 146) rfl ?_
  refine ow_callN C X14 e14 rfl (hw _ (List.mem_of_getElem? (i := 5) rfl)) (hw _ (List.mem_of_getElem? (i := 6) rfl)) (hw _ (List.mem_of_getElem? (i := 4) rfl)) (hw _ (List.mem_of_getElem? (i := 7) rfl)) (by decide) (rm_init l Z a0 hw a14 q0 q1 (.long (0 : Int64)) (.long (0 : Int64)) h14 n0 A14 Ge14 Fn14_0 Fn14_1) pd_1 rfl (argsL := [(.long q0), (.long q1)]) (rest := [(.ref a14)]) rfl rfl at_146 (Nat.le_of_ble_eq_true rfl) (Nat.le_of_ble_eq_true rfl) (Nat.le_of_ble_eq_true rfl) (Nat.le_of_ble_eq_true rfl) (pc' := 149) rfl (fun T15 v15 L15 X15 Q15 => ?_)
  obtain ⟨rfl, N15, K15, E15, Fc15_0, Fc15_1⟩ := Q15
  show OwF p e below _ T15 (mkF m 149 #[.val (.long q0), .second, .val (.long q1), .second, .val (.long q2), .second, .val (.long q3), .second, .val (.int q4), .val (.long (((3 : Int64) * (q0 / (4 : Int64))) + (q0 - (q0 / (4 : Int64)) * (4 : Int64)))), .second, .val (.int (q4 &&& (3 : Int32))), .val (.long (own_law_j71_l12 q0 q1 q2 q3 q4)), .second, .val (.long (own_law_j99_l14 q0 q1 q2 q3 q4)), .second, .val (.int (own_law_j140_l16 q0 q1 q2 q3 q4)), .unset] [(.ref a14)])
  have E15_0 := E15
  have Nn15 := Fr.app (Fr.nil n0) N15
  have Z15 : n0 ≤ T15.heap.size := Nat.le_trans Z14 K15.1
  refine ow_astore C X15 at_149 rfl (Ls' := #[.val (.long q0), .second, .val (.long q1), .second, .val (.long q2), .second, .val (.long q3), .second, .val (.int q4), .val (.long (((3 : Int64) * (q0 / (4 : Int64))) + (q0 - (q0 / (4 : Int64)) * (4 : Int64)))), .second, .val (.int (q4 &&& (3 : Int32))), .val (.long (own_law_j71_l12 q0 q1 q2 q3 q4)), .second, .val (.long (own_law_j99_l14 q0 q1 q2 q3 q4)), .second, .val (.int (own_law_j140_l16 q0 q1 q2 q3 q4)), .val (.ref a14)]) rfl (pc' := 151) rfl ?_
  refine ow_aload C X15 at_151 rfl rfl (pc' := 153) rfl ?_
  refine ow_lload C X15 at_153 rfl (pc' := 155) rfl ?_
  refine ow_lload C X15 at_155 rfl (pc' := 157) rfl ?_
  refine ow_callVP C X15 rfl (hw _ (List.mem_of_getElem? (i := 20) rfl)) (hw _ (List.mem_of_getElem? (i := 21) rfl)) (hw _ (List.mem_of_getElem? (i := 23) rfl)) rfl (hw _ (List.mem_of_getElem? (i := 22) rfl)) (hw _ (List.mem_of_getElem? (i := 4) rfl)) (hw _ (List.mem_of_getElem? (i := 24) rfl)) (by decide) E15_0 (rm_allows l Z a0 hw a14 (own_law_j99_l14 q0 q1 q2 q3 q4) (own_law_j71_l12 q0 q1 q2 q3 q4) q0 q1 T15.heap E15_0 Fc15_0 Fc15_1) ⟨rfl, rfl⟩ pd_3 rfl (argsL := [(.long (own_law_j99_l14 q0 q1 q2 q3 q4)), (.long (own_law_j71_l12 q0 q1 q2 q3 q4))]) (rest := []) rfl rfl at_157 (Nat.le_of_ble_eq_true rfl) (Nat.le_of_ble_eq_true rfl) (Nat.le_of_ble_eq_true rfl) (Nat.le_of_ble_eq_true rfl) (pc' := 160) rfl (fun T16 X16 e16 => ?_)
  refine ow_iload C X16 at_160 rfl (pc' := 162) rfl ?_
  refine ow_icmp_ne C X16 at_162 (pcT := 169) (pc' := 165) (by decide) (by decide) rfl (fun b162 => ?_) (fun b162 => ?_)
  · refine ow_iconst (0 : Int32) C X16 at_169 (by decide) (pc' := 170) rfl ?_
    exact ow_retZ C X16 at_170 (Nat.le_of_ble_eq_true rfl) (Nat.le_of_ble_eq_true rfl) (Or.inl rfl) ⟨(show some (Value.int (0 : Int32)) = some (Value.int (own_law q0 q1 q2 q3 q4)) from congrArg (fun z => some (Value.int z)) (by unfold own_law; rw [if_neg b162])), Nn15⟩
  · refine ow_iconst (1 : Int32) C X16 at_165 (by decide) (pc' := 166) rfl ?_
    refine ow_goto C X16 at_166 (pcT := 170) (by decide) (by decide) ?_
    exact ow_retZ C X16 at_170 (Nat.le_of_ble_eq_true rfl) (Nat.le_of_ble_eq_true rfl) (Or.inr rfl) ⟨(show some (Value.int (1 : Int32)) = some (Value.int (own_law q0 q1 q2 q3 q4)) from congrArg (fun z => some (Value.int z)) (by unfold own_law; rw [if_pos b162])), Nn15⟩
theorem own_same (m k : Int64) : ((3 : Int64) * k) + (m - k * (4 : Int64)) = m - k := by
  apply Int64.toBitVec_inj.mp
  simp only [Int64.toBitVec_add, Int64.toBitVec_sub, Int64.toBitVec_mul]
  generalize m.toBitVec = x
  generalize k.toBitVec = y
  show 3#64 * y + (x - y * 4#64) = x - y
  bv_omega
theorem own_law_true (q0 : Int64) (q1 : Int64) (q2 : Int64) (q3 : Int64) (q4 : Int32) : own_law q0 q1 q2 q3 q4 = 1 := by
  unfold own_law own_law_j140_l16 own_law_j132
  generalize own_law_j71_l12 q0 q1 q2 q3 q4 = a
  generalize own_law_j99_l14 q0 q1 q2 q3 q4 = o
  rw [own_same, if_pos]
  rfl
set_option maxRecDepth 65536 in
set_option maxHeartbeats 40000000 in
theorem comes_1 {Post : Tables → Env → Array Value → State → Outcome → State → Prop} (hpost : ∀ tb e args s v u, (limb_1_1.after args s (.returned v) u = true ∧ limb_1_2.after args s (.returned v) u = true ∧ True) → FrameEnd s (.returned v) u (Jvm.fieldLocs frame_1_writes args s ++ Jvm.arrayLocs frame_1_arrays args s ++ Jvm.staticLocs frame_1_statics s) 16 128 → Post tb e args s (.returned v) u) :
    ArmFor flags0 classFile x code maxLocals ret World_1 tables_1 room_1 Calls_1 rest_1 Pre_1 Post := by
  intro l hfl _ _ p e ha hc hk s m args below hf hA hF happ hP
  obtain ⟨hcalls, hrest, hpre⟩ := hP
  obtain ⟨-, -, -, hnamed, -, -, -, hat⟩ := (Spec.applies_iff hf).mp happ
  obtain ⟨hg, hn⟩ := and_e (Cond.before_iff.mp (show (Jvm.Cond.and given_1 narrow_1).before args s = true from hpre))
  obtain ⟨h1, hg0⟩ := and_e hg
  obtain ⟨ha0, hg1⟩ := and_e hg0
  obtain ⟨ha1, hg2⟩ := and_e hg1
  obtain ⟨ha2, hg3⟩ := and_e hg2
  obtain ⟨ha3, hg4⟩ := and_e hg3
  obtain ⟨w0, w1, w2, w3, w4, rfl⟩ : ∃ w0 w1 w2 w3 w4 : Value, args = #[w0, w1, w2, w3, w4] := by
    have hs : args.size = 5 := by simpa [Cond.value, given_1] using h1
    obtain ⟨L⟩ := args
    match L, hs with
    | [w0, w1, w2, w3, w4], _ => exact ⟨w0, w1, w2, w3, w4, rfl⟩
  have hw := fun d (hd : d ∈ tables_1) => atoms_spec (ws := Jvm.Cond.code x code maxLocals ret :: tables_1) hat d (List.mem_cons_of_mem _ hd)
  obtain ⟨q0, ev0⟩ := isL_v ha0
  obtain rfl : w0 = (.long q0) := Option.some.inj ev0
  obtain ⟨q1, ev1⟩ := isL_v ha1
  obtain rfl : w1 = (.long q1) := Option.some.inj ev1
  obtain ⟨q2, ev2⟩ := isL_v ha2
  obtain rfl : w2 = (.long q2) := Option.some.inj ev2
  obtain ⟨q3, ev3⟩ := isL_v ha3
  obtain rfl : w3 = (.long q3) := Option.some.inj ev3
  obtain ⟨q4, ev4⟩ := is_v hg4
  obtain rfl : w4 = (.int q4) := Option.some.inj ev4
  obtain ⟨n, o, h1, h2, h3, _, L, rfl, ⟨rfl, N⟩, hq⟩ := rm_law l s _ hw q0 q1 q2 q3 q4 s.heap s.heap.size (Nat.le_refl _) tables_1 p e ha hc hk s m _ below hf ((Spec.applies_iff_loose hf).mp happ).1 ⟨rfl, State.Warmed39.refl s, rfl⟩ trivial
  rw [own_law_true q0 q1 q2 q3 q4] at *
  refine ⟨n, _, h1, h2, h3, hpost _ _ _ _ _ _ ⟨Cond.after_iff.mpr rfl, Cond.after_iff.mpr (eq_i res_at (Term.int_eval (1)) rfl), trivial⟩ ⟨hq.1, hq.2.1, (hq.2.2.sift fun y hy => Or.inr (N y hy)).mono (by decide) (by decide)⟩⟩
theorem main_1_1 : Claimed_1_1 := comes_1 fun _ _ _ _ _ _ h hF => ⟨h.1, hF⟩
theorem main_1_2 : Claimed_1_2 := comes_1 fun _ _ _ _ _ _ h hF => ⟨h.2.1, hF⟩
end Jvm.Pilot.@@N@@
namespace Jvm.Pilot.@@N@@
open Jvm Jvm.ClassFile Sem Op Lib Jvm.Free Jvm.Stand Jvm.Pilot.@@N@@.Jvm.D
/-! MADE BY PROGRAM (witnessworld.py) out of the Statement's table words and the real class files: 10 classes; the members and pool entries that the words name. The judged class is class 1, her method 1. -/
namespace start1
open Jvm.ClassFile
def u (s : String) : CpInfo := .utf8 (stringToUtf16 s)
/-- a pool by its gaps: so many unusable entries, then the entry; so many at the end -/
def gap : Nat → List CpInfo → List CpInfo
  | 0, r => r
  | n + 1, r => .unusable :: gap n r
def poolList (es : List (Nat × CpInfo)) (last : Nat) : List CpInfo := es.foldr (fun e r => gap e.1 (e.2 :: r)) (gap last [])
def pool (es : List (Nat × CpInfo)) (last : Nat) : Array CpInfo := ⟨poolList es last⟩
def fileOf (pool : Array CpInfo) (this : Nat) (attrs : Array Attribute := #[]) (ms : Array MethodInfo := #[]) (fl : Nat := 33) (sup : Nat := 0) (ifs : Array Nat := #[]) (fds : Array FieldInfo := #[]) : ClassFile where
  minorVersion := 0
  majorVersion := 65
  constantPool := pool
  accessFlags := fl
  thisClass := this
  superClass := sup
  interfaces := ifs
  fields := fds
  methods := ms
  attributes := attrs
def plain (name : String) (sup : Option ClassId) : Class where
  name := name
  kind := .ordinary
  loader := none
  accessFlags := 33
  super := sup
  interfaces := #[]
  cf := none
  fields := #[]
  methods := #[]
  instanceTypes := #[]
  staticTypes := #[]
  resolved := #[]
  callSites := []
  init := .initialized
  statics := none
  mirror := none

def pool0 : Array CpInfo := pool [(5, u "<init>"), (0, u "()V"), (1, .class_ 10), (1, u "java/lang/Object")] 113

def k0c0 : Code := { maxStack := 0, maxLocals := 1, code := object_method_1_code, exceptionTable := #[], attributes := #[] }
def k0m0 : Method := { name := "<init>", desc := "()V", sig := { parameters := [], returnType := none }, accessFlags := 1, code := some k0c0 }
/-- java/lang/Object -/
def k0 : Class := { plain "java/lang/Object" none with
  accessFlags := 33
  interfaces := #[]
  cf := some (fileOf pool0 8 #[] #[{ accessFlags := 1, nameIndex := 5, descriptorIndex := 6, attributes := #[] }] 33 0 #[] #[])
  fields := #[]
  methods := #[k0m0]
  instanceTypes := #[]
  staticTypes := #[]
  resolved := Array.replicate 124 none
  statics := none }

def pool1 : Array CpInfo := pool [(2, .class_ 4), (1, u "java/lang/Object"), (0, u "<init>"), (0, u "()V"), (0, .long 3), (1, .long 4), (1, .class_ 12), (0, u "com/example/total_order/totalorder/io/HeapShare"), (0, .methodref 11 14), (0, .nameAndType 5 15), (0, u "(JJ)V"), (0, .methodref 11 17), (0, .nameAndType 18 19), (0, u "allows"), (0, u "(JJ)Z"), (0, .class_ 21), (0, u "com/example/total_order/totalorder/io/HeapShareAllowsPinLaw"), (2, u "law"), (0, u "(JJJJI)Z")] 3

def k1m0 : Method := { name := "<init>", desc := "()V", sig := { parameters := [], returnType := none }, accessFlags := 1, code := none }
def k1c1 : Code := { maxStack := 6, maxLocals := 18, code := code, exceptionTable := #[], attributes := #[] }
def k1m1 : Method := { name := "law", desc := "(JJJJI)Z", sig := { parameters := [.long, .long, .long, .long, .int], returnType := some .boolean }, accessFlags := 9, code := some k1c1 }
/-- com/example/total_order/totalorder/io/HeapShareAllowsPinLaw -/
def k1 : Class := { plain "com/example/total_order/totalorder/io/HeapShareAllowsPinLaw" (some 0) with
  accessFlags := 49
  interfaces := #[]
  cf := some (fileOf pool1 20 #[] #[{ accessFlags := 1, nameIndex := 5, descriptorIndex := 6, attributes := #[] }, { accessFlags := 9, nameIndex := 24, descriptorIndex := 25, attributes := #[] }] 49 2 #[] #[])
  fields := #[]
  methods := #[k1m0, k1m1]
  instanceTypes := #[]
  staticTypes := #[]
  resolved := Array.replicate 29 none
  statics := none }

def pool2 : Array CpInfo := pool [(1, .methodref 2 3), (0, .class_ 4), (0, .nameAndType 5 6), (0, u "java/lang/Object"), (0, u "<init>"), (0, u "()V"), (0, .class_ 8), (0, u "java/lang/Record")] 13

def k2c0 : Code := { maxStack := 1, maxLocals := 1, code := jdk_30_method_1_code, exceptionTable := #[], attributes := #[] }
def k2m0 : Method := { name := "<init>", desc := "()V", sig := { parameters := [], returnType := none }, accessFlags := 4, code := some k2c0 }
/-- java/lang/Record -/
def k2 : Class := { plain "java/lang/Record" (some 0) with
  accessFlags := 1057
  interfaces := #[]
  cf := some (fileOf pool2 7 #[] #[{ accessFlags := 4, nameIndex := 5, descriptorIndex := 6, attributes := #[] }] 1057 2 #[] #[])
  fields := #[]
  methods := #[k2m0]
  instanceTypes := #[]
  staticTypes := #[]
  resolved := Array.replicate 22 none
  statics := none }

def pool3 : Array CpInfo := pool [(1, .methodref 2 3), (0, .class_ 4), (0, .nameAndType 5 6), (0, u "java/lang/Record"), (0, u "<init>"), (0, u "()V"), (0, .fieldref 8 9), (0, .class_ 10), (0, .nameAndType 11 12), (0, u "com/example/total_order/totalorder/io/HeapShare"), (0, u "maxBytes"), (0, u "J"), (0, .fieldref 8 14), (0, .nameAndType 15 12), (0, u "reservedBytes"), (0, .long 4), (1, .methodref 8 19), (0, .nameAndType 20 21), (0, u "sharedBytes"), (0, u "()J"), (12, u "(JJ)V"), (3, u "allows"), (0, u "(JJ)Z")] 25

def k3c0 : Code := { maxStack := 3, maxLocals := 5, code := prog_27_method_1_code, exceptionTable := #[], attributes := #[] }
def k3m0 : Method := { name := "<init>", desc := "(JJ)V", sig := { parameters := [.long, .long], returnType := none }, accessFlags := 1, code := some k3c0 }
def k3c1 : Code := { maxStack := 6, maxLocals := 1, code := prog_27_method_2_code, exceptionTable := #[], attributes := #[] }
def k3m1 : Method := { name := "sharedBytes", desc := "()J", sig := { parameters := [], returnType := some .long }, accessFlags := 1, code := some k3c1 }
def k3c2 : Code := { maxStack := 4, maxLocals := 5, code := prog_27_method_3_code, exceptionTable := #[], attributes := #[] }
def k3m2 : Method := { name := "allows", desc := "(JJ)Z", sig := { parameters := [.long, .long], returnType := some .boolean }, accessFlags := 1, code := some k3c2 }
/-- com/example/total_order/totalorder/io/HeapShare -/
def k3 : Class := { plain "com/example/total_order/totalorder/io/HeapShare" (some 2) with
  accessFlags := 49
  interfaces := #[]
  cf := some (fileOf pool3 8 #[] #[{ accessFlags := 1, nameIndex := 5, descriptorIndex := 34, attributes := #[] }, { accessFlags := 1, nameIndex := 20, descriptorIndex := 21, attributes := #[] }, { accessFlags := 1, nameIndex := 38, descriptorIndex := 39, attributes := #[] }] 49 2 #[] #[{ accessFlags := 18, nameIndex := 11, descriptorIndex := 12, attributes := #[] }, { accessFlags := 18, nameIndex := 15, descriptorIndex := 12, attributes := #[] }])
  fields := #[{ name := "maxBytes", type := .long, accessFlags := 18, slot := 0, constantValue := 0 }, { name := "reservedBytes", type := .long, accessFlags := 18, slot := 1, constantValue := 0 }]
  methods := #[k3m0, k3m1, k3m2]
  instanceTypes := #[.long, .long]
  staticTypes := #[]
  resolved := Array.replicate 65 none
  statics := none }

def pool4 : Array CpInfo := pool [(1, u "java/lang/Cloneable"), (0, .class_ 1), (0, u "java/lang/Object"), (0, .class_ 3)] 3

/-- java/lang/Cloneable -/
def k4 : Class := { plain "java/lang/Cloneable" (some 0) with
  accessFlags := 1537
  interfaces := #[]
  cf := some (fileOf pool4 2 #[] #[] 1537 4 #[] #[])
  fields := #[]
  methods := #[]
  instanceTypes := #[]
  staticTypes := #[]
  resolved := Array.replicate 8 none
  statics := none }

def pool5 : Array CpInfo := pool [(1, u "java/io/Serializable"), (0, .class_ 1), (0, u "java/lang/Object"), (0, .class_ 3)] 3

/-- java/io/Serializable -/
def k5 : Class := { plain "java/io/Serializable" (some 0) with
  accessFlags := 1537
  interfaces := #[]
  cf := some (fileOf pool5 2 #[] #[] 1537 4 #[] #[])
  fields := #[]
  methods := #[]
  instanceTypes := #[]
  staticTypes := #[]
  resolved := Array.replicate 8 none
  statics := none }

/-- the primitive byte -/
def k6 : Class := { plain "byte" none with kind := .primitive 'B', accessFlags := 0x411 }
/-- [B -/
def k7 : Class := { plain "[B" (some 0) with kind := .array 6 .byte, interfaces := #[4, 5], accessFlags := 1041 }

/-- the primitive int -/
def k8 : Class := { plain "int" none with kind := .primitive 'I', accessFlags := 0x411 }
/-- [I -/
def k9 : Class := { plain "[I" (some 0) with kind := .array 8 .int, interfaces := #[4, 5], accessFlags := 1041 }

def heap : Heap := #[]
def classes : Array Class := #[k0, k1, k2, k3, k4, k5, k6, k7, k8, k9]
def interned : List (Array UInt16 × Addr) := []
def slotsUsed : Nat := 0
def theMethod : MethodId := ⟨1, 1⟩
def args0 : Array Value := #[.long 5, .long 5, .long 5, .long 5, .int 5]
def aboutOver (below : List Frame) : State where
  vm := { classes := classes, interned := interned.toArray }
  heap := heap
  slotsUsed := slotsUsed
  threads := #[{ frames := .invoking theMethod args0 :: below }]
def below0 : List Frame := [.native { method := ⟨0, 0⟩, args := #[] }]
def about1 : State := aboutOver below0
def p0 : Program := .bare "" "" ""
def e0 : Env := launch0.env 0 0 0
theorem w_frames : about1.frames = Frame.invoking theMethod args0 :: below0 := rfl
set_option maxRecDepth 65536 in
theorem w_args : argsFit about1.vm theMethod args0 = true := by decide +kernel
set_option maxRecDepth 65536 in
theorem w_heap : heapFits about1 = true := by decide +kernel
set_option maxRecDepth 65536 in
theorem w_runnable : about1.curStatus? = some .runnable := by decide +kernel
set_option maxRecDepth 65536 in
theorem w_alone : about1.alone = true := by decide +kernel
set_option maxRecDepth 65536 in
theorem w_named : about1.methodNamed? x = some theMethod := by decide +kernel
set_option maxRecDepth 65536 in
theorem w_hears : about1.hears theMethod below0 = true := by decide +kernel
set_option maxRecDepth 65536 in
theorem w_ripe : about1.ripe theMethod args0 below0 = true := by decide +kernel
theorem w_running : about1.status = .running := rfl
set_option maxRecDepth 65536 in
theorem w_room : about1.hasRoom e0.platform room_1 = true :=
  launch0.hasRoom_least _ room_1 (by decide +kernel) (by decide +kernel) (by decide +kernel) (by decide +kernel) (by decide +kernel) (by decide +kernel)
theorem allAtoms_all (ts : List Jvm.Cond) (a : Array Jvm.Value) (st : Jvm.State) : (allAtoms ts).before a st = ts.all (fun c => c.before a st) := by
  induction ts with
  | nil => rfl
  | cons c t ih =>
    show (Jvm.Cond.and c (allAtoms t)).before a st = _
    rw [Jvm.Cond.before_and, ih, List.all_cons]
def words1 : List Jvm.Cond := Jvm.Cond.code x code maxLocals ret :: tables_1
/-- a 'code' word, met by the world's own term for the bytes: nothing is compared byte by byte -/
theorem code_word {y : MethodName} {bytes : ByteArray} {mx : Nat} {rt : Option FieldType} {a : Array Value} {s : State} {m : MethodId} {meth : Method} {c : Code} (h1 : s.methodNamed? y = some m) (h2 : s.vm.method? m = some meth) (h3 : meth.code = some c) (h4 : c.code = bytes)
    (h5 : (c.maxLocals == mx && c.exceptionTable.isEmpty && decide (c.maxStack ≤ mostOperands) && decide (meth.sig.returnType = rt) && !meth.locks && decide (parseMethodDescriptor y.desc = some meth.sig)) = true) : (Jvm.Cond.code y bytes mx rt).before a s = true := by
  simp only [Bool.and_eq_true, beq_iff_eq, Bool.not_eq_true', decide_eq_true_eq] at h5
  obtain ⟨⟨⟨⟨⟨g1, g2⟩, g3⟩, g4⟩, g5⟩, g6⟩ := h5
  simp [Cond.before, Cond.holds, Cond.value, h1, h2, h3, h4, g1, g2, g3, g4, g5, g6]
def isCode : Jvm.Cond → Bool
  | .code _ _ _ _ => true
  | _ => false
theorem all_split {L : List Jvm.Cond} {P : Jvm.Cond → Bool} (h1 : L.all (fun c => isCode c || P c) = true) (h2 : ∀ c ∈ L.filter isCode, P c = true) : L.all P = true := by
  refine List.all_eq_true.mpr fun c hc => ?_
  have h := List.all_eq_true.mp h1 c hc
  rcases Bool.eq_false_or_eq_true (isCode c) with hi | hi
  · exact h2 c (List.mem_filter.mpr ⟨hc, hi⟩)
  · simpa [hi] using h
set_option maxRecDepth 65536 in
theorem w_c0 : (Jvm.Cond.code x code maxLocals ret).before args0 about1 = true := code_word (m := ⟨1, 1⟩) (meth := k1m1) (c := k1c1) (by decide +kernel) rfl rfl rfl (by decide +kernel)
set_option maxRecDepth 65536 in
theorem w_c1 : (Jvm.Cond.code ({ cls := "com/example/total_order/totalorder/io/HeapShare", name := "<init>", desc := "(JJ)V" } : Jvm.MethodName) prog_27_method_1_code (5 : Nat) (Option.none : Option Jvm.ClassFile.FieldType)).before args0 about1 = true := code_word (m := ⟨3, 0⟩) (meth := k3m0) (c := k3c0) (by decide +kernel) rfl rfl rfl (by decide +kernel)
set_option maxRecDepth 65536 in
theorem w_c2 : (Jvm.Cond.code ({ cls := "java/lang/Record", name := "<init>", desc := "()V" } : Jvm.MethodName) jdk_30_method_1_code (1 : Nat) (Option.none : Option Jvm.ClassFile.FieldType)).before args0 about1 = true := code_word (m := ⟨2, 0⟩) (meth := k2m0) (c := k2c0) (by decide +kernel) rfl rfl rfl (by decide +kernel)
set_option maxRecDepth 65536 in
theorem w_c3 : (Jvm.Cond.code ({ cls := "java/lang/Object", name := "<init>", desc := "()V" } : Jvm.MethodName) object_method_1_code (1 : Nat) (Option.none : Option Jvm.ClassFile.FieldType)).before args0 about1 = true := code_word (m := ⟨0, 0⟩) (meth := k0m0) (c := k0c0) (by decide +kernel) rfl rfl rfl (by decide +kernel)
set_option maxRecDepth 65536 in
theorem w_c4 : (Jvm.Cond.code ({ cls := "com/example/total_order/totalorder/io/HeapShare", name := "allows", desc := "(JJ)Z" } : Jvm.MethodName) prog_27_method_3_code (5 : Nat) (Option.some Jvm.ClassFile.FieldType.boolean)).before args0 about1 = true := code_word (m := ⟨3, 2⟩) (meth := k3m2) (c := k3c2) (by decide +kernel) rfl rfl rfl (by decide +kernel)
set_option maxRecDepth 65536 in
theorem w_c5 : (Jvm.Cond.code ({ cls := "com/example/total_order/totalorder/io/HeapShare", name := "sharedBytes", desc := "()J" } : Jvm.MethodName) prog_27_method_2_code (1 : Nat) (Option.some Jvm.ClassFile.FieldType.long)).before args0 about1 = true := code_word (m := ⟨3, 1⟩) (meth := k3m1) (c := k3c1) (by decide +kernel) rfl rfl rfl (by decide +kernel)
def codes1 : List Jvm.Cond := [Jvm.Cond.code x code maxLocals ret, Jvm.Cond.code ({ cls := "com/example/total_order/totalorder/io/HeapShare", name := "<init>", desc := "(JJ)V" } : Jvm.MethodName) prog_27_method_1_code (5 : Nat) (Option.none : Option Jvm.ClassFile.FieldType), Jvm.Cond.code ({ cls := "java/lang/Record", name := "<init>", desc := "()V" } : Jvm.MethodName) jdk_30_method_1_code (1 : Nat) (Option.none : Option Jvm.ClassFile.FieldType), Jvm.Cond.code ({ cls := "java/lang/Object", name := "<init>", desc := "()V" } : Jvm.MethodName) object_method_1_code (1 : Nat) (Option.none : Option Jvm.ClassFile.FieldType), Jvm.Cond.code ({ cls := "com/example/total_order/totalorder/io/HeapShare", name := "allows", desc := "(JJ)Z" } : Jvm.MethodName) prog_27_method_3_code (5 : Nat) (Option.some Jvm.ClassFile.FieldType.boolean), Jvm.Cond.code ({ cls := "com/example/total_order/totalorder/io/HeapShare", name := "sharedBytes", desc := "()J" } : Jvm.MethodName) prog_27_method_2_code (1 : Nat) (Option.some Jvm.ClassFile.FieldType.long)]
set_option maxRecDepth 65536 in
theorem codes_eq : words1.filter isCode = codes1 := rfl
theorem w_codes : ∀ c ∈ words1.filter isCode, c.before args0 about1 = true := by
  rw [codes_eq]
  intro c hc
  simp only [codes1, List.mem_cons, List.not_mem_nil, or_false] at hc
  rcases hc with rfl | rfl | rfl | rfl | rfl | rfl
  · exact w_c0
  · exact w_c1
  · exact w_c2
  · exact w_c3
  · exact w_c4
  · exact w_c5
set_option maxRecDepth 65536 in
theorem w_t1 : (words1.take 24).all (fun c => isCode c || c.before args0 about1) = true := by decide +kernel
set_option maxRecDepth 65536 in
theorem w_t2 : (words1.drop 24).all (fun c => isCode c || c.before args0 about1) = true := by decide +kernel
theorem w_tables : (allAtoms (Jvm.Cond.code x code maxLocals ret :: tables_1)).before args0 about1 = true := by
  rw [allAtoms_all]
  show words1.all (fun c => c.before args0 about1) = true
  refine all_split ?_ w_codes
  rw [← List.take_append_drop 24 words1, List.all_append, w_t1, w_t2]
  rfl
set_option maxRecDepth 65536 in
theorem w_case : (Jvm.Cond.and given_1 narrow_1).before args0 about1 = true := by decide +kernel
theorem w_applies : (headSpec (Jvm.Cond.code x code maxLocals ret :: tables_1) room_1).applies x e0.platform about1 = true :=
  (Spec.applies_iff w_frames).mpr ⟨w_running, w_runnable, w_alone, w_named, w_hears, w_ripe, w_room, w_tables⟩
theorem atStart : AtStart classFile x code maxLocals ret World_1 tables_1 room_1 Calls_1 rest_1 Pre_1 launch0 p0 e0 about1 theMethod args0 below0 :=
  ⟨lists_1, trivial, launch0.admits_env _ _ _, launch0.least_env, fairChoices_fair.cas, fairChoices_fair.clock, w_frames, w_args, w_heap, w_applies, trivial, trivial, w_case⟩
end start1
theorem witness_1 : WitnessClaimed_1 := ⟨start1.p0, start1.e0, start1.about1, start1.theMethod, start1.args0, start1.below0, start1.atStart⟩
end Jvm.Pilot.@@N@@
