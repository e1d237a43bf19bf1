import JvmDerived
import JvmDerived.Pilot.@@N@@Statement
import JvmDerived.Pilot.@@N@@Code
set_option linter.unusedVariables false
set_option linter.unusedSimpArgs false
namespace Jvm.RoadKit
open Sem ClassFile Op Lib Jvm.Stand Jvm.Free Jvm.LawKit
section New
variable {p : Program} {l : Launch} {e : Env} {R : Room} {s : State} {m : MethodId} {args : Array Value} {below : List Frame} {meth : Method} {c : Code} {T : State} {locs : List Loc} {cells slots : Nat}
theorem retI (X : Stand p l e R s m args below meth c T locs cells slots) (hx : p.tables.exec = Jvm.exec) {pc : Nat} {Ls : Array Slot} {z : Int32} {rest : List Value} (hret : meth.sig.returnType = some .int) (hd : decode c.code pc = .ok (.ireturn, 1)) {fs : List Frame}
    (hl : ∀ (f : JFrame) (acts : List Action), f.method = m → f.locked = none → f.entered = [] → (doReturn e (T.setTop f) acts (some (.int z))).1 = T.setFrames fs) : Steps p.tables e below (T.setTop (mkF m pc Ls (.int z :: rest))) (T.setFrames fs) := by
  have hm' : T.vm.method? m = some meth := X.method'
  have hn : narrow .int (.int z) = .int z := rfl
  show Steps p.tables e below (T.setTop { method := m, pc := pc, locals := Ls, stack := _ :: rest, locked := none }) _
  jvm_step X.here [X.here.top, hx, hd, hm', hret, hn]
  first | (intro acts; rw [hl _ acts rfl rfl rfl]) | rw [hl _ _ rfl rfl rfl]
  exact Steps.refl _
theorem retJ (X : Stand p l e R s m args below meth c T locs cells slots) (hx : p.tables.exec = Jvm.exec) {pc : Nat} {Ls : Array Slot} {z : Int64} {rest : List Value} (hret : meth.sig.returnType = some .long) (hd : decode c.code pc = .ok (.lreturn, 1)) {fs : List Frame}
    (hl : ∀ (f : JFrame) (acts : List Action), f.method = m → f.locked = none → f.entered = [] → (doReturn e (T.setTop f) acts (some (.long z))).1 = T.setFrames fs) : Steps p.tables e below (T.setTop (mkF m pc Ls (.long z :: rest))) (T.setFrames fs) := by
  have hm' : T.vm.method? m = some meth := X.method'
  have hn : narrow .long (.long z) = .long z := rfl
  show Steps p.tables e below (T.setTop { method := m, pc := pc, locals := Ls, stack := _ :: rest, locked := none }) _
  jvm_step X.here [X.here.top, hx, hd, hm', hret, hn]
  first | (intro acts; rw [hl _ acts rfl rfl rfl]) | rw [hl _ _ rfl rfl rfl]
  exact Steps.refl _
end New
end Jvm.RoadKit
namespace Jvm.Pilot.@@N@@
open Jvm Jvm.ClassFile Sem Op Lib Jvm.Free Jvm.Stand Jvm.LawKit Jvm.RoadKit Bundle Jvm.Pilot.@@N@@.Jvm.D
section Own
variable {p : Program} {l : Launch} {e : Env} {R : Room} {s : State} {m : MethodId} {args : Array Value} {below : List Frame} {meth : Method} {c : Code} {T : State} {locs : List Loc} {cells slots : Nat} {Q : Option Value → Heap → List Loc → Prop} {kc ks : Nat}
/-- from this frame the walk goes to its end, with Q -/
def OG (p : Program) (e : Env) (below : List Frame) (s : State) (Q : Option Value → Heap → List Loc → Prop) (kc ks : Nat) (T : State) (g : JFrame) : Prop :=
  ∃ s₂ o, Steps p.tables e below (T.setTop g) s₂ ∧ s₂.status = .running ∧ Ended s₂ below o ∧ ∃ v L, o = .returned v ∧ Q v s₂.heap L ∧ FrameEnd s o s₂ L kc ks
theorem OG.step {T' : State} {g g' : JFrame} (st : ∀ t, Steps p.tables e below (T'.setTop g') t → Steps p.tables e below (T.setTop g) t) (h : OG p e below s Q kc ks T' g') : OG p e below s Q kc ks T g := by
  obtain ⟨s₂, o, h1, h2⟩ := h
  exact ⟨s₂, o, st _ h1, h2⟩
theorem OG.cast {g g' : JFrame} (q : g = g') (h : OG p e below s Q kc ks T g') : OG p e below s Q kc ks T g := q ▸ h
theorem OG.mono {Q' : Option Value → Heap → List Loc → Prop} {g : JFrame} (hq : ∀ v h L, Q v h L → Q' v h L) (h : OG p e below s Q kc ks T g) : OG p e below s Q' kc ks T g := by
  obtain ⟨s₂, o, h1, h2, h3, v, L, h4, h5, h6⟩ := h
  exact ⟨s₂, o, h1, h2, h3, v, L, h4, hq _ _ _ h5, h6⟩
theorem o_iadd (X : Stand p l e R s m args below meth c T locs cells slots) (hx : p.tables.exec = Jvm.exec) {pc pc' : Nat} {Ls : Array Slot} {x y : Int32} {rest : List Value} (hd : decode c.code pc = .ok (.iadd, 1)) (hp : pc + 1 = pc') (h : OG p e below s Q kc ks T (mkF m pc' Ls (.int (x + y) :: rest))) : OG p e below s Q kc ks T (mkF m pc Ls (.int y :: .int x :: rest)) := by
  subst hp; exact OG.step (fun t q => XS.iadd X.here hx rfl hd rfl q) h
theorem o_isub (X : Stand p l e R s m args below meth c T locs cells slots) (hx : p.tables.exec = Jvm.exec) {pc pc' : Nat} {Ls : Array Slot} {x y : Int32} {rest : List Value} (hd : decode c.code pc = .ok (.isub, 1)) (hp : pc + 1 = pc') (h : OG p e below s Q kc ks T (mkF m pc' Ls (.int (x - y) :: rest))) : OG p e below s Q kc ks T (mkF m pc Ls (.int y :: .int x :: rest)) := by
  subst hp; exact OG.step (fun t q => XS.isub X.here hx rfl hd rfl q) h
theorem o_imul (X : Stand p l e R s m args below meth c T locs cells slots) (hx : p.tables.exec = Jvm.exec) {pc pc' : Nat} {Ls : Array Slot} {x y : Int32} {rest : List Value} (hd : decode c.code pc = .ok (.imul, 1)) (hp : pc + 1 = pc') (h : OG p e below s Q kc ks T (mkF m pc' Ls (.int (x * y) :: rest))) : OG p e below s Q kc ks T (mkF m pc Ls (.int y :: .int x :: rest)) := by
  subst hp; exact OG.step (fun t q => XS.imul X.here hx rfl hd rfl q) h
theorem o_iand (X : Stand p l e R s m args below meth c T locs cells slots) (hx : p.tables.exec = Jvm.exec) {pc pc' : Nat} {Ls : Array Slot} {x y : Int32} {rest : List Value} (hd : decode c.code pc = .ok (.iand, 1)) (hp : pc + 1 = pc') (h : OG p e below s Q kc ks T (mkF m pc' Ls (.int (x &&& y) :: rest))) : OG p e below s Q kc ks T (mkF m pc Ls (.int y :: .int x :: rest)) := by
  subst hp; exact OG.step (fun t q => XS.iand X.here hx rfl hd rfl q) h
theorem o_ior (X : Stand p l e R s m args below meth c T locs cells slots) (hx : p.tables.exec = Jvm.exec) {pc pc' : Nat} {Ls : Array Slot} {x y : Int32} {rest : List Value} (hd : decode c.code pc = .ok (.ior, 1)) (hp : pc + 1 = pc') (h : OG p e below s Q kc ks T (mkF m pc' Ls (.int (x ||| y) :: rest))) : OG p e below s Q kc ks T (mkF m pc Ls (.int y :: .int x :: rest)) := by
  subst hp; exact OG.step (fun t q => XS.ior X.here hx rfl hd rfl q) h
theorem o_ixor (X : Stand p l e R s m args below meth c T locs cells slots) (hx : p.tables.exec = Jvm.exec) {pc pc' : Nat} {Ls : Array Slot} {x y : Int32} {rest : List Value} (hd : decode c.code pc = .ok (.ixor, 1)) (hp : pc + 1 = pc') (h : OG p e below s Q kc ks T (mkF m pc' Ls (.int (x ^^^ y) :: rest))) : OG p e below s Q kc ks T (mkF m pc Ls (.int y :: .int x :: rest)) := by
  subst hp; exact OG.step (fun t q => XS.ixor X.here hx rfl hd rfl q) h
theorem o_ladd (X : Stand p l e R s m args below meth c T locs cells slots) (hx : p.tables.exec = Jvm.exec) {pc pc' : Nat} {Ls : Array Slot} {x y : Int64} {rest : List Value} (hd : decode c.code pc = .ok (.ladd, 1)) (hp : pc + 1 = pc') (h : OG p e below s Q kc ks T (mkF m pc' Ls (.long (x + y) :: rest))) : OG p e below s Q kc ks T (mkF m pc Ls (.long y :: .long x :: rest)) := by
  subst hp; exact OG.step (fun t q => XS.ladd X.here hx rfl hd rfl q) h
theorem o_lsub (X : Stand p l e R s m args below meth c T locs cells slots) (hx : p.tables.exec = Jvm.exec) {pc pc' : Nat} {Ls : Array Slot} {x y : Int64} {rest : List Value} (hd : decode c.code pc = .ok (.lsub, 1)) (hp : pc + 1 = pc') (h : OG p e below s Q kc ks T (mkF m pc' Ls (.long (x - y) :: rest))) : OG p e below s Q kc ks T (mkF m pc Ls (.long y :: .long x :: rest)) := by
  subst hp; exact OG.step (fun t q => XS.lsub X.here hx rfl hd rfl q) h
theorem o_lmul (X : Stand p l e R s m args below meth c T locs cells slots) (hx : p.tables.exec = Jvm.exec) {pc pc' : Nat} {Ls : Array Slot} {x y : Int64} {rest : List Value} (hd : decode c.code pc = .ok (.lmul, 1)) (hp : pc + 1 = pc') (h : OG p e below s Q kc ks T (mkF m pc' Ls (.long (x * y) :: rest))) : OG p e below s Q kc ks T (mkF m pc Ls (.long y :: .long x :: rest)) := by
  subst hp; exact OG.step (fun t q => XS.lmul X.here hx rfl hd rfl q) h
theorem o_land (X : Stand p l e R s m args below meth c T locs cells slots) (hx : p.tables.exec = Jvm.exec) {pc pc' : Nat} {Ls : Array Slot} {x y : Int64} {rest : List Value} (hd : decode c.code pc = .ok (.land, 1)) (hp : pc + 1 = pc') (h : OG p e below s Q kc ks T (mkF m pc' Ls (.long (x &&& y) :: rest))) : OG p e below s Q kc ks T (mkF m pc Ls (.long y :: .long x :: rest)) := by
  subst hp; exact OG.step (fun t q => XS.land X.here hx rfl hd rfl q) h
theorem o_lor (X : Stand p l e R s m args below meth c T locs cells slots) (hx : p.tables.exec = Jvm.exec) {pc pc' : Nat} {Ls : Array Slot} {x y : Int64} {rest : List Value} (hd : decode c.code pc = .ok (.lor, 1)) (hp : pc + 1 = pc') (h : OG p e below s Q kc ks T (mkF m pc' Ls (.long (x ||| y) :: rest))) : OG p e below s Q kc ks T (mkF m pc Ls (.long y :: .long x :: rest)) := by
  subst hp; exact OG.step (fun t q => XS.lor X.here hx rfl hd rfl q) h
theorem o_lxor (X : Stand p l e R s m args below meth c T locs cells slots) (hx : p.tables.exec = Jvm.exec) {pc pc' : Nat} {Ls : Array Slot} {x y : Int64} {rest : List Value} (hd : decode c.code pc = .ok (.lxor, 1)) (hp : pc + 1 = pc') (h : OG p e below s Q kc ks T (mkF m pc' Ls (.long (x ^^^ y) :: rest))) : OG p e below s Q kc ks T (mkF m pc Ls (.long y :: .long x :: rest)) := by
  subst hp; exact OG.step (fun t q => XS.lxor X.here hx rfl hd rfl q) h
theorem o_ishl (X : Stand p l e R s m args below meth c T locs cells slots) (hx : p.tables.exec = Jvm.exec) {pc pc' : Nat} {Ls : Array Slot} {x y : Int32} {rest : List Value} (hd : decode c.code pc = .ok (.ishl, 1)) (hp : pc + 1 = pc') (h : OG p e below s Q kc ks T (mkF m pc' Ls (.int (x <<< (y &&& 31)) :: rest))) : OG p e below s Q kc ks T (mkF m pc Ls (.int y :: .int x :: rest)) := by
  subst hp; exact OG.step (fun t q => XS.ishl X.here hx rfl hd rfl q) h
theorem o_ishr (X : Stand p l e R s m args below meth c T locs cells slots) (hx : p.tables.exec = Jvm.exec) {pc pc' : Nat} {Ls : Array Slot} {x y : Int32} {rest : List Value} (hd : decode c.code pc = .ok (.ishr, 1)) (hp : pc + 1 = pc') (h : OG p e below s Q kc ks T (mkF m pc' Ls (.int (x >>> (y &&& 31)) :: rest))) : OG p e below s Q kc ks T (mkF m pc Ls (.int y :: .int x :: rest)) := by
  subst hp; exact OG.step (fun t q => XS.ishr X.here hx rfl hd rfl q) h
theorem o_iushr (X : Stand p l e R s m args below meth c T locs cells slots) (hx : p.tables.exec = Jvm.exec) {pc pc' : Nat} {Ls : Array Slot} {x y : Int32} {rest : List Value} (hd : decode c.code pc = .ok (.iushr, 1)) (hp : pc + 1 = pc') (h : OG p e below s Q kc ks T (mkF m pc' Ls (.int ((x.toUInt32 >>> (y &&& 31).toUInt32).toInt32) :: rest))) : OG p e below s Q kc ks T (mkF m pc Ls (.int y :: .int x :: rest)) := by
  subst hp; exact OG.step (fun t q => XS.iushr X.here hx rfl hd rfl q) h
theorem o_lshl (X : Stand p l e R s m args below meth c T locs cells slots) (hx : p.tables.exec = Jvm.exec) {pc pc' : Nat} {Ls : Array Slot} {x : Int64} {y : Int32} {rest : List Value} (hd : decode c.code pc = .ok (.lshl, 1)) (hp : pc + 1 = pc') (h : OG p e below s Q kc ks T (mkF m pc' Ls (.long (x <<< (y &&& 0x3f).toInt64) :: rest))) : OG p e below s Q kc ks T (mkF m pc Ls (.int y :: .long x :: rest)) := by
  subst hp; exact OG.step (fun t q => XS.lshl X.here hx rfl hd rfl q) h
theorem o_lshr (X : Stand p l e R s m args below meth c T locs cells slots) (hx : p.tables.exec = Jvm.exec) {pc pc' : Nat} {Ls : Array Slot} {x : Int64} {y : Int32} {rest : List Value} (hd : decode c.code pc = .ok (.lshr, 1)) (hp : pc + 1 = pc') (h : OG p e below s Q kc ks T (mkF m pc' Ls (.long (x >>> (y &&& 0x3f).toInt64) :: rest))) : OG p e below s Q kc ks T (mkF m pc Ls (.int y :: .long x :: rest)) := by
  subst hp; exact OG.step (fun t q => XS.lshr X.here hx rfl hd rfl q) h
theorem o_lushr (X : Stand p l e R s m args below meth c T locs cells slots) (hx : p.tables.exec = Jvm.exec) {pc pc' : Nat} {Ls : Array Slot} {x : Int64} {y : Int32} {rest : List Value} (hd : decode c.code pc = .ok (.lushr, 1)) (hp : pc + 1 = pc') (h : OG p e below s Q kc ks T (mkF m pc' Ls (.long ((x.toUInt64 >>> (y &&& 0x3f).toInt64.toUInt64).toInt64) :: rest))) : OG p e below s Q kc ks T (mkF m pc Ls (.int y :: .long x :: rest)) := by
  subst hp; exact OG.step (fun t q => XS.lushr X.here hx rfl hd rfl q) h
theorem o_idiv (X : Stand p l e R s m args below meth c T locs cells slots) (hx : p.tables.exec = Jvm.exec) {pc pc' : Nat} {Ls : Array Slot} {x y : Int32} {rest : List Value} (hd : decode c.code pc = .ok (.idiv, 1)) (hy : y ≠ 0) (hp : pc + 1 = pc') (h : OG p e below s Q kc ks T (mkF m pc' Ls (.int (x / y) :: rest))) : OG p e below s Q kc ks T (mkF m pc Ls (.int y :: .int x :: rest)) := by
  subst hp; exact OG.step (fun t q => XS.idiv X.here hx rfl hd rfl hy q) h
theorem o_ldiv (X : Stand p l e R s m args below meth c T locs cells slots) (hx : p.tables.exec = Jvm.exec) {pc pc' : Nat} {Ls : Array Slot} {x y : Int64} {rest : List Value} (hd : decode c.code pc = .ok (.ldiv, 1)) (hy : y ≠ 0) (hp : pc + 1 = pc') (h : OG p e below s Q kc ks T (mkF m pc' Ls (.long (x / y) :: rest))) : OG p e below s Q kc ks T (mkF m pc Ls (.long y :: .long x :: rest)) := by
  subst hp; exact OG.step (fun t q => XS.ldiv X.here hx rfl hd rfl hy q) h
theorem o_irem (X : Stand p l e R s m args below meth c T locs cells slots) (hx : p.tables.exec = Jvm.exec) {pc pc' : Nat} {Ls : Array Slot} {x y : Int32} {rest : List Value} (hd : decode c.code pc = .ok (.irem, 1)) (hy : y ≠ 0) (hp : pc + 1 = pc') (h : OG p e below s Q kc ks T (mkF m pc' Ls (.int (x % y) :: rest))) : OG p e below s Q kc ks T (mkF m pc Ls (.int y :: .int x :: rest)) := by
  subst hp; exact OG.step (fun t q => iremM X hx rfl hd rfl hy q) h
theorem o_lrem (X : Stand p l e R s m args below meth c T locs cells slots) (hx : p.tables.exec = Jvm.exec) {pc pc' : Nat} {Ls : Array Slot} {x y : Int64} {rest : List Value} (hd : decode c.code pc = .ok (.lrem, 1)) (hy : y ≠ 0) (hp : pc + 1 = pc') (h : OG p e below s Q kc ks T (mkF m pc' Ls (.long (x % y) :: rest))) : OG p e below s Q kc ks T (mkF m pc Ls (.long y :: .long x :: rest)) := by
  subst hp; rw [← lrem_mod] at h; exact OG.step (fun t q => XS.lrem X.here hx rfl hd rfl hy q) h
theorem o_ineg (X : Stand p l e R s m args below meth c T locs cells slots) (hx : p.tables.exec = Jvm.exec) {pc pc' : Nat} {Ls : Array Slot} {x : Int32} {rest : List Value} (hd : decode c.code pc = .ok (.ineg, 1)) (hp : pc + 1 = pc') (h : OG p e below s Q kc ks T (mkF m pc' Ls (.int ((-x)) :: rest))) : OG p e below s Q kc ks T (mkF m pc Ls (.int x :: rest)) := by
  subst hp; exact OG.step (fun t q => XS.ineg X.here hx rfl hd rfl q) h
theorem o_lneg (X : Stand p l e R s m args below meth c T locs cells slots) (hx : p.tables.exec = Jvm.exec) {pc pc' : Nat} {Ls : Array Slot} {x : Int64} {rest : List Value} (hd : decode c.code pc = .ok (.lneg, 1)) (hp : pc + 1 = pc') (h : OG p e below s Q kc ks T (mkF m pc' Ls (.long ((-x)) :: rest))) : OG p e below s Q kc ks T (mkF m pc Ls (.long x :: rest)) := by
  subst hp; exact OG.step (fun t q => XS.lneg X.here hx rfl hd rfl q) h
theorem o_i2l (X : Stand p l e R s m args below meth c T locs cells slots) (hx : p.tables.exec = Jvm.exec) {pc pc' : Nat} {Ls : Array Slot} {x : Int32} {rest : List Value} (hd : decode c.code pc = .ok (.i2l, 1)) (hp : pc + 1 = pc') (h : OG p e below s Q kc ks T (mkF m pc' Ls (.long (x.toInt64) :: rest))) : OG p e below s Q kc ks T (mkF m pc Ls (.int x :: rest)) := by
  subst hp; exact OG.step (fun t q => XS.i2l X.here hx rfl hd rfl q) h
theorem o_l2i (X : Stand p l e R s m args below meth c T locs cells slots) (hx : p.tables.exec = Jvm.exec) {pc pc' : Nat} {Ls : Array Slot} {x : Int64} {rest : List Value} (hd : decode c.code pc = .ok (.l2i, 1)) (hp : pc + 1 = pc') (h : OG p e below s Q kc ks T (mkF m pc' Ls (.int (x.toInt32) :: rest))) : OG p e below s Q kc ks T (mkF m pc Ls (.long x :: rest)) := by
  subst hp; exact OG.step (fun t q => XS.l2i X.here hx rfl hd rfl q) h
theorem o_i2b (X : Stand p l e R s m args below meth c T locs cells slots) (hx : p.tables.exec = Jvm.exec) {pc pc' : Nat} {Ls : Array Slot} {x : Int32} {rest : List Value} (hd : decode c.code pc = .ok (.i2b, 1)) (hp : pc + 1 = pc') (h : OG p e below s Q kc ks T (mkF m pc' Ls (.int (x.toInt8.toInt32) :: rest))) : OG p e below s Q kc ks T (mkF m pc Ls (.int x :: rest)) := by
  subst hp; exact OG.step (fun t q => XS.i2b X.here hx rfl hd rfl q) h
theorem o_i2c (X : Stand p l e R s m args below meth c T locs cells slots) (hx : p.tables.exec = Jvm.exec) {pc pc' : Nat} {Ls : Array Slot} {x : Int32} {rest : List Value} (hd : decode c.code pc = .ok (.i2c, 1)) (hp : pc + 1 = pc') (h : OG p e below s Q kc ks T (mkF m pc' Ls (.int (x.toUInt32.toUInt16.toUInt32.toInt32) :: rest))) : OG p e below s Q kc ks T (mkF m pc Ls (.int x :: rest)) := by
  subst hp; exact OG.step (fun t q => XS.i2c X.here hx rfl hd rfl q) h
theorem o_i2s (X : Stand p l e R s m args below meth c T locs cells slots) (hx : p.tables.exec = Jvm.exec) {pc pc' : Nat} {Ls : Array Slot} {x : Int32} {rest : List Value} (hd : decode c.code pc = .ok (.i2s, 1)) (hp : pc + 1 = pc') (h : OG p e below s Q kc ks T (mkF m pc' Ls (.int (x.toInt16.toInt32) :: rest))) : OG p e below s Q kc ks T (mkF m pc Ls (.int x :: rest)) := by
  subst hp; exact OG.step (fun t q => XS.i2s X.here hx rfl hd rfl q) h
theorem o_lcmp (X : Stand p l e R s m args below meth c T locs cells slots) (hx : p.tables.exec = Jvm.exec) {pc pc' : Nat} {Ls : Array Slot} {x y : Int64} {rest : List Value} (hd : decode c.code pc = .ok (.lcmp, 1)) (hp : pc + 1 = pc') (h : OG p e below s Q kc ks T (mkF m pc' Ls (.int (lcmpW x y) :: rest))) : OG p e below s Q kc ks T (mkF m pc Ls (.long y :: .long x :: rest)) := by
  subst hp; exact OG.step (fun t q => XS.lcmp X.here hx rfl hd rfl q) h
theorem o_iconst (X : Stand p l e R s m args below meth c T locs cells slots) (hx : p.tables.exec = Jvm.exec) {pc pc' : Nat} {Ls : Array Slot} {i : Int} {rest : List Value} (hd : decode c.code pc = .ok (.iconst i, 1)) (w : Int32) (hv : Int32.ofInt i = w) (hp : pc + 1 = pc') (h : OG p e below s Q kc ks T (mkF m pc' Ls (.int w :: rest))) : OG p e below s Q kc ks T (mkF m pc Ls (rest)) := by
  subst hp hv; exact OG.step (fun t q => XS.iconst X.here hx rfl hd q) h
theorem o_bipush (X : Stand p l e R s m args below meth c T locs cells slots) (hx : p.tables.exec = Jvm.exec) {pc pc' : Nat} {Ls : Array Slot} {i : Int} {rest : List Value} (hd : decode c.code pc = .ok (.bipush i, 2)) (w : Int32) (hv : (Int8.ofInt i).toInt32 = w) (hp : pc + 2 = pc') (h : OG p e below s Q kc ks T (mkF m pc' Ls (.int w :: rest))) : OG p e below s Q kc ks T (mkF m pc Ls (rest)) := by
  subst hp hv; exact OG.step (fun t q => XS.bipush X.here hx rfl hd q) h
theorem o_sipush (X : Stand p l e R s m args below meth c T locs cells slots) (hx : p.tables.exec = Jvm.exec) {pc pc' : Nat} {Ls : Array Slot} {i : Int} {rest : List Value} (hd : decode c.code pc = .ok (.sipush i, 3)) (w : Int32) (hv : (Int16.ofInt i).toInt32 = w) (hp : pc + 3 = pc') (h : OG p e below s Q kc ks T (mkF m pc' Ls (.int w :: rest))) : OG p e below s Q kc ks T (mkF m pc Ls (rest)) := by
  subst hp hv; exact OG.step (fun t q => XS.sipush X.here hx rfl hd q) h
theorem o_lconst (X : Stand p l e R s m args below meth c T locs cells slots) (hx : p.tables.exec = Jvm.exec) {pc pc' : Nat} {Ls : Array Slot} {i : Fin 2} {rest : List Value} (hd : decode c.code pc = .ok (.lconst i, 1)) (w : Int64) (hv : Int64.ofNat i = w) (hp : pc + 1 = pc') (h : OG p e below s Q kc ks T (mkF m pc' Ls (.long w :: rest))) : OG p e below s Q kc ks T (mkF m pc Ls (rest)) := by
  subst hp hv; exact OG.step (fun t q => XS.lconst X.here hx rfl hd q) h
theorem o_aconst_null (X : Stand p l e R s m args below meth c T locs cells slots) (hx : p.tables.exec = Jvm.exec) {pc pc' : Nat} {Ls : Array Slot} {rest : List Value} (hd : decode c.code pc = .ok (.aconst_null, 1)) (hp : pc + 1 = pc') (h : OG p e below s Q kc ks T (mkF m pc' Ls (.null :: rest))) : OG p e below s Q kc ks T (mkF m pc Ls (rest)) := by
  subst hp; exact OG.step (fun t q => XS.aconstNull X.here hx rfl hd q) h
theorem o_iload_n (X : Stand p l e R s m args below meth c T locs cells slots) (hx : p.tables.exec = Jvm.exec) {pc pc' : Nat} {Ls : Array Slot} {i : Fin 4} {x : Int32} {rest : List Value} (hd : decode c.code pc = .ok (.iload_n i, 1)) (hl : Ls[i.val]? = some (.val (.int x))) (hp : pc + 1 = pc') (h : OG p e below s Q kc ks T (mkF m pc' Ls (.int x :: rest))) : OG p e below s Q kc ks T (mkF m pc Ls (rest)) := by
  subst hp; exact OG.step (fun t q => XS.iloadN X.here hx rfl hd hl q) h
theorem o_iload (X : Stand p l e R s m args below meth c T locs cells slots) (hx : p.tables.exec = Jvm.exec) {pc pc' : Nat} {Ls : Array Slot} {i : Nat} {x : Int32} {rest : List Value} (hd : decode c.code pc = .ok (.iload i, 2)) (hl : Ls[i]? = some (.val (.int x))) (hp : pc + 2 = pc') (h : OG p e below s Q kc ks T (mkF m pc' Ls (.int x :: rest))) : OG p e below s Q kc ks T (mkF m pc Ls (rest)) := by
  subst hp; exact OG.step (fun t q => XS.iload X.here hx rfl hd hl q) h
theorem o_lload_n (X : Stand p l e R s m args below meth c T locs cells slots) (hx : p.tables.exec = Jvm.exec) {pc pc' : Nat} {Ls : Array Slot} {i : Fin 4} {x : Int64} {rest : List Value} (hd : decode c.code pc = .ok (.lload_n i, 1)) (hl : Ls[i.val]? = some (.val (.long x))) (hp : pc + 1 = pc') (h : OG p e below s Q kc ks T (mkF m pc' Ls (.long x :: rest))) : OG p e below s Q kc ks T (mkF m pc Ls (rest)) := by
  subst hp; exact OG.step (fun t q => XS.lloadN X.here hx rfl hd hl q) h
theorem o_lload (X : Stand p l e R s m args below meth c T locs cells slots) (hx : p.tables.exec = Jvm.exec) {pc pc' : Nat} {Ls : Array Slot} {i : Nat} {x : Int64} {rest : List Value} (hd : decode c.code pc = .ok (.lload i, 2)) (hl : Ls[i]? = some (.val (.long x))) (hp : pc + 2 = pc') (h : OG p e below s Q kc ks T (mkF m pc' Ls (.long x :: rest))) : OG p e below s Q kc ks T (mkF m pc Ls (rest)) := by
  subst hp; exact OG.step (fun t q => XS.lload X.here hx rfl hd hl q) h
theorem o_aload_n (X : Stand p l e R s m args below meth c T locs cells slots) (hx : p.tables.exec = Jvm.exec) {pc pc' : Nat} {Ls : Array Slot} {i : Fin 4} {x : Value} {rest : List Value} (hd : decode c.code pc = .ok (.aload_n i, 1)) (hl : Ls[i.val]? = some (.val x)) (hv : x.isRef = true) (hp : pc + 1 = pc') (h : OG p e below s Q kc ks T (mkF m pc' Ls (x :: rest))) : OG p e below s Q kc ks T (mkF m pc Ls (rest)) := by
  subst hp; exact OG.step (fun t q => XS.aloadN X.here hx rfl hd hl hv q) h
theorem o_aload (X : Stand p l e R s m args below meth c T locs cells slots) (hx : p.tables.exec = Jvm.exec) {pc pc' : Nat} {Ls : Array Slot} {i : Nat} {x : Value} {rest : List Value} (hd : decode c.code pc = .ok (.aload i, 2)) (hl : Ls[i]? = some (.val x)) (hv : x.isRef = true) (hp : pc + 2 = pc') (h : OG p e below s Q kc ks T (mkF m pc' Ls (x :: rest))) : OG p e below s Q kc ks T (mkF m pc Ls (rest)) := by
  subst hp; exact OG.step (fun t q => XS.aload X.here hx rfl hd hl hv q) h
theorem o_istore_n (X : Stand p l e R s m args below meth c T locs cells slots) (hx : p.tables.exec = Jvm.exec) {pc pc' : Nat} {Ls : Array Slot} {i : Fin 4} {x : Int32} {rest : List Value} (hd : decode c.code pc = .ok (.istore_n i, 1)) (l' : Array Slot) (hl : storeLocals Ls i.val (.int x) = some l') (hp : pc + 1 = pc') (h : OG p e below s Q kc ks T (mkF m pc' l' (rest))) : OG p e below s Q kc ks T (mkF m pc Ls (.int x :: rest)) := by
  subst hp; exact OG.step (fun t q => XS.istoreN X.here hx rfl hd rfl hl q) h
theorem o_istore (X : Stand p l e R s m args below meth c T locs cells slots) (hx : p.tables.exec = Jvm.exec) {pc pc' : Nat} {Ls : Array Slot} {i : Nat} {x : Int32} {rest : List Value} (hd : decode c.code pc = .ok (.istore i, 2)) (l' : Array Slot) (hl : storeLocals Ls i (.int x) = some l') (hp : pc + 2 = pc') (h : OG p e below s Q kc ks T (mkF m pc' l' (rest))) : OG p e below s Q kc ks T (mkF m pc Ls (.int x :: rest)) := by
  subst hp; exact OG.step (fun t q => XS.istore X.here hx rfl hd rfl hl q) h
theorem o_lstore_n (X : Stand p l e R s m args below meth c T locs cells slots) (hx : p.tables.exec = Jvm.exec) {pc pc' : Nat} {Ls : Array Slot} {i : Fin 4} {x : Int64} {rest : List Value} (hd : decode c.code pc = .ok (.lstore_n i, 1)) (l' : Array Slot) (hl : storeLocals Ls i.val (.long x) = some l') (hp : pc + 1 = pc') (h : OG p e below s Q kc ks T (mkF m pc' l' (rest))) : OG p e below s Q kc ks T (mkF m pc Ls (.long x :: rest)) := by
  subst hp; exact OG.step (fun t q => XS.lstoreN X.here hx rfl hd rfl hl q) h
theorem o_lstore (X : Stand p l e R s m args below meth c T locs cells slots) (hx : p.tables.exec = Jvm.exec) {pc pc' : Nat} {Ls : Array Slot} {i : Nat} {x : Int64} {rest : List Value} (hd : decode c.code pc = .ok (.lstore i, 2)) (l' : Array Slot) (hl : storeLocals Ls i (.long x) = some l') (hp : pc + 2 = pc') (h : OG p e below s Q kc ks T (mkF m pc' l' (rest))) : OG p e below s Q kc ks T (mkF m pc Ls (.long x :: rest)) := by
  subst hp; exact OG.step (fun t q => XS.lstore X.here hx rfl hd rfl hl q) h
theorem o_astore_n (X : Stand p l e R s m args below meth c T locs cells slots) (hx : p.tables.exec = Jvm.exec) {pc pc' : Nat} {Ls : Array Slot} {i : Fin 4} {x : Value} {rest : List Value} (hd : decode c.code pc = .ok (.astore_n i, 1)) (hv : x.isRef = true) (l' : Array Slot) (hl : storeLocals Ls i.val x = some l') (hp : pc + 1 = pc') (h : OG p e below s Q kc ks T (mkF m pc' l' (rest))) : OG p e below s Q kc ks T (mkF m pc Ls (x :: rest)) := by
  subst hp; exact OG.step (fun t q => XS.astoreN X.here hx rfl hd rfl hv hl q) h
theorem o_astore (X : Stand p l e R s m args below meth c T locs cells slots) (hx : p.tables.exec = Jvm.exec) {pc pc' : Nat} {Ls : Array Slot} {i : Nat} {x : Value} {rest : List Value} (hd : decode c.code pc = .ok (.astore i, 2)) (hv : x.isRef = true) (l' : Array Slot) (hl : storeLocals Ls i x = some l') (hp : pc + 2 = pc') (h : OG p e below s Q kc ks T (mkF m pc' l' (rest))) : OG p e below s Q kc ks T (mkF m pc Ls (x :: rest)) := by
  subst hp; exact OG.step (fun t q => XS.astore X.here hx rfl hd rfl hv hl q) h
theorem o_iinc (X : Stand p l e R s m args below meth c T locs cells slots) (hx : p.tables.exec = Jvm.exec) {pc pc' : Nat} {Ls : Array Slot} {i : Nat} {k : Int} {x : Int32} {rest : List Value} (hd : decode c.code pc = .ok (.iinc i k, 3)) (w : Int32) (hw' : Int32.ofInt k = w) (hl : Ls[i]? = some (.val (.int x))) (l' : Array Slot) (hl' : storeLocals Ls i (.int (x + w)) = some l') (hp : pc + 3 = pc') (h : OG p e below s Q kc ks T (mkF m pc' l' (rest))) : OG p e below s Q kc ks T (mkF m pc Ls (rest)) := by
  subst hp hw'; exact OG.step (fun t q => XS.iinc X.here hx rfl hd hl hl' q) h
theorem o_dup (X : Stand p l e R s m args below meth c T locs cells slots) (hx : p.tables.exec = Jvm.exec) {pc pc' : Nat} {Ls : Array Slot} {x : Value} {rest : List Value} (hd : decode c.code pc = .ok (.dup, 1)) (hc : x.category = 1) (hp : pc + 1 = pc') (h : OG p e below s Q kc ks T (mkF m pc' Ls (x :: x :: rest))) : OG p e below s Q kc ks T (mkF m pc Ls (x :: rest)) := by
  subst hp; exact OG.step (fun t q => XS.dup X.here hx rfl hd rfl hc q) h
theorem o_pop (X : Stand p l e R s m args below meth c T locs cells slots) (hx : p.tables.exec = Jvm.exec) {pc pc' : Nat} {Ls : Array Slot} {x : Value} {rest : List Value} (hd : decode c.code pc = .ok (.pop, 1)) (hc : x.category = 1) (hp : pc + 1 = pc') (h : OG p e below s Q kc ks T (mkF m pc' Ls (rest))) : OG p e below s Q kc ks T (mkF m pc Ls (x :: rest)) := by
  subst hp; exact OG.step (fun t q => XS.pop X.here hx rfl hd rfl hc q) h
theorem o_dup_x1 (X : Stand p l e R s m args below meth c T locs cells slots) (hx : p.tables.exec = Jvm.exec) {pc pc' : Nat} {Ls : Array Slot} {x y : Value} {rest : List Value} (hd : decode c.code pc = .ok (.dup_x1, 1)) (hc : x.category = 1) (hc2 : y.category = 1) (hp : pc + 1 = pc') (h : OG p e below s Q kc ks T (mkF m pc' Ls (x :: y :: x :: rest))) : OG p e below s Q kc ks T (mkF m pc Ls (x :: y :: rest)) := by
  subst hp; exact OG.step (fun t q => XS.dupX1 X.here hx rfl hd rfl hc hc2 q) h
theorem o_goto (X : Stand p l e R s m args below meth c T locs cells slots) (hx : p.tables.exec = Jvm.exec) {pc pc' : Nat} {Ls : Array Slot} {rest : List Value} {o : Int} (hd : decode c.code pc = .ok (.goto o, 3)) (ho : 0 ≤ (pc : Int) + o) (hp : ((pc : Int) + o).toNat = pc') (h : OG p e below s Q kc ks T (mkF m pc' Ls rest)) : OG p e below s Q kc ks T (mkF m pc Ls rest) :=
  OG.step (fun t q => XS.goto X.here hx rfl rfl hd ho hp q) h
theorem o_ifYes (X : Stand p l e R s m args below meth c T locs cells slots) (hx : p.tables.exec = Jvm.exec) {pc pc' : Nat} {Ls : Array Slot} {rest : List Value} {o : Int} {cd : ClassFile.Cond} {x : Int32} (hd : decode c.code pc = .ok (.ifCond cd o, 3)) (hc : ifCond.holds cd x = true) (ho : 0 ≤ (pc : Int) + o) (hp : ((pc : Int) + o).toNat = pc') (h : OG p e below s Q kc ks T (mkF m pc' Ls rest)) : OG p e below s Q kc ks T (mkF m pc Ls (.int x :: rest)) :=
  OG.step (fun t q => XS.ifYes X.here hx rfl rfl hd rfl hc ho hp q) h
theorem o_ifNo (X : Stand p l e R s m args below meth c T locs cells slots) (hx : p.tables.exec = Jvm.exec) {pc pc' : Nat} {Ls : Array Slot} {rest : List Value} {o : Int} {cd : ClassFile.Cond} {x : Int32} (hd : decode c.code pc = .ok (.ifCond cd o, 3)) (hc : ifCond.holds cd x = false) (hp : pc + 3 = pc') (h : OG p e below s Q kc ks T (mkF m pc' Ls rest)) : OG p e below s Q kc ks T (mkF m pc Ls (.int x :: rest)) := by
  subst hp; exact OG.step (fun t q => XS.ifNo X.here hx rfl hd rfl hc q) h
theorem o_icmpYes (X : Stand p l e R s m args below meth c T locs cells slots) (hx : p.tables.exec = Jvm.exec) {pc pc' : Nat} {Ls : Array Slot} {rest : List Value} {o : Int} {cd : ClassFile.Cond} {x y : Int32} (hd : decode c.code pc = .ok (.if_icmp cd o, 3)) (hc : if_icmp.holds cd x y = true) (ho : 0 ≤ (pc : Int) + o) (hp : ((pc : Int) + o).toNat = pc') (h : OG p e below s Q kc ks T (mkF m pc' Ls rest)) : OG p e below s Q kc ks T (mkF m pc Ls (.int y :: .int x :: rest)) :=
  OG.step (fun t q => XS.icmpYes X.here hx rfl rfl hd rfl hc ho hp q) h
theorem o_icmpNo (X : Stand p l e R s m args below meth c T locs cells slots) (hx : p.tables.exec = Jvm.exec) {pc pc' : Nat} {Ls : Array Slot} {rest : List Value} {o : Int} {cd : ClassFile.Cond} {x y : Int32} (hd : decode c.code pc = .ok (.if_icmp cd o, 3)) (hc : if_icmp.holds cd x y = false) (hp : pc + 3 = pc') (h : OG p e below s Q kc ks T (mkF m pc' Ls rest)) : OG p e below s Q kc ks T (mkF m pc Ls (.int y :: .int x :: rest)) := by
  subst hp; exact OG.step (fun t q => XS.icmpNo X.here hx rfl hd rfl hc q) h
theorem o_ifnonnullYes (X : Stand p l e R s m args below meth c T locs cells slots) (hx : p.tables.exec = Jvm.exec) {pc pc' : Nat} {Ls : Array Slot} {rest : List Value} {o : Int} {b : Addr} (hd : decode c.code pc = .ok (.ifnonnull o, 3)) (ho : 0 ≤ (pc : Int) + o) (hp : ((pc : Int) + o).toNat = pc') (h : OG p e below s Q kc ks T (mkF m pc' Ls rest)) : OG p e below s Q kc ks T (mkF m pc Ls (.ref b :: rest)) :=
  OG.step (fun t q => XS.ifnonnullYes X.here hx rfl rfl hd rfl ho hp q) h
theorem o_ifnonnullNo (X : Stand p l e R s m args below meth c T locs cells slots) (hx : p.tables.exec = Jvm.exec) {pc pc' : Nat} {Ls : Array Slot} {rest : List Value} {o : Int} (hd : decode c.code pc = .ok (.ifnonnull o, 3)) (hp : pc + 3 = pc') (h : OG p e below s Q kc ks T (mkF m pc' Ls rest)) : OG p e below s Q kc ks T (mkF m pc Ls (.null :: rest)) := by
  subst hp; exact OG.step (fun t q => XS.ifnonnullNo X.here hx rfl hd rfl q) h
theorem o_ldcInt (X : Stand p l e R s m args below meth c T locs cells slots) (hx : p.tables.exec = Jvm.exec) {pc pc' : Nat} {Ls : Array Slot} {rest : List Value} {Z : State} {a0 : Array Value} {own : String} {i : Nat} {v : Int32} (hZ : Z.Warmed39 s.vm) (hown : s.vm.findClass own = some m.cls) (hd : decode c.code pc = .ok (.ldc i, 2)) (hk : (Cond.constant own i v).before a0 Z = true) (hp : pc + 2 = pc') (h : OG p e below s Q kc ks T (mkF m pc' Ls (.int v :: rest))) : OG p e below s Q kc ks T (mkF m pc Ls rest) := by
  subst hp; exact OG.step (fun t q => X.ldcInt hx hown (mvT hZ hk) (g := mkF m pc Ls rest) rfl hd t q) h
theorem o_ldc2Long (X : Stand p l e R s m args below meth c T locs cells slots) (hx : p.tables.exec = Jvm.exec) {pc pc' : Nat} {Ls : Array Slot} {rest : List Value} {Z : State} {a0 : Array Value} {own : String} {i : Nat} {v : Int64} (hZ : Z.Warmed39 s.vm) (hown : s.vm.findClass own = some m.cls) (hd : decode c.code pc = .ok (.ldc2_w i, 3)) (hk : (Cond.constantLong own i v).before a0 Z = true) (hp : pc + 3 = pc') (h : OG p e below s Q kc ks T (mkF m pc' Ls (.long v :: rest))) : OG p e below s Q kc ks T (mkF m pc Ls rest) := by
  subst hp; exact OG.step (fun t q => X.ldc2Long hx hown (mvT hZ hk) (g := mkF m pc Ls rest) rfl hd t q) h
theorem o_retI (X : Stand p l e R s m args below meth c T locs cells slots) (hx : p.tables.exec = Jvm.exec) (hlk : meth.locks = false) {pc : Nat} {Ls : Array Slot} {rest : List Value} {z : Int32} (hret : meth.sig.returnType = some .int) (hd : decode c.code pc = .ok (.ireturn, 1)) (hQ : Q (some (.int z)) T.heap locs) (h1 : cells ≤ kc) (h2 : slots ≤ ks) : OG p e below s Q kc ks T (mkF m pc Ls (.int z :: rest)) := by
  obtain ⟨fs, hr, hrun, hended, hW, hsame⟩ := X.leave (v := some (.int z)) (fun h => by rw [hret] at h; cases h) hlk
  exact ⟨_, _, retI X hx hret hd hr, hrun, hended, _, _, rfl, hQ, ⟨_, rfl⟩, hW, hsame.mono h1 h2⟩
theorem o_retJ (X : Stand p l e R s m args below meth c T locs cells slots) (hx : p.tables.exec = Jvm.exec) (hlk : meth.locks = false) {pc : Nat} {Ls : Array Slot} {rest : List Value} {z : Int64} (hret : meth.sig.returnType = some .long) (hd : decode c.code pc = .ok (.lreturn, 1)) (hQ : Q (some (.long z)) T.heap locs) (h1 : cells ≤ kc) (h2 : slots ≤ ks) : OG p e below s Q kc ks T (mkF m pc Ls (.long z :: rest)) := by
  obtain ⟨fs, hr, hrun, hended, hW, hsame⟩ := X.leave (v := some (.long z)) (fun h => by rw [hret] at h; cases h) hlk
  exact ⟨_, _, retJ X hx hret hd hr, hrun, hended, _, _, rfl, hQ, ⟨_, rfl⟩, hW, hsame.mono h1 h2⟩
theorem o_retN (X : Stand p l e R s m args below meth c T locs cells slots) (hx : p.tables.exec = Jvm.exec) (hlk : meth.locks = false) {pc : Nat} {Ls : Array Slot} {rest : List Value} {z w : Int32} {t : FieldType} (ht : t = .boolean ∨ t = .byte ∨ t = .char ∨ t = .short) (hret : meth.sig.returnType = some t) (hd : decode c.code pc = .ok (.ireturn, 1)) (hz : nar t z = w) (hQ : Q (some (.int w)) T.heap locs) (h1 : cells ≤ kc) (h2 : slots ≤ ks) : OG p e below s Q kc ks T (mkF m pc Ls (.int z :: rest)) := by
  subst hz
  obtain ⟨fs, hr, hrun, hended, hW, hsame⟩ := X.leave (v := some (.int (nar t z))) (fun h => by rw [hret] at h; cases h) hlk
  exact ⟨_, _, retN X hx hret ht hd hr, hrun, hended, _, _, rfl, hQ, ⟨_, rfl⟩, hW, hsame.mono h1 h2⟩
theorem o_ret (X : Stand p l e R s m args below meth c T locs cells slots) (hx : p.tables.exec = Jvm.exec) (hlk : meth.locks = false) {pc : Nat} {Ls : Array Slot} (hret : meth.sig.returnType = none) (hd : decode c.code pc = .ok (.return_, 1)) (hQ : Q none T.heap locs) (h1 : cells ≤ kc) (h2 : slots ≤ ks) : OG p e below s Q kc ks T (mkF m pc Ls []) := by
  obtain ⟨fs, hr, hrun, hended, hW, hsame⟩ := X.leave (v := none) (fun _ => rfl) hlk
  exact ⟨_, _, X.returnOut hx hret hd hr, hrun, hended, _, _, rfl, hQ, ⟨_, rfl⟩, hW, hsame.mono h1 h2⟩
variable {Z : State} {a0 : Array Value} {h : Heap}
theorem o_callS (X : Stand p l e R s m args below meth c T locs cells slots) (hx : p.tables.exec = Jvm.exec) (hZ : Z.Warmed39 s.vm) {own : String} {index : Nat} {y : MethodName} {bytes : ByteArray} {maxL : Nat} {ret : Option FieldType} {rm : Room} {Qc : Option Value → Heap → List Loc → Prop} {argsL rest st : List Value} {pc pc' : Nat} {Ls : Array Slot} (W : Nat)
    (hown : s.vm.findClass own = some m.cls) (eT : T.heap = h) (hlink : (Cond.methodLink own index y).before a0 Z = true) (hstat : (Cond.static y).before a0 Z = true) (hinit : (Cond.initialized y.cls).before a0 Z = true) (hcode : (Cond.code y bytes maxL ret).before a0 Z = true) (hy : y.cls ≠ "java/lang/invoke/MethodHandle" ∧ y.cls ≠ "java/lang/invoke/VarHandle")
    (hM : MetFree l y (head1 [Cond.code y bytes maxL ret] rm) (fun a U => a = argsL.toArray ∧ Z.Warmed39 U.vm ∧ U.heap = h) (fun _ _ _ _ _ => True) (fun _ U o U' => ∃ v L, o = .returned v ∧ Qc v U'.heap L ∧ FrameEnd U o U' L rm.cells rm.slots)) (hf : rm.frames + 1 ≤ R.frames) (hl : W + (maxL + 11) + rm.locals ≤ R.locals)
    (hsize : Ls.size = c.maxLocals) (hlen : ∀ sig, parseMethodDescriptor y.desc = some sig → argsL.length = sig.parameters.length) (hs : st = argsL.reverse ++ rest) (hW : (rest.map fun v => v.category).sum ≤ W) (hd : decode c.code pc = .ok (.invokestatic index, 3)) (hp : pc + 3 = pc') (hc : cells + rm.cells ≤ R.cells) (hsl : slots + rm.slots ≤ R.slots)
    (k : ∀ v T' L, Stand p l e R s m args below meth c T' (locs ++ L) (cells + rm.cells) (slots + rm.slots) → Qc v T'.heap L → OG p e below s Q kc ks T' (mkF m pc' Ls (v.toList ++ rest))) : OG p e below s Q kc ks T (mkF m pc Ls st) := by
  subst hp hs
  obtain ⟨v, vm₁, ⟨T1, L1, c1, n1⟩, -, X1, ⟨Lc, hQ, l1, y1, z1⟩, st⟩ := Jvm.LawKit.callS X hx (y := y) hown (mvT hZ hlink) (mvT hZ hstat) (mvT hZ hinit) (mvT hZ hcode) hy (backOf (W := W) hM hZ hcode hinit hf hl) (g := mkF m pc Ls (argsL.reverse ++ rest)) rfl hsize (argsL := argsL) (rest := rest) hlen rfl (by show 2 * 0 + _ ≤ _; omega) hd (fun _ _ => ⟨rfl, eT, hc, hsl⟩)
  dsimp only [Pt.U, Pt.locs, Pt.cells, Pt.slots] at X1 l1 y1 z1 st hQ
  subst l1 y1 z1
  exact OG.step st (k v T1 Lc X1 hQ)
theorem o_special (X : Stand p l e R s m args below meth c T locs cells slots) (hx : p.tables.exec = Jvm.exec) (hZ : Z.Warmed39 s.vm) {own : String} {index : Nat} {y : MethodName} {bytes : ByteArray} {maxL : Nat} {rm : Room} {Qc : Option Value → Heap → List Loc → Prop} {a : Addr} {argsL rest st : List Value} {pc pc' : Nat} {Ls : Array Slot} (W : Nat) (hy1 : y.name = "<init>")
    (hown : s.vm.findClass own = some m.cls) (eT : T.heap = h) (hlink : (Cond.methodLink own index y).before a0 Z = true) (hinst : (Cond.instanceMethod y).before a0 Z = true) (hinit : (Cond.initialized y.cls).before a0 Z = true) (hcode : (Cond.code y bytes maxL none).before a0 Z = true) (hy : y.cls ≠ "java/lang/invoke/MethodHandle" ∧ y.cls ≠ "java/lang/invoke/VarHandle")
    (hM : MetFree l y (head1 [Cond.code y bytes maxL none] rm) (fun b U => b = (.ref a :: argsL).toArray ∧ Z.Warmed39 U.vm ∧ U.heap = h) (fun _ _ _ _ _ => True) (fun _ U o U' => ∃ v L, o = .returned v ∧ Qc v U'.heap L ∧ FrameEnd U o U' L rm.cells rm.slots)) (hf : rm.frames + 1 ≤ R.frames) (hl : W + (maxL + 11) + rm.locals ≤ R.locals)
    (hsize : Ls.size = c.maxLocals) (hlen : ∀ sig, parseMethodDescriptor y.desc = some sig → argsL.length = sig.parameters.length) (hs : st = argsL.reverse ++ .ref a :: rest) (hW : (rest.map fun v => v.category).sum ≤ W) (hd : decode c.code pc = .ok (.invokespecial index, 3)) (hp : pc + 3 = pc') (hc : cells + rm.cells ≤ R.cells) (hsl : slots + rm.slots ≤ R.slots)
    (k : ∀ v T' L, Stand p l e R s m args below meth c T' (locs ++ L) (cells + rm.cells) (slots + rm.slots) → Qc v T'.heap L → OG p e below s Q kc ks T' (mkF m pc' Ls (v.toList ++ rest))) : OG p e below s Q kc ks T (mkF m pc Ls st) := by
  subst hp hs
  obtain ⟨v, vm₁, ⟨T1, L1, c1, n1⟩, -, X1, ⟨Lc, hQ, l1, y1, z1⟩, st⟩ := X.specialBack hx (y := y) hy1 hown (mvT hZ hlink) (mvT hZ hinst) (mvT hZ hcode) hy (backOf (W := W) hM hZ hcode hinit hf hl) (g := mkF m pc Ls (argsL.reverse ++ .ref a :: rest)) rfl hsize (Steps.refl _) (a := a) (argsL := argsL) (rest := rest) hlen rfl (by show 2 * 0 + _ ≤ _; omega) hd (fun _ _ => ⟨rfl, eT, hc, hsl⟩)
  dsimp only [Pt.U, Pt.locs, Pt.cells, Pt.slots] at X1 l1 y1 z1 st hQ
  subst l1 y1 z1
  exact OG.step (fun t q => st.trans q) (k v T1 Lc X1 hQ)
theorem o_virtual (X : Stand p l e R s m args below meth c T locs cells slots) (hx : p.tables.exec = Jvm.exec) (hZ : Z.Warmed39 s.vm) {own C : String} {index : Nat} {y : MethodName} {bytes : ByteArray} {maxL : Nat} {ret : Option FieldType} {rm : Room} {Qc : Option Value → Heap → List Loc → Prop} {a : Addr} {argsL rest st : List Value} {pc pc' : Nat} {Ls : Array Slot} (W : Nat)
    (hown : s.vm.findClass own = some m.cls) (eT : T.heap = h) (hlink : (Cond.methodLink own index y).before a0 Z = true) (hdecl : (Cond.declares y).before a0 Z = true) (hsel : (Cond.selects C y y).before a0 Z = true) (hinst : (Cond.instanceMethod y).before a0 Z = true) (hinit : (Cond.initialized y.cls).before a0 Z = true) (hcode : (Cond.code y bytes maxL ret).before a0 Z = true) (hy : y.cls ≠ "java/lang/invoke/MethodHandle" ∧ y.cls ≠ "java/lang/invoke/VarHandle")
    (E : Exa Z h a C)
    (hM : MetFree l y (head1 [Cond.code y bytes maxL ret] rm) (fun b U => b = (.ref a :: argsL).toArray ∧ Z.Warmed39 U.vm ∧ U.heap = h) (fun _ _ _ _ _ => True) (fun _ U o U' => ∃ v L, o = .returned v ∧ Qc v U'.heap L ∧ FrameEnd U o U' L rm.cells rm.slots)) (hf : rm.frames + 1 ≤ R.frames) (hl : W + (maxL + 11) + rm.locals ≤ R.locals)
    (hsize : Ls.size = c.maxLocals) (hlen : ∀ sig, parseMethodDescriptor y.desc = some sig → argsL.length = sig.parameters.length) (hs : st = argsL.reverse ++ .ref a :: rest) (hW : (rest.map fun v => v.category).sum ≤ W) (hd : decode c.code pc = .ok (.invokevirtual index, 3)) (hp : pc + 3 = pc') (hc : cells + rm.cells ≤ R.cells) (hsl : slots + rm.slots ≤ R.slots)
    (k : ∀ v T' L, Stand p l e R s m args below meth c T' (locs ++ L) (cells + rm.cells) (slots + rm.slots) → Qc v T'.heap L → OG p e below s Q kc ks T' (mkF m pc' Ls (v.toList ++ rest))) : OG p e below s Q kc ks T (mkF m pc Ls st) := by
  subst hp hs
  obtain ⟨cq, kq, qa, qb, qc⟩ := isOf hZ eT E
  obtain ⟨v, vm₁, ⟨T1, L1, c1, n1⟩, -, X1, ⟨Lc, hQ, l1, y1, z1⟩, st⟩ := X.virtualBack hx (y := y) (z := y) hown (mvT hZ hlink) (mvT hZ hdecl) (notFace_of_selects (args := #[]) (mvT hZ hsel)) (mvT hZ hsel) (mvT hZ hinst) hy (backOf (W := W) hM hZ hcode hinit hf hl) qa qc (g := mkF m pc Ls (argsL.reverse ++ .ref a :: rest)) rfl hsize (Steps.refl _) (argsL := argsL) (rest := rest) hlen rfl (by show 2 * 0 + _ ≤ _; omega) hd (fun _ _ => ⟨rfl, eT, hc, hsl⟩)
  dsimp only [Pt.U, Pt.locs, Pt.cells, Pt.slots] at X1 l1 y1 z1 st hQ
  subst l1 y1 z1
  exact OG.step (fun t q => st.trans q) (k v T1 Lc X1 hQ)
theorem o_new (X : Stand p l e R s m args below meth c T locs cells slots) (hx : p.tables.exec = Jvm.exec) (hZ : Z.Warmed39 s.vm) {own C : String} {index n : Nat} {pc pc' : Nat} {Ls : Array Slot} {rest : List Value} (hown : s.vm.findClass own = some m.cls) (eT : T.heap = h) (w : (Cond.classLink own index C).before a0 Z = true) (wi : (Cond.instantiable C n).before a0 Z = true) (wz : (Cond.initialized C).before a0 Z = true) (hd : decode c.code pc = .ok (.new index, 3)) (hp : pc + 3 = pc') (hc : cells + 1 ≤ R.cells) (hl : slots + n ≤ R.slots)
    (k : ∀ T' h' a, Stand p l e R s m args below meth c T' locs (cells + 1) (slots + n) → T'.heap = h' → a = h.size → Ext h h' → Exa Z h' a C → (∀ {O nm d : String} {ty : FieldType}, Laid Z a0 C O nm d → parseFieldDescriptor d = some ty → Fld Z h' a O nm d (defaultValue ty)) → OG p e below s Q kc ks T' (mkF m pc' Ls (.ref a :: rest))) : OG p e below s Q kc ks T (mkF m pc Ls rest) := by
  subst hp
  obtain ⟨T2, h2, X2, e2, E2, A2, D2, -, st2⟩ := newO X hx hZ hown w wi wz eT (g := mkF m pc Ls rest) rfl hd hc hl
  exact OG.step st2 (k T2 h2 _ X2 e2 rfl E2 A2 D2)
theorem o_initO (X : Stand p l e R s m args below meth c T locs cells slots) (hx : p.tables.exec = Jvm.exec) (hZ : Z.Warmed39 s.vm) {own : String} {index : Nat} {a : Addr} {pc pc' : Nat} {Ls : Array Slot} {rest : List Value} (W : Nat) (hown : s.vm.findClass own = some m.cls) (eT : T.heap = h)
    (w1 : (Cond.methodLink own index Lib.objectInit).before a0 Z = true) (w2 : (Cond.instanceMethod Lib.objectInit).before a0 Z = true) (w3 : (Cond.code Lib.objectInit object_method_1_code 1 none).before a0 Z = true) (hsize : Ls.size = c.maxLocals) (hd : decode c.code pc = .ok (.invokespecial index, 3)) (hf : 1 ≤ R.frames) (hW : (rest.map fun v => v.category).sum ≤ W) (hl : W + 12 ≤ R.locals) (hp : pc + 3 = pc')
    (k : ∀ T', Stand p l e R s m args below meth c T' locs cells slots → T'.heap = h → OG p e below s Q kc ks T' (mkF m pc' Ls rest)) : OG p e below s Q kc ks T (mkF m pc Ls (.ref a :: rest)) := by
  subst hp
  obtain ⟨T1, X1, e1, st1⟩ := initO X hx hZ hown w1 w2 w3 eT (g := mkF m pc Ls (.ref a :: rest)) rfl hsize rfl hd hf (W := W) (by show 2 * 0 + _ ≤ _; omega) hl
  exact OG.step st1 (k T1 X1 e1)
theorem o_getF (X : Stand p l e R s m args below meth c T locs cells slots) (hx : p.tables.exec = Jvm.exec) (hZ : Z.Warmed39 s.vm) {own R0 O n d : String} {index : Nat} {a : Addr} {v : Value} {pc pc' : Nat} {Ls : Array Slot} {rest : List Value} (hown : s.vm.findClass own = some m.cls) (eT : T.heap = h) (w : (Cond.fieldLink own index R0 n d).before a0 Z = true) (via : Via Z R0 O n d) (F : Fld Z h a O n d v) (hd : decode c.code pc = .ok (.getfield index, 3)) (hp : pc + 3 = pc')
    (k : ∀ T', Stand p l e R s m args below meth c T' locs cells slots → T'.heap = h → OG p e below s Q kc ks T' (mkF m pc' Ls (v :: rest))) : OG p e below s Q kc ks T (mkF m pc Ls (.ref a :: rest)) := by
  subst hp
  obtain ⟨T1, X1, e1, st1⟩ := getF X hx hZ hown (host := "") (Or.inl w) via eT F (g := mkF m pc Ls (.ref a :: rest)) rfl rfl hd
  exact OG.step st1 (k T1 X1 e1)
theorem o_putF (X : Stand p l e R s m args below meth c T locs cells slots) (hx : p.tables.exec = Jvm.exec) (hZ : Z.Warmed39 s.vm) {own R0 O n d C : String} {index kk : Nat} {ty : FieldType} {a : Addr} {v old : Value} {pc pc' : Nat} {Ls : Array Slot} {rest : List Value} (hown : s.vm.findClass own = some m.cls) (eT : T.heap = h) (w : (Cond.fieldLink own index R0 n d).before a0 Z = true) (via : Via Z R0 O n d) (F : Fld Z h a O n d old) (E : Exa Z h a C)
    (L : (Cond.lays C O n d).before a0 Z = true ∨ ((Cond.laysFinal C O n d).before a0 Z = true ∧ own = O ∧ meth.name = "<init>")) (wi : (Cond.instantiable C kk).before a0 Z = true) (hty : parseFieldDescriptor d = some ty) (hn : narrow ty v = v) (hf : fits ty v = true) (hd : decode c.code pc = .ok (.putfield index, 3)) (hp : pc + 3 = pc')
    (k : ∀ T' h', Stand p l e R s m args below meth c T' (locs ++ [⟨a, RoadKit.slotOf Z O n d⟩]) cells slots → T'.heap = h' → Wr h h' a (RoadKit.slotOf Z O n d) v → OG p e below s Q kc ks T' (mkF m pc' Ls rest)) : OG p e below s Q kc ks T (mkF m pc Ls (v :: .ref a :: rest)) := by
  subst hp
  obtain ⟨T1, h1, X1, e1, W1, st1⟩ := putF X hx hZ hown (host := "") (Or.inl w) via eT F E L wi hty hn hf (g := mkF m pc Ls (v :: .ref a :: rest)) rfl rfl hd
  exact OG.step st1 (k T1 h1 X1 e1 W1)
theorem z_tlt {x : Int32} (h : x < 0) : ifCond.holds .lt x = true ∧ ifCond.holds .ge x = false := ⟨(if0 _ _).trans (tlt h).1, (if0 _ _).trans (tlt h).2.1⟩
theorem z_flt {x : Int32} (h : ¬ x < 0) : ifCond.holds .lt x = false ∧ ifCond.holds .ge x = true := ⟨(if0 _ _).trans (flt h).1, (if0 _ _).trans (flt h).2.1⟩
theorem z_tgt {x : Int32} (h : 0 < x) : ifCond.holds .gt x = true ∧ ifCond.holds .le x = false := ⟨(if0 _ _).trans (tlt h).2.2.1, (if0 _ _).trans (tlt h).2.2.2⟩
theorem z_fgt {x : Int32} (h : ¬ 0 < x) : ifCond.holds .gt x = false ∧ ifCond.holds .le x = true := ⟨(if0 _ _).trans (flt h).2.2.1, (if0 _ _).trans (flt h).2.2.2⟩
theorem z_teq {x : Int32} (h : x = 0) : ifCond.holds .eq x = true ∧ ifCond.holds .ne x = false := ⟨(if0 _ _).trans (teq h).1, (if0 _ _).trans (teq h).2⟩
theorem z_feq {x : Int32} (h : ¬ x = 0) : ifCond.holds .eq x = false ∧ ifCond.holds .ne x = true := ⟨(if0 _ _).trans (feq h).1, (if0 _ _).trans (feq h).2⟩
theorem c_tlt {x y : Int32} (h : x < y) : if_icmp.holds .lt x y = true ∧ if_icmp.holds .ge x y = false := ⟨(tlt h).1, (tlt h).2.1⟩
theorem c_flt {x y : Int32} (h : ¬ x < y) : if_icmp.holds .lt x y = false ∧ if_icmp.holds .ge x y = true := ⟨(flt h).1, (flt h).2.1⟩
theorem c_tgt {x y : Int32} (h : y < x) : if_icmp.holds .gt x y = true ∧ if_icmp.holds .le x y = false := ⟨(tlt h).2.2.1, (tlt h).2.2.2⟩
theorem c_fgt {x y : Int32} (h : ¬ y < x) : if_icmp.holds .gt x y = false ∧ if_icmp.holds .le x y = true := ⟨(flt h).2.2.1, (flt h).2.2.2⟩
theorem c_teq {x y : Int32} (h : x = y) : if_icmp.holds .eq x y = true ∧ if_icmp.holds .ne x y = false := teq h
theorem c_feq {x y : Int32} (h : ¬ x = y) : if_icmp.holds .eq x y = false ∧ if_icmp.holds .ne x y = true := feq h
theorem l_tlt {x y : Int64} (h : x < y) : ifCond.holds .lt (lcmpW x y) = true ∧ ifCond.holds .ge (lcmpW x y) = false := z_tlt ((lw_lt x y).mpr h)
theorem l_flt {x y : Int64} (h : ¬ x < y) : ifCond.holds .lt (lcmpW x y) = false ∧ ifCond.holds .ge (lcmpW x y) = true := z_flt (fun q => h ((lw_lt x y).mp q))
theorem l_tgt {x y : Int64} (h : y < x) : ifCond.holds .gt (lcmpW x y) = true ∧ ifCond.holds .le (lcmpW x y) = false := z_tgt ((lw_gt x y).mpr h)
theorem l_fgt {x y : Int64} (h : ¬ y < x) : ifCond.holds .gt (lcmpW x y) = false ∧ ifCond.holds .le (lcmpW x y) = true := z_fgt (fun q => h ((lw_gt x y).mp q))
theorem l_teq {x y : Int64} (h : x = y) : ifCond.holds .eq (lcmpW x y) = true ∧ ifCond.holds .ne (lcmpW x y) = false := z_teq ((lw_eq x y).mpr h)
theorem l_feq {x y : Int64} (h : ¬ x = y) : ifCond.holds .eq (lcmpW x y) = false ∧ ifCond.holds .ne (lcmpW x y) = true := z_feq (fun q => h ((lw_eq x y).mp q))
end Own
section OwnA
variable {p : Program} {l : Launch} {e : Env} {R : Room} {s : State} {m : MethodId} {args : Array Value} {below : List Frame} {meth : Method} {c : Code} {T : State} {locs : List Loc} {cells slots : Nat} {Q : Option Value → Heap → List Loc → Prop} {kc ks : Nat} {Z : State} {a0 : Array Value} {h h' : Heap} {a b : Addr} {ty : FieldType} {n : Nat} {f : Nat → Value}
/-- an array of n values: the i-th is f i -/
def OAr (Z : State) (h : Heap) (a : Addr) (ty : FieldType) (n : Nat) (f : Nat → Value) : Prop := ∃ c : Cell, Arr Z h a c ty ∧ c.slots.size = n ∧ ∀ i, i < n → c.slots[i]? = some (f i)
theorem OAr.ext (E : Ext h h') (F : OAr Z h b ty n f) : OAr Z h' b ty n f := by obtain ⟨c, A, r⟩ := F; exact ⟨c, A.ext E, r⟩
theorem OAr.other {sl : Nat} {v : Value} (W : Wr h h' a sl v) (F : OAr Z h b ty n f) (q : b ≠ a) : OAr Z h' b ty n f := by obtain ⟨c, A, r⟩ := F; exact ⟨c, A.other W q, r⟩
theorem OAr.keep {ws : List Addr} (F : OAr Z h b ty n f) (K : Keep h h' ws) (q : b ∉ ws) : OAr Z h' b ty n f := by obtain ⟨c, A, r⟩ := F; exact ⟨c, ⟨K.2.1 b c A.1 q, A.2⟩, r⟩
theorem OAr.lt (F : OAr Z h a ty n f) : a < h.size := by obtain ⟨c, A, -⟩ := F; exact A.lt
theorem OAr.cg {g : Nat → Value} (F : OAr Z h a ty n f) (q : ∀ i, i < n → g i = f i) : OAr Z h a ty n g := by obtain ⟨c, A, r, H⟩ := F; exact ⟨c, A, r, fun i hi => by rw [q i hi]; exact H i hi⟩
theorem OAr.same {j : Nat} {v : Value} (W : Wr h h' a j v) (F : OAr Z h a ty n f) : OAr Z h' a ty n (fun i => if i = j then v else f i) := by
  obtain ⟨c, A, r, H⟩ := F
  refine ⟨_, Arr.same W A, by simp [Cell.setSlot, r], fun i hi => ?_⟩
  obtain ⟨c', h1, -, h3, -⟩ := W
  have hlt : j < c.slots.size := by have := h1.symm.trans A.1; cases this; exact h3
  simp only [Cell.setSlot]
  rw [Array.getElem?_setIfInBounds]
  by_cases q : j = i
  · subst q; simp [hlt]
  · rw [if_neg q, if_neg (fun z => q z.symm)]; exact H i hi
theorem OAr.new {k : ClassId} {z : Int32} (A : Arr Z h a (newA k ty z) ty) : OAr Z h a ty z.toNatClampNeg (fun _ => defaultValue ty) :=
  ⟨_, A, sz_new _ _ _, fun i hi => by simp [newA, hi]⟩
/-- the first values by a list -/
def lk (vs : List Value) (k : Nat) : Value := vs.getD k .null
theorem OAr.setL {vs : List Value} {j : Nat} {v : Value} (W : Wr h h' a j v) (F : OAr Z h a ty n (lk vs)) (hj : j < vs.length) : OAr Z h' a ty n (lk (vs.set j v)) :=
  (OAr.same W F).cg fun i hi => by
    unfold lk
    by_cases q : i = j
    · subst q; simp [hj]
    · simp only [List.getD_eq_getElem?_getD, List.getElem?_set, if_neg q, if_neg (fun z : j = i => q z.symm)]
theorem o_alen (X : Stand p l e R s m args below meth c T locs cells slots) (hx : p.tables.exec = Jvm.exec) (hZ : Z.Warmed39 s.vm) {pc pc' : Nat} {Ls : Array Slot} {rest : List Value} (eT : T.heap = h) (F : OAr Z h a ty n f) (hd : decode c.code pc = .ok (.arraylength, 1)) (z : Int32) (hz : n.toInt32 = z) (hp : pc + 1 = pc') (k : OG p e below s Q kc ks T (mkF m pc' Ls (.int z :: rest))) : OG p e below s Q kc ks T (mkF m pc Ls (.ref a :: rest)) := by
  subst hp hz
  obtain ⟨cl, A, r, H⟩ := F
  exact OG.step (fun t q => X.arraylength hx (by rw [eT]; exact A.1) (State.isArrayOf_alike hZ.alike A.2.1) (g := mkF m pc Ls (.ref a :: rest)) rfl rfl hd t (by rw [r]; exact q)) k
theorem o_newarr (X : Stand p l e R s m args below meth c T locs cells slots) (hx : p.tables.exec = Jvm.exec) (hZ : Z.Warmed39 s.vm) {pc pc' : Nat} {Ls : Array Slot} {rest : List Value} {aty : ArrayType} {z : Int32} (eT : T.heap = h) (w : (Cond.arrayClass (newarray.typeOf aty)).before a0 Z = true) (hd : decode c.code pc = .ok (.newarray aty, 2)) (hn : ¬ z < 0) (cap : Nat) (hcap : z.toNatClampNeg ≤ cap) (hb : cap * 8 ≤ 536870912) (hc : cells + 1 ≤ R.cells) (hl : slots + cap ≤ R.slots) (hp : pc + 2 = pc')
    (k : ∀ T' h' a, Stand p l e R s m args below meth c T' locs (cells + 1) (slots + cap) → T'.heap = h' → a = h.size → Ext h h' → OAr Z h' a (newarray.typeOf aty) z.toNatClampNeg (fun _ => defaultValue (newarray.typeOf aty)) → OG p e below s Q kc ks T' (mkF m pc' Ls (.ref a :: rest))) : OG p e below s Q kc ks T (mkF m pc Ls (.int z :: rest)) := by
  subst hp
  obtain ⟨T1, h1, cA, X1, e1, E1, A1, st1⟩ := newP X hx hZ w eT (g := mkF m pc Ls (.int z :: rest)) rfl hd rfl hn hcap hb hc hl
  exact OG.step st1 (k T1 h1 _ X1 e1 rfl E1 (OAr.new A1))
theorem o_inb {cl : Cell} {j : Int32} (r : cl.slots.size = n) (hj : ¬ j < 0) (hlt : j.toNatClampNeg < n) : ¬ (j < 0 ∨ cl.slots.size ≤ j.toNatClampNeg) := by
  rintro (q | q)
  · exact hj q
  · omega
theorem o_iaload (X : Stand p l e R s m args below meth c T locs cells slots) (hx : p.tables.exec = Jvm.exec) (hZ : Z.Warmed39 s.vm) {pc pc' : Nat} {Ls : Array Slot} {rest : List Value} {j : Int32} (eT : T.heap = h) (F : OAr Z h a .int n f) (hd : decode c.code pc = .ok (.iaload, 1)) (hj : ¬ j < 0) (hlt : j.toNatClampNeg < n) (x : Int32) (hv : f j.toNatClampNeg = .int x) (hp : pc + 1 = pc') (k : OG p e below s Q kc ks T (mkF m pc' Ls (.int x :: rest))) : OG p e below s Q kc ks T (mkF m pc Ls (.int j :: .ref a :: rest)) := by
  subst hp
  obtain ⟨cl, A, r, H⟩ := F
  exact OG.step (fun t q => X.iaload hx (j := j) (v := .int x) (by rw [eT]; exact A.1) (State.isArrayOf_alike hZ.alike A.2.1) A.2.2 (o_inb r hj hlt) (by rw [H _ hlt, hv]) (g := mkF m pc Ls (.int j :: .ref a :: rest)) rfl rfl hd t q) k
theorem o_laload (X : Stand p l e R s m args below meth c T locs cells slots) (hx : p.tables.exec = Jvm.exec) (hZ : Z.Warmed39 s.vm) {pc pc' : Nat} {Ls : Array Slot} {rest : List Value} {j : Int32} (eT : T.heap = h) (F : OAr Z h a .long n f) (hd : decode c.code pc = .ok (.laload, 1)) (hj : ¬ j < 0) (hlt : j.toNatClampNeg < n) (x : Int64) (hv : f j.toNatClampNeg = .long x) (hp : pc + 1 = pc') (k : OG p e below s Q kc ks T (mkF m pc' Ls (.long x :: rest))) : OG p e below s Q kc ks T (mkF m pc Ls (.int j :: .ref a :: rest)) := by
  subst hp
  obtain ⟨cl, A, r, H⟩ := F
  exact OG.step (fun t q => X.laload hx (j := j) (v := .long x) (by rw [eT]; exact A.1) (State.isArrayOf_alike hZ.alike A.2.1) A.2.2 (o_inb r hj hlt) (by rw [H _ hlt, hv]) (g := mkF m pc Ls (.int j :: .ref a :: rest)) rfl rfl hd t q) k
theorem o_caload (X : Stand p l e R s m args below meth c T locs cells slots) (hx : p.tables.exec = Jvm.exec) (hZ : Z.Warmed39 s.vm) {pc pc' : Nat} {Ls : Array Slot} {rest : List Value} {j : Int32} (eT : T.heap = h) (F : OAr Z h a .char n f) (hd : decode c.code pc = .ok (.caload, 1)) (hj : ¬ j < 0) (hlt : j.toNatClampNeg < n) (x : Int32) (hv : f j.toNatClampNeg = .int x) (hp : pc + 1 = pc') (k : OG p e below s Q kc ks T (mkF m pc' Ls (.int x :: rest))) : OG p e below s Q kc ks T (mkF m pc Ls (.int j :: .ref a :: rest)) := by
  subst hp
  obtain ⟨cl, A, r, H⟩ := F
  exact OG.step (fun t q => X.caload hx (j := j) (v := .int x) (by rw [eT]; exact A.1) (State.isArrayOf_alike hZ.alike A.2.1) A.2.2 (o_inb r hj hlt) (by rw [H _ hlt, hv]) (g := mkF m pc Ls (.int j :: .ref a :: rest)) rfl rfl hd t q) k
theorem o_baload (X : Stand p l e R s m args below meth c T locs cells slots) (hx : p.tables.exec = Jvm.exec) (hZ : Z.Warmed39 s.vm) {pc pc' : Nat} {Ls : Array Slot} {rest : List Value} {j : Int32} (eT : T.heap = h) (F : OAr Z h a .byte n f) (hd : decode c.code pc = .ok (.baload, 1)) (hj : ¬ j < 0) (hlt : j.toNatClampNeg < n) (x : Int32) (hv : f j.toNatClampNeg = .int x) (hp : pc + 1 = pc') (k : OG p e below s Q kc ks T (mkF m pc' Ls (.int x :: rest))) : OG p e below s Q kc ks T (mkF m pc Ls (.int j :: .ref a :: rest)) := by
  subst hp
  obtain ⟨cl, A, r, H⟩ := F
  exact OG.step (fun t q => X.baloadBytes hx (j := j) (v := .int x) (by rw [eT]; exact A.1) (State.isArrayOf_alike hZ.alike A.2.1) A.2.2 (o_inb r hj hlt) (by rw [H _ hlt, hv]) (g := mkF m pc Ls (.int j :: .ref a :: rest)) rfl rfl hd t q) k
theorem o_iastore (X : Stand p l e R s m args below meth c T locs cells slots) (hx : p.tables.exec = Jvm.exec) (hZ : Z.Warmed39 s.vm) {pc pc' : Nat} {Ls : Array Slot} {rest : List Value} {j : Int32} {x : Int32} (eT : T.heap = h) (F : OAr Z h a .int n f) (hd : decode c.code pc = .ok (.iastore, 1)) (hj : ¬ j < 0) (hlt : j.toNatClampNeg < n) (hp : pc + 1 = pc')
    (k : ∀ T' h', Stand p l e R s m args below meth c T' (locs ++ [⟨a, j.toNatClampNeg⟩]) cells slots → T'.heap = h' → Wr h h' a j.toNatClampNeg (.int x) → OG p e below s Q kc ks T' (mkF m pc' Ls rest)) : OG p e below s Q kc ks T (mkF m pc Ls (.int x :: .int j :: .ref a :: rest)) := by
  subst hp
  obtain ⟨cl, A, r, H⟩ := F
  obtain ⟨T1, h1, X1, e1, W1, st1⟩ := stI X hx hZ eT A (o_inb r hj hlt) (g := mkF m pc Ls (.int x :: .int j :: .ref a :: rest)) rfl rfl hd
  exact OG.step st1 (k T1 h1 X1 e1 W1)
theorem o_lastore (X : Stand p l e R s m args below meth c T locs cells slots) (hx : p.tables.exec = Jvm.exec) (hZ : Z.Warmed39 s.vm) {pc pc' : Nat} {Ls : Array Slot} {rest : List Value} {j : Int32} {x : Int64} (eT : T.heap = h) (F : OAr Z h a .long n f) (hd : decode c.code pc = .ok (.lastore, 1)) (hj : ¬ j < 0) (hlt : j.toNatClampNeg < n) (hp : pc + 1 = pc')
    (k : ∀ T' h', Stand p l e R s m args below meth c T' (locs ++ [⟨a, j.toNatClampNeg⟩]) cells slots → T'.heap = h' → Wr h h' a j.toNatClampNeg (.long x) → OG p e below s Q kc ks T' (mkF m pc' Ls rest)) : OG p e below s Q kc ks T (mkF m pc Ls (.long x :: .int j :: .ref a :: rest)) := by
  subst hp
  obtain ⟨cl, A, r, H⟩ := F
  obtain ⟨T1, h1, X1, e1, W1, st1⟩ := stJ X hx hZ eT A (o_inb r hj hlt) (g := mkF m pc Ls (.long x :: .int j :: .ref a :: rest)) rfl rfl hd
  exact OG.step st1 (k T1 h1 X1 e1 W1)
theorem o_castore (X : Stand p l e R s m args below meth c T locs cells slots) (hx : p.tables.exec = Jvm.exec) (hZ : Z.Warmed39 s.vm) {pc pc' : Nat} {Ls : Array Slot} {rest : List Value} {j : Int32} {x : Int32} (eT : T.heap = h) (F : OAr Z h a .char n f) (hd : decode c.code pc = .ok (.castore, 1)) (hj : ¬ j < 0) (hlt : j.toNatClampNeg < n) (hp : pc + 1 = pc')
    (k : ∀ T' h', Stand p l e R s m args below meth c T' (locs ++ [⟨a, j.toNatClampNeg⟩]) cells slots → T'.heap = h' → Wr h h' a j.toNatClampNeg (.int (nar .char x)) → OG p e below s Q kc ks T' (mkF m pc' Ls rest)) : OG p e below s Q kc ks T (mkF m pc Ls (.int x :: .int j :: .ref a :: rest)) := by
  subst hp
  obtain ⟨cl, A, r, H⟩ := F
  obtain ⟨T1, h1, X1, e1, W1, st1⟩ := stC X hx hZ eT A (o_inb r hj hlt) (g := mkF m pc Ls (.int x :: .int j :: .ref a :: rest)) rfl rfl hd
  exact OG.step st1 (k T1 h1 X1 e1 W1)
theorem o_bastore (X : Stand p l e R s m args below meth c T locs cells slots) (hx : p.tables.exec = Jvm.exec) (hZ : Z.Warmed39 s.vm) {pc pc' : Nat} {Ls : Array Slot} {rest : List Value} {j : Int32} {x : Int32} (eT : T.heap = h) (F : OAr Z h a .byte n f) (hd : decode c.code pc = .ok (.bastore, 1)) (hj : ¬ j < 0) (hlt : j.toNatClampNeg < n) (hp : pc + 1 = pc')
    (k : ∀ T' h', Stand p l e R s m args below meth c T' (locs ++ [⟨a, j.toNatClampNeg⟩]) cells slots → T'.heap = h' → Wr h h' a j.toNatClampNeg (.int (nar .byte x)) → OG p e below s Q kc ks T' (mkF m pc' Ls rest)) : OG p e below s Q kc ks T (mkF m pc Ls (.int x :: .int j :: .ref a :: rest)) := by
  subst hp
  obtain ⟨cl, A, r, H⟩ := F
  obtain ⟨T1, h1, X1, e1, W1, st1⟩ := stB X hx hZ eT A (o_inb r hj hlt) (g := mkF m pc Ls (.int x :: .int j :: .ref a :: rest)) rfl rfl hd
  exact OG.step st1 (k T1 h1 X1 e1 W1)
theorem o_private (X : Stand p l e R s m args below meth c T locs cells slots) (hx : p.tables.exec = Jvm.exec) (hZ : Z.Warmed39 s.vm) {own : String} {index kk : Nat} {y : MethodName} {bytes : ByteArray} {maxL : Nat} {ret : Option FieldType} {rm : Room} {Qc : Option Value → Heap → List Loc → Prop} {argsL rest st : List Value} {pc pc' : Nat} {Ls : Array Slot} (W : Nat)
    (hown : s.vm.findClass own = some m.cls) (eT : T.heap = h) (hlink : (Cond.methodLink own index y).before a0 Z = true) (hinst : (Cond.instanceMethod y).before a0 Z = true) (hpriv : (Cond.privateMethod y).before a0 Z = true) (wi : (Cond.instantiable y.cls kk).before a0 Z = true) (hinit : (Cond.initialized y.cls).before a0 Z = true) (hcode : (Cond.code y bytes maxL ret).before a0 Z = true) (hy : y.cls ≠ "java/lang/invoke/MethodHandle" ∧ y.cls ≠ "java/lang/invoke/VarHandle")
    (E : Exa Z h a y.cls)
    (hM : MetFree l y (head1 [Cond.code y bytes maxL ret] rm) (fun b U => b = (.ref a :: argsL).toArray ∧ Z.Warmed39 U.vm ∧ U.heap = h) (fun _ _ _ _ _ => True) (fun _ U o U' => ∃ v L, o = .returned v ∧ Qc v U'.heap L ∧ FrameEnd U o U' L rm.cells rm.slots)) (hf : rm.frames + 1 ≤ R.frames) (hl : W + (maxL + 11) + rm.locals ≤ R.locals)
    (hsize : Ls.size = c.maxLocals) (hlen : ∀ sig, parseMethodDescriptor y.desc = some sig → argsL.length = sig.parameters.length) (hs : st = argsL.reverse ++ .ref a :: rest) (hW : (rest.map fun v => v.category).sum ≤ W) (hd : decode c.code pc = .ok (.invokevirtual index, 3)) (hp : pc + 3 = pc') (hc : cells + rm.cells ≤ R.cells) (hsl : slots + rm.slots ≤ R.slots)
    (k : ∀ v T' L, Stand p l e R s m args below meth c T' (locs ++ L) (cells + rm.cells) (slots + rm.slots) → Qc v T'.heap L → OG p e below s Q kc ks T' (mkF m pc' Ls (v.toList ++ rest))) : OG p e below s Q kc ks T (mkF m pc Ls st) := by
  subst hp hs
  obtain ⟨cq, q1, q2⟩ := E.cell
  have hpa := Cond.privateMethod_at (mvP hZ hpriv (args := args))
  obtain ⟨cI, kI, i1, i2, -, i4, -⟩ := Cond.instantiable_spec (mvT hZ wi : (Cond.instantiable y.cls kk).before args s = true)
  have hni : kI.isInterface = false := (Bool.or_eq_false_iff.mp i4).1
  have hsel := selects_self_of_private (args := args) i1 i2 hni hpa (mvT hZ hinst) hy
  obtain ⟨v, vm₁, ⟨T1, L1, c1, n1⟩, -, X1, ⟨Lc, hQ, l1, y1, z1⟩, st⟩ := X.privateBack hx (y := y) hown (mvT hZ hlink) (mvT hZ hinst) hsel hpa (mvT hZ hcode) hy (backOf (W := W) hM hZ hcode hinit hf hl) (g := mkF m pc Ls (argsL.reverse ++ .ref a :: rest)) rfl hsize (Steps.refl _) (a := a) (by rw [eT]; exact q1) q2 (argsL := argsL) (rest := rest) hlen rfl (by show 2 * 0 + _ ≤ _; omega) hd (fun _ _ => ⟨rfl, eT, hc, hsl⟩)
  dsimp only [Pt.U, Pt.locs, Pt.cells, Pt.slots] at X1 l1 y1 z1 st hQ
  subst l1 y1 z1
  exact OG.step (fun t q => st.trans q) (k v T1 Lc X1 hQ)
end OwnA
section OwnB
def ci (c : Nat → Int32) : Nat → Value := fun i => .int (c i)
def cj (c : Nat → Int64) : Nat → Value := fun i => .long (c i)
def li (vs : List Int32) (i : Nat) : Int32 := vs.getD i 0
def upd (c : Nat → Int32) (j : Nat) (x : Int32) : Nat → Int32 := fun i => if i = j then x else c i
def updJ (c : Nat → Int64) (j : Nat) (x : Int64) : Nat → Int64 := fun i => if i = j then x else c i
variable {Z : State} {h h' : Heap} {a : Addr} {ty : FieldType} {n : Nat}
theorem OAr.setI {vs : List Int32} {j : Nat} {x : Int32} (W : Wr h h' a j (.int x)) (F : OAr Z h a ty n (ci (li vs))) (hj : j < vs.length) : OAr Z h' a ty n (ci (li (vs.set j x))) :=
  (OAr.same W F).cg fun i hi => by
    unfold ci li
    by_cases q : i = j
    · subst q; simp [hj]
    · simp only [List.getD_eq_getElem?_getD, List.getElem?_set, if_neg q, if_neg (fun z : j = i => q z.symm)]
theorem OAr.updI {c : Nat → Int32} {j : Nat} {x : Int32} (W : Wr h h' a j (.int x)) (F : OAr Z h a ty n (ci c)) : OAr Z h' a ty n (ci (upd c j x)) :=
  (OAr.same W F).cg fun i hi => by unfold ci upd; split <;> rfl
theorem OAr.updJ {c : Nat → Int64} {j : Nat} {x : Int64} (W : Wr h h' a j (.long x)) (F : OAr Z h a ty n (cj c)) : OAr Z h' a ty n (cj (updJ c j x)) :=
  (OAr.same W F).cg fun i hi => by unfold cj Jvm.Pilot.@@N@@.updJ; split <;> rfl
theorem OAr.zeros {k : Nat} (F : OAr Z h a ty n (fun _ => .int 0)) : OAr Z h a ty n (ci (li (List.replicate k 0))) :=
  F.cg fun i hi => by unfold ci li; by_cases q : i < k <;> simp [q]
theorem own_back {z : Int32} (q : ¬ z < 0) : z.toNatClampNeg.toInt32 = z := (back32 q).1
end OwnB

theorem d1_0 : decode prog_28_method_1_code 0 = .ok (.aload_n 0, 1) := by decide +kernel
theorem d1_1 : decode prog_28_method_1_code 1 = .ok (.invokespecial 1, 3) := by decide +kernel
theorem d1_4 : decode prog_28_method_1_code 4 = .ok (.iload_n 1, 1) := by decide +kernel
theorem d1_5 : decode prog_28_method_1_code 5 = .ok (.ifCond .lt 9, 3) := by decide +kernel
theorem d1_8 : decode prog_28_method_1_code 8 = .ok (.iload_n 1, 1) := by decide +kernel
theorem d1_9 : decode prog_28_method_1_code 9 = .ok (.ldc 9, 2) := by decide +kernel
theorem d1_11 : decode prog_28_method_1_code 11 = .ok (.if_icmp .le 17, 3) := by decide +kernel
theorem d1_28 : decode prog_28_method_1_code 28 = .ok (.aload_n 2, 1) := by decide +kernel
theorem d1_29 : decode prog_28_method_1_code 29 = .ok (.arraylength, 1) := by decide +kernel
theorem d1_30 : decode prog_28_method_1_code 30 = .ok (.ldc 19, 2) := by decide +kernel
theorem d1_32 : decode prog_28_method_1_code 32 = .ok (.if_icmp .le 18, 3) := by decide +kernel
theorem d1_50 : decode prog_28_method_1_code 50 = .ok (.aload_n 0, 1) := by decide +kernel
theorem d1_51 : decode prog_28_method_1_code 51 = .ok (.iload_n 1, 1) := by decide +kernel
theorem d1_52 : decode prog_28_method_1_code 52 = .ok (.putfield 21, 3) := by decide +kernel
theorem d1_55 : decode prog_28_method_1_code 55 = .ok (.aload_n 0, 1) := by decide +kernel
theorem d1_56 : decode prog_28_method_1_code 56 = .ok (.aload_n 2, 1) := by decide +kernel
theorem d1_57 : decode prog_28_method_1_code 57 = .ok (.putfield 25, 3) := by decide +kernel
theorem d1_60 : decode prog_28_method_1_code 60 = .ok (.return_, 1) := by decide +kernel
def f1_0 (c_o2 : (Nat → Int32)) (n_o2 : Nat) (x1 : Int32) : Option (Int32) := (if ¬ (x1 < (0 : Int32)) then (if ¬ ((65535 : Int32) < x1) then (if ¬ ((65804 : Int32) < (Nat.toInt32 n_o2)) then (some x1) else none) else none) else none)
set_option maxRecDepth 65536 in
set_option maxHeartbeats 40000000 in
theorem b1_0 {p : Program} {l : Launch} {e : Env} {s : State} {m : MethodId} {args : Array Value} {below : List Frame} {meth : Method} {c : Code} {Z : State} {a0 : Array Value} {h0 : Heap} {n0 : Nat} (hx : p.tables.exec = Jvm.exec) (hZ : Z.Warmed39 s.vm) (hw : ∀ d ∈ tables_1, d.before a0 Z = true) (hby : c.code = prog_28_method_1_code) (hml : c.maxLocals = 3) (hown : s.vm.findClass "com/example/pocket_courier/pocketcourier/core/Option" = some m.cls) (hnm : meth.name = "<init>") (hret : meth.sig.returnType = none) (hlk : meth.locks = false) (o0 : Addr) (o2 : Addr) {T : State} {locs : List Loc} {h : Heap} (u_number : Value) (u_value : Value) (c_o2 : Nat → Int32) (n_o2 : Nat) (x1 : Int32) (r : Int32) (X : Stand p l e ({ frames := 1, cells := 0, slots := 0, locals := 12 } : Room) s m args below meth c T locs 0 0) (eT : T.heap = h) (N : Fr n0 locs) (hsz : n0 ≤ h.size) (K : Keep h0 h [o0]) (E_o0 : Exa Z h o0 "com/example/pocket_courier/pocketcourier/core/Option") (F_o0_number : Fld Z h o0 "com/example/pocket_courier/pocketcourier/core/Option" "number" "I" u_number) (F_o0_value : Fld Z h o0 "com/example/pocket_courier/pocketcourier/core/Option" "value" "[B" u_value) (g_o0 : n0 ≤ o0) (A_o2 : OAr Z h o2 .byte n_o2 (ci c_o2)) (g_o2 : n0 ≤ o2) (ne_o0_o2 : o0 ≠ o2) (hr : f1_0 c_o2 n_o2 x1 = some r) :
    OG p e below s (fun v h L => v = none ∧ Fr n0 L ∧ Keep h0 h [o0] ∧ Exa Z h o0 "com/example/pocket_courier/pocketcourier/core/Option" ∧ Fld Z h o0 "com/example/pocket_courier/pocketcourier/core/Option" "number" "I" (.int r)) 0 0 T (mkF m 0 #[.val (.ref o0), .val (.int x1), .val (.ref o2)] []) := by
  have hr : (if ¬ (x1 < (0 : Int32)) then (if ¬ ((65535 : Int32) < x1) then (if ¬ ((65804 : Int32) < (Nat.toInt32 n_o2)) then (some x1) else none) else none) else none) = some r := hr
  refine o_aload_n X hx (hb hby d1_0) rfl rfl (pc' := 1) rfl ?_
  refine o_initO X hx hZ 0 hown eT (hw _ (List.mem_of_getElem? (i := 8) rfl)) (hw _ (List.mem_of_getElem? (i := 9) rfl)) (hw _ (List.mem_of_getElem? (i := 10) rfl)) (by rw [hml]; rfl) (hb hby d1_1) (by decide) (Nat.le_refl _) (by decide) (pc' := 4) rfl ?_
  intro T1 X1 e1
  refine o_iload_n X1 hx (hb hby d1_4) rfl (pc' := 5) rfl ?_
  by_cases hg2 : ¬ (x1 < (0 : Int32))
  case neg => rw [if_neg hg2] at hr; cases hr
  rw [if_pos hg2] at hr
  refine o_ifNo X1 hx (hb hby d1_5) (z_flt hg2).1 (pc' := 8) rfl ?_
  refine o_iload_n X1 hx (hb hby d1_8) rfl (pc' := 9) rfl ?_
  refine o_ldcInt X1 hx hZ hown (hb hby d1_9) (hw _ (List.mem_of_getElem? (i := 11) rfl)) (pc' := 11) rfl ?_
  by_cases hg3 : ¬ ((65535 : Int32) < x1)
  case neg => rw [if_neg hg3] at hr; cases hr
  rw [if_pos hg3] at hr
  refine o_icmpYes X1 hx (hb hby d1_11) (c_fgt hg3).2 (pc' := 28) (by decide) (by decide) ?_
  refine o_aload_n X1 hx (hb hby d1_28) rfl rfl (pc' := 29) rfl ?_
  refine o_alen X1 hx hZ e1 A_o2 (hb hby d1_29) (Nat.toInt32 n_o2) rfl (pc' := 30) rfl ?_
  refine o_ldcInt X1 hx hZ hown (hb hby d1_30) (hw _ (List.mem_of_getElem? (i := 12) rfl)) (pc' := 32) rfl ?_
  by_cases hg4 : ¬ ((65804 : Int32) < (Nat.toInt32 n_o2))
  case neg => rw [if_neg hg4] at hr; cases hr
  rw [if_pos hg4] at hr
  refine o_icmpYes X1 hx (hb hby d1_32) (c_fgt hg4).2 (pc' := 50) (by decide) (by decide) ?_
  refine o_aload_n X1 hx (hb hby d1_50) rfl rfl (pc' := 51) rfl ?_
  refine o_iload_n X1 hx (hb hby d1_51) rfl (pc' := 52) rfl ?_
  refine o_putF X1 hx hZ hown e1 (hw _ (List.mem_of_getElem? (i := 13) rfl)) Via.refl F_o0_number E_o0 (Or.inr ⟨(hw _ (List.mem_of_getElem? (i := 14) rfl)), rfl, hnm⟩) (hw _ (List.mem_of_getElem? (i := 3) rfl)) (ty := .int) (by decide) rfl rfl (hb hby d1_52) (pc' := 55) rfl ?_
  intro T5 h5 X5 e5 W5
  have F5_o0_number := Fld.same W5 F_o0_number
  have A5_o0 := Exa.wr W5 E_o0
  have F5_o0_value := Fld.other W5 F_o0_value (Or.inr (slot_ne (Or.inr (hw _ (List.mem_of_getElem? (i := 16) rfl))) (Or.inr (hw _ (List.mem_of_getElem? (i := 14) rfl))) (by decide) (t := (.array .byte)) (t' := .int) (by decide) (by decide)))
  have A5_o2 := OAr.other W5 A_o2 (Ne.symm ne_o0_o2)
  have N5 := Fr.snoc X5 N g_o0
  have z5 : n0 ≤ h5.size := Nat.le_trans hsz (Keep.of_wr W5).1
  have K5 := Keep.wr K W5 (Or.inl (by simp))
  refine o_aload_n X5 hx (hb hby d1_55) rfl rfl (pc' := 56) rfl ?_
  refine o_aload_n X5 hx (hb hby d1_56) rfl rfl (pc' := 57) rfl ?_
  refine o_putF X5 hx hZ hown e5 (hw _ (List.mem_of_getElem? (i := 15) rfl)) Via.refl F5_o0_value A5_o0 (Or.inr ⟨(hw _ (List.mem_of_getElem? (i := 16) rfl)), rfl, hnm⟩) (hw _ (List.mem_of_getElem? (i := 3) rfl)) (ty := (.array .byte)) (by decide) rfl rfl (hb hby d1_57) (pc' := 60) rfl ?_
  intro T6 h6 X6 e6 W6
  have F6_o0_value := Fld.same W6 F5_o0_value
  have A6_o0 := Exa.wr W6 A5_o0
  have F6_o0_number := Fld.other W6 F5_o0_number (Or.inr (slot_ne (Or.inr (hw _ (List.mem_of_getElem? (i := 14) rfl))) (Or.inr (hw _ (List.mem_of_getElem? (i := 16) rfl))) (by decide) (t := .int) (t' := (.array .byte)) (by decide) (by decide)))
  have A6_o2 := OAr.other W6 A5_o2 (Ne.symm ne_o0_o2)
  have N6 := Fr.snoc X6 N5 g_o0
  have z6 : n0 ≤ h6.size := Nat.le_trans z5 (Keep.of_wr W6).1
  have K6 := Keep.wr K5 W6 (Or.inl (by simp))
  obtain rfl : x1 = r := Option.some.inj hr
  exact o_ret X6 hx hlk hret (hb hby d1_60) (by rw [e6]; exact ⟨rfl, N6, K6, A6_o0, F6_o0_number⟩) (by decide) (by decide)
theorem pn_1 : plainName "com/example/pocket_courier/pocketcourier/core/Option" = true := by first | (simp [plainName, overriddenIn]; done) | decide +kernel
theorem ef_1 (m : MethodId) (o0 : Addr) (x1 : Int32) (o2 : Addr) : entryFrame m #[(.ref o0), (.int x1), (.ref o2)] 3 = (mkF m 0 #[.val (.ref o0), .val (.int x1), .val (.ref o2)] []) := by first | (simp [entryFrame, mkF, argsToLocals, Value.category]; done) | rfl
def Qd1 (Z : State) (h0 : Heap) (n0 : Nat) (o0 : Addr) (x1 : Int32) (o2 : Addr) (u_number : Value) (u_value : Value) (c_o2 : Nat → Int32) (n_o2 : Nat) (r : Int32) : Option Value → Heap → List Loc → Prop := (fun v h L => v = none ∧ Fr n0 L ∧ Keep h0 h [o0] ∧ Exa Z h o0 "com/example/pocket_courier/pocketcourier/core/Option" ∧ Fld Z h o0 "com/example/pocket_courier/pocketcourier/core/Option" "number" "I" (.int r))
set_option maxRecDepth 65536 in
set_option maxHeartbeats 40000000 in
theorem rm1 (l : Launch) (Z : State) (a0 : Array Value) (hw : ∀ d ∈ tables_1, d.before a0 Z = true) (ws : List Jvm.Cond) (o0 : Addr) (x1 : Int32) (o2 : Addr) (u_number : Value) (u_value : Value) (c_o2 : Nat → Int32) (n_o2 : Nat) (h0 : Heap) (n0 : Nat) (Z0 : n0 ≤ h0.size) (E_o0 : Exa Z h0 o0 "com/example/pocket_courier/pocketcourier/core/Option") (F_o0_number : Fld Z h0 o0 "com/example/pocket_courier/pocketcourier/core/Option" "number" "I" u_number) (F_o0_value : Fld Z h0 o0 "com/example/pocket_courier/pocketcourier/core/Option" "value" "[B" u_value) (g_o0 : n0 ≤ o0) (A_o2 : OAr Z h0 o2 .byte n_o2 (ci c_o2)) (g_o2 : n0 ≤ o2) (ne_o0_o2 : o0 ≠ o2) (r : Int32) (hr : f1_0 c_o2 n_o2 x1 = some r) :
    MetFree l (⟨"com/example/pocket_courier/pocketcourier/core/Option", "<init>", "(I[B)V"⟩ : MethodName) (head1 (Jvm.Cond.code (⟨"com/example/pocket_courier/pocketcourier/core/Option", "<init>", "(I[B)V"⟩ : MethodName) prog_28_method_1_code 3 none :: ws) ({ frames := 1, cells := 0, slots := 0, locals := 12 } : Room)) (fun a U => a = #[(.ref o0), (.int x1), (.ref o2)] ∧ Z.Warmed39 U.vm ∧ U.heap = h0) (fun _ _ _ _ _ => True) (fun _ U o U' => ∃ v L, o = .returned v ∧ (Qd1 Z h0 n0 o0 x1 o2 u_number u_value c_o2 n_o2 r) v U'.heap L ∧ FrameEnd U o U' L ({ frames := 1, cells := 0, slots := 0, locals := 12 } : Room).cells ({ frames := 1, cells := 0, slots := 0, locals := 12 } : Room).slots) := by
  refine MetFree.of_bodySF (plainFor_of_name pn_1) hisR ?_
  intro p e s m args below meth c s₁ Bd hml0 hP hK
  obtain ⟨rfl, hZ, hh⟩ := hP
  have e0 : s₁.heap = h0 := by rw [← hh, Bd.state]; rfl
  exact OG.cast (ef_1 m o0 x1 o2) (b1_0 Bd.exec hZ hw Bd.bytes hml0 (findClass_of_methodNamed Bd.named) (name_of_methodNamed Bd.named Bd.method).1 Bd.returns Bd.notSynchronized o0 o2 u_number u_value c_o2 n_o2 x1 r (Stand.of_body Bd) e0 (Fr.nil n0) Z0 (Keep.refl h0 [o0]) E_o0 F_o0_number F_o0_value g_o0 A_o2 g_o2 ne_o0_o2 hr)
theorem d3_0 : decode prog_28_method_4_code 0 = .ok (.aload_n 0, 1) := by decide +kernel
theorem d3_1 : decode prog_28_method_4_code 1 = .ok (.getfield 21, 3) := by decide +kernel
theorem d3_4 : decode prog_28_method_4_code 4 = .ok (.iconst 1, 1) := by decide +kernel
theorem d3_5 : decode prog_28_method_4_code 5 = .ok (.iand, 1) := by decide +kernel
theorem d3_6 : decode prog_28_method_4_code 6 = .ok (.iconst 1, 1) := by decide +kernel
theorem d3_7 : decode prog_28_method_4_code 7 = .ok (.if_icmp .ne 7, 3) := by decide +kernel
theorem d3_10 : decode prog_28_method_4_code 10 = .ok (.iconst 1, 1) := by decide +kernel
theorem d3_11 : decode prog_28_method_4_code 11 = .ok (.goto 4, 3) := by decide +kernel
theorem d3_15 : decode prog_28_method_4_code 15 = .ok (.ireturn, 1) := by decide +kernel
theorem d3_14 : decode prog_28_method_4_code 14 = .ok (.iconst 0, 1) := by decide +kernel
def f3_0 (u_number : Int32) : Option (Int32) := (if (u_number &&& (1 : Int32)) = (1 : Int32) then (some (1 : Int32)) else (some (0 : Int32)))
set_option maxRecDepth 65536 in
set_option maxHeartbeats 40000000 in
theorem b3_0 {p : Program} {l : Launch} {e : Env} {s : State} {m : MethodId} {args : Array Value} {below : List Frame} {meth : Method} {c : Code} {Z : State} {a0 : Array Value} {h0 : Heap} {n0 : Nat} (hx : p.tables.exec = Jvm.exec) (hZ : Z.Warmed39 s.vm) (hw : ∀ d ∈ tables_1, d.before a0 Z = true) (hby : c.code = prog_28_method_4_code) (hml : c.maxLocals = 1) (hown : s.vm.findClass "com/example/pocket_courier/pocketcourier/core/Option" = some m.cls) (hnm : meth.name = "isCritical") (hret : meth.sig.returnType = some .boolean) (hlk : meth.locks = false) (o0 : Addr) {T : State} {locs : List Loc} (u_number : Int32) (r : Int32) (X : Stand p l e ({ frames := 0, cells := 0, slots := 0, locals := 0 } : Room) s m args below meth c T locs 0 0) (eT : T.heap = h0) (N : Fr n0 locs) (Z0 : n0 ≤ h0.size) (E_o0 : Exa Z h0 o0 "com/example/pocket_courier/pocketcourier/core/Option") (F_o0_number : Fld Z h0 o0 "com/example/pocket_courier/pocketcourier/core/Option" "number" "I" (.int u_number)) (hr : f3_0 u_number = some r) :
    OG p e below s (fun v h L => v = (some (.int r)) ∧ Fr n0 L ∧ h = h0) 0 0 T (mkF m 0 #[.val (.ref o0)] []) := by
  have hr : (if (u_number &&& (1 : Int32)) = (1 : Int32) then (some (1 : Int32)) else (some (0 : Int32))) = some r := hr
  refine o_aload_n X hx (hb hby d3_0) rfl rfl (pc' := 1) rfl ?_
  refine o_getF X hx hZ hown eT (hw _ (List.mem_of_getElem? (i := 13) rfl)) Via.refl F_o0_number (hb hby d3_1) (pc' := 4) rfl ?_
  intro T1 X1 e1
  refine o_iconst X1 hx (hb hby d3_4) (1 : Int32) rfl (pc' := 5) rfl ?_
  refine o_iand X1 hx (hb hby d3_5) (pc' := 6) rfl ?_
  refine o_iconst X1 hx (hb hby d3_6) (1 : Int32) rfl (pc' := 7) rfl ?_
  by_cases hc2 : (u_number &&& (1 : Int32)) = (1 : Int32)
  · rw [if_pos hc2] at hr
    refine o_icmpNo X1 hx (hb hby d3_7) (c_teq hc2).2 (pc' := 10) rfl ?_
    refine o_iconst X1 hx (hb hby d3_10) (1 : Int32) rfl (pc' := 11) rfl ?_
    refine o_goto X1 hx (hb hby d3_11) (pc' := 15) (by decide) (by decide) ?_
    obtain rfl : (1 : Int32) = r := Option.some.inj hr
    exact o_retN X1 hx hlk (t := .boolean) (by simp) hret (hb hby d3_15) rfl ⟨rfl, N, e1⟩ (by decide) (by decide)
  · rw [if_neg hc2] at hr
    refine o_icmpYes X1 hx (hb hby d3_7) (c_feq hc2).2 (pc' := 14) (by decide) (by decide) ?_
    refine o_iconst X1 hx (hb hby d3_14) (0 : Int32) rfl (pc' := 15) rfl ?_
    obtain rfl : (0 : Int32) = r := Option.some.inj hr
    exact o_retN X1 hx hlk (t := .boolean) (by simp) hret (hb hby d3_15) rfl ⟨rfl, N, e1⟩ (by decide) (by decide)
theorem pn_3 : plainName "com/example/pocket_courier/pocketcourier/core/Option" = true := by first | (simp [plainName, overriddenIn]; done) | decide +kernel
theorem ef_3 (m : MethodId) (o0 : Addr) : entryFrame m #[(.ref o0)] 1 = (mkF m 0 #[.val (.ref o0)] []) := by first | (simp [entryFrame, mkF, argsToLocals, Value.category]; done) | rfl
def Qd3 (Z : State) (h0 : Heap) (n0 : Nat) (o0 : Addr) (u_number : Int32) (r : Int32) : Option Value → Heap → List Loc → Prop := (fun v h L => v = (some (.int r)) ∧ Fr n0 L ∧ h = h0)
set_option maxRecDepth 65536 in
set_option maxHeartbeats 40000000 in
theorem rm3 (l : Launch) (Z : State) (a0 : Array Value) (hw : ∀ d ∈ tables_1, d.before a0 Z = true) (ws : List Jvm.Cond) (o0 : Addr) (u_number : Int32) (h0 : Heap) (n0 : Nat) (Z0 : n0 ≤ h0.size) (E_o0 : Exa Z h0 o0 "com/example/pocket_courier/pocketcourier/core/Option") (F_o0_number : Fld Z h0 o0 "com/example/pocket_courier/pocketcourier/core/Option" "number" "I" (.int u_number)) (r : Int32) (hr : f3_0 u_number = some r) :
    MetFree l (⟨"com/example/pocket_courier/pocketcourier/core/Option", "isCritical", "()Z"⟩ : MethodName) (head1 (Jvm.Cond.code (⟨"com/example/pocket_courier/pocketcourier/core/Option", "isCritical", "()Z"⟩ : MethodName) prog_28_method_4_code 1 (some .boolean) :: ws) ({ frames := 0, cells := 0, slots := 0, locals := 0 } : Room)) (fun a U => a = #[(.ref o0)] ∧ Z.Warmed39 U.vm ∧ U.heap = h0) (fun _ _ _ _ _ => True) (fun _ U o U' => ∃ v L, o = .returned v ∧ (Qd3 Z h0 n0 o0 u_number r) v U'.heap L ∧ FrameEnd U o U' L ({ frames := 0, cells := 0, slots := 0, locals := 0 } : Room).cells ({ frames := 0, cells := 0, slots := 0, locals := 0 } : Room).slots) := by
  refine MetFree.of_bodySF (plainFor_of_name pn_3) hisR ?_
  intro p e s m args below meth c s₁ Bd hml0 hP hK
  obtain ⟨rfl, hZ, hh⟩ := hP
  have e0 : s₁.heap = h0 := by rw [← hh, Bd.state]; rfl
  exact OG.cast (ef_3 m o0) (b3_0 Bd.exec hZ hw Bd.bytes hml0 (findClass_of_methodNamed Bd.named) (name_of_methodNamed Bd.named Bd.method).1 Bd.returns Bd.notSynchronized o0 u_number r (Stand.of_body Bd) e0 (Fr.nil n0) Z0 E_o0 F_o0_number hr)
theorem pd_0 : parseMethodDescriptor "(I[B)V" = some ⟨[.int, (.array .byte)], none⟩ := by decide +kernel
theorem pd_1 : parseMethodDescriptor "()Z" = some ⟨[], some .boolean⟩ := by decide +kernel
def f0_51 (u_number_a6 : Int32) (t0 : Int32) : Option (Int32) := (Option.bind (f3_0 u_number_a6) (fun v9 => (if v9 = t0 then (some (1 : Int32)) else (some (0 : Int32)))))
set_option maxRecDepth 65536 in
set_option maxHeartbeats 40000000 in
theorem b0_51 {p : Program} {l : Launch} {e : Env} {s : State} {m : MethodId} {args : Array Value} {below : List Frame} {meth : Method} {c : Code} {Z : State} {a0 : Array Value} {n0 : Nat} (hx : p.tables.exec = Jvm.exec) (hZ : Z.Warmed39 s.vm) (hw : ∀ d ∈ tables_1, d.before a0 Z = true) (hby : c.code = code) (hml : c.maxLocals = 6) (hown : s.vm.findClass "com/example/pocket_courier/pocketcourier/core/OptionIsCriticalPinLaw" = some m.cls) (hnm : meth.name = "law") (hret : meth.sig.returnType = some .boolean) (hlk : meth.locks = false)  {T : State} {locs : List Loc} {h : Heap} (a6 : Addr) (u_number_a6 : Int32) (d0 : Int32) (d1 : Int32) (d2 : Int32) (d3 : Addr) (t0 : Int32) (r : Int32) (X : Stand p l e room_1 s m args below meth c T locs 2 5) (eT : T.heap = h) (N : Fr n0 locs) (hsz : n0 ≤ h.size) (E_a6 : Exa Z h a6 "com/example/pocket_courier/pocketcourier/core/Option") (F_a6_number : Fld Z h a6 "com/example/pocket_courier/pocketcourier/core/Option" "number" "I" (.int u_number_a6)) (g_a6 : n0 ≤ a6) (hr : f0_51 u_number_a6 t0 = some r) :
    OG p e below s (fun v h L => v = (some (.int r)) ∧ Fr n0 L) 16 128 T (mkF m 51 #[.val (.int d0), .val (.int d1), .val (.int d2), .val (.ref d3), .val (.ref a6), .unset] [(.int t0)]) := by
  have hr : (Option.bind (f3_0 u_number_a6) (fun v9 => (if v9 = t0 then (some (1 : Int32)) else (some (0 : Int32))))) = some r := hr
  refine o_istore X hx (hb hby at_51) #[.val (.int d0), .val (.int d1), .val (.int d2), .val (.ref d3), .val (.ref a6), .val (.int t0)] rfl (pc' := 53) rfl ?_
  refine o_aload X hx (hb hby at_53) rfl rfl (pc' := 55) rfl ?_
  rcases hq9 : f3_0 u_number_a6 with _ | v9
  · rw [hq9] at hr; cases hr
  rw [hq9] at hr
  dsimp only [Option.bind] at hr
  refine o_virtual X hx hZ (argsL := []) (rest := []) (a := a6) 0 hown eT (hw _ (List.mem_of_getElem? (i := 17) rfl)) (hw _ (List.mem_of_getElem? (i := 18) rfl)) (hw _ (List.mem_of_getElem? (i := 20) rfl)) (hw _ (List.mem_of_getElem? (i := 19) rfl)) (hw _ (List.mem_of_getElem? (i := 4) rfl)) (hw _ (List.mem_of_getElem? (i := 21) rfl)) (by decide) E_a6 (rm3 l Z a0 hw [] a6 u_number_a6 h n0 hsz E_a6 F_a6_number v9 hq9) (by decide) (by decide) (by rw [hml]; rfl) (lenOf pd_1 rfl) rfl (Nat.le_refl _) (hb hby at_55) (pc' := 58) rfl (by decide) (by decide) ?_
  rintro _ T9 L9 X9 ⟨rfl, N9, e9⟩
  replace X9 : Stand p l e room_1 s m args below meth c T9 (locs ++ L9) 2 5 := X9
  have M9 := Fr.app N N9
  dsimp only [Option.toList, List.cons_append, List.nil_append]
  refine o_iload X9 hx (hb hby at_58) rfl (pc' := 60) rfl ?_
  by_cases hc10 : v9 = t0
  · rw [if_pos hc10] at hr
    refine o_icmpNo X9 hx (hb hby at_60) (c_teq hc10).2 (pc' := 63) rfl ?_
    refine o_iconst X9 hx (hb hby at_63) (1 : Int32) rfl (pc' := 64) rfl ?_
    refine o_goto X9 hx (hb hby at_64) (pc' := 68) (by decide) (by decide) ?_
    obtain rfl : (1 : Int32) = r := Option.some.inj hr
    exact o_retN X9 hx hlk (t := .boolean) (by simp) hret (hb hby at_68) rfl ⟨rfl, M9⟩ (by decide) (by decide)
  · rw [if_neg hc10] at hr
    refine o_icmpYes X9 hx (hb hby at_60) (c_feq hc10).2 (pc' := 67) (by decide) (by decide) ?_
    refine o_iconst X9 hx (hb hby at_67) (0 : Int32) rfl (pc' := 68) rfl ?_
    obtain rfl : (0 : Int32) = r := Option.some.inj hr
    exact o_retN X9 hx hlk (t := .boolean) (by simp) hret (hb hby at_68) rfl ⟨rfl, M9⟩ (by decide) (by decide)
def f0_24 (c_a1 : (Nat → Int32)) (z_a1 : Int32) (x2 : Int32) : Option (Int32) := (Option.bind (f1_0 c_a1 (Int32.toNatClampNeg z_a1) x2) (fun v7 => (if (x2 - ((2 : Int32) * (x2 / (2 : Int32)))) = (1 : Int32) then (f0_51 v7 (1 : Int32)) else (f0_51 v7 (0 : Int32)))))
set_option maxRecDepth 65536 in
set_option maxHeartbeats 40000000 in
theorem b0_24 {p : Program} {l : Launch} {e : Env} {s : State} {m : MethodId} {args : Array Value} {below : List Frame} {meth : Method} {c : Code} {Z : State} {a0 : Array Value} {n0 : Nat} (hx : p.tables.exec = Jvm.exec) (hZ : Z.Warmed39 s.vm) (hw : ∀ d ∈ tables_1, d.before a0 Z = true) (hby : c.code = code) (hml : c.maxLocals = 6) (hown : s.vm.findClass "com/example/pocket_courier/pocketcourier/core/OptionIsCriticalPinLaw" = some m.cls) (hnm : meth.name = "law") (hret : meth.sig.returnType = some .boolean) (hlk : meth.locks = false)  {T : State} {locs : List Loc} {h : Heap} (a1 : Addr) (c_a1 : Nat → Int32) (z_a1 : Int32) (d0 : Int32) (d1 : Int32) (x2 : Int32) (r : Int32) (X : Stand p l e room_1 s m args below meth c T locs 1 3) (eT : T.heap = h) (N : Fr n0 locs) (hsz : n0 ≤ h.size) (A_a1 : OAr Z h a1 .byte (Int32.toNatClampNeg z_a1) (ci c_a1)) (hn_a1 : ¬ (z_a1 < 0)) (g_a1 : n0 ≤ a1) (hr : f0_24 c_a1 z_a1 x2 = some r) :
    OG p e below s (fun v h L => v = (some (.int r)) ∧ Fr n0 L) 16 128 T (mkF m 24 #[.val (.int d0), .val (.int d1), .val (.int x2), .val (.ref a1), .unset, .unset] []) := by
  have hr : (Option.bind (f1_0 c_a1 (Int32.toNatClampNeg z_a1) x2) (fun v7 => (if (x2 - ((2 : Int32) * (x2 / (2 : Int32)))) = (1 : Int32) then (f0_51 v7 (1 : Int32)) else (f0_51 v7 (0 : Int32))))) = some r := hr
  refine o_new X hx hZ hown eT (hw _ (List.mem_of_getElem? (i := 2) rfl)) (hw _ (List.mem_of_getElem? (i := 3) rfl)) (hw _ (List.mem_of_getElem? (i := 4) rfl)) (hb hby at_24) (pc' := 27) rfl (by decide) (by decide) ?_
  intro T6 h6 a6 X6 e6 q6 E6 A6 D6
  have g6 : n0 ≤ a6 := Nat.le_trans hsz (Nat.le_of_eq q6.symm)
  have ne_a1_a6 : a1 ≠ a6 := by rw [q6]; exact Nat.ne_of_lt (A_a1.lt)
  have A6_a1 := OAr.ext E6 A_a1
  have z6 : n0 ≤ h6.size := Nat.le_trans hsz E6.1
  have F6_number : Fld Z h6 a6 "com/example/pocket_courier/pocketcourier/core/Option" "number" "I" (.int (0 : Int32)) := D6 (Or.inr (hw _ (List.mem_of_getElem? (i := 14) rfl))) (ty := .int) (by decide)
  have F6_value : Fld Z h6 a6 "com/example/pocket_courier/pocketcourier/core/Option" "value" "[B" .null := D6 (Or.inr (hw _ (List.mem_of_getElem? (i := 16) rfl))) (ty := (.array .byte)) (by decide)
  refine o_dup X6 hx (hb hby at_27) rfl (pc' := 28) rfl ?_
  refine o_iload_n X6 hx (hb hby at_28) rfl (pc' := 29) rfl ?_
  refine o_aload_n X6 hx (hb hby at_29) rfl rfl (pc' := 30) rfl ?_
  rcases hq7 : f1_0 c_a1 (Int32.toNatClampNeg z_a1) x2 with _ | v7
  · rw [hq7] at hr; cases hr
  rw [hq7] at hr
  dsimp only [Option.bind] at hr
  refine o_special X6 hx hZ (argsL := [(.int x2), (.ref a1)]) (rest := [(.ref a6)]) (a := a6) 1 rfl hown e6 (hw _ (List.mem_of_getElem? (i := 5) rfl)) (hw _ (List.mem_of_getElem? (i := 6) rfl)) (hw _ (List.mem_of_getElem? (i := 4) rfl)) (hw _ (List.mem_of_getElem? (i := 7) rfl)) (by decide) (rm1 l Z a0 hw [] a6 x2 a1 (.int (0 : Int32)) .null c_a1 (Int32.toNatClampNeg z_a1) h6 n0 z6 A6 F6_number F6_value g6 A6_a1 g_a1 (Ne.symm ne_a1_a6) v7 hq7) (by decide) (by decide) (by rw [hml]; rfl) (lenOf pd_0 rfl) rfl (Nat.le_refl _) (hb hby at_30) (pc' := 33) rfl (by decide) (by decide) ?_
  rintro _ T7 L7 X7 ⟨rfl, N7, K7, B7, F7_number⟩
  replace X7 : Stand p l e room_1 s m args below meth c T7 (locs ++ L7) 2 5 := X7
  have M7 := Fr.app N N7
  dsimp only [Option.toList, List.cons_append, List.nil_append]
  have A7_a1 := OAr.keep A6_a1 K7 (by simp [ne_a1_a6])
  have A7_a6 := Exa.keep A6 K7
  have z7 : n0 ≤ T7.heap.size := Nat.le_trans z6 K7.1
  refine o_astore X7 hx (hb hby at_33) rfl #[.val (.int d0), .val (.int d1), .val (.int x2), .val (.ref a1), .val (.ref a6), .unset] rfl (pc' := 35) rfl ?_
  refine o_iload_n X7 hx (hb hby at_35) rfl (pc' := 36) rfl ?_
  refine o_iconst X7 hx (hb hby at_36) (2 : Int32) rfl (pc' := 37) rfl ?_
  refine o_iload_n X7 hx (hb hby at_37) rfl (pc' := 38) rfl ?_
  refine o_iconst X7 hx (hb hby at_38) (2 : Int32) rfl (pc' := 39) rfl ?_
  refine o_idiv X7 hx (hb hby at_39) (by decide) (pc' := 40) rfl ?_
  refine o_imul X7 hx (hb hby at_40) (pc' := 41) rfl ?_
  refine o_isub X7 hx (hb hby at_41) (pc' := 42) rfl ?_
  refine o_iconst X7 hx (hb hby at_42) (1 : Int32) rfl (pc' := 43) rfl ?_
  by_cases hc8 : (x2 - ((2 : Int32) * (x2 / (2 : Int32)))) = (1 : Int32)
  · rw [if_pos hc8] at hr
    refine o_icmpNo X7 hx (hb hby at_43) (c_teq hc8).2 (pc' := 46) rfl ?_
    refine o_iconst X7 hx (hb hby at_46) (1 : Int32) rfl (pc' := 47) rfl ?_
    refine o_goto X7 hx (hb hby at_47) (pc' := 51) (by decide) (by decide) ?_
    exact b0_51 hx hZ hw hby hml hown hnm hret hlk a6 v7 d0 d1 x2 a1 (1 : Int32) r X7 (rfl : T7.heap = T7.heap) M7 z7 B7 F7_number g6 hr
  · rw [if_neg hc8] at hr
    refine o_icmpYes X7 hx (hb hby at_43) (c_feq hc8).2 (pc' := 50) (by decide) (by decide) ?_
    refine o_iconst X7 hx (hb hby at_50) (0 : Int32) rfl (pc' := 51) rfl ?_
    exact b0_51 hx hZ hw hby hml hown hnm hret hlk a6 v7 d0 d1 x2 a1 (0 : Int32) r X7 (rfl : T7.heap = T7.heap) M7 z7 B7 F7_number g6 hr
def f0_0 (x0 : Int32) (x1 : Int32) : Option (Int32) := (if (¬ ((x1 &&& (3 : Int32)) < 0) ∧ (x1 &&& (3 : Int32)).toNatClampNeg ≤ 3) then (if (0 : Int32) < (x1 &&& (3 : Int32)) then (if (¬ ((0 : Int32) < 0) ∧ Int32.toNatClampNeg (0 : Int32) < (Int32.toNatClampNeg (x1 &&& (3 : Int32)))) then (f0_24 (upd (fun _ => 0) (Int32.toNatClampNeg (0 : Int32)) (nar .byte ((x1 >>> ((8 : Int32) &&& 31)).toInt8.toInt32))) (x1 &&& (3 : Int32)) (x0 &&& (65535 : Int32))) else none) else (f0_24 (fun _ => 0) (x1 &&& (3 : Int32)) (x0 &&& (65535 : Int32)))) else none)
set_option maxRecDepth 65536 in
set_option maxHeartbeats 40000000 in
theorem b0_0 {p : Program} {l : Launch} {e : Env} {s : State} {m : MethodId} {args : Array Value} {below : List Frame} {meth : Method} {c : Code} {Z : State} {a0 : Array Value} {n0 : Nat} (hx : p.tables.exec = Jvm.exec) (hZ : Z.Warmed39 s.vm) (hw : ∀ d ∈ tables_1, d.before a0 Z = true) (hby : c.code = code) (hml : c.maxLocals = 6) (hown : s.vm.findClass "com/example/pocket_courier/pocketcourier/core/OptionIsCriticalPinLaw" = some m.cls) (hnm : meth.name = "law") (hret : meth.sig.returnType = some .boolean) (hlk : meth.locks = false)  {T : State} {locs : List Loc} {h : Heap} (x0 : Int32) (x1 : Int32) (r : Int32) (X : Stand p l e room_1 s m args below meth c T locs 0 0) (eT : T.heap = h) (N : Fr n0 locs) (hsz : n0 ≤ h.size) (hr : f0_0 x0 x1 = some r) :
    OG p e below s (fun v h L => v = (some (.int r)) ∧ Fr n0 L) 16 128 T (mkF m 0 #[.val (.int x0), .val (.int x1), .unset, .unset, .unset, .unset] []) := by
  have hr : (if (¬ ((x1 &&& (3 : Int32)) < 0) ∧ (x1 &&& (3 : Int32)).toNatClampNeg ≤ 3) then (if (0 : Int32) < (x1 &&& (3 : Int32)) then (if (¬ ((0 : Int32) < 0) ∧ Int32.toNatClampNeg (0 : Int32) < (Int32.toNatClampNeg (x1 &&& (3 : Int32)))) then (f0_24 (upd (fun _ => 0) (Int32.toNatClampNeg (0 : Int32)) (nar .byte ((x1 >>> ((8 : Int32) &&& 31)).toInt8.toInt32))) (x1 &&& (3 : Int32)) (x0 &&& (65535 : Int32))) else none) else (f0_24 (fun _ => 0) (x1 &&& (3 : Int32)) (x0 &&& (65535 : Int32)))) else none) = some r := hr
  refine o_iload_n X hx (hb hby at_0) rfl (pc' := 1) rfl ?_
  refine o_ldcInt X hx hZ hown (hb hby at_1) (hw _ (List.mem_of_getElem? (i := 0) rfl)) (pc' := 3) rfl ?_
  refine o_iand X hx (hb hby at_3) (pc' := 4) rfl ?_
  refine o_istore_n X hx (hb hby at_4) #[.val (.int x0), .val (.int x1), .val (.int (x0 &&& (65535 : Int32))), .unset, .unset, .unset] rfl (pc' := 5) rfl ?_
  refine o_iload_n X hx (hb hby at_5) rfl (pc' := 6) rfl ?_
  refine o_iconst X hx (hb hby at_6) (3 : Int32) rfl (pc' := 7) rfl ?_
  refine o_iand X hx (hb hby at_7) (pc' := 8) rfl ?_
  by_cases hg2 : (¬ ((x1 &&& (3 : Int32)) < 0) ∧ (x1 &&& (3 : Int32)).toNatClampNeg ≤ 3)
  case neg => rw [if_neg hg2] at hr; cases hr
  rw [if_pos hg2] at hr
  refine o_newarr X hx hZ eT (hw _ (List.mem_of_getElem? (i := 1) rfl)) (hb hby at_8) (And.left hg2) 3 (And.right hg2) (by decide) (by decide) (by decide) (pc' := 10) rfl ?_
  intro T1 h1 a1 X1 e1 q1 E1 A1
  have g1 : n0 ≤ a1 := Nat.le_trans hsz (Nat.le_of_eq q1.symm)
  have z1 : n0 ≤ h1.size := Nat.le_trans hsz E1.1
  replace A1 : OAr Z h1 a1 .byte (Int32.toNatClampNeg (x1 &&& (3 : Int32))) (ci (fun _ => 0)) := A1
  refine o_astore_n X1 hx (hb hby at_10) rfl #[.val (.int x0), .val (.int x1), .val (.int (x0 &&& (65535 : Int32))), .val (.ref a1), .unset, .unset] rfl (pc' := 11) rfl ?_
  refine o_aload_n X1 hx (hb hby at_11) rfl rfl (pc' := 12) rfl ?_
  refine o_alen X1 hx hZ e1 A1 (hb hby at_12) (x1 &&& (3 : Int32)) (own_back (And.left hg2)) (pc' := 13) rfl ?_
  by_cases hc3 : (0 : Int32) < (x1 &&& (3 : Int32))
  · rw [if_pos hc3] at hr
    refine o_ifNo X1 hx (hb hby at_13) (z_tgt hc3).2 (pc' := 16) rfl ?_
    refine o_aload_n X1 hx (hb hby at_16) rfl rfl (pc' := 17) rfl ?_
    refine o_iconst X1 hx (hb hby at_17) (0 : Int32) rfl (pc' := 18) rfl ?_
    refine o_iload_n X1 hx (hb hby at_18) rfl (pc' := 19) rfl ?_
    refine o_bipush X1 hx (hb hby at_19) (8 : Int32) rfl (pc' := 21) rfl ?_
    refine o_ishr X1 hx (hb hby at_21) (pc' := 22) rfl ?_
    refine o_i2b X1 hx (hb hby at_22) (pc' := 23) rfl ?_
    by_cases hg4 : (¬ ((0 : Int32) < 0) ∧ Int32.toNatClampNeg (0 : Int32) < (Int32.toNatClampNeg (x1 &&& (3 : Int32))))
    case neg => rw [if_neg hg4] at hr; cases hr
    rw [if_pos hg4] at hr
    refine o_bastore X1 hx hZ e1 A1 (hb hby at_23) (And.left hg4) (And.right hg4) (pc' := 24) rfl ?_
    intro T5 h5 X5 e5 W5
    have A5 : OAr Z h5 a1 .byte (Int32.toNatClampNeg (x1 &&& (3 : Int32))) (ci (upd (fun _ => 0) (Int32.toNatClampNeg (0 : Int32)) (nar .byte ((x1 >>> ((8 : Int32) &&& 31)).toInt8.toInt32)))) := OAr.updI W5 A1
    have N5 := Fr.snoc X5 N g1
    have z5 : n0 ≤ h5.size := Nat.le_trans z1 (Keep.of_wr W5).1
    exact b0_24 hx hZ hw hby hml hown hnm hret hlk a1 (upd (fun _ => 0) (Int32.toNatClampNeg (0 : Int32)) (nar .byte ((x1 >>> ((8 : Int32) &&& 31)).toInt8.toInt32))) (x1 &&& (3 : Int32)) x0 x1 (x0 &&& (65535 : Int32)) r X5 e5 N5 z5 A5 (And.left hg2) g1 hr
  · rw [if_neg hc3] at hr
    refine o_ifYes X1 hx (hb hby at_13) (z_fgt hc3).2 (pc' := 24) (by decide) (by decide) ?_
    exact b0_24 hx hZ hw hby hml hown hnm hret hlk a1 (fun _ => 0) (x1 &&& (3 : Int32)) x0 x1 (x0 &&& (65535 : Int32)) r X1 e1 N z1 A1 (And.left hg2) g1 hr
theorem own_iand (x m : Int32) (k : Nat) (hm : m.toBitVec.toNat = 2 ^ k - 1) (hk : k < 31) : (x &&& m).toInt = ((x.toBitVec.toNat % 2 ^ k : Nat) : Int) := by
  have e : (x &&& m).toBitVec.toNat = x.toBitVec.toNat % 2 ^ k := by
    rw [Int32.toBitVec_and, BitVec.toNat_and, hm, Nat.and_two_pow_sub_one_eq_mod]
  have h1 : 2 ^ k ≤ 2 ^ 30 := Nat.pow_le_pow_right (by omega) (by omega)
  have h2 := Nat.mod_lt x.toBitVec.toNat (Nat.pow_pos (n := k) (show 0 < 2 by omega))
  rw [← Int32.toInt_toBitVec, BitVec.toInt_eq_toNat_cond, if_pos (by omega), e]
theorem own_ei (x y : Int32) : x = y ↔ x.toInt = y.toInt := by rw [Int32.toInt_inj]
theorem own_toNat32 {x : Int32} (h : 0 ≤ x.toInt) : x.toInt = x.toBitVec.toNat := by
  rw [← Int32.toInt_toBitVec] at *
  rw [BitVec.toInt_eq_toNat_cond] at *
  have := x.toBitVec.isLt
  split at h <;> rename_i q
  · rw [if_pos q]
  · omega
theorem own_and1 (y : Int32) (h : 0 ≤ y.toInt) : (y &&& (1 : Int32)).toInt = y.toInt % 2 := by
  rw [own_iand y 1 1 rfl (by omega), own_toNat32 h]; omega
theorem own_24 (c : Nat → Int32) (z x : Int32) (hx : 0 ≤ x.toInt) (hx2 : x.toInt ≤ 65535) (hz : 0 ≤ z.toInt) (hz2 : z.toInt ≤ 3) : f0_24 c z x = some 1 := by
  have k0 : (0 : Int32).toInt = 0 := rfl
  have k1 : (1 : Int32).toInt = 1 := rfl
  have k2 : (65535 : Int32).toInt = 65535 := rfl
  have k3 : (65804 : Int32).toInt = 65804 := rfl
  have e1 : (Nat.toInt32 (Int32.toNatClampNeg z)).toInt = z.toInt := by
    show (Int32.ofNat z.toInt.toNat).toInt = _
    rw [Int32.toInt_ofNat_of_lt (by omega)]; omega
  have e2 : f1_0 c (Int32.toNatClampNeg z) x = some x := by
    unfold f1_0
    rw [if_pos (by rw [Int32.lt_iff_toInt_lt, k0]; omega), if_pos (by rw [Int32.lt_iff_toInt_lt, k2]; omega), if_pos (by rw [Int32.lt_iff_toInt_lt, k3]; omega)]
  have e3 : (x / 2).toInt = x.toInt / 2 := by
    rw [Int32.toInt_div_of_ne_right _ _ (by decide), show (2 : Int32).toInt = 2 from rfl, Int.tdiv_eq_ediv_of_nonneg hx]
  have e4 : (2 * (x / 2)).toInt = 2 * (x.toInt / 2) := by
    rw [Int32.toInt_mul, e3, show (2 : Int32).toInt = 2 from rfl, Int.bmod_def]; omega
  have e5 : (x - 2 * (x / 2)).toInt = x.toInt % 2 := by
    rw [Int32.toInt_sub, e4, Int.bmod_def]; omega
  have e6 := own_and1 x hx
  have e7 : (x - 2 * (x / 2) = 1) ↔ (x &&& 1 = 1) := by rw [own_ei, own_ei, e5, e6]
  unfold f0_24
  rw [e2]
  unfold f0_51 f3_0
  dsimp only [Option.bind]
  simp only [e7]
  by_cases q : x &&& 1 = 1
  · simp [q]
  · simp [q]
theorem law_true (x0 x1 : Int32) : f0_0 x0 x1 = some 1 := by
  have a := own_iand x0 65535 16 rfl (by omega)
  have b := own_iand x1 3 2 rfl (by omega)
  have k0 : (0 : Int32).toInt = 0 := rfl
  have h24 (c : Nat → Int32) : f0_24 c (x1 &&& 3) (x0 &&& 65535) = some 1 := own_24 _ _ _ (by omega) (by omega) (by omega) (by omega)
  unfold f0_0
  rw [if_pos ⟨by rw [Int32.lt_iff_toInt_lt, k0]; omega, by show (x1 &&& 3).toInt.toNat ≤ 3; omega⟩]
  split
  · rename_i h
    rw [Int32.lt_iff_toInt_lt, k0] at h
    rw [if_pos ⟨by decide, by show 0 < (x1 &&& 3).toInt.toNat; omega⟩, h24]
  · rw [h24]

theorem pn_0 : plainName "com/example/pocket_courier/pocketcourier/core/OptionIsCriticalPinLaw" = true := by first | (simp [plainName, overriddenIn]; done) | decide +kernel
theorem ef_0 (m : MethodId) (x0 : Int32) (x1 : Int32) : entryFrame m #[(.int x0), (.int x1)] maxLocals = (mkF m 0 #[.val (.int x0), .val (.int x1), .unset, .unset, .unset, .unset] []) := by first | (simp [entryFrame, mkF, argsToLocals, Value.category, maxLocals]; done) | rfl
def Qd0 (Z : State) (h0 : Heap) (n0 : Nat) (x0 : Int32) (x1 : Int32) : Option Value → Heap → List Loc → Prop := (fun v h L => v = (some (.int (1 : Int32))) ∧ Fr n0 L)
set_option maxRecDepth 65536 in
set_option maxHeartbeats 40000000 in
theorem rm0 (l : Launch) (Z : State) (a0 : Array Value) (hw : ∀ d ∈ tables_1, d.before a0 Z = true) (ws : List Jvm.Cond) (x0 : Int32) (x1 : Int32) (h0 : Heap) (n0 : Nat) (Z0 : n0 ≤ h0.size) :
    MetFree l x (head1 (Jvm.Cond.code x code maxLocals ret :: ws) room_1) (fun a U => a = #[(.int x0), (.int x1)] ∧ Z.Warmed39 U.vm ∧ U.heap = h0) (fun _ _ _ _ _ => True) (fun _ U o U' => ∃ v L, o = .returned v ∧ (Qd0 Z h0 n0 x0 x1) v U'.heap L ∧ FrameEnd U o U' L room_1.cells room_1.slots) := by
  refine MetFree.of_bodySF (plainFor_of_name pn_0) hisR ?_
  intro p e s m args below meth c s₁ Bd hml0 hP hK
  obtain ⟨rfl, hZ, hh⟩ := hP
  have e0 : s₁.heap = h0 := by rw [← hh, Bd.state]; rfl
  exact OG.cast (ef_0 m x0 x1) (b0_0 Bd.exec hZ hw Bd.bytes hml0 (findClass_of_methodNamed Bd.named) (name_of_methodNamed Bd.named Bd.method).1 Bd.returns Bd.notSynchronized x0 x1 (1 : Int32) (Stand.of_body Bd) e0 (Fr.nil n0) Z0 (law_true _ _))
set_option maxRecDepth 65536 in
set_option maxHeartbeats 40000000 in
theorem comes_1 {Post : Tables → Env → Array Value → State → Outcome → State → Prop} (hpost : ∀ tb e args s v u, (limb_1_1.after args s (.returned v) u = true ∧ limb_1_2.after args s (.returned v) u = true ∧ True) → FrameEnd s (.returned v) u (Jvm.fieldLocs frame_1_writes args s ++ Jvm.arrayLocs frame_1_arrays args s ++ Jvm.staticLocs frame_1_statics s) 16 128 → Post tb e args s (.returned v) u) :
    ArmFor flags0 classFile x code maxLocals ret World_1 tables_1 room_1 Calls_1 rest_1 Pre_1 Post := by
  intro l hfl _ _ p e ha hc hk s m args below hf hA hF happ hP
  obtain ⟨hcalls, hrest, hpre⟩ := hP
  obtain ⟨-, -, -, hnamed, -, -, -, hat⟩ := (Spec.applies_iff hf).mp happ
  obtain ⟨hg, hn⟩ := and_e (Cond.before_iff.mp (show (Jvm.Cond.and given_1 narrow_1).before args s = true from hpre))
  obtain ⟨g0, r0⟩ := and_e hg
  obtain ⟨g1, r1⟩ := and_e r0
  obtain ⟨w0, w1, rfl⟩ : ∃ w0 w1 : Value, args = #[w0, w1] := by
    have hs : args.size = 2 := by simpa [Cond.value, given_1] using g0
    obtain ⟨L⟩ := args
    match L, hs with
    | [w0, w1], _ => exact ⟨w0, w1, rfl⟩
  have hw := fun d (hd : d ∈ tables_1) => atoms_spec (ws := Jvm.Cond.code x code maxLocals ret :: tables_1) hat d (List.mem_cons_of_mem _ hd)
  obtain ⟨i0, ei0⟩ := is_v g1
  obtain rfl : w0 = (.int i0) := Option.some.inj ei0
  obtain ⟨i1, ei1⟩ := is_v r1
  obtain rfl : w1 = (.int i1) := Option.some.inj ei1
  obtain ⟨n, o, h1, h2, h3, _, L, rfl, ⟨rfl, N⟩, hq⟩ := rm0 l s _ hw tables_1 i0 i1 s.heap s.heap.size (Nat.le_refl _) p e ha hc hk s m _ below hf ((Spec.applies_iff_loose hf).mp happ).1 ⟨rfl, State.Warmed39.refl s, rfl⟩ trivial
  exact ⟨n, _, h1, h2, h3, hpost _ _ _ _ _ _ ⟨Cond.after_iff.mpr rfl, Cond.after_iff.mpr (eq_i res_at (Term.int_eval (1)) rfl), trivial⟩ ⟨hq.1, hq.2.1, (hq.2.2.sift fun y hy => Or.inr (N y hy)).mono (by decide) (by decide)⟩⟩
theorem main_1_1 : Claimed_1_1 := comes_1 fun _ _ _ _ _ _ h hF => ⟨h.1, hF⟩
theorem main_1_2 : Claimed_1_2 := comes_1 fun _ _ _ _ _ _ h hF => ⟨h.2.1, hF⟩
end Jvm.Pilot.@@N@@
namespace Jvm.Pilot.@@N@@
open Jvm Jvm.ClassFile Sem Op Lib Jvm.Free Jvm.Stand Jvm.Pilot.@@N@@.Jvm.D
/-! MADE BY PROGRAM (witnessworld.py) out of the Statement's table words and the real class files: 9 classes; the members and pool entries that the words name. The judged class is class 1, her method 1. -/
namespace start1
open Jvm.ClassFile
def u (s : String) : CpInfo := .utf8 (stringToUtf16 s)
/-- a pool by its gaps: so many unusable entries, then the entry; so many at the end -/
def gap : Nat → List CpInfo → List CpInfo
  | 0, r => r
  | n + 1, r => .unusable :: gap n r
def poolList (es : List (Nat × CpInfo)) (last : Nat) : List CpInfo := es.foldr (fun e r => gap e.1 (e.2 :: r)) (gap last [])
def pool (es : List (Nat × CpInfo)) (last : Nat) : Array CpInfo := ⟨poolList es last⟩
def fileOf (pool : Array CpInfo) (this : Nat) (attrs : Array Attribute := #[]) (ms : Array MethodInfo := #[]) (fl : Nat := 33) (sup : Nat := 0) (ifs : Array Nat := #[]) (fds : Array FieldInfo := #[]) : ClassFile where
  minorVersion := 0
  majorVersion := 65
  constantPool := pool
  accessFlags := fl
  thisClass := this
  superClass := sup
  interfaces := ifs
  fields := fds
  methods := ms
  attributes := attrs
def plain (name : String) (sup : Option ClassId) : Class where
  name := name
  kind := .ordinary
  loader := none
  accessFlags := 33
  super := sup
  interfaces := #[]
  cf := none
  fields := #[]
  methods := #[]
  instanceTypes := #[]
  staticTypes := #[]
  resolved := #[]
  callSites := []
  init := .initialized
  statics := none
  mirror := none

def pool0 : Array CpInfo := pool [(5, u "<init>"), (0, u "()V"), (1, .class_ 10), (1, u "java/lang/Object")] 113

def k0c0 : Code := { maxStack := 0, maxLocals := 1, code := object_method_1_code, exceptionTable := #[], attributes := #[] }
def k0m0 : Method := { name := "<init>", desc := "()V", sig := { parameters := [], returnType := none }, accessFlags := 1, code := some k0c0 }
/-- java/lang/Object -/
def k0 : Class := { plain "java/lang/Object" none with
  accessFlags := 33
  interfaces := #[]
  cf := some (fileOf pool0 8 #[] #[{ accessFlags := 1, nameIndex := 5, descriptorIndex := 6, attributes := #[] }] 33 0 #[] #[])
  fields := #[]
  methods := #[k0m0]
  instanceTypes := #[]
  staticTypes := #[]
  resolved := Array.replicate 124 none
  statics := none }

def pool1 : Array CpInfo := pool [(2, .class_ 4), (1, u "java/lang/Object"), (0, u "<init>"), (0, u "()V"), (0, .integer 65535), (0, .class_ 9), (0, u "com/example/pocket_courier/pocketcourier/core/Option"), (0, .methodref 8 11), (0, .nameAndType 5 12), (0, u "(I[B)V"), (0, .methodref 8 14), (0, .nameAndType 15 16), (0, u "isCritical"), (0, u "()Z"), (0, .class_ 18), (0, u "com/example/pocket_courier/pocketcourier/core/OptionIsCriticalPinLaw"), (2, u "law"), (0, u "(II)Z")] 5

def k1m0 : Method := { name := "<init>", desc := "()V", sig := { parameters := [], returnType := none }, accessFlags := 1, code := none }
def k1c1 : Code := { maxStack := 4, maxLocals := 6, code := code, exceptionTable := #[], attributes := #[] }
def k1m1 : Method := { name := "law", desc := "(II)Z", sig := { parameters := [.int, .int], returnType := some .boolean }, accessFlags := 9, code := some k1c1 }
/-- com/example/pocket_courier/pocketcourier/core/OptionIsCriticalPinLaw -/
def k1 : Class := { plain "com/example/pocket_courier/pocketcourier/core/OptionIsCriticalPinLaw" (some 0) with
  accessFlags := 49
  interfaces := #[]
  cf := some (fileOf pool1 17 #[] #[{ accessFlags := 1, nameIndex := 5, descriptorIndex := 6, attributes := #[] }, { accessFlags := 9, nameIndex := 21, descriptorIndex := 22, attributes := #[] }] 49 2 #[] #[])
  fields := #[]
  methods := #[k1m0, k1m1]
  instanceTypes := #[]
  staticTypes := #[]
  resolved := Array.replicate 28 none
  statics := none }

def pool2 : Array CpInfo := pool [(1, .methodref 2 3), (0, .class_ 4), (0, .nameAndType 5 6), (0, u "java/lang/Object"), (0, u "<init>"), (0, u "()V"), (0, .class_ 8), (0, u "com/example/pocket_courier/pocketcourier/core/Option"), (0, .integer 65535), (9, .integer 65804), (1, .fieldref 7 22), (0, .nameAndType 23 24), (0, u "number"), (0, u "I"), (0, .fieldref 7 26), (0, .nameAndType 27 28), (0, u "value"), (0, u "[B"), (11, u "(I[B)V"), (13, u "URI_HOST"), (2, u "URI_PORT"), (1, u "URI_PATH"), (1, u "URI_QUERY"), (1, u "ETAG"), (1, u "OBSERVE"), (1, u "CONTENT_FORMAT"), (1, u "MAX_CONTENT_FORMAT_LENGTH"), (1, u "MAX_AGE"), (1, u "ACCEPT"), (1, u "BLOCK2"), (1, u "BLOCK1"), (1, u "SIZE2"), (1, u "SIZE1"), (1, u "PROXY_URI"), (1, u "PROXY_SCHEME"), (1, u "MAX_NUMBER"), (0, u "MAX_LENGTH"), (0, u "MAX_UINT_LENGTH"), (8, u "isCritical"), (0, u "()Z")] 30

def k2c0 : Code := { maxStack := 3, maxLocals := 3, code := prog_28_method_1_code, exceptionTable := #[], attributes := #[] }
def k2m0 : Method := { name := "<init>", desc := "(I[B)V", sig := { parameters := [.int, (.array .byte)], returnType := none }, accessFlags := 1, code := some k2c0 }
def k2c1 : Code := { maxStack := 2, maxLocals := 1, code := prog_28_method_4_code, exceptionTable := #[], attributes := #[] }
def k2m1 : Method := { name := "isCritical", desc := "()Z", sig := { parameters := [], returnType := some .boolean }, accessFlags := 1, code := some k2c1 }
/-- com/example/pocket_courier/pocketcourier/core/Option -/
def k2 : Class := { plain "com/example/pocket_courier/pocketcourier/core/Option" (some 0) with
  accessFlags := 49
  interfaces := #[]
  cf := some (fileOf pool2 7 #[] #[{ accessFlags := 1, nameIndex := 5, descriptorIndex := 40, attributes := #[] }, { accessFlags := 1, nameIndex := 98, descriptorIndex := 99, attributes := #[] }] 49 2 #[] #[{ accessFlags := 25, nameIndex := 54, descriptorIndex := 24, attributes := #[] }, { accessFlags := 25, nameIndex := 57, descriptorIndex := 24, attributes := #[] }, { accessFlags := 25, nameIndex := 59, descriptorIndex := 24, attributes := #[] }, { accessFlags := 25, nameIndex := 61, descriptorIndex := 24, attributes := #[] }, { accessFlags := 25, nameIndex := 63, descriptorIndex := 24, attributes := #[] }, { accessFlags := 25, nameIndex := 65, descriptorIndex := 24, attributes := #[] }, { accessFlags := 25, nameIndex := 67, descriptorIndex := 24, attributes := #[] }, { accessFlags := 25, nameIndex := 69, descriptorIndex := 24, attributes := #[] }, { accessFlags := 25, nameIndex := 71, descriptorIndex := 24, attributes := #[] }, { accessFlags := 25, nameIndex := 73, descriptorIndex := 24, attributes := #[] }, { accessFlags := 25, nameIndex := 75, descriptorIndex := 24, attributes := #[] }, { accessFlags := 25, nameIndex := 77, descriptorIndex := 24, attributes := #[] }, { accessFlags := 25, nameIndex := 79, descriptorIndex := 24, attributes := #[] }, { accessFlags := 25, nameIndex := 81, descriptorIndex := 24, attributes := #[] }, { accessFlags := 25, nameIndex := 83, descriptorIndex := 24, attributes := #[] }, { accessFlags := 25, nameIndex := 85, descriptorIndex := 24, attributes := #[] }, { accessFlags := 25, nameIndex := 87, descriptorIndex := 24, attributes := #[] }, { accessFlags := 25, nameIndex := 88, descriptorIndex := 24, attributes := #[] }, { accessFlags := 26, nameIndex := 89, descriptorIndex := 24, attributes := #[] }, { accessFlags := 18, nameIndex := 23, descriptorIndex := 24, attributes := #[] }, { accessFlags := 18, nameIndex := 27, descriptorIndex := 28, attributes := #[] }])
  fields := #[{ name := "URI_HOST", type := .int, accessFlags := 25, slot := 0, constantValue := 0 }, { name := "URI_PORT", type := .int, accessFlags := 25, slot := 1, constantValue := 0 }, { name := "URI_PATH", type := .int, accessFlags := 25, slot := 2, constantValue := 0 }, { name := "URI_QUERY", type := .int, accessFlags := 25, slot := 3, constantValue := 0 }, { name := "ETAG", type := .int, accessFlags := 25, slot := 4, constantValue := 0 }, { name := "OBSERVE", type := .int, accessFlags := 25, slot := 5, constantValue := 0 }, { name := "CONTENT_FORMAT", type := .int, accessFlags := 25, slot := 6, constantValue := 0 }, { name := "MAX_CONTENT_FORMAT_LENGTH", type := .int, accessFlags := 25, slot := 7, constantValue := 0 }, { name := "MAX_AGE", type := .int, accessFlags := 25, slot := 8, constantValue := 0 }, { name := "ACCEPT", type := .int, accessFlags := 25, slot := 9, constantValue := 0 }, { name := "BLOCK2", type := .int, accessFlags := 25, slot := 10, constantValue := 0 }, { name := "BLOCK1", type := .int, accessFlags := 25, slot := 11, constantValue := 0 }, { name := "SIZE2", type := .int, accessFlags := 25, slot := 12, constantValue := 0 }, { name := "SIZE1", type := .int, accessFlags := 25, slot := 13, constantValue := 0 }, { name := "PROXY_URI", type := .int, accessFlags := 25, slot := 14, constantValue := 0 }, { name := "PROXY_SCHEME", type := .int, accessFlags := 25, slot := 15, constantValue := 0 }, { name := "MAX_NUMBER", type := .int, accessFlags := 25, slot := 16, constantValue := 0 }, { name := "MAX_LENGTH", type := .int, accessFlags := 25, slot := 17, constantValue := 0 }, { name := "MAX_UINT_LENGTH", type := .int, accessFlags := 26, slot := 18, constantValue := 0 }, { name := "number", type := .int, accessFlags := 18, slot := 0, constantValue := 0 }, { name := "value", type := (.array .byte), accessFlags := 18, slot := 1, constantValue := 0 }]
  methods := #[k2m0, k2m1]
  instanceTypes := #[.int, (.array .byte)]
  staticTypes := #[.int, .int, .int, .int, .int, .int, .int, .int, .int, .int, .int, .int, .int, .int, .int, .int, .int, .int, .int]
  resolved := Array.replicate 130 none
  statics := none }

def pool3 : Array CpInfo := pool [(1, u "java/lang/Cloneable"), (0, .class_ 1), (0, u "java/lang/Object"), (0, .class_ 3)] 3

/-- java/lang/Cloneable -/
def k3 : Class := { plain "java/lang/Cloneable" (some 0) with
  accessFlags := 1537
  interfaces := #[]
  cf := some (fileOf pool3 2 #[] #[] 1537 4 #[] #[])
  fields := #[]
  methods := #[]
  instanceTypes := #[]
  staticTypes := #[]
  resolved := Array.replicate 8 none
  statics := none }

def pool4 : Array CpInfo := pool [(1, u "java/io/Serializable"), (0, .class_ 1), (0, u "java/lang/Object"), (0, .class_ 3)] 3

/-- java/io/Serializable -/
def k4 : Class := { plain "java/io/Serializable" (some 0) with
  accessFlags := 1537
  interfaces := #[]
  cf := some (fileOf pool4 2 #[] #[] 1537 4 #[] #[])
  fields := #[]
  methods := #[]
  instanceTypes := #[]
  staticTypes := #[]
  resolved := Array.replicate 8 none
  statics := none }

/-- the primitive byte -/
def k5 : Class := { plain "byte" none with kind := .primitive 'B', accessFlags := 0x411 }
/-- [B -/
def k6 : Class := { plain "[B" (some 0) with kind := .array 5 .byte, interfaces := #[3, 4], accessFlags := 1041 }

/-- the primitive int -/
def k7 : Class := { plain "int" none with kind := .primitive 'I', accessFlags := 0x411 }
/-- [I -/
def k8 : Class := { plain "[I" (some 0) with kind := .array 7 .int, interfaces := #[3, 4], accessFlags := 1041 }

def heap : Heap := #[]
def classes : Array Class := #[k0, k1, k2, k3, k4, k5, k6, k7, k8]
def interned : List (Array UInt16 × Addr) := []
def slotsUsed : Nat := 0
def theMethod : MethodId := ⟨1, 1⟩
def args0 : Array Value := #[.int 5, .int 7]
def aboutOver (below : List Frame) : State where
  vm := { classes := classes, interned := interned.toArray }
  heap := heap
  slotsUsed := slotsUsed
  threads := #[{ frames := .invoking theMethod args0 :: below }]
def below0 : List Frame := [.native { method := ⟨0, 0⟩, args := #[] }]
def about1 : State := aboutOver below0
def p0 : Program := .bare "" "" ""
def e0 : Env := launch0.env 0 0 0
theorem w_frames : about1.frames = Frame.invoking theMethod args0 :: below0 := rfl
set_option maxRecDepth 65536 in
theorem w_args : argsFit about1.vm theMethod args0 = true := by decide +kernel
set_option maxRecDepth 65536 in
theorem w_heap : heapFits about1 = true := by decide +kernel
set_option maxRecDepth 65536 in
theorem w_runnable : about1.curStatus? = some .runnable := by decide +kernel
set_option maxRecDepth 65536 in
theorem w_alone : about1.alone = true := by decide +kernel
set_option maxRecDepth 65536 in
theorem w_named : about1.methodNamed? x = some theMethod := by decide +kernel
set_option maxRecDepth 65536 in
theorem w_hears : about1.hears theMethod below0 = true := by decide +kernel
set_option maxRecDepth 65536 in
theorem w_ripe : about1.ripe theMethod args0 below0 = true := by decide +kernel
theorem w_running : about1.status = .running := rfl
set_option maxRecDepth 65536 in
theorem w_room : about1.hasRoom e0.platform room_1 = true :=
  launch0.hasRoom_least _ room_1 (by decide +kernel) (by decide +kernel) (by decide +kernel) (by decide +kernel) (by decide +kernel) (by decide +kernel)
theorem allAtoms_all (ts : List Jvm.Cond) (a : Array Jvm.Value) (st : Jvm.State) : (allAtoms ts).before a st = ts.all (fun c => c.before a st) := by
  induction ts with
  | nil => rfl
  | cons c t ih =>
    show (Jvm.Cond.and c (allAtoms t)).before a st = _
    rw [Jvm.Cond.before_and, ih, List.all_cons]
def words1 : List Jvm.Cond := Jvm.Cond.code x code maxLocals ret :: tables_1
/-- a 'code' word, met by the world's own term for the bytes: nothing is compared byte by byte -/
theorem code_word {y : MethodName} {bytes : ByteArray} {mx : Nat} {rt : Option FieldType} {a : Array Value} {s : State} {m : MethodId} {meth : Method} {c : Code} (h1 : s.methodNamed? y = some m) (h2 : s.vm.method? m = some meth) (h3 : meth.code = some c) (h4 : c.code = bytes)
    (h5 : (c.maxLocals == mx && c.exceptionTable.isEmpty && decide (c.maxStack ≤ mostOperands) && decide (meth.sig.returnType = rt) && !meth.locks && decide (parseMethodDescriptor y.desc = some meth.sig)) = true) : (Jvm.Cond.code y bytes mx rt).before a s = true := by
  simp only [Bool.and_eq_true, beq_iff_eq, Bool.not_eq_true', decide_eq_true_eq] at h5
  obtain ⟨⟨⟨⟨⟨g1, g2⟩, g3⟩, g4⟩, g5⟩, g6⟩ := h5
  simp [Cond.before, Cond.holds, Cond.value, h1, h2, h3, h4, g1, g2, g3, g4, g5, g6]
def isCode : Jvm.Cond → Bool
  | .code _ _ _ _ => true
  | _ => false
theorem all_split {L : List Jvm.Cond} {P : Jvm.Cond → Bool} (h1 : L.all (fun c => isCode c || P c) = true) (h2 : ∀ c ∈ L.filter isCode, P c = true) : L.all P = true := by
  refine List.all_eq_true.mpr fun c hc => ?_
  have h := List.all_eq_true.mp h1 c hc
  rcases Bool.eq_false_or_eq_true (isCode c) with hi | hi
  · exact h2 c (List.mem_filter.mpr ⟨hc, hi⟩)
  · simpa [hi] using h
set_option maxRecDepth 65536 in
theorem w_c0 : (Jvm.Cond.code x code maxLocals ret).before args0 about1 = true := code_word (m := ⟨1, 1⟩) (meth := k1m1) (c := k1c1) (by decide +kernel) rfl rfl rfl (by decide +kernel)
set_option maxRecDepth 65536 in
theorem w_c1 : (Jvm.Cond.code ({ cls := "com/example/pocket_courier/pocketcourier/core/Option", name := "<init>", desc := "(I[B)V" } : Jvm.MethodName) prog_28_method_1_code (3 : Nat) (Option.none : Option Jvm.ClassFile.FieldType)).before args0 about1 = true := code_word (m := ⟨2, 0⟩) (meth := k2m0) (c := k2c0) (by decide +kernel) rfl rfl rfl (by decide +kernel)
set_option maxRecDepth 65536 in
theorem w_c2 : (Jvm.Cond.code ({ cls := "java/lang/Object", name := "<init>", desc := "()V" } : Jvm.MethodName) object_method_1_code (1 : Nat) (Option.none : Option Jvm.ClassFile.FieldType)).before args0 about1 = true := code_word (m := ⟨0, 0⟩) (meth := k0m0) (c := k0c0) (by decide +kernel) rfl rfl rfl (by decide +kernel)
set_option maxRecDepth 65536 in
theorem w_c3 : (Jvm.Cond.code ({ cls := "com/example/pocket_courier/pocketcourier/core/Option", name := "isCritical", desc := "()Z" } : Jvm.MethodName) prog_28_method_4_code (1 : Nat) (Option.some Jvm.ClassFile.FieldType.boolean)).before args0 about1 = true := code_word (m := ⟨2, 1⟩) (meth := k2m1) (c := k2c1) (by decide +kernel) rfl rfl rfl (by decide +kernel)
def codes1 : List Jvm.Cond := [Jvm.Cond.code x code maxLocals ret, Jvm.Cond.code ({ cls := "com/example/pocket_courier/pocketcourier/core/Option", name := "<init>", desc := "(I[B)V" } : Jvm.MethodName) prog_28_method_1_code (3 : Nat) (Option.none : Option Jvm.ClassFile.FieldType), Jvm.Cond.code ({ cls := "java/lang/Object", name := "<init>", desc := "()V" } : Jvm.MethodName) object_method_1_code (1 : Nat) (Option.none : Option Jvm.ClassFile.FieldType), Jvm.Cond.code ({ cls := "com/example/pocket_courier/pocketcourier/core/Option", name := "isCritical", desc := "()Z" } : Jvm.MethodName) prog_28_method_4_code (1 : Nat) (Option.some Jvm.ClassFile.FieldType.boolean)]
set_option maxRecDepth 65536 in
theorem codes_eq : words1.filter isCode = codes1 := rfl
theorem w_codes : ∀ c ∈ words1.filter isCode, c.before args0 about1 = true := by
  rw [codes_eq]
  intro c hc
  simp only [codes1, List.mem_cons, List.not_mem_nil, or_false] at hc
  rcases hc with rfl | rfl | rfl | rfl
  · exact w_c0
  · exact w_c1
  · exact w_c2
  · exact w_c3
set_option maxRecDepth 65536 in
theorem w_t1 : words1.all (fun c => isCode c || c.before args0 about1) = true := by decide +kernel
theorem w_tables : (allAtoms (Jvm.Cond.code x code maxLocals ret :: tables_1)).before args0 about1 = true := by
  rw [allAtoms_all]
  show words1.all (fun c => c.before args0 about1) = true
  refine all_split ?_ w_codes
  rw [w_t1]
set_option maxRecDepth 65536 in
theorem w_case : (Jvm.Cond.and given_1 narrow_1).before args0 about1 = true := by decide +kernel
theorem w_applies : (headSpec (Jvm.Cond.code x code maxLocals ret :: tables_1) room_1).applies x e0.platform about1 = true :=
  (Spec.applies_iff w_frames).mpr ⟨w_running, w_runnable, w_alone, w_named, w_hears, w_ripe, w_room, w_tables⟩
theorem atStart : AtStart classFile x code maxLocals ret World_1 tables_1 room_1 Calls_1 rest_1 Pre_1 launch0 p0 e0 about1 theMethod args0 below0 :=
  ⟨lists_1, trivial, launch0.admits_env _ _ _, launch0.least_env, fairChoices_fair.cas, fairChoices_fair.clock, w_frames, w_args, w_heap, w_applies, trivial, trivial, w_case⟩
end start1
theorem witness_1 : WitnessClaimed_1 := ⟨start1.p0, start1.e0, start1.about1, start1.theMethod, start1.args0, start1.below0, start1.atStart⟩
end Jvm.Pilot.@@N@@
