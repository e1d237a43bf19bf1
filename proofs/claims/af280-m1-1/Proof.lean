import JvmDerived
import JvmDerived.Pilot.@@N@@Statement
import JvmDerived.Pilot.@@N@@Code
set_option linter.unusedVariables false
set_option linter.unusedSimpArgs false
namespace Jvm.RoadKit
open Sem ClassFile Op Lib Jvm.Stand Jvm.Free Jvm.LawKit
section New
variable {p : Program} {l : Launch} {e : Env} {R : Room} {s : State} {m : MethodId} {args : Array Value} {below : List Frame} {meth : Method} {c : Code} {T : State} {locs : List Loc} {cells slots : Nat}
theorem retI (X : Stand p l e R s m args below meth c T locs cells slots) (hx : p.tables.exec = Jvm.exec) {pc : Nat} {Ls : Array Slot} {z : Int32} {rest : List Value} (hret : meth.sig.returnType = some .int) (hd : decode c.code pc = .ok (.ireturn, 1)) {fs : List Frame}
    (hl : ∀ (f : JFrame) (acts : List Action), f.method = m → f.locked = none → f.entered = [] → (doReturn e (T.setTop f) acts (some (.int z))).1 = T.setFrames fs) : Steps p.tables e below (T.setTop (mkF m pc Ls (.int z :: rest))) (T.setFrames fs) := by
  have hm' : T.vm.method? m = some meth := X.method'
  have hn : narrow .int (.int z) = .int z := rfl
  show Steps p.tables e below (T.setTop { method := m, pc := pc, locals := Ls, stack := _ :: rest, locked := none }) _
  jvm_step X.here [X.here.top, hx, hd, hm', hret, hn]
  first | (intro acts; rw [hl _ acts rfl rfl rfl]) | rw [hl _ _ rfl rfl rfl]
  exact Steps.refl _
theorem retJ (X : Stand p l e R s m args below meth c T locs cells slots) (hx : p.tables.exec = Jvm.exec) {pc : Nat} {Ls : Array Slot} {z : Int64} {rest : List Value} (hret : meth.sig.returnType = some .long) (hd : decode c.code pc = .ok (.lreturn, 1)) {fs : List Frame}
    (hl : ∀ (f : JFrame) (acts : List Action), f.method = m → f.locked = none → f.entered = [] → (doReturn e (T.setTop f) acts (some (.long z))).1 = T.setFrames fs) : Steps p.tables e below (T.setTop (mkF m pc Ls (.long z :: rest))) (T.setFrames fs) := by
  have hm' : T.vm.method? m = some meth := X.method'
  have hn : narrow .long (.long z) = .long z := rfl
  show Steps p.tables e below (T.setTop { method := m, pc := pc, locals := Ls, stack := _ :: rest, locked := none }) _
  jvm_step X.here [X.here.top, hx, hd, hm', hret, hn]
  first | (intro acts; rw [hl _ acts rfl rfl rfl]) | rw [hl _ _ rfl rfl rfl]
  exact Steps.refl _
end New
end Jvm.RoadKit
namespace Jvm.Pilot.@@N@@
open Jvm Jvm.ClassFile Sem Op Lib Jvm.Free Jvm.Stand Jvm.LawKit Jvm.RoadKit Bundle Jvm.Pilot.@@N@@.Jvm.D
section Own
variable {p : Program} {l : Launch} {e : Env} {R : Room} {s : State} {m : MethodId} {args : Array Value} {below : List Frame} {meth : Method} {c : Code} {T : State} {locs : List Loc} {cells slots : Nat} {Q : Option Value → Heap → List Loc → Prop} {kc ks : Nat}
/-- from this frame the walk goes to its end, with Q -/
def OG (p : Program) (e : Env) (below : List Frame) (s : State) (Q : Option Value → Heap → List Loc → Prop) (kc ks : Nat) (T : State) (g : JFrame) : Prop :=
  ∃ s₂ o, Steps p.tables e below (T.setTop g) s₂ ∧ s₂.status = .running ∧ Ended s₂ below o ∧ ∃ v L, o = .returned v ∧ Q v s₂.heap L ∧ FrameEnd s o s₂ L kc ks
theorem OG.step {T' : State} {g g' : JFrame} (st : ∀ t, Steps p.tables e below (T'.setTop g') t → Steps p.tables e below (T.setTop g) t) (h : OG p e below s Q kc ks T' g') : OG p e below s Q kc ks T g := by
  obtain ⟨s₂, o, h1, h2⟩ := h
  exact ⟨s₂, o, st _ h1, h2⟩
theorem OG.cast {g g' : JFrame} (q : g = g') (h : OG p e below s Q kc ks T g') : OG p e below s Q kc ks T g := q ▸ h
theorem OG.mono {Q' : Option Value → Heap → List Loc → Prop} {g : JFrame} (hq : ∀ v h L, Q v h L → Q' v h L) (h : OG p e below s Q kc ks T g) : OG p e below s Q' kc ks T g := by
  obtain ⟨s₂, o, h1, h2, h3, v, L, h4, h5, h6⟩ := h
  exact ⟨s₂, o, h1, h2, h3, v, L, h4, hq _ _ _ h5, h6⟩
theorem o_iadd (X : Stand p l e R s m args below meth c T locs cells slots) (hx : p.tables.exec = Jvm.exec) {pc pc' : Nat} {Ls : Array Slot} {x y : Int32} {rest : List Value} (hd : decode c.code pc = .ok (.iadd, 1)) (hp : pc + 1 = pc') (h : OG p e below s Q kc ks T (mkF m pc' Ls (.int (x + y) :: rest))) : OG p e below s Q kc ks T (mkF m pc Ls (.int y :: .int x :: rest)) := by
  subst hp; exact OG.step (fun t q => XS.iadd X.here hx rfl hd rfl q) h
theorem o_isub (X : Stand p l e R s m args below meth c T locs cells slots) (hx : p.tables.exec = Jvm.exec) {pc pc' : Nat} {Ls : Array Slot} {x y : Int32} {rest : List Value} (hd : decode c.code pc = .ok (.isub, 1)) (hp : pc + 1 = pc') (h : OG p e below s Q kc ks T (mkF m pc' Ls (.int (x - y) :: rest))) : OG p e below s Q kc ks T (mkF m pc Ls (.int y :: .int x :: rest)) := by
  subst hp; exact OG.step (fun t q => XS.isub X.here hx rfl hd rfl q) h
theorem o_imul (X : Stand p l e R s m args below meth c T locs cells slots) (hx : p.tables.exec = Jvm.exec) {pc pc' : Nat} {Ls : Array Slot} {x y : Int32} {rest : List Value} (hd : decode c.code pc = .ok (.imul, 1)) (hp : pc + 1 = pc') (h : OG p e below s Q kc ks T (mkF m pc' Ls (.int (x * y) :: rest))) : OG p e below s Q kc ks T (mkF m pc Ls (.int y :: .int x :: rest)) := by
  subst hp; exact OG.step (fun t q => XS.imul X.here hx rfl hd rfl q) h
theorem o_iand (X : Stand p l e R s m args below meth c T locs cells slots) (hx : p.tables.exec = Jvm.exec) {pc pc' : Nat} {Ls : Array Slot} {x y : Int32} {rest : List Value} (hd : decode c.code pc = .ok (.iand, 1)) (hp : pc + 1 = pc') (h : OG p e below s Q kc ks T (mkF m pc' Ls (.int (x &&& y) :: rest))) : OG p e below s Q kc ks T (mkF m pc Ls (.int y :: .int x :: rest)) := by
  subst hp; exact OG.step (fun t q => XS.iand X.here hx rfl hd rfl q) h
theorem o_ior (X : Stand p l e R s m args below meth c T locs cells slots) (hx : p.tables.exec = Jvm.exec) {pc pc' : Nat} {Ls : Array Slot} {x y : Int32} {rest : List Value} (hd : decode c.code pc = .ok (.ior, 1)) (hp : pc + 1 = pc') (h : OG p e below s Q kc ks T (mkF m pc' Ls (.int (x ||| y) :: rest))) : OG p e below s Q kc ks T (mkF m pc Ls (.int y :: .int x :: rest)) := by
  subst hp; exact OG.step (fun t q => XS.ior X.here hx rfl hd rfl q) h
theorem o_ixor (X : Stand p l e R s m args below meth c T locs cells slots) (hx : p.tables.exec = Jvm.exec) {pc pc' : Nat} {Ls : Array Slot} {x y : Int32} {rest : List Value} (hd : decode c.code pc = .ok (.ixor, 1)) (hp : pc + 1 = pc') (h : OG p e below s Q kc ks T (mkF m pc' Ls (.int (x ^^^ y) :: rest))) : OG p e below s Q kc ks T (mkF m pc Ls (.int y :: .int x :: rest)) := by
  subst hp; exact OG.step (fun t q => XS.ixor X.here hx rfl hd rfl q) h
theorem o_ladd (X : Stand p l e R s m args below meth c T locs cells slots) (hx : p.tables.exec = Jvm.exec) {pc pc' : Nat} {Ls : Array Slot} {x y : Int64} {rest : List Value} (hd : decode c.code pc = .ok (.ladd, 1)) (hp : pc + 1 = pc') (h : OG p e below s Q kc ks T (mkF m pc' Ls (.long (x + y) :: rest))) : OG p e below s Q kc ks T (mkF m pc Ls (.long y :: .long x :: rest)) := by
  subst hp; exact OG.step (fun t q => XS.ladd X.here hx rfl hd rfl q) h
theorem o_lsub (X : Stand p l e R s m args below meth c T locs cells slots) (hx : p.tables.exec = Jvm.exec) {pc pc' : Nat} {Ls : Array Slot} {x y : Int64} {rest : List Value} (hd : decode c.code pc = .ok (.lsub, 1)) (hp : pc + 1 = pc') (h : OG p e below s Q kc ks T (mkF m pc' Ls (.long (x - y) :: rest))) : OG p e below s Q kc ks T (mkF m pc Ls (.long y :: .long x :: rest)) := by
  subst hp; exact OG.step (fun t q => XS.lsub X.here hx rfl hd rfl q) h
theorem o_lmul (X : Stand p l e R s m args below meth c T locs cells slots) (hx : p.tables.exec = Jvm.exec) {pc pc' : Nat} {Ls : Array Slot} {x y : Int64} {rest : List Value} (hd : decode c.code pc = .ok (.lmul, 1)) (hp : pc + 1 = pc') (h : OG p e below s Q kc ks T (mkF m pc' Ls (.long (x * y) :: rest))) : OG p e below s Q kc ks T (mkF m pc Ls (.long y :: .long x :: rest)) := by
  subst hp; exact OG.step (fun t q => XS.lmul X.here hx rfl hd rfl q) h
theorem o_land (X : Stand p l e R s m args below meth c T locs cells slots) (hx : p.tables.exec = Jvm.exec) {pc pc' : Nat} {Ls : Array Slot} {x y : Int64} {rest : List Value} (hd : decode c.code pc = .ok (.land, 1)) (hp : pc + 1 = pc') (h : OG p e below s Q kc ks T (mkF m pc' Ls (.long (x &&& y) :: rest))) : OG p e below s Q kc ks T (mkF m pc Ls (.long y :: .long x :: rest)) := by
  subst hp; exact OG.step (fun t q => XS.land X.here hx rfl hd rfl q) h
theorem o_lor (X : Stand p l e R s m args below meth c T locs cells slots) (hx : p.tables.exec = Jvm.exec) {pc pc' : Nat} {Ls : Array Slot} {x y : Int64} {rest : List Value} (hd : decode c.code pc = .ok (.lor, 1)) (hp : pc + 1 = pc') (h : OG p e below s Q kc ks T (mkF m pc' Ls (.long (x ||| y) :: rest))) : OG p e below s Q kc ks T (mkF m pc Ls (.long y :: .long x :: rest)) := by
  subst hp; exact OG.step (fun t q => XS.lor X.here hx rfl hd rfl q) h
theorem o_lxor (X : Stand p l e R s m args below meth c T locs cells slots) (hx : p.tables.exec = Jvm.exec) {pc pc' : Nat} {Ls : Array Slot} {x y : Int64} {rest : List Value} (hd : decode c.code pc = .ok (.lxor, 1)) (hp : pc + 1 = pc') (h : OG p e below s Q kc ks T (mkF m pc' Ls (.long (x ^^^ y) :: rest))) : OG p e below s Q kc ks T (mkF m pc Ls (.long y :: .long x :: rest)) := by
  subst hp; exact OG.step (fun t q => XS.lxor X.here hx rfl hd rfl q) h
theorem o_ishl (X : Stand p l e R s m args below meth c T locs cells slots) (hx : p.tables.exec = Jvm.exec) {pc pc' : Nat} {Ls : Array Slot} {x y : Int32} {rest : List Value} (hd : decode c.code pc = .ok (.ishl, 1)) (hp : pc + 1 = pc') (h : OG p e below s Q kc ks T (mkF m pc' Ls (.int (x <<< (y &&& 31)) :: rest))) : OG p e below s Q kc ks T (mkF m pc Ls (.int y :: .int x :: rest)) := by
  subst hp; exact OG.step (fun t q => XS.ishl X.here hx rfl hd rfl q) h
theorem o_ishr (X : Stand p l e R s m args below meth c T locs cells slots) (hx : p.tables.exec = Jvm.exec) {pc pc' : Nat} {Ls : Array Slot} {x y : Int32} {rest : List Value} (hd : decode c.code pc = .ok (.ishr, 1)) (hp : pc + 1 = pc') (h : OG p e below s Q kc ks T (mkF m pc' Ls (.int (x >>> (y &&& 31)) :: rest))) : OG p e below s Q kc ks T (mkF m pc Ls (.int y :: .int x :: rest)) := by
  subst hp; exact OG.step (fun t q => XS.ishr X.here hx rfl hd rfl q) h
theorem o_iushr (X : Stand p l e R s m args below meth c T locs cells slots) (hx : p.tables.exec = Jvm.exec) {pc pc' : Nat} {Ls : Array Slot} {x y : Int32} {rest : List Value} (hd : decode c.code pc = .ok (.iushr, 1)) (hp : pc + 1 = pc') (h : OG p e below s Q kc ks T (mkF m pc' Ls (.int ((x.toUInt32 >>> (y &&& 31).toUInt32).toInt32) :: rest))) : OG p e below s Q kc ks T (mkF m pc Ls (.int y :: .int x :: rest)) := by
  subst hp; exact OG.step (fun t q => XS.iushr X.here hx rfl hd rfl q) h
theorem o_lshl (X : Stand p l e R s m args below meth c T locs cells slots) (hx : p.tables.exec = Jvm.exec) {pc pc' : Nat} {Ls : Array Slot} {x : Int64} {y : Int32} {rest : List Value} (hd : decode c.code pc = .ok (.lshl, 1)) (hp : pc + 1 = pc') (h : OG p e below s Q kc ks T (mkF m pc' Ls (.long (x <<< (y &&& 0x3f).toInt64) :: rest))) : OG p e below s Q kc ks T (mkF m pc Ls (.int y :: .long x :: rest)) := by
  subst hp; exact OG.step (fun t q => XS.lshl X.here hx rfl hd rfl q) h
theorem o_lshr (X : Stand p l e R s m args below meth c T locs cells slots) (hx : p.tables.exec = Jvm.exec) {pc pc' : Nat} {Ls : Array Slot} {x : Int64} {y : Int32} {rest : List Value} (hd : decode c.code pc = .ok (.lshr, 1)) (hp : pc + 1 = pc') (h : OG p e below s Q kc ks T (mkF m pc' Ls (.long (x >>> (y &&& 0x3f).toInt64) :: rest))) : OG p e below s Q kc ks T (mkF m pc Ls (.int y :: .long x :: rest)) := by
  subst hp; exact OG.step (fun t q => XS.lshr X.here hx rfl hd rfl q) h
theorem o_lushr (X : Stand p l e R s m args below meth c T locs cells slots) (hx : p.tables.exec = Jvm.exec) {pc pc' : Nat} {Ls : Array Slot} {x : Int64} {y : Int32} {rest : List Value} (hd : decode c.code pc = .ok (.lushr, 1)) (hp : pc + 1 = pc') (h : OG p e below s Q kc ks T (mkF m pc' Ls (.long ((x.toUInt64 >>> (y &&& 0x3f).toInt64.toUInt64).toInt64) :: rest))) : OG p e below s Q kc ks T (mkF m pc Ls (.int y :: .long x :: rest)) := by
  subst hp; exact OG.step (fun t q => XS.lushr X.here hx rfl hd rfl q) h
theorem o_idiv (X : Stand p l e R s m args below meth c T locs cells slots) (hx : p.tables.exec = Jvm.exec) {pc pc' : Nat} {Ls : Array Slot} {x y : Int32} {rest : List Value} (hd : decode c.code pc = .ok (.idiv, 1)) (hy : y ≠ 0) (hp : pc + 1 = pc') (h : OG p e below s Q kc ks T (mkF m pc' Ls (.int (x / y) :: rest))) : OG p e below s Q kc ks T (mkF m pc Ls (.int y :: .int x :: rest)) := by
  subst hp; exact OG.step (fun t q => XS.idiv X.here hx rfl hd rfl hy q) h
theorem o_ldiv (X : Stand p l e R s m args below meth c T locs cells slots) (hx : p.tables.exec = Jvm.exec) {pc pc' : Nat} {Ls : Array Slot} {x y : Int64} {rest : List Value} (hd : decode c.code pc = .ok (.ldiv, 1)) (hy : y ≠ 0) (hp : pc + 1 = pc') (h : OG p e below s Q kc ks T (mkF m pc' Ls (.long (x / y) :: rest))) : OG p e below s Q kc ks T (mkF m pc Ls (.long y :: .long x :: rest)) := by
  subst hp; exact OG.step (fun t q => XS.ldiv X.here hx rfl hd rfl hy q) h
theorem o_irem (X : Stand p l e R s m args below meth c T locs cells slots) (hx : p.tables.exec = Jvm.exec) {pc pc' : Nat} {Ls : Array Slot} {x y : Int32} {rest : List Value} (hd : decode c.code pc = .ok (.irem, 1)) (hy : y ≠ 0) (hp : pc + 1 = pc') (h : OG p e below s Q kc ks T (mkF m pc' Ls (.int (x % y) :: rest))) : OG p e below s Q kc ks T (mkF m pc Ls (.int y :: .int x :: rest)) := by
  subst hp; exact OG.step (fun t q => iremM X hx rfl hd rfl hy q) h
theorem o_lrem (X : Stand p l e R s m args below meth c T locs cells slots) (hx : p.tables.exec = Jvm.exec) {pc pc' : Nat} {Ls : Array Slot} {x y : Int64} {rest : List Value} (hd : decode c.code pc = .ok (.lrem, 1)) (hy : y ≠ 0) (hp : pc + 1 = pc') (h : OG p e below s Q kc ks T (mkF m pc' Ls (.long (x % y) :: rest))) : OG p e below s Q kc ks T (mkF m pc Ls (.long y :: .long x :: rest)) := by
  subst hp; rw [← lrem_mod] at h; exact OG.step (fun t q => XS.lrem X.here hx rfl hd rfl hy q) h
theorem o_ineg (X : Stand p l e R s m args below meth c T locs cells slots) (hx : p.tables.exec = Jvm.exec) {pc pc' : Nat} {Ls : Array Slot} {x : Int32} {rest : List Value} (hd : decode c.code pc = .ok (.ineg, 1)) (hp : pc + 1 = pc') (h : OG p e below s Q kc ks T (mkF m pc' Ls (.int ((-x)) :: rest))) : OG p e below s Q kc ks T (mkF m pc Ls (.int x :: rest)) := by
  subst hp; exact OG.step (fun t q => XS.ineg X.here hx rfl hd rfl q) h
theorem o_lneg (X : Stand p l e R s m args below meth c T locs cells slots) (hx : p.tables.exec = Jvm.exec) {pc pc' : Nat} {Ls : Array Slot} {x : Int64} {rest : List Value} (hd : decode c.code pc = .ok (.lneg, 1)) (hp : pc + 1 = pc') (h : OG p e below s Q kc ks T (mkF m pc' Ls (.long ((-x)) :: rest))) : OG p e below s Q kc ks T (mkF m pc Ls (.long x :: rest)) := by
  subst hp; exact OG.step (fun t q => XS.lneg X.here hx rfl hd rfl q) h
theorem o_i2l (X : Stand p l e R s m args below meth c T locs cells slots) (hx : p.tables.exec = Jvm.exec) {pc pc' : Nat} {Ls : Array Slot} {x : Int32} {rest : List Value} (hd : decode c.code pc = .ok (.i2l, 1)) (hp : pc + 1 = pc') (h : OG p e below s Q kc ks T (mkF m pc' Ls (.long (x.toInt64) :: rest))) : OG p e below s Q kc ks T (mkF m pc Ls (.int x :: rest)) := by
  subst hp; exact OG.step (fun t q => XS.i2l X.here hx rfl hd rfl q) h
theorem o_l2i (X : Stand p l e R s m args below meth c T locs cells slots) (hx : p.tables.exec = Jvm.exec) {pc pc' : Nat} {Ls : Array Slot} {x : Int64} {rest : List Value} (hd : decode c.code pc = .ok (.l2i, 1)) (hp : pc + 1 = pc') (h : OG p e below s Q kc ks T (mkF m pc' Ls (.int (x.toInt32) :: rest))) : OG p e below s Q kc ks T (mkF m pc Ls (.long x :: rest)) := by
  subst hp; exact OG.step (fun t q => XS.l2i X.here hx rfl hd rfl q) h
theorem o_i2b (X : Stand p l e R s m args below meth c T locs cells slots) (hx : p.tables.exec = Jvm.exec) {pc pc' : Nat} {Ls : Array Slot} {x : Int32} {rest : List Value} (hd : decode c.code pc = .ok (.i2b, 1)) (hp : pc + 1 = pc') (h : OG p e below s Q kc ks T (mkF m pc' Ls (.int (x.toInt8.toInt32) :: rest))) : OG p e below s Q kc ks T (mkF m pc Ls (.int x :: rest)) := by
  subst hp; exact OG.step (fun t q => XS.i2b X.here hx rfl hd rfl q) h
theorem o_i2c (X : Stand p l e R s m args below meth c T locs cells slots) (hx : p.tables.exec = Jvm.exec) {pc pc' : Nat} {Ls : Array Slot} {x : Int32} {rest : List Value} (hd : decode c.code pc = .ok (.i2c, 1)) (hp : pc + 1 = pc') (h : OG p e below s Q kc ks T (mkF m pc' Ls (.int (x.toUInt32.toUInt16.toUInt32.toInt32) :: rest))) : OG p e below s Q kc ks T (mkF m pc Ls (.int x :: rest)) := by
  subst hp; exact OG.step (fun t q => XS.i2c X.here hx rfl hd rfl q) h
theorem o_i2s (X : Stand p l e R s m args below meth c T locs cells slots) (hx : p.tables.exec = Jvm.exec) {pc pc' : Nat} {Ls : Array Slot} {x : Int32} {rest : List Value} (hd : decode c.code pc = .ok (.i2s, 1)) (hp : pc + 1 = pc') (h : OG p e below s Q kc ks T (mkF m pc' Ls (.int (x.toInt16.toInt32) :: rest))) : OG p e below s Q kc ks T (mkF m pc Ls (.int x :: rest)) := by
  subst hp; exact OG.step (fun t q => XS.i2s X.here hx rfl hd rfl q) h
theorem o_lcmp (X : Stand p l e R s m args below meth c T locs cells slots) (hx : p.tables.exec = Jvm.exec) {pc pc' : Nat} {Ls : Array Slot} {x y : Int64} {rest : List Value} (hd : decode c.code pc = .ok (.lcmp, 1)) (hp : pc + 1 = pc') (h : OG p e below s Q kc ks T (mkF m pc' Ls (.int (lcmpW x y) :: rest))) : OG p e below s Q kc ks T (mkF m pc Ls (.long y :: .long x :: rest)) := by
  subst hp; exact OG.step (fun t q => XS.lcmp X.here hx rfl hd rfl q) h
theorem o_iconst (X : Stand p l e R s m args below meth c T locs cells slots) (hx : p.tables.exec = Jvm.exec) {pc pc' : Nat} {Ls : Array Slot} {i : Int} {rest : List Value} (hd : decode c.code pc = .ok (.iconst i, 1)) (w : Int32) (hv : Int32.ofInt i = w) (hp : pc + 1 = pc') (h : OG p e below s Q kc ks T (mkF m pc' Ls (.int w :: rest))) : OG p e below s Q kc ks T (mkF m pc Ls (rest)) := by
  subst hp hv; exact OG.step (fun t q => XS.iconst X.here hx rfl hd q) h
theorem o_bipush (X : Stand p l e R s m args below meth c T locs cells slots) (hx : p.tables.exec = Jvm.exec) {pc pc' : Nat} {Ls : Array Slot} {i : Int} {rest : List Value} (hd : decode c.code pc = .ok (.bipush i, 2)) (w : Int32) (hv : (Int8.ofInt i).toInt32 = w) (hp : pc + 2 = pc') (h : OG p e below s Q kc ks T (mkF m pc' Ls (.int w :: rest))) : OG p e below s Q kc ks T (mkF m pc Ls (rest)) := by
  subst hp hv; exact OG.step (fun t q => XS.bipush X.here hx rfl hd q) h
theorem o_sipush (X : Stand p l e R s m args below meth c T locs cells slots) (hx : p.tables.exec = Jvm.exec) {pc pc' : Nat} {Ls : Array Slot} {i : Int} {rest : List Value} (hd : decode c.code pc = .ok (.sipush i, 3)) (w : Int32) (hv : (Int16.ofInt i).toInt32 = w) (hp : pc + 3 = pc') (h : OG p e below s Q kc ks T (mkF m pc' Ls (.int w :: rest))) : OG p e below s Q kc ks T (mkF m pc Ls (rest)) := by
  subst hp hv; exact OG.step (fun t q => XS.sipush X.here hx rfl hd q) h
theorem o_lconst (X : Stand p l e R s m args below meth c T locs cells slots) (hx : p.tables.exec = Jvm.exec) {pc pc' : Nat} {Ls : Array Slot} {i : Fin 2} {rest : List Value} (hd : decode c.code pc = .ok (.lconst i, 1)) (w : Int64) (hv : Int64.ofNat i = w) (hp : pc + 1 = pc') (h : OG p e below s Q kc ks T (mkF m pc' Ls (.long w :: rest))) : OG p e below s Q kc ks T (mkF m pc Ls (rest)) := by
  subst hp hv; exact OG.step (fun t q => XS.lconst X.here hx rfl hd q) h
theorem o_aconst_null (X : Stand p l e R s m args below meth c T locs cells slots) (hx : p.tables.exec = Jvm.exec) {pc pc' : Nat} {Ls : Array Slot} {rest : List Value} (hd : decode c.code pc = .ok (.aconst_null, 1)) (hp : pc + 1 = pc') (h : OG p e below s Q kc ks T (mkF m pc' Ls (.null :: rest))) : OG p e below s Q kc ks T (mkF m pc Ls (rest)) := by
  subst hp; exact OG.step (fun t q => XS.aconstNull X.here hx rfl hd q) h
theorem o_iload_n (X : Stand p l e R s m args below meth c T locs cells slots) (hx : p.tables.exec = Jvm.exec) {pc pc' : Nat} {Ls : Array Slot} {i : Fin 4} {x : Int32} {rest : List Value} (hd : decode c.code pc = .ok (.iload_n i, 1)) (hl : Ls[i.val]? = some (.val (.int x))) (hp : pc + 1 = pc') (h : OG p e below s Q kc ks T (mkF m pc' Ls (.int x :: rest))) : OG p e below s Q kc ks T (mkF m pc Ls (rest)) := by
  subst hp; exact OG.step (fun t q => XS.iloadN X.here hx rfl hd hl q) h
theorem o_iload (X : Stand p l e R s m args below meth c T locs cells slots) (hx : p.tables.exec = Jvm.exec) {pc pc' : Nat} {Ls : Array Slot} {i : Nat} {x : Int32} {rest : List Value} (hd : decode c.code pc = .ok (.iload i, 2)) (hl : Ls[i]? = some (.val (.int x))) (hp : pc + 2 = pc') (h : OG p e below s Q kc ks T (mkF m pc' Ls (.int x :: rest))) : OG p e below s Q kc ks T (mkF m pc Ls (rest)) := by
  subst hp; exact OG.step (fun t q => XS.iload X.here hx rfl hd hl q) h
theorem o_lload_n (X : Stand p l e R s m args below meth c T locs cells slots) (hx : p.tables.exec = Jvm.exec) {pc pc' : Nat} {Ls : Array Slot} {i : Fin 4} {x : Int64} {rest : List Value} (hd : decode c.code pc = .ok (.lload_n i, 1)) (hl : Ls[i.val]? = some (.val (.long x))) (hp : pc + 1 = pc') (h : OG p e below s Q kc ks T (mkF m pc' Ls (.long x :: rest))) : OG p e below s Q kc ks T (mkF m pc Ls (rest)) := by
  subst hp; exact OG.step (fun t q => XS.lloadN X.here hx rfl hd hl q) h
theorem o_lload (X : Stand p l e R s m args below meth c T locs cells slots) (hx : p.tables.exec = Jvm.exec) {pc pc' : Nat} {Ls : Array Slot} {i : Nat} {x : Int64} {rest : List Value} (hd : decode c.code pc = .ok (.lload i, 2)) (hl : Ls[i]? = some (.val (.long x))) (hp : pc + 2 = pc') (h : OG p e below s Q kc ks T (mkF m pc' Ls (.long x :: rest))) : OG p e below s Q kc ks T (mkF m pc Ls (rest)) := by
  subst hp; exact OG.step (fun t q => XS.lload X.here hx rfl hd hl q) h
theorem o_aload_n (X : Stand p l e R s m args below meth c T locs cells slots) (hx : p.tables.exec = Jvm.exec) {pc pc' : Nat} {Ls : Array Slot} {i : Fin 4} {x : Value} {rest : List Value} (hd : decode c.code pc = .ok (.aload_n i, 1)) (hl : Ls[i.val]? = some (.val x)) (hv : x.isRef = true) (hp : pc + 1 = pc') (h : OG p e below s Q kc ks T (mkF m pc' Ls (x :: rest))) : OG p e below s Q kc ks T (mkF m pc Ls (rest)) := by
  subst hp; exact OG.step (fun t q => XS.aloadN X.here hx rfl hd hl hv q) h
theorem o_aload (X : Stand p l e R s m args below meth c T locs cells slots) (hx : p.tables.exec = Jvm.exec) {pc pc' : Nat} {Ls : Array Slot} {i : Nat} {x : Value} {rest : List Value} (hd : decode c.code pc = .ok (.aload i, 2)) (hl : Ls[i]? = some (.val x)) (hv : x.isRef = true) (hp : pc + 2 = pc') (h : OG p e below s Q kc ks T (mkF m pc' Ls (x :: rest))) : OG p e below s Q kc ks T (mkF m pc Ls (rest)) := by
  subst hp; exact OG.step (fun t q => XS.aload X.here hx rfl hd hl hv q) h
theorem o_istore_n (X : Stand p l e R s m args below meth c T locs cells slots) (hx : p.tables.exec = Jvm.exec) {pc pc' : Nat} {Ls : Array Slot} {i : Fin 4} {x : Int32} {rest : List Value} (hd : decode c.code pc = .ok (.istore_n i, 1)) (l' : Array Slot) (hl : storeLocals Ls i.val (.int x) = some l') (hp : pc + 1 = pc') (h : OG p e below s Q kc ks T (mkF m pc' l' (rest))) : OG p e below s Q kc ks T (mkF m pc Ls (.int x :: rest)) := by
  subst hp; exact OG.step (fun t q => XS.istoreN X.here hx rfl hd rfl hl q) h
theorem o_istore (X : Stand p l e R s m args below meth c T locs cells slots) (hx : p.tables.exec = Jvm.exec) {pc pc' : Nat} {Ls : Array Slot} {i : Nat} {x : Int32} {rest : List Value} (hd : decode c.code pc = .ok (.istore i, 2)) (l' : Array Slot) (hl : storeLocals Ls i (.int x) = some l') (hp : pc + 2 = pc') (h : OG p e below s Q kc ks T (mkF m pc' l' (rest))) : OG p e below s Q kc ks T (mkF m pc Ls (.int x :: rest)) := by
  subst hp; exact OG.step (fun t q => XS.istore X.here hx rfl hd rfl hl q) h
theorem o_lstore_n (X : Stand p l e R s m args below meth c T locs cells slots) (hx : p.tables.exec = Jvm.exec) {pc pc' : Nat} {Ls : Array Slot} {i : Fin 4} {x : Int64} {rest : List Value} (hd : decode c.code pc = .ok (.lstore_n i, 1)) (l' : Array Slot) (hl : storeLocals Ls i.val (.long x) = some l') (hp : pc + 1 = pc') (h : OG p e below s Q kc ks T (mkF m pc' l' (rest))) : OG p e below s Q kc ks T (mkF m pc Ls (.long x :: rest)) := by
  subst hp; exact OG.step (fun t q => XS.lstoreN X.here hx rfl hd rfl hl q) h
theorem o_lstore (X : Stand p l e R s m args below meth c T locs cells slots) (hx : p.tables.exec = Jvm.exec) {pc pc' : Nat} {Ls : Array Slot} {i : Nat} {x : Int64} {rest : List Value} (hd : decode c.code pc = .ok (.lstore i, 2)) (l' : Array Slot) (hl : storeLocals Ls i (.long x) = some l') (hp : pc + 2 = pc') (h : OG p e below s Q kc ks T (mkF m pc' l' (rest))) : OG p e below s Q kc ks T (mkF m pc Ls (.long x :: rest)) := by
  subst hp; exact OG.step (fun t q => XS.lstore X.here hx rfl hd rfl hl q) h
theorem o_astore_n (X : Stand p l e R s m args below meth c T locs cells slots) (hx : p.tables.exec = Jvm.exec) {pc pc' : Nat} {Ls : Array Slot} {i : Fin 4} {x : Value} {rest : List Value} (hd : decode c.code pc = .ok (.astore_n i, 1)) (hv : x.isRef = true) (l' : Array Slot) (hl : storeLocals Ls i.val x = some l') (hp : pc + 1 = pc') (h : OG p e below s Q kc ks T (mkF m pc' l' (rest))) : OG p e below s Q kc ks T (mkF m pc Ls (x :: rest)) := by
  subst hp; exact OG.step (fun t q => XS.astoreN X.here hx rfl hd rfl hv hl q) h
theorem o_astore (X : Stand p l e R s m args below meth c T locs cells slots) (hx : p.tables.exec = Jvm.exec) {pc pc' : Nat} {Ls : Array Slot} {i : Nat} {x : Value} {rest : List Value} (hd : decode c.code pc = .ok (.astore i, 2)) (hv : x.isRef = true) (l' : Array Slot) (hl : storeLocals Ls i x = some l') (hp : pc + 2 = pc') (h : OG p e below s Q kc ks T (mkF m pc' l' (rest))) : OG p e below s Q kc ks T (mkF m pc Ls (x :: rest)) := by
  subst hp; exact OG.step (fun t q => XS.astore X.here hx rfl hd rfl hv hl q) h
theorem o_iinc (X : Stand p l e R s m args below meth c T locs cells slots) (hx : p.tables.exec = Jvm.exec) {pc pc' : Nat} {Ls : Array Slot} {i : Nat} {k : Int} {x : Int32} {rest : List Value} (hd : decode c.code pc = .ok (.iinc i k, 3)) (w : Int32) (hw' : Int32.ofInt k = w) (hl : Ls[i]? = some (.val (.int x))) (l' : Array Slot) (hl' : storeLocals Ls i (.int (x + w)) = some l') (hp : pc + 3 = pc') (h : OG p e below s Q kc ks T (mkF m pc' l' (rest))) : OG p e below s Q kc ks T (mkF m pc Ls (rest)) := by
  subst hp hw'; exact OG.step (fun t q => XS.iinc X.here hx rfl hd hl hl' q) h
theorem o_dup (X : Stand p l e R s m args below meth c T locs cells slots) (hx : p.tables.exec = Jvm.exec) {pc pc' : Nat} {Ls : Array Slot} {x : Value} {rest : List Value} (hd : decode c.code pc = .ok (.dup, 1)) (hc : x.category = 1) (hp : pc + 1 = pc') (h : OG p e below s Q kc ks T (mkF m pc' Ls (x :: x :: rest))) : OG p e below s Q kc ks T (mkF m pc Ls (x :: rest)) := by
  subst hp; exact OG.step (fun t q => XS.dup X.here hx rfl hd rfl hc q) h
theorem o_pop (X : Stand p l e R s m args below meth c T locs cells slots) (hx : p.tables.exec = Jvm.exec) {pc pc' : Nat} {Ls : Array Slot} {x : Value} {rest : List Value} (hd : decode c.code pc = .ok (.pop, 1)) (hc : x.category = 1) (hp : pc + 1 = pc') (h : OG p e below s Q kc ks T (mkF m pc' Ls (rest))) : OG p e below s Q kc ks T (mkF m pc Ls (x :: rest)) := by
  subst hp; exact OG.step (fun t q => XS.pop X.here hx rfl hd rfl hc q) h
theorem o_dup_x1 (X : Stand p l e R s m args below meth c T locs cells slots) (hx : p.tables.exec = Jvm.exec) {pc pc' : Nat} {Ls : Array Slot} {x y : Value} {rest : List Value} (hd : decode c.code pc = .ok (.dup_x1, 1)) (hc : x.category = 1) (hc2 : y.category = 1) (hp : pc + 1 = pc') (h : OG p e below s Q kc ks T (mkF m pc' Ls (x :: y :: x :: rest))) : OG p e below s Q kc ks T (mkF m pc Ls (x :: y :: rest)) := by
  subst hp; exact OG.step (fun t q => XS.dupX1 X.here hx rfl hd rfl hc hc2 q) h
theorem o_goto (X : Stand p l e R s m args below meth c T locs cells slots) (hx : p.tables.exec = Jvm.exec) {pc pc' : Nat} {Ls : Array Slot} {rest : List Value} {o : Int} (hd : decode c.code pc = .ok (.goto o, 3)) (ho : 0 ≤ (pc : Int) + o) (hp : ((pc : Int) + o).toNat = pc') (h : OG p e below s Q kc ks T (mkF m pc' Ls rest)) : OG p e below s Q kc ks T (mkF m pc Ls rest) :=
  OG.step (fun t q => XS.goto X.here hx rfl rfl hd ho hp q) h
theorem o_ifYes (X : Stand p l e R s m args below meth c T locs cells slots) (hx : p.tables.exec = Jvm.exec) {pc pc' : Nat} {Ls : Array Slot} {rest : List Value} {o : Int} {cd : ClassFile.Cond} {x : Int32} (hd : decode c.code pc = .ok (.ifCond cd o, 3)) (hc : ifCond.holds cd x = true) (ho : 0 ≤ (pc : Int) + o) (hp : ((pc : Int) + o).toNat = pc') (h : OG p e below s Q kc ks T (mkF m pc' Ls rest)) : OG p e below s Q kc ks T (mkF m pc Ls (.int x :: rest)) :=
  OG.step (fun t q => XS.ifYes X.here hx rfl rfl hd rfl hc ho hp q) h
theorem o_ifNo (X : Stand p l e R s m args below meth c T locs cells slots) (hx : p.tables.exec = Jvm.exec) {pc pc' : Nat} {Ls : Array Slot} {rest : List Value} {o : Int} {cd : ClassFile.Cond} {x : Int32} (hd : decode c.code pc = .ok (.ifCond cd o, 3)) (hc : ifCond.holds cd x = false) (hp : pc + 3 = pc') (h : OG p e below s Q kc ks T (mkF m pc' Ls rest)) : OG p e below s Q kc ks T (mkF m pc Ls (.int x :: rest)) := by
  subst hp; exact OG.step (fun t q => XS.ifNo X.here hx rfl hd rfl hc q) h
theorem o_icmpYes (X : Stand p l e R s m args below meth c T locs cells slots) (hx : p.tables.exec = Jvm.exec) {pc pc' : Nat} {Ls : Array Slot} {rest : List Value} {o : Int} {cd : ClassFile.Cond} {x y : Int32} (hd : decode c.code pc = .ok (.if_icmp cd o, 3)) (hc : if_icmp.holds cd x y = true) (ho : 0 ≤ (pc : Int) + o) (hp : ((pc : Int) + o).toNat = pc') (h : OG p e below s Q kc ks T (mkF m pc' Ls rest)) : OG p e below s Q kc ks T (mkF m pc Ls (.int y :: .int x :: rest)) :=
  OG.step (fun t q => XS.icmpYes X.here hx rfl rfl hd rfl hc ho hp q) h
theorem o_icmpNo (X : Stand p l e R s m args below meth c T locs cells slots) (hx : p.tables.exec = Jvm.exec) {pc pc' : Nat} {Ls : Array Slot} {rest : List Value} {o : Int} {cd : ClassFile.Cond} {x y : Int32} (hd : decode c.code pc = .ok (.if_icmp cd o, 3)) (hc : if_icmp.holds cd x y = false) (hp : pc + 3 = pc') (h : OG p e below s Q kc ks T (mkF m pc' Ls rest)) : OG p e below s Q kc ks T (mkF m pc Ls (.int y :: .int x :: rest)) := by
  subst hp; exact OG.step (fun t q => XS.icmpNo X.here hx rfl hd rfl hc q) h
theorem o_ifnonnullYes (X : Stand p l e R s m args below meth c T locs cells slots) (hx : p.tables.exec = Jvm.exec) {pc pc' : Nat} {Ls : Array Slot} {rest : List Value} {o : Int} {b : Addr} (hd : decode c.code pc = .ok (.ifnonnull o, 3)) (ho : 0 ≤ (pc : Int) + o) (hp : ((pc : Int) + o).toNat = pc') (h : OG p e below s Q kc ks T (mkF m pc' Ls rest)) : OG p e below s Q kc ks T (mkF m pc Ls (.ref b :: rest)) :=
  OG.step (fun t q => XS.ifnonnullYes X.here hx rfl rfl hd rfl ho hp q) h
theorem o_ifnonnullNo (X : Stand p l e R s m args below meth c T locs cells slots) (hx : p.tables.exec = Jvm.exec) {pc pc' : Nat} {Ls : Array Slot} {rest : List Value} {o : Int} (hd : decode c.code pc = .ok (.ifnonnull o, 3)) (hp : pc + 3 = pc') (h : OG p e below s Q kc ks T (mkF m pc' Ls rest)) : OG p e below s Q kc ks T (mkF m pc Ls (.null :: rest)) := by
  subst hp; exact OG.step (fun t q => XS.ifnonnullNo X.here hx rfl hd rfl q) h
theorem o_ldcInt (X : Stand p l e R s m args below meth c T locs cells slots) (hx : p.tables.exec = Jvm.exec) {pc pc' : Nat} {Ls : Array Slot} {rest : List Value} {Z : State} {a0 : Array Value} {own : String} {i : Nat} {v : Int32} (hZ : Z.Warmed39 s.vm) (hown : s.vm.findClass own = some m.cls) (hd : decode c.code pc = .ok (.ldc i, 2)) (hk : (Cond.constant own i v).before a0 Z = true) (hp : pc + 2 = pc') (h : OG p e below s Q kc ks T (mkF m pc' Ls (.int v :: rest))) : OG p e below s Q kc ks T (mkF m pc Ls rest) := by
  subst hp; exact OG.step (fun t q => X.ldcInt hx hown (mvT hZ hk) (g := mkF m pc Ls rest) rfl hd t q) h
theorem o_ldc2Long (X : Stand p l e R s m args below meth c T locs cells slots) (hx : p.tables.exec = Jvm.exec) {pc pc' : Nat} {Ls : Array Slot} {rest : List Value} {Z : State} {a0 : Array Value} {own : String} {i : Nat} {v : Int64} (hZ : Z.Warmed39 s.vm) (hown : s.vm.findClass own = some m.cls) (hd : decode c.code pc = .ok (.ldc2_w i, 3)) (hk : (Cond.constantLong own i v).before a0 Z = true) (hp : pc + 3 = pc') (h : OG p e below s Q kc ks T (mkF m pc' Ls (.long v :: rest))) : OG p e below s Q kc ks T (mkF m pc Ls rest) := by
  subst hp; exact OG.step (fun t q => X.ldc2Long hx hown (mvT hZ hk) (g := mkF m pc Ls rest) rfl hd t q) h
theorem o_retI (X : Stand p l e R s m args below meth c T locs cells slots) (hx : p.tables.exec = Jvm.exec) (hlk : meth.locks = false) {pc : Nat} {Ls : Array Slot} {rest : List Value} {z : Int32} (hret : meth.sig.returnType = some .int) (hd : decode c.code pc = .ok (.ireturn, 1)) (hQ : Q (some (.int z)) T.heap locs) (h1 : cells ≤ kc) (h2 : slots ≤ ks) : OG p e below s Q kc ks T (mkF m pc Ls (.int z :: rest)) := by
  obtain ⟨fs, hr, hrun, hended, hW, hsame⟩ := X.leave (v := some (.int z)) (fun h => by rw [hret] at h; cases h) hlk
  exact ⟨_, _, retI X hx hret hd hr, hrun, hended, _, _, rfl, hQ, ⟨_, rfl⟩, hW, hsame.mono h1 h2⟩
theorem o_retJ (X : Stand p l e R s m args below meth c T locs cells slots) (hx : p.tables.exec = Jvm.exec) (hlk : meth.locks = false) {pc : Nat} {Ls : Array Slot} {rest : List Value} {z : Int64} (hret : meth.sig.returnType = some .long) (hd : decode c.code pc = .ok (.lreturn, 1)) (hQ : Q (some (.long z)) T.heap locs) (h1 : cells ≤ kc) (h2 : slots ≤ ks) : OG p e below s Q kc ks T (mkF m pc Ls (.long z :: rest)) := by
  obtain ⟨fs, hr, hrun, hended, hW, hsame⟩ := X.leave (v := some (.long z)) (fun h => by rw [hret] at h; cases h) hlk
  exact ⟨_, _, retJ X hx hret hd hr, hrun, hended, _, _, rfl, hQ, ⟨_, rfl⟩, hW, hsame.mono h1 h2⟩
theorem o_retN (X : Stand p l e R s m args below meth c T locs cells slots) (hx : p.tables.exec = Jvm.exec) (hlk : meth.locks = false) {pc : Nat} {Ls : Array Slot} {rest : List Value} {z w : Int32} {t : FieldType} (ht : t = .boolean ∨ t = .byte ∨ t = .char ∨ t = .short) (hret : meth.sig.returnType = some t) (hd : decode c.code pc = .ok (.ireturn, 1)) (hz : nar t z = w) (hQ : Q (some (.int w)) T.heap locs) (h1 : cells ≤ kc) (h2 : slots ≤ ks) : OG p e below s Q kc ks T (mkF m pc Ls (.int z :: rest)) := by
  subst hz
  obtain ⟨fs, hr, hrun, hended, hW, hsame⟩ := X.leave (v := some (.int (nar t z))) (fun h => by rw [hret] at h; cases h) hlk
  exact ⟨_, _, retN X hx hret ht hd hr, hrun, hended, _, _, rfl, hQ, ⟨_, rfl⟩, hW, hsame.mono h1 h2⟩
theorem o_ret (X : Stand p l e R s m args below meth c T locs cells slots) (hx : p.tables.exec = Jvm.exec) (hlk : meth.locks = false) {pc : Nat} {Ls : Array Slot} (hret : meth.sig.returnType = none) (hd : decode c.code pc = .ok (.return_, 1)) (hQ : Q none T.heap locs) (h1 : cells ≤ kc) (h2 : slots ≤ ks) : OG p e below s Q kc ks T (mkF m pc Ls []) := by
  obtain ⟨fs, hr, hrun, hended, hW, hsame⟩ := X.leave (v := none) (fun _ => rfl) hlk
  exact ⟨_, _, X.returnOut hx hret hd hr, hrun, hended, _, _, rfl, hQ, ⟨_, rfl⟩, hW, hsame.mono h1 h2⟩
variable {Z : State} {a0 : Array Value} {h : Heap}
theorem o_callS (X : Stand p l e R s m args below meth c T locs cells slots) (hx : p.tables.exec = Jvm.exec) (hZ : Z.Warmed39 s.vm) {own : String} {index : Nat} {y : MethodName} {bytes : ByteArray} {maxL : Nat} {ret : Option FieldType} {rm : Room} {Qc : Option Value → Heap → List Loc → Prop} {argsL rest st : List Value} {pc pc' : Nat} {Ls : Array Slot} (W : Nat)
    (hown : s.vm.findClass own = some m.cls) (eT : T.heap = h) (hlink : (Cond.methodLink own index y).before a0 Z = true) (hstat : (Cond.static y).before a0 Z = true) (hinit : (Cond.initialized y.cls).before a0 Z = true) (hcode : (Cond.code y bytes maxL ret).before a0 Z = true) (hy : y.cls ≠ "java/lang/invoke/MethodHandle" ∧ y.cls ≠ "java/lang/invoke/VarHandle")
    (hM : MetFree l y (head1 [Cond.code y bytes maxL ret] rm) (fun a U => a = argsL.toArray ∧ Z.Warmed39 U.vm ∧ U.heap = h) (fun _ _ _ _ _ => True) (fun _ U o U' => ∃ v L, o = .returned v ∧ Qc v U'.heap L ∧ FrameEnd U o U' L rm.cells rm.slots)) (hf : rm.frames + 1 ≤ R.frames) (hl : W + (maxL + 11) + rm.locals ≤ R.locals)
    (hsize : Ls.size = c.maxLocals) (hlen : ∀ sig, parseMethodDescriptor y.desc = some sig → argsL.length = sig.parameters.length) (hs : st = argsL.reverse ++ rest) (hW : (rest.map fun v => v.category).sum ≤ W) (hd : decode c.code pc = .ok (.invokestatic index, 3)) (hp : pc + 3 = pc') (hc : cells + rm.cells ≤ R.cells) (hsl : slots + rm.slots ≤ R.slots)
    (k : ∀ v T' L, Stand p l e R s m args below meth c T' (locs ++ L) (cells + rm.cells) (slots + rm.slots) → Qc v T'.heap L → OG p e below s Q kc ks T' (mkF m pc' Ls (v.toList ++ rest))) : OG p e below s Q kc ks T (mkF m pc Ls st) := by
  subst hp hs
  obtain ⟨v, vm₁, ⟨T1, L1, c1, n1⟩, -, X1, ⟨Lc, hQ, l1, y1, z1⟩, st⟩ := Jvm.LawKit.callS X hx (y := y) hown (mvT hZ hlink) (mvT hZ hstat) (mvT hZ hinit) (mvT hZ hcode) hy (backOf (W := W) hM hZ hcode hinit hf hl) (g := mkF m pc Ls (argsL.reverse ++ rest)) rfl hsize (argsL := argsL) (rest := rest) hlen rfl (by show 2 * 0 + _ ≤ _; omega) hd (fun _ _ => ⟨rfl, eT, hc, hsl⟩)
  dsimp only [Pt.U, Pt.locs, Pt.cells, Pt.slots] at X1 l1 y1 z1 st hQ
  subst l1 y1 z1
  exact OG.step st (k v T1 Lc X1 hQ)
theorem o_special (X : Stand p l e R s m args below meth c T locs cells slots) (hx : p.tables.exec = Jvm.exec) (hZ : Z.Warmed39 s.vm) {own : String} {index : Nat} {y : MethodName} {bytes : ByteArray} {maxL : Nat} {rm : Room} {Qc : Option Value → Heap → List Loc → Prop} {a : Addr} {argsL rest st : List Value} {pc pc' : Nat} {Ls : Array Slot} (W : Nat) (hy1 : y.name = "<init>")
    (hown : s.vm.findClass own = some m.cls) (eT : T.heap = h) (hlink : (Cond.methodLink own index y).before a0 Z = true) (hinst : (Cond.instanceMethod y).before a0 Z = true) (hinit : (Cond.initialized y.cls).before a0 Z = true) (hcode : (Cond.code y bytes maxL none).before a0 Z = true) (hy : y.cls ≠ "java/lang/invoke/MethodHandle" ∧ y.cls ≠ "java/lang/invoke/VarHandle")
    (hM : MetFree l y (head1 [Cond.code y bytes maxL none] rm) (fun b U => b = (.ref a :: argsL).toArray ∧ Z.Warmed39 U.vm ∧ U.heap = h) (fun _ _ _ _ _ => True) (fun _ U o U' => ∃ v L, o = .returned v ∧ Qc v U'.heap L ∧ FrameEnd U o U' L rm.cells rm.slots)) (hf : rm.frames + 1 ≤ R.frames) (hl : W + (maxL + 11) + rm.locals ≤ R.locals)
    (hsize : Ls.size = c.maxLocals) (hlen : ∀ sig, parseMethodDescriptor y.desc = some sig → argsL.length = sig.parameters.length) (hs : st = argsL.reverse ++ .ref a :: rest) (hW : (rest.map fun v => v.category).sum ≤ W) (hd : decode c.code pc = .ok (.invokespecial index, 3)) (hp : pc + 3 = pc') (hc : cells + rm.cells ≤ R.cells) (hsl : slots + rm.slots ≤ R.slots)
    (k : ∀ v T' L, Stand p l e R s m args below meth c T' (locs ++ L) (cells + rm.cells) (slots + rm.slots) → Qc v T'.heap L → OG p e below s Q kc ks T' (mkF m pc' Ls (v.toList ++ rest))) : OG p e below s Q kc ks T (mkF m pc Ls st) := by
  subst hp hs
  obtain ⟨v, vm₁, ⟨T1, L1, c1, n1⟩, -, X1, ⟨Lc, hQ, l1, y1, z1⟩, st⟩ := X.specialBack hx (y := y) hy1 hown (mvT hZ hlink) (mvT hZ hinst) (mvT hZ hcode) hy (backOf (W := W) hM hZ hcode hinit hf hl) (g := mkF m pc Ls (argsL.reverse ++ .ref a :: rest)) rfl hsize (Steps.refl _) (a := a) (argsL := argsL) (rest := rest) hlen rfl (by show 2 * 0 + _ ≤ _; omega) hd (fun _ _ => ⟨rfl, eT, hc, hsl⟩)
  dsimp only [Pt.U, Pt.locs, Pt.cells, Pt.slots] at X1 l1 y1 z1 st hQ
  subst l1 y1 z1
  exact OG.step (fun t q => st.trans q) (k v T1 Lc X1 hQ)
theorem o_virtual (X : Stand p l e R s m args below meth c T locs cells slots) (hx : p.tables.exec = Jvm.exec) (hZ : Z.Warmed39 s.vm) {own C : String} {index : Nat} {y : MethodName} {bytes : ByteArray} {maxL : Nat} {ret : Option FieldType} {rm : Room} {Qc : Option Value → Heap → List Loc → Prop} {a : Addr} {argsL rest st : List Value} {pc pc' : Nat} {Ls : Array Slot} (W : Nat)
    (hown : s.vm.findClass own = some m.cls) (eT : T.heap = h) (hlink : (Cond.methodLink own index y).before a0 Z = true) (hdecl : (Cond.declares y).before a0 Z = true) (hsel : (Cond.selects C y y).before a0 Z = true) (hinst : (Cond.instanceMethod y).before a0 Z = true) (hinit : (Cond.initialized y.cls).before a0 Z = true) (hcode : (Cond.code y bytes maxL ret).before a0 Z = true) (hy : y.cls ≠ "java/lang/invoke/MethodHandle" ∧ y.cls ≠ "java/lang/invoke/VarHandle")
    (E : Exa Z h a C)
    (hM : MetFree l y (head1 [Cond.code y bytes maxL ret] rm) (fun b U => b = (.ref a :: argsL).toArray ∧ Z.Warmed39 U.vm ∧ U.heap = h) (fun _ _ _ _ _ => True) (fun _ U o U' => ∃ v L, o = .returned v ∧ Qc v U'.heap L ∧ FrameEnd U o U' L rm.cells rm.slots)) (hf : rm.frames + 1 ≤ R.frames) (hl : W + (maxL + 11) + rm.locals ≤ R.locals)
    (hsize : Ls.size = c.maxLocals) (hlen : ∀ sig, parseMethodDescriptor y.desc = some sig → argsL.length = sig.parameters.length) (hs : st = argsL.reverse ++ .ref a :: rest) (hW : (rest.map fun v => v.category).sum ≤ W) (hd : decode c.code pc = .ok (.invokevirtual index, 3)) (hp : pc + 3 = pc') (hc : cells + rm.cells ≤ R.cells) (hsl : slots + rm.slots ≤ R.slots)
    (k : ∀ v T' L, Stand p l e R s m args below meth c T' (locs ++ L) (cells + rm.cells) (slots + rm.slots) → Qc v T'.heap L → OG p e below s Q kc ks T' (mkF m pc' Ls (v.toList ++ rest))) : OG p e below s Q kc ks T (mkF m pc Ls st) := by
  subst hp hs
  obtain ⟨cq, kq, qa, qb, qc⟩ := isOf hZ eT E
  obtain ⟨v, vm₁, ⟨T1, L1, c1, n1⟩, -, X1, ⟨Lc, hQ, l1, y1, z1⟩, st⟩ := X.virtualBack hx (y := y) (z := y) hown (mvT hZ hlink) (mvT hZ hdecl) (notFace_of_selects (args := #[]) (mvT hZ hsel)) (mvT hZ hsel) (mvT hZ hinst) hy (backOf (W := W) hM hZ hcode hinit hf hl) qa qc (g := mkF m pc Ls (argsL.reverse ++ .ref a :: rest)) rfl hsize (Steps.refl _) (argsL := argsL) (rest := rest) hlen rfl (by show 2 * 0 + _ ≤ _; omega) hd (fun _ _ => ⟨rfl, eT, hc, hsl⟩)
  dsimp only [Pt.U, Pt.locs, Pt.cells, Pt.slots] at X1 l1 y1 z1 st hQ
  subst l1 y1 z1
  exact OG.step (fun t q => st.trans q) (k v T1 Lc X1 hQ)
theorem o_new (X : Stand p l e R s m args below meth c T locs cells slots) (hx : p.tables.exec = Jvm.exec) (hZ : Z.Warmed39 s.vm) {own C : String} {index n : Nat} {pc pc' : Nat} {Ls : Array Slot} {rest : List Value} (hown : s.vm.findClass own = some m.cls) (eT : T.heap = h) (w : (Cond.classLink own index C).before a0 Z = true) (wi : (Cond.instantiable C n).before a0 Z = true) (wz : (Cond.initialized C).before a0 Z = true) (hd : decode c.code pc = .ok (.new index, 3)) (hp : pc + 3 = pc') (hc : cells + 1 ≤ R.cells) (hl : slots + n ≤ R.slots)
    (k : ∀ T' h' a, Stand p l e R s m args below meth c T' locs (cells + 1) (slots + n) → T'.heap = h' → a = h.size → Ext h h' → Exa Z h' a C → (∀ {O nm d : String} {ty : FieldType}, Laid Z a0 C O nm d → parseFieldDescriptor d = some ty → Fld Z h' a O nm d (defaultValue ty)) → OG p e below s Q kc ks T' (mkF m pc' Ls (.ref a :: rest))) : OG p e below s Q kc ks T (mkF m pc Ls rest) := by
  subst hp
  obtain ⟨T2, h2, X2, e2, E2, A2, D2, -, st2⟩ := newO X hx hZ hown w wi wz eT (g := mkF m pc Ls rest) rfl hd hc hl
  exact OG.step st2 (k T2 h2 _ X2 e2 rfl E2 A2 D2)
theorem o_getF (X : Stand p l e R s m args below meth c T locs cells slots) (hx : p.tables.exec = Jvm.exec) (hZ : Z.Warmed39 s.vm) {own R0 O n d : String} {index : Nat} {a : Addr} {v : Value} {pc pc' : Nat} {Ls : Array Slot} {rest : List Value} (hown : s.vm.findClass own = some m.cls) (eT : T.heap = h) (w : (Cond.fieldLink own index R0 n d).before a0 Z = true) (via : Via Z R0 O n d) (F : Fld Z h a O n d v) (hd : decode c.code pc = .ok (.getfield index, 3)) (hp : pc + 3 = pc')
    (k : ∀ T', Stand p l e R s m args below meth c T' locs cells slots → T'.heap = h → OG p e below s Q kc ks T' (mkF m pc' Ls (v :: rest))) : OG p e below s Q kc ks T (mkF m pc Ls (.ref a :: rest)) := by
  subst hp
  obtain ⟨T1, X1, e1, st1⟩ := getF X hx hZ hown (host := "") (Or.inl w) via eT F (g := mkF m pc Ls (.ref a :: rest)) rfl rfl hd
  exact OG.step st1 (k T1 X1 e1)
theorem o_putF (X : Stand p l e R s m args below meth c T locs cells slots) (hx : p.tables.exec = Jvm.exec) (hZ : Z.Warmed39 s.vm) {own R0 O n d C : String} {index kk : Nat} {ty : FieldType} {a : Addr} {v old : Value} {pc pc' : Nat} {Ls : Array Slot} {rest : List Value} (hown : s.vm.findClass own = some m.cls) (eT : T.heap = h) (w : (Cond.fieldLink own index R0 n d).before a0 Z = true) (via : Via Z R0 O n d) (F : Fld Z h a O n d old) (E : Exa Z h a C)
    (L : (Cond.lays C O n d).before a0 Z = true ∨ ((Cond.laysFinal C O n d).before a0 Z = true ∧ own = O ∧ meth.name = "<init>")) (wi : (Cond.instantiable C kk).before a0 Z = true) (hty : parseFieldDescriptor d = some ty) (hn : narrow ty v = v) (hf : fits ty v = true) (hd : decode c.code pc = .ok (.putfield index, 3)) (hp : pc + 3 = pc')
    (k : ∀ T' h', Stand p l e R s m args below meth c T' (locs ++ [⟨a, RoadKit.slotOf Z O n d⟩]) cells slots → T'.heap = h' → Wr h h' a (RoadKit.slotOf Z O n d) v → OG p e below s Q kc ks T' (mkF m pc' Ls rest)) : OG p e below s Q kc ks T (mkF m pc Ls (v :: .ref a :: rest)) := by
  subst hp
  obtain ⟨T1, h1, X1, e1, W1, st1⟩ := putF X hx hZ hown (host := "") (Or.inl w) via eT F E L wi hty hn hf (g := mkF m pc Ls (v :: .ref a :: rest)) rfl rfl hd
  exact OG.step st1 (k T1 h1 X1 e1 W1)
theorem z_tlt {x : Int32} (h : x < 0) : ifCond.holds .lt x = true ∧ ifCond.holds .ge x = false := ⟨(if0 _ _).trans (tlt h).1, (if0 _ _).trans (tlt h).2.1⟩
theorem z_flt {x : Int32} (h : ¬ x < 0) : ifCond.holds .lt x = false ∧ ifCond.holds .ge x = true := ⟨(if0 _ _).trans (flt h).1, (if0 _ _).trans (flt h).2.1⟩
theorem z_tgt {x : Int32} (h : 0 < x) : ifCond.holds .gt x = true ∧ ifCond.holds .le x = false := ⟨(if0 _ _).trans (tlt h).2.2.1, (if0 _ _).trans (tlt h).2.2.2⟩
theorem z_fgt {x : Int32} (h : ¬ 0 < x) : ifCond.holds .gt x = false ∧ ifCond.holds .le x = true := ⟨(if0 _ _).trans (flt h).2.2.1, (if0 _ _).trans (flt h).2.2.2⟩
theorem z_teq {x : Int32} (h : x = 0) : ifCond.holds .eq x = true ∧ ifCond.holds .ne x = false := ⟨(if0 _ _).trans (teq h).1, (if0 _ _).trans (teq h).2⟩
theorem z_feq {x : Int32} (h : ¬ x = 0) : ifCond.holds .eq x = false ∧ ifCond.holds .ne x = true := ⟨(if0 _ _).trans (feq h).1, (if0 _ _).trans (feq h).2⟩
theorem c_tlt {x y : Int32} (h : x < y) : if_icmp.holds .lt x y = true ∧ if_icmp.holds .ge x y = false := ⟨(tlt h).1, (tlt h).2.1⟩
theorem c_flt {x y : Int32} (h : ¬ x < y) : if_icmp.holds .lt x y = false ∧ if_icmp.holds .ge x y = true := ⟨(flt h).1, (flt h).2.1⟩
theorem c_tgt {x y : Int32} (h : y < x) : if_icmp.holds .gt x y = true ∧ if_icmp.holds .le x y = false := ⟨(tlt h).2.2.1, (tlt h).2.2.2⟩
theorem c_fgt {x y : Int32} (h : ¬ y < x) : if_icmp.holds .gt x y = false ∧ if_icmp.holds .le x y = true := ⟨(flt h).2.2.1, (flt h).2.2.2⟩
theorem c_teq {x y : Int32} (h : x = y) : if_icmp.holds .eq x y = true ∧ if_icmp.holds .ne x y = false := teq h
theorem c_feq {x y : Int32} (h : ¬ x = y) : if_icmp.holds .eq x y = false ∧ if_icmp.holds .ne x y = true := feq h
theorem l_tlt {x y : Int64} (h : x < y) : ifCond.holds .lt (lcmpW x y) = true ∧ ifCond.holds .ge (lcmpW x y) = false := z_tlt ((lw_lt x y).mpr h)
theorem l_flt {x y : Int64} (h : ¬ x < y) : ifCond.holds .lt (lcmpW x y) = false ∧ ifCond.holds .ge (lcmpW x y) = true := z_flt (fun q => h ((lw_lt x y).mp q))
theorem l_tgt {x y : Int64} (h : y < x) : ifCond.holds .gt (lcmpW x y) = true ∧ ifCond.holds .le (lcmpW x y) = false := z_tgt ((lw_gt x y).mpr h)
theorem l_fgt {x y : Int64} (h : ¬ y < x) : ifCond.holds .gt (lcmpW x y) = false ∧ ifCond.holds .le (lcmpW x y) = true := z_fgt (fun q => h ((lw_gt x y).mp q))
theorem l_teq {x y : Int64} (h : x = y) : ifCond.holds .eq (lcmpW x y) = true ∧ ifCond.holds .ne (lcmpW x y) = false := z_teq ((lw_eq x y).mpr h)
theorem l_feq {x y : Int64} (h : ¬ x = y) : ifCond.holds .eq (lcmpW x y) = false ∧ ifCond.holds .ne (lcmpW x y) = true := z_feq (fun q => h ((lw_eq x y).mp q))
end Own
theorem own_max (x : Int64) : 0 ≤ (x &&& (9223372036854775807 : Int64)).toInt := by
  have : (x &&& (9223372036854775807 : Int64)).toBitVec.msb = false := by
    rw [Int64.toBitVec_and, BitVec.msb_and, show (9223372036854775807 : Int64).toBitVec.msb = false by decide, Bool.and_false]
  rw [← Int64.toInt_toBitVec, BitVec.toInt_eq_msb_cond, this]; simp
theorem own_ladd (a b : Int64) : ((a + b).toInt = a.toInt + b.toInt ∨ (a + b).toInt = a.toInt + b.toInt + 2^64 ∨ (a + b).toInt = a.toInt + b.toInt - 2^64) ∧ -2^63 ≤ (a + b).toInt ∧ (a + b).toInt < 2^63 := by
  refine ⟨?_, (a+b).le_toInt, (a+b).toInt_lt⟩
  rw [Int64.toInt_add, Int.bmod_def]; have := a.toInt_lt; have := b.toInt_lt; have := a.le_toInt; have := b.le_toInt; omega
theorem own_lsub (a b : Int64) : ((a - b).toInt = a.toInt - b.toInt ∨ (a - b).toInt = a.toInt - b.toInt + 2^64 ∨ (a - b).toInt = a.toInt - b.toInt - 2^64) ∧ -2^63 ≤ (a - b).toInt ∧ (a - b).toInt < 2^63 := by
  refine ⟨?_, (a-b).le_toInt, (a-b).toInt_lt⟩
  rw [Int64.toInt_sub, Int.bmod_def]; have := a.toInt_lt; have := b.toInt_lt; have := a.le_toInt; have := b.le_toInt; omega

theorem own_toNat {x : Int64} (h : 0 ≤ x.toInt) : x.toInt = x.toBitVec.toNat := by
  rw [← Int64.toInt_toBitVec] at *
  rw [BitVec.toInt_eq_toNat_cond] at *
  have := x.toBitVec.isLt
  split at h <;> rename_i q
  · rw [if_pos q]
  · omega
theorem own_ofNat {x : Int64} (h : x.toBitVec.toNat < 2 ^ 63) : x.toInt = x.toBitVec.toNat := by
  rw [← Int64.toInt_toBitVec, BitVec.toInt_eq_toNat_cond, if_pos (by omega)]
theorem own_and31 (x : Int64) (h : 0 ≤ x.toInt) : (x &&& (2147483647 : Int64)).toInt = x.toInt % 2147483648 := by
  have e : (x &&& (2147483647 : Int64)).toBitVec.toNat = x.toBitVec.toNat % 2^31 := by
    rw [Int64.toBitVec_and, BitVec.toNat_and, show (2147483647 : Int64).toBitVec.toNat = 2^31 - 1 from rfl, Nat.and_two_pow_sub_one_eq_mod]
  rw [own_ofNat (by omega), e, own_toNat h]; omega
theorem own_and31' (x : Int64) : 0 ≤ (x &&& (2147483647 : Int64)).toInt ∧ (x &&& (2147483647 : Int64)).toInt ≤ 2147483647 := by
  have e : (x &&& (2147483647 : Int64)).toBitVec.toNat = x.toBitVec.toNat % 2^31 := by
    rw [Int64.toBitVec_and, BitVec.toNat_and, show (2147483647 : Int64).toBitVec.toNat = 2^31 - 1 from rfl, Nat.and_two_pow_sub_one_eq_mod]
  rw [own_ofNat (by omega), e]; omega
theorem own_ush31 (x : Int64) (h : 0 ≤ x.toInt) : ((x.toUInt64 >>> ((31 : Int32) &&& 0x3f).toInt64.toUInt64).toInt64).toInt = x.toInt / 2147483648 := by
  have e : ((x.toUInt64 >>> ((31 : Int32) &&& 0x3f).toInt64.toUInt64).toInt64).toBitVec.toNat = x.toBitVec.toNat / 2^31 := by
    show (x.toUInt64 >>> (31 : UInt64)).toNat = _
    rw [UInt64.toNat_shiftRight]
    show x.toBitVec.toNat >>> 31 = _
    rw [Nat.shiftRight_eq_div_pow]
  have := x.toInt_lt; have := own_toNat h
  rw [own_ofNat (by omega), e]; omega
theorem own_shl31 (x : Int64) (h : 0 ≤ x.toInt) (h2 : x.toInt < 2147483648) : (x <<< ((31 : Int32) &&& 0x3f).toInt64).toInt = x.toInt * 2147483648 := by
  have q := own_toNat h
  have e : (x <<< ((31 : Int32) &&& 0x3f).toInt64).toBitVec.toNat = x.toBitVec.toNat * 2^31 := by
    show (x.toBitVec <<< 31).toNat = _
    rw [BitVec.toNat_shiftLeft, Nat.shiftLeft_eq, Nat.mod_eq_of_lt (by omega)]
  rw [own_ofNat (by omega), e]; omega
theorem own_lmul {a b : Int64} (h1 : -2^63 ≤ a.toInt * b.toInt) (h2 : a.toInt * b.toInt < 2^63) : (a * b).toInt = a.toInt * b.toInt := by
  rw [Int64.toInt_mul, Int.bmod_def]; generalize a.toInt * b.toInt = z at *; omega
theorem own_len (x : Int64) : 1 ≤ (((x &&& (2147483647 : Int64)) % (2147483647 : Int64)) + (1 : Int64)).toInt ∧ (((x &&& (2147483647 : Int64)) % (2147483647 : Int64)) + (1 : Int64)).toInt ≤ 2147483647 := by
  obtain ⟨a, b⟩ := own_and31' x
  generalize (x &&& (2147483647 : Int64)) = y at *
  have e : (y % 2147483647).toInt = y.toInt % 2147483647 := by
    rw [Int64.toInt_mod, show (2147483647 : Int64).toInt = 2147483647 from rfl, Int.tmod_eq_emod_of_nonneg a]
  have := own_ladd (y % 2147483647) 1
  rw [show (1 : Int64).toInt = 1 from rfl] at this
  omega
theorem own_ne {L : Int64} (h : 1 ≤ L.toInt) : L ≠ 0 := by
  intro q; rw [q] at h; exact absurd h (by decide)
theorem own_q {L : Int64} (h1 : 1 ≤ L.toInt) (h2 : L.toInt ≤ 2147483647) : (-9223372036854775808 : Int64) / L ≠ 0 := by
  intro q
  have := congrArg Int64.toInt q
  rw [Int64.toInt_div_of_ne_right _ _ (by intro q; rw [q] at h1; exact absurd h1 (by decide)), show (-9223372036854775808 : Int64).toInt = -9223372036854775808 from rfl, show (0 : Int64).toInt = 0 from rfl] at this
  rw [show (-9223372036854775808 : Int) = -(9223372036854775808) from rfl, Int.neg_tdiv, Int.tdiv_eq_ediv_of_nonneg (by omega)] at this
  have h3 : 1 ≤ 9223372036854775808 / L.toInt := (Int.le_ediv_iff_mul_le (by omega)).mpr (by omega)
  omega

theorem d1_0 : decode method_3_code 0 = .ok (.lload_n 0, 1) := by decide +kernel
theorem d1_1 : decode method_3_code 1 = .ok (.lconst 0, 1) := by decide +kernel
theorem d1_2 : decode method_3_code 2 = .ok (.lcmp, 1) := by decide +kernel
theorem d1_3 : decode method_3_code 3 = .ok (.ifCond .gt 7, 3) := by decide +kernel
theorem d1_10 : decode method_3_code 10 = .ok (.lload_n 0, 1) := by decide +kernel
theorem d1_11 : decode method_3_code 11 = .ok (.bipush 31, 2) := by decide +kernel
theorem d1_13 : decode method_3_code 13 = .ok (.lushr, 1) := by decide +kernel
theorem d1_14 : decode method_3_code 14 = .ok (.lstore 4, 2) := by decide +kernel
theorem d1_16 : decode method_3_code 16 = .ok (.lload_n 0, 1) := by decide +kernel
theorem d1_17 : decode method_3_code 17 = .ok (.ldc2_w 7, 3) := by decide +kernel
theorem d1_20 : decode method_3_code 20 = .ok (.land, 1) := by decide +kernel
theorem d1_21 : decode method_3_code 21 = .ok (.lstore 6, 2) := by decide +kernel
theorem d1_23 : decode method_3_code 23 = .ok (.lload 4, 2) := by decide +kernel
theorem d1_25 : decode method_3_code 25 = .ok (.lload_n 2, 1) := by decide +kernel
theorem d1_26 : decode method_3_code 26 = .ok (.lmul, 1) := by decide +kernel
theorem d1_27 : decode method_3_code 27 = .ok (.lstore 8, 2) := by decide +kernel
theorem d1_29 : decode method_3_code 29 = .ok (.lload 8, 2) := by decide +kernel
theorem d1_31 : decode method_3_code 31 = .ok (.ldc2_w 26, 3) := by decide +kernel
theorem d1_34 : decode method_3_code 34 = .ok (.lcmp, 1) := by decide +kernel
theorem d1_35 : decode method_3_code 35 = .ok (.ifCond .lt 7, 3) := by decide +kernel
theorem d1_42 : decode method_3_code 42 = .ok (.lload 8, 2) := by decide +kernel
theorem d1_44 : decode method_3_code 44 = .ok (.bipush 31, 2) := by decide +kernel
theorem d1_46 : decode method_3_code 46 = .ok (.lshl, 1) := by decide +kernel
theorem d1_47 : decode method_3_code 47 = .ok (.lload 6, 2) := by decide +kernel
theorem d1_49 : decode method_3_code 49 = .ok (.lload_n 2, 1) := by decide +kernel
theorem d1_50 : decode method_3_code 50 = .ok (.lmul, 1) := by decide +kernel
theorem d1_51 : decode method_3_code 51 = .ok (.ladd, 1) := by decide +kernel
theorem d1_52 : decode method_3_code 52 = .ok (.lstore 10, 2) := by decide +kernel
theorem d1_54 : decode method_3_code 54 = .ok (.lload 10, 2) := by decide +kernel
theorem d1_56 : decode method_3_code 56 = .ok (.ldc2_w 11, 3) := by decide +kernel
theorem d1_59 : decode method_3_code 59 = .ok (.lcmp, 1) := by decide +kernel
theorem d1_60 : decode method_3_code 60 = .ok (.ifCond .le 7, 3) := by decide +kernel
theorem d1_63 : decode method_3_code 63 = .ok (.ldc2_w 11, 3) := by decide +kernel
theorem d1_66 : decode method_3_code 66 = .ok (.lreturn, 1) := by decide +kernel
theorem d1_67 : decode method_3_code 67 = .ok (.lload 10, 2) := by decide +kernel
theorem d1_69 : decode method_3_code 69 = .ok (.lreturn, 1) := by decide +kernel
theorem d1_38 : decode method_3_code 38 = .ok (.ldc2_w 11, 3) := by decide +kernel
theorem d1_41 : decode method_3_code 41 = .ok (.lreturn, 1) := by decide +kernel
theorem d1_6 : decode method_3_code 6 = .ok (.lload_n 0, 1) := by decide +kernel
theorem d1_7 : decode method_3_code 7 = .ok (.lload_n 2, 1) := by decide +kernel
theorem d1_8 : decode method_3_code 8 = .ok (.lmul, 1) := by decide +kernel
theorem d1_9 : decode method_3_code 9 = .ok (.lreturn, 1) := by decide +kernel
def f1_29 (x2 : Int64) (x6 : Int64) (x8 : Int64) : Int64 := (if x8 < (2147483648 : Int64) then (if (4611686018427387903 : Int64) < ((x8 <<< ((31 : Int32) &&& 0x3f).toInt64) + (x6 * x2)) then (4611686018427387903 : Int64) else ((x8 <<< ((31 : Int32) &&& 0x3f).toInt64) + (x6 * x2))) else (4611686018427387903 : Int64))
set_option maxRecDepth 65536 in
set_option maxHeartbeats 40000000 in
theorem b1_29 {p : Program} {l : Launch} {e : Env} {s : State} {m : MethodId} {args : Array Value} {below : List Frame} {meth : Method} {c : Code} {Z : State} {a0 : Array Value} {h0 : Heap} {n0 : Nat} (hx : p.tables.exec = Jvm.exec) (hZ : Z.Warmed39 s.vm) (hw : ∀ d ∈ tables_1, d.before a0 Z = true) (hby : c.code = method_3_code) (hml : c.maxLocals = 12) (hown : s.vm.findClass "com/example/ridgeline/ridgeline/filtering/ElasticScheduleProductPinLaw" = some m.cls) (hnm : meth.name = "reference") (hret : meth.sig.returnType = some .long) (hlk : meth.locks = false) (Z0 : n0 ≤ h0.size)  {T : State} {locs : List Loc} (d0 : Int64) (x2 : Int64) (d4 : Int64) (x6 : Int64) (x8 : Int64) (r : Int64) (X : Stand p l e ({ frames := 0, cells := 0, slots := 0, locals := 0 } : Room) s m args below meth c T locs 0 0) (eT : T.heap = h0) (N : Fr n0 locs) (hr : f1_29 x2 x6 x8 = r) :
    OG p e below s (fun v h L => v = (some (.long r)) ∧ Fr n0 L ∧ h = h0) 0 0 T (mkF m 29 #[.val (.long d0), .second, .val (.long x2), .second, .val (.long d4), .second, .val (.long x6), .second, .val (.long x8), .second, .unset, .unset] []) := by
  have hr : (if x8 < (2147483648 : Int64) then (if (4611686018427387903 : Int64) < ((x8 <<< ((31 : Int32) &&& 0x3f).toInt64) + (x6 * x2)) then (4611686018427387903 : Int64) else ((x8 <<< ((31 : Int32) &&& 0x3f).toInt64) + (x6 * x2))) else (4611686018427387903 : Int64)) = r := hr
  refine o_lload X hx (hb hby d1_29) rfl (pc' := 31) rfl ?_
  refine o_ldc2Long X hx hZ hown (hb hby d1_31) (hw _ (List.mem_of_getElem? (i := 6) rfl)) (pc' := 34) rfl ?_
  refine o_lcmp X hx (hb hby d1_34) (pc' := 35) rfl ?_
  by_cases hc2 : x8 < (2147483648 : Int64)
  · rw [if_pos hc2] at hr
    refine o_ifYes X hx (hb hby d1_35) (l_tlt hc2).1 (pc' := 42) (by decide) (by decide) ?_
    refine o_lload X hx (hb hby d1_42) rfl (pc' := 44) rfl ?_
    refine o_bipush X hx (hb hby d1_44) (31 : Int32) rfl (pc' := 46) rfl ?_
    refine o_lshl X hx (hb hby d1_46) (pc' := 47) rfl ?_
    refine o_lload X hx (hb hby d1_47) rfl (pc' := 49) rfl ?_
    refine o_lload_n X hx (hb hby d1_49) rfl (pc' := 50) rfl ?_
    refine o_lmul X hx (hb hby d1_50) (pc' := 51) rfl ?_
    refine o_ladd X hx (hb hby d1_51) (pc' := 52) rfl ?_
    refine o_lstore X hx (hb hby d1_52) #[.val (.long d0), .second, .val (.long x2), .second, .val (.long d4), .second, .val (.long x6), .second, .val (.long x8), .second, .val (.long ((x8 <<< ((31 : Int32) &&& 0x3f).toInt64) + (x6 * x2))), .second] rfl (pc' := 54) rfl ?_
    refine o_lload X hx (hb hby d1_54) rfl (pc' := 56) rfl ?_
    refine o_ldc2Long X hx hZ hown (hb hby d1_56) (hw _ (List.mem_of_getElem? (i := 7) rfl)) (pc' := 59) rfl ?_
    refine o_lcmp X hx (hb hby d1_59) (pc' := 60) rfl ?_
    by_cases hc3 : (4611686018427387903 : Int64) < ((x8 <<< ((31 : Int32) &&& 0x3f).toInt64) + (x6 * x2))
    · rw [if_pos hc3] at hr
      refine o_ifNo X hx (hb hby d1_60) (l_tgt hc3).2 (pc' := 63) rfl ?_
      refine o_ldc2Long X hx hZ hown (hb hby d1_63) (hw _ (List.mem_of_getElem? (i := 7) rfl)) (pc' := 66) rfl ?_
      subst hr
      exact o_retJ X hx hlk hret (hb hby d1_66) ⟨rfl, N, eT⟩ (by decide) (by decide)
    · rw [if_neg hc3] at hr
      refine o_ifYes X hx (hb hby d1_60) (l_fgt hc3).2 (pc' := 67) (by decide) (by decide) ?_
      refine o_lload X hx (hb hby d1_67) rfl (pc' := 69) rfl ?_
      subst hr
      exact o_retJ X hx hlk hret (hb hby d1_69) ⟨rfl, N, eT⟩ (by decide) (by decide)
  · rw [if_neg hc2] at hr
    refine o_ifNo X hx (hb hby d1_35) (l_flt hc2).1 (pc' := 38) rfl ?_
    refine o_ldc2Long X hx hZ hown (hb hby d1_38) (hw _ (List.mem_of_getElem? (i := 7) rfl)) (pc' := 41) rfl ?_
    subst hr
    exact o_retJ X hx hlk hret (hb hby d1_41) ⟨rfl, N, eT⟩ (by decide) (by decide)
def f1_0 (x0 : Int64) (x2 : Int64) : Int64 := (if (0 : Int64) < x0 then (f1_29 x2 (x0 &&& (2147483647 : Int64)) (((x0.toUInt64 >>> ((31 : Int32) &&& 0x3f).toInt64.toUInt64).toInt64) * x2)) else (x0 * x2))
set_option maxRecDepth 65536 in
set_option maxHeartbeats 40000000 in
theorem b1_0 {p : Program} {l : Launch} {e : Env} {s : State} {m : MethodId} {args : Array Value} {below : List Frame} {meth : Method} {c : Code} {Z : State} {a0 : Array Value} {h0 : Heap} {n0 : Nat} (hx : p.tables.exec = Jvm.exec) (hZ : Z.Warmed39 s.vm) (hw : ∀ d ∈ tables_1, d.before a0 Z = true) (hby : c.code = method_3_code) (hml : c.maxLocals = 12) (hown : s.vm.findClass "com/example/ridgeline/ridgeline/filtering/ElasticScheduleProductPinLaw" = some m.cls) (hnm : meth.name = "reference") (hret : meth.sig.returnType = some .long) (hlk : meth.locks = false) (Z0 : n0 ≤ h0.size)  {T : State} {locs : List Loc} (x0 : Int64) (x2 : Int64) (r : Int64) (X : Stand p l e ({ frames := 0, cells := 0, slots := 0, locals := 0 } : Room) s m args below meth c T locs 0 0) (eT : T.heap = h0) (N : Fr n0 locs) (hr : f1_0 x0 x2 = r) :
    OG p e below s (fun v h L => v = (some (.long r)) ∧ Fr n0 L ∧ h = h0) 0 0 T (mkF m 0 #[.val (.long x0), .second, .val (.long x2), .second, .unset, .unset, .unset, .unset, .unset, .unset, .unset, .unset] []) := by
  have hr : (if (0 : Int64) < x0 then (f1_29 x2 (x0 &&& (2147483647 : Int64)) (((x0.toUInt64 >>> ((31 : Int32) &&& 0x3f).toInt64.toUInt64).toInt64) * x2)) else (x0 * x2)) = r := hr
  refine o_lload_n X hx (hb hby d1_0) rfl (pc' := 1) rfl ?_
  refine o_lconst X hx (hb hby d1_1) (0 : Int64) rfl (pc' := 2) rfl ?_
  refine o_lcmp X hx (hb hby d1_2) (pc' := 3) rfl ?_
  by_cases hc1 : (0 : Int64) < x0
  · rw [if_pos hc1] at hr
    refine o_ifYes X hx (hb hby d1_3) (l_tgt hc1).1 (pc' := 10) (by decide) (by decide) ?_
    refine o_lload_n X hx (hb hby d1_10) rfl (pc' := 11) rfl ?_
    refine o_bipush X hx (hb hby d1_11) (31 : Int32) rfl (pc' := 13) rfl ?_
    refine o_lushr X hx (hb hby d1_13) (pc' := 14) rfl ?_
    refine o_lstore X hx (hb hby d1_14) #[.val (.long x0), .second, .val (.long x2), .second, .val (.long ((x0.toUInt64 >>> ((31 : Int32) &&& 0x3f).toInt64.toUInt64).toInt64)), .second, .unset, .unset, .unset, .unset, .unset, .unset] rfl (pc' := 16) rfl ?_
    refine o_lload_n X hx (hb hby d1_16) rfl (pc' := 17) rfl ?_
    refine o_ldc2Long X hx hZ hown (hb hby d1_17) (hw _ (List.mem_of_getElem? (i := 0) rfl)) (pc' := 20) rfl ?_
    refine o_land X hx (hb hby d1_20) (pc' := 21) rfl ?_
    refine o_lstore X hx (hb hby d1_21) #[.val (.long x0), .second, .val (.long x2), .second, .val (.long ((x0.toUInt64 >>> ((31 : Int32) &&& 0x3f).toInt64.toUInt64).toInt64)), .second, .val (.long (x0 &&& (2147483647 : Int64))), .second, .unset, .unset, .unset, .unset] rfl (pc' := 23) rfl ?_
    refine o_lload X hx (hb hby d1_23) rfl (pc' := 25) rfl ?_
    refine o_lload_n X hx (hb hby d1_25) rfl (pc' := 26) rfl ?_
    refine o_lmul X hx (hb hby d1_26) (pc' := 27) rfl ?_
    refine o_lstore X hx (hb hby d1_27) #[.val (.long x0), .second, .val (.long x2), .second, .val (.long ((x0.toUInt64 >>> ((31 : Int32) &&& 0x3f).toInt64.toUInt64).toInt64)), .second, .val (.long (x0 &&& (2147483647 : Int64))), .second, .val (.long (((x0.toUInt64 >>> ((31 : Int32) &&& 0x3f).toInt64.toUInt64).toInt64) * x2)), .second, .unset, .unset] rfl (pc' := 29) rfl ?_
    exact b1_29 hx hZ hw hby hml hown hnm hret hlk Z0 x0 x2 ((x0.toUInt64 >>> ((31 : Int32) &&& 0x3f).toInt64.toUInt64).toInt64) (x0 &&& (2147483647 : Int64)) (((x0.toUInt64 >>> ((31 : Int32) &&& 0x3f).toInt64.toUInt64).toInt64) * x2) r X eT N hr
  · rw [if_neg hc1] at hr
    refine o_ifNo X hx (hb hby d1_3) (l_fgt hc1).1 (pc' := 6) rfl ?_
    refine o_lload_n X hx (hb hby d1_6) rfl (pc' := 7) rfl ?_
    refine o_lload_n X hx (hb hby d1_7) rfl (pc' := 8) rfl ?_
    refine o_lmul X hx (hb hby d1_8) (pc' := 9) rfl ?_
    subst hr
    exact o_retJ X hx hlk hret (hb hby d1_9) ⟨rfl, N, eT⟩ (by decide) (by decide)
theorem pn_1 : plainName "com/example/ridgeline/ridgeline/filtering/ElasticScheduleProductPinLaw" = true := by first | (simp [plainName, overriddenIn]; done) | decide +kernel
theorem ef_1 (m : MethodId) (x0 : Int64) (x2 : Int64) : entryFrame m #[(.long x0), (.long x2)] 12 = (mkF m 0 #[.val (.long x0), .second, .val (.long x2), .second, .unset, .unset, .unset, .unset, .unset, .unset, .unset, .unset] []) := by first | (simp [entryFrame, mkF, argsToLocals, Value.category]; done) | rfl
def Qd1 (Z : State) (h0 : Heap) (n0 : Nat) (x0 : Int64) (x2 : Int64) : Option Value → Heap → List Loc → Prop := (fun v h L => v = (some (.long (f1_0 x0 x2))) ∧ Fr n0 L ∧ h = h0)
set_option maxRecDepth 65536 in
set_option maxHeartbeats 40000000 in
theorem rm1 (l : Launch) (Z : State) (a0 : Array Value) (hw : ∀ d ∈ tables_1, d.before a0 Z = true) (ws : List Jvm.Cond)  (x0 : Int64) (x2 : Int64) (h0 : Heap) (n0 : Nat) (Z0 : n0 ≤ h0.size) :
    MetFree l (⟨"com/example/ridgeline/ridgeline/filtering/ElasticScheduleProductPinLaw", "reference", "(JJ)J"⟩ : MethodName) (head1 (Jvm.Cond.code (⟨"com/example/ridgeline/ridgeline/filtering/ElasticScheduleProductPinLaw", "reference", "(JJ)J"⟩ : MethodName) method_3_code 12 (some .long) :: ws) ({ frames := 0, cells := 0, slots := 0, locals := 0 } : Room)) (fun a U => a = #[(.long x0), (.long x2)] ∧ Z.Warmed39 U.vm ∧ U.heap = h0) (fun _ _ _ _ _ => True) (fun _ U o U' => ∃ v L, o = .returned v ∧ (Qd1 Z h0 n0 x0 x2) v U'.heap L ∧ FrameEnd U o U' L ({ frames := 0, cells := 0, slots := 0, locals := 0 } : Room).cells ({ frames := 0, cells := 0, slots := 0, locals := 0 } : Room).slots) := by
  refine MetFree.of_bodySF (plainFor_of_name pn_1) hisR ?_
  intro p e s m args below meth c s₁ Bd hml0 hP hK
  obtain ⟨rfl, hZ, hh⟩ := hP
  have e0 : s₁.heap = h0 := by rw [← hh, Bd.state]; rfl
  exact OG.cast (ef_1 m x0 x2) (b1_0 Bd.exec hZ hw Bd.bytes hml0 (findClass_of_methodNamed Bd.named) (name_of_methodNamed Bd.named Bd.method).1 Bd.returns Bd.notSynchronized Z0 x0 x2 (f1_0 x0 x2) (Stand.of_body Bd) e0 (Fr.nil n0) rfl)
theorem d2_0 : decode prog_27_method_8_code 0 = .ok (.lload_n 0, 1) := by decide +kernel
theorem d2_1 : decode prog_27_method_8_code 1 = .ok (.ldc2_w 115, 3) := by decide +kernel
theorem d2_4 : decode prog_27_method_8_code 4 = .ok (.lcmp, 1) := by decide +kernel
theorem d2_5 : decode prog_27_method_8_code 5 = .ok (.ifCond .le 13, 3) := by decide +kernel
theorem d2_8 : decode prog_27_method_8_code 8 = .ok (.lload_n 0, 1) := by decide +kernel
theorem d2_9 : decode prog_27_method_8_code 9 = .ok (.ldc2_w 105, 3) := by decide +kernel
theorem d2_12 : decode prog_27_method_8_code 12 = .ok (.lload_n 2, 1) := by decide +kernel
theorem d2_13 : decode prog_27_method_8_code 13 = .ok (.ldiv, 1) := by decide +kernel
theorem d2_14 : decode prog_27_method_8_code 14 = .ok (.lcmp, 1) := by decide +kernel
theorem d2_15 : decode prog_27_method_8_code 15 = .ok (.ifCond .gt 9, 3) := by decide +kernel
theorem d2_24 : decode prog_27_method_8_code 24 = .ok (.ldc2_w 105, 3) := by decide +kernel
theorem d2_27 : decode prog_27_method_8_code 27 = .ok (.lreturn, 1) := by decide +kernel
theorem d2_18 : decode prog_27_method_8_code 18 = .ok (.lload_n 0, 1) := by decide +kernel
theorem d2_19 : decode prog_27_method_8_code 19 = .ok (.lload_n 2, 1) := by decide +kernel
theorem d2_20 : decode prog_27_method_8_code 20 = .ok (.lmul, 1) := by decide +kernel
theorem d2_21 : decode prog_27_method_8_code 21 = .ok (.goto 6, 3) := by decide +kernel
def f2_18 (x0 : Int64) (x2 : Int64) : Int64 := (x0 * x2)
set_option maxRecDepth 65536 in
set_option maxHeartbeats 40000000 in
theorem b2_18 {p : Program} {l : Launch} {e : Env} {s : State} {m : MethodId} {args : Array Value} {below : List Frame} {meth : Method} {c : Code} {Z : State} {a0 : Array Value} {h0 : Heap} {n0 : Nat} (hx : p.tables.exec = Jvm.exec) (hZ : Z.Warmed39 s.vm) (hw : ∀ d ∈ tables_1, d.before a0 Z = true) (hby : c.code = prog_27_method_8_code) (hml : c.maxLocals = 4) (hown : s.vm.findClass "com/example/ridgeline/ridgeline/filtering/ElasticSchedule" = some m.cls) (hnm : meth.name = "product") (hret : meth.sig.returnType = some .long) (hlk : meth.locks = false) (Z0 : n0 ≤ h0.size)  {T : State} {locs : List Loc} (x0 : Int64) (x2 : Int64) (r : Int64) (X : Stand p l e ({ frames := 0, cells := 0, slots := 0, locals := 0 } : Room) s m args below meth c T locs 0 0) (eT : T.heap = h0) (N : Fr n0 locs) (hp2 : x2 ≠ 0) (hr : f2_18 x0 x2 = r) :
    OG p e below s (fun v h L => v = (some (.long r)) ∧ Fr n0 L ∧ h = h0) 0 0 T (mkF m 18 #[.val (.long x0), .second, .val (.long x2), .second] []) := by
  have hr : (x0 * x2) = r := hr
  refine o_lload_n X hx (hb hby d2_18) rfl (pc' := 19) rfl ?_
  refine o_lload_n X hx (hb hby d2_19) rfl (pc' := 20) rfl ?_
  refine o_lmul X hx (hb hby d2_20) (pc' := 21) rfl ?_
  refine o_goto X hx (hb hby d2_21) (pc' := 27) (by decide) (by decide) ?_
  subst hr
  exact o_retJ X hx hlk hret (hb hby d2_27) ⟨rfl, N, eT⟩ (by decide) (by decide)
def f2_0 (x0 : Int64) (x2 : Int64) : Int64 := (if (2147483647 : Int64) < x0 then (if ((4611686018427387903 : Int64) / x2) < x0 then (4611686018427387903 : Int64) else (f2_18 x0 x2)) else (f2_18 x0 x2))
set_option maxRecDepth 65536 in
set_option maxHeartbeats 40000000 in
theorem b2_0 {p : Program} {l : Launch} {e : Env} {s : State} {m : MethodId} {args : Array Value} {below : List Frame} {meth : Method} {c : Code} {Z : State} {a0 : Array Value} {h0 : Heap} {n0 : Nat} (hx : p.tables.exec = Jvm.exec) (hZ : Z.Warmed39 s.vm) (hw : ∀ d ∈ tables_1, d.before a0 Z = true) (hby : c.code = prog_27_method_8_code) (hml : c.maxLocals = 4) (hown : s.vm.findClass "com/example/ridgeline/ridgeline/filtering/ElasticSchedule" = some m.cls) (hnm : meth.name = "product") (hret : meth.sig.returnType = some .long) (hlk : meth.locks = false) (Z0 : n0 ≤ h0.size)  {T : State} {locs : List Loc} (x0 : Int64) (x2 : Int64) (r : Int64) (X : Stand p l e ({ frames := 0, cells := 0, slots := 0, locals := 0 } : Room) s m args below meth c T locs 0 0) (eT : T.heap = h0) (N : Fr n0 locs) (hp2 : x2 ≠ 0) (hr : f2_0 x0 x2 = r) :
    OG p e below s (fun v h L => v = (some (.long r)) ∧ Fr n0 L ∧ h = h0) 0 0 T (mkF m 0 #[.val (.long x0), .second, .val (.long x2), .second] []) := by
  have hr : (if (2147483647 : Int64) < x0 then (if ((4611686018427387903 : Int64) / x2) < x0 then (4611686018427387903 : Int64) else (f2_18 x0 x2)) else (f2_18 x0 x2)) = r := hr
  refine o_lload_n X hx (hb hby d2_0) rfl (pc' := 1) rfl ?_
  refine o_ldc2Long X hx hZ hown (hb hby d2_1) (hw _ (List.mem_of_getElem? (i := 12) rfl)) (pc' := 4) rfl ?_
  refine o_lcmp X hx (hb hby d2_4) (pc' := 5) rfl ?_
  by_cases hc1 : (2147483647 : Int64) < x0
  · rw [if_pos hc1] at hr
    refine o_ifNo X hx (hb hby d2_5) (l_tgt hc1).2 (pc' := 8) rfl ?_
    refine o_lload_n X hx (hb hby d2_8) rfl (pc' := 9) rfl ?_
    refine o_ldc2Long X hx hZ hown (hb hby d2_9) (hw _ (List.mem_of_getElem? (i := 13) rfl)) (pc' := 12) rfl ?_
    refine o_lload_n X hx (hb hby d2_12) rfl (pc' := 13) rfl ?_
    refine o_ldiv X hx (hb hby d2_13) hp2 (pc' := 14) rfl ?_
    refine o_lcmp X hx (hb hby d2_14) (pc' := 15) rfl ?_
    by_cases hc2 : ((4611686018427387903 : Int64) / x2) < x0
    · rw [if_pos hc2] at hr
      refine o_ifYes X hx (hb hby d2_15) (l_tgt hc2).1 (pc' := 24) (by decide) (by decide) ?_
      refine o_ldc2Long X hx hZ hown (hb hby d2_24) (hw _ (List.mem_of_getElem? (i := 13) rfl)) (pc' := 27) rfl ?_
      subst hr
      exact o_retJ X hx hlk hret (hb hby d2_27) ⟨rfl, N, eT⟩ (by decide) (by decide)
    · rw [if_neg hc2] at hr
      refine o_ifNo X hx (hb hby d2_15) (l_fgt hc2).1 (pc' := 18) rfl ?_
      exact b2_18 hx hZ hw hby hml hown hnm hret hlk Z0 x0 x2 r X eT N (by first | assumption | decide | exact hp2) hr
  · rw [if_neg hc1] at hr
    refine o_ifYes X hx (hb hby d2_5) (l_fgt hc1).2 (pc' := 18) (by decide) (by decide) ?_
    exact b2_18 hx hZ hw hby hml hown hnm hret hlk Z0 x0 x2 r X eT N (by first | assumption | decide | exact hp2) hr
theorem pn_2 : plainName "com/example/ridgeline/ridgeline/filtering/ElasticSchedule" = true := by first | (simp [plainName, overriddenIn]; done) | decide +kernel
theorem ef_2 (m : MethodId) (x0 : Int64) (x2 : Int64) : entryFrame m #[(.long x0), (.long x2)] 4 = (mkF m 0 #[.val (.long x0), .second, .val (.long x2), .second] []) := by first | (simp [entryFrame, mkF, argsToLocals, Value.category]; done) | rfl
def Qd2 (Z : State) (h0 : Heap) (n0 : Nat) (x0 : Int64) (x2 : Int64) : Option Value → Heap → List Loc → Prop := (fun v h L => v = (some (.long (f2_0 x0 x2))) ∧ Fr n0 L ∧ h = h0)
set_option maxRecDepth 65536 in
set_option maxHeartbeats 40000000 in
theorem rm2 (l : Launch) (Z : State) (a0 : Array Value) (hw : ∀ d ∈ tables_1, d.before a0 Z = true) (ws : List Jvm.Cond)  (x0 : Int64) (x2 : Int64) (h0 : Heap) (n0 : Nat) (Z0 : n0 ≤ h0.size) (hp2 : x2 ≠ 0) :
    MetFree l (⟨"com/example/ridgeline/ridgeline/filtering/ElasticSchedule", "product", "(JJ)J"⟩ : MethodName) (head1 (Jvm.Cond.code (⟨"com/example/ridgeline/ridgeline/filtering/ElasticSchedule", "product", "(JJ)J"⟩ : MethodName) prog_27_method_8_code 4 (some .long) :: ws) ({ frames := 0, cells := 0, slots := 0, locals := 0 } : Room)) (fun a U => a = #[(.long x0), (.long x2)] ∧ Z.Warmed39 U.vm ∧ U.heap = h0) (fun _ _ _ _ _ => True) (fun _ U o U' => ∃ v L, o = .returned v ∧ (Qd2 Z h0 n0 x0 x2) v U'.heap L ∧ FrameEnd U o U' L ({ frames := 0, cells := 0, slots := 0, locals := 0 } : Room).cells ({ frames := 0, cells := 0, slots := 0, locals := 0 } : Room).slots) := by
  refine MetFree.of_bodySF (plainFor_of_name pn_2) hisR ?_
  intro p e s m args below meth c s₁ Bd hml0 hP hK
  obtain ⟨rfl, hZ, hh⟩ := hP
  have e0 : s₁.heap = h0 := by rw [← hh, Bd.state]; rfl
  exact OG.cast (ef_2 m x0 x2) (b2_0 Bd.exec hZ hw Bd.bytes hml0 (findClass_of_methodNamed Bd.named) (name_of_methodNamed Bd.named Bd.method).1 Bd.returns Bd.notSynchronized Z0 x0 x2 (f2_0 x0 x2) (Stand.of_body Bd) e0 (Fr.nil n0) hp2 rfl)
theorem pd_0 : parseMethodDescriptor "(JJ)J" = some ⟨[.long, .long], some .long⟩ := by decide +kernel
def f0_78 (x6 : Int64) (x9 : Int64) : Int32 := (if (f2_0 x9 x6) = (f1_0 x9 x6) then (1 : Int32) else (0 : Int32))
set_option maxRecDepth 65536 in
set_option maxHeartbeats 40000000 in
theorem b0_78 {p : Program} {l : Launch} {e : Env} {s : State} {m : MethodId} {args : Array Value} {below : List Frame} {meth : Method} {c : Code} {Z : State} {a0 : Array Value} {h0 : Heap} {n0 : Nat} (hx : p.tables.exec = Jvm.exec) (hZ : Z.Warmed39 s.vm) (hw : ∀ d ∈ tables_1, d.before a0 Z = true) (hby : c.code = code) (hml : c.maxLocals = 15) (hown : s.vm.findClass "com/example/ridgeline/ridgeline/filtering/ElasticScheduleProductPinLaw" = some m.cls) (hnm : meth.name = "law") (hret : meth.sig.returnType = some .boolean) (hlk : meth.locks = false) (Z0 : n0 ≤ h0.size)  {T : State} {locs : List Loc} (d0 : Int64) (d2 : Int64) (d4 : Int32) (d5 : Int32) (x6 : Int64) (d8 : Int32) (x9 : Int64) (d11 : Int64) (r : Int32) (X : Stand p l e room_1 s m args below meth c T locs 0 0) (eT : T.heap = h0) (N : Fr n0 locs) (hp6 : (1 ≤ x6.toInt ∧ x6.toInt ≤ 2147483647)) (hr : f0_78 x6 x9 = r) :
    OG p e below s (fun v h L => v = (some (.int r)) ∧ Fr n0 L) 0 0 T (mkF m 78 #[.val (.long d0), .second, .val (.long d2), .second, .val (.int d4), .val (.int d5), .val (.long x6), .second, .val (.int d8), .val (.long x9), .second, .val (.long d11), .second, .unset, .unset] []) := by
  have hr : (if (f2_0 x9 x6) = (f1_0 x9 x6) then (1 : Int32) else (0 : Int32)) = r := hr
  refine o_lload X hx (hb hby at_78) rfl (pc' := 80) rfl ?_
  refine o_lload X hx (hb hby at_80) rfl (pc' := 82) rfl ?_
  refine o_callS X hx hZ (argsL := [(.long x9), (.long x6)]) (rest := []) 0 hown eT (hw _ (List.mem_of_getElem? (i := 2) rfl)) (hw _ (List.mem_of_getElem? (i := 3) rfl)) (hw _ (List.mem_of_getElem? (i := 4) rfl)) (hw _ (List.mem_of_getElem? (i := 5) rfl)) (by decide) (rm1 l Z a0 hw [] x9 x6 h0 n0 Z0) (by decide) (by decide) (by rw [hml]; rfl) (lenOf pd_0 rfl) rfl (Nat.le_refl _) (hb hby at_82) (pc' := 85) rfl (by decide) (by decide) ?_
  rintro _ T3 L3 X3 ⟨rfl, N3, e3⟩
  replace X3 : Stand p l e room_1 s m args below meth c T3 (locs ++ L3) 0 0 := X3
  have M3 := Fr.app N N3
  dsimp only [Option.toList, List.cons_append, List.nil_append]
  refine o_lstore X3 hx (hb hby at_85) #[.val (.long d0), .second, .val (.long d2), .second, .val (.int d4), .val (.int d5), .val (.long x6), .second, .val (.int d8), .val (.long x9), .second, .val (.long d11), .second, .val (.long (f1_0 x9 x6)), .second] rfl (pc' := 87) rfl ?_
  refine o_lload X3 hx (hb hby at_87) rfl (pc' := 89) rfl ?_
  refine o_lload X3 hx (hb hby at_89) rfl (pc' := 91) rfl ?_
  refine o_callS X3 hx hZ (argsL := [(.long x9), (.long x6)]) (rest := []) 0 hown e3 (hw _ (List.mem_of_getElem? (i := 8) rfl)) (hw _ (List.mem_of_getElem? (i := 9) rfl)) (hw _ (List.mem_of_getElem? (i := 10) rfl)) (hw _ (List.mem_of_getElem? (i := 11) rfl)) (by decide) (rm2 l Z a0 hw [] x9 x6 h0 n0 Z0 (own_ne hp6.1)) (by decide) (by decide) (by rw [hml]; rfl) (lenOf pd_0 rfl) rfl (Nat.le_refl _) (hb hby at_91) (pc' := 94) rfl (by decide) (by decide) ?_
  rintro _ T4 L4 X4 ⟨rfl, N4, e4⟩
  replace X4 : Stand p l e room_1 s m args below meth c T4 ((locs ++ L3) ++ L4) 0 0 := X4
  have M4 := Fr.app M3 N4
  dsimp only [Option.toList, List.cons_append, List.nil_append]
  refine o_lload X4 hx (hb hby at_94) rfl (pc' := 96) rfl ?_
  refine o_lcmp X4 hx (hb hby at_96) (pc' := 97) rfl ?_
  by_cases hc5 : (f2_0 x9 x6) = (f1_0 x9 x6)
  · rw [if_pos hc5] at hr
    refine o_ifNo X4 hx (hb hby at_97) (l_teq hc5).2 (pc' := 100) rfl ?_
    refine o_iconst X4 hx (hb hby at_100) (1 : Int32) rfl (pc' := 101) rfl ?_
    refine o_goto X4 hx (hb hby at_101) (pc' := 105) (by decide) (by decide) ?_
    subst hr
    exact o_retN X4 hx hlk (t := .boolean) (by simp) hret (hb hby at_105) rfl ⟨rfl, M4⟩ (by decide) (by decide)
  · rw [if_neg hc5] at hr
    refine o_ifYes X4 hx (hb hby at_97) (l_feq hc5).2 (pc' := 104) (by decide) (by decide) ?_
    refine o_iconst X4 hx (hb hby at_104) (0 : Int32) rfl (pc' := 105) rfl ?_
    subst hr
    exact o_retN X4 hx hlk (t := .boolean) (by simp) hret (hb hby at_105) rfl ⟨rfl, M4⟩ (by decide) (by decide)
def f0_55 (x6 : Int64) (x9 : Int64) : Int32 := (if x9 < ((-9223372036854775808 : Int64) / x6) then (f0_78 x6 (x9 % ((-9223372036854775808 : Int64) / x6))) else (f0_78 x6 x9))
set_option maxRecDepth 65536 in
set_option maxHeartbeats 40000000 in
theorem b0_55 {p : Program} {l : Launch} {e : Env} {s : State} {m : MethodId} {args : Array Value} {below : List Frame} {meth : Method} {c : Code} {Z : State} {a0 : Array Value} {h0 : Heap} {n0 : Nat} (hx : p.tables.exec = Jvm.exec) (hZ : Z.Warmed39 s.vm) (hw : ∀ d ∈ tables_1, d.before a0 Z = true) (hby : c.code = code) (hml : c.maxLocals = 15) (hown : s.vm.findClass "com/example/ridgeline/ridgeline/filtering/ElasticScheduleProductPinLaw" = some m.cls) (hnm : meth.name = "law") (hret : meth.sig.returnType = some .boolean) (hlk : meth.locks = false) (Z0 : n0 ≤ h0.size)  {T : State} {locs : List Loc} (d0 : Int64) (d2 : Int64) (d4 : Int32) (d5 : Int32) (x6 : Int64) (d8 : Int32) (x9 : Int64) (r : Int32) (X : Stand p l e room_1 s m args below meth c T locs 0 0) (eT : T.heap = h0) (N : Fr n0 locs) (hp6 : (1 ≤ x6.toInt ∧ x6.toInt ≤ 2147483647)) (hr : f0_55 x6 x9 = r) :
    OG p e below s (fun v h L => v = (some (.int r)) ∧ Fr n0 L) 0 0 T (mkF m 55 #[.val (.long d0), .second, .val (.long d2), .second, .val (.int d4), .val (.int d5), .val (.long x6), .second, .val (.int d8), .val (.long x9), .second, .unset, .unset, .unset, .unset] []) := by
  have hr : (if x9 < ((-9223372036854775808 : Int64) / x6) then (f0_78 x6 (x9 % ((-9223372036854775808 : Int64) / x6))) else (f0_78 x6 x9)) = r := hr
  refine o_ldc2Long X hx hZ hown (hb hby at_55) (hw _ (List.mem_of_getElem? (i := 1) rfl)) (pc' := 58) rfl ?_
  refine o_lload X hx (hb hby at_58) rfl (pc' := 60) rfl ?_
  refine o_ldiv X hx (hb hby at_60) (own_ne (And.left (by first | assumption | exact own_len _))) (pc' := 61) rfl ?_
  refine o_lstore X hx (hb hby at_61) #[.val (.long d0), .second, .val (.long d2), .second, .val (.int d4), .val (.int d5), .val (.long x6), .second, .val (.int d8), .val (.long x9), .second, .val (.long ((-9223372036854775808 : Int64) / x6)), .second, .unset, .unset] rfl (pc' := 63) rfl ?_
  refine o_lload X hx (hb hby at_63) rfl (pc' := 65) rfl ?_
  refine o_lload X hx (hb hby at_65) rfl (pc' := 67) rfl ?_
  refine o_lcmp X hx (hb hby at_67) (pc' := 68) rfl ?_
  by_cases hc2 : x9 < ((-9223372036854775808 : Int64) / x6)
  · rw [if_pos hc2] at hr
    refine o_ifNo X hx (hb hby at_68) (l_tlt hc2).2 (pc' := 71) rfl ?_
    refine o_lload X hx (hb hby at_71) rfl (pc' := 73) rfl ?_
    refine o_lload X hx (hb hby at_73) rfl (pc' := 75) rfl ?_
    refine o_lrem X hx (hb hby at_75) (own_q (And.left (by first | assumption | exact own_len _)) (And.right (by first | assumption | exact own_len _))) (pc' := 76) rfl ?_
    refine o_lstore X hx (hb hby at_76) #[.val (.long d0), .second, .val (.long d2), .second, .val (.int d4), .val (.int d5), .val (.long x6), .second, .val (.int d8), .val (.long (x9 % ((-9223372036854775808 : Int64) / x6))), .second, .val (.long ((-9223372036854775808 : Int64) / x6)), .second, .unset, .unset] rfl (pc' := 78) rfl ?_
    exact b0_78 hx hZ hw hby hml hown hnm hret hlk Z0 d0 d2 d4 d5 x6 d8 (x9 % ((-9223372036854775808 : Int64) / x6)) ((-9223372036854775808 : Int64) / x6) r X eT N (by first | assumption | decide | exact own_len _) hr
  · rw [if_neg hc2] at hr
    refine o_ifYes X hx (hb hby at_68) (l_flt hc2).2 (pc' := 78) (by decide) (by decide) ?_
    exact b0_78 hx hZ hw hby hml hown hnm hret hlk Z0 d0 d2 d4 d5 x6 d8 x9 ((-9223372036854775808 : Int64) / x6) r X eT N (by first | assumption | decide | exact own_len _) hr
def f0_40 (x6 : Int64) (x9 : Int64) : Int32 := (f0_55 x6 x9)
set_option maxRecDepth 65536 in
set_option maxHeartbeats 40000000 in
theorem b0_40 {p : Program} {l : Launch} {e : Env} {s : State} {m : MethodId} {args : Array Value} {below : List Frame} {meth : Method} {c : Code} {Z : State} {a0 : Array Value} {h0 : Heap} {n0 : Nat} (hx : p.tables.exec = Jvm.exec) (hZ : Z.Warmed39 s.vm) (hw : ∀ d ∈ tables_1, d.before a0 Z = true) (hby : c.code = code) (hml : c.maxLocals = 15) (hown : s.vm.findClass "com/example/ridgeline/ridgeline/filtering/ElasticScheduleProductPinLaw" = some m.cls) (hnm : meth.name = "law") (hret : meth.sig.returnType = some .boolean) (hlk : meth.locks = false) (Z0 : n0 ≤ h0.size)  {T : State} {locs : List Loc} (d0 : Int64) (d2 : Int64) (d4 : Int32) (d5 : Int32) (x6 : Int64) (d8 : Int32) (x9 : Int64) (r : Int32) (X : Stand p l e room_1 s m args below meth c T locs 0 0) (eT : T.heap = h0) (N : Fr n0 locs) (hp6 : (1 ≤ x6.toInt ∧ x6.toInt ≤ 2147483647)) (hr : f0_40 x6 x9 = r) :
    OG p e below s (fun v h L => v = (some (.int r)) ∧ Fr n0 L) 0 0 T (mkF m 40 #[.val (.long d0), .second, .val (.long d2), .second, .val (.int d4), .val (.int d5), .val (.long x6), .second, .val (.int d8), .val (.long x9), .second, .unset, .unset, .unset, .unset] []) := by
  have hr : (f0_55 x6 x9) = r := hr
  refine o_goto X hx (hb hby at_40) (pc' := 55) (by decide) (by decide) ?_
  exact b0_55 hx hZ hw hby hml hown hnm hret hlk Z0 d0 d2 d4 d5 x6 d8 x9 r X eT N (by first | assumption | decide | exact own_len _) hr
def f0_0 (x0 : Int64) (x2 : Int64) (x4 : Int32) (x5 : Int32) : Int32 := (if (x4 &&& (3 : Int32)) = (1 : Int32) then (f0_40 (((x2 &&& (2147483647 : Int64)) % (2147483647 : Int64)) + (1 : Int64)) (((4611686018427387903 : Int64) / (((x2 &&& (2147483647 : Int64)) % (2147483647 : Int64)) + (1 : Int64))) + (x5.toInt64))) else (if (x4 &&& (3 : Int32)) = (2 : Int32) then (f0_55 (((x2 &&& (2147483647 : Int64)) % (2147483647 : Int64)) + (1 : Int64)) (x0 >>> ((31 : Int32) &&& 0x3f).toInt64)) else (f0_55 (((x2 &&& (2147483647 : Int64)) % (2147483647 : Int64)) + (1 : Int64)) x0)))
set_option maxRecDepth 65536 in
set_option maxHeartbeats 40000000 in
theorem b0_0 {p : Program} {l : Launch} {e : Env} {s : State} {m : MethodId} {args : Array Value} {below : List Frame} {meth : Method} {c : Code} {Z : State} {a0 : Array Value} {h0 : Heap} {n0 : Nat} (hx : p.tables.exec = Jvm.exec) (hZ : Z.Warmed39 s.vm) (hw : ∀ d ∈ tables_1, d.before a0 Z = true) (hby : c.code = code) (hml : c.maxLocals = 15) (hown : s.vm.findClass "com/example/ridgeline/ridgeline/filtering/ElasticScheduleProductPinLaw" = some m.cls) (hnm : meth.name = "law") (hret : meth.sig.returnType = some .boolean) (hlk : meth.locks = false) (Z0 : n0 ≤ h0.size)  {T : State} {locs : List Loc} (x0 : Int64) (x2 : Int64) (x4 : Int32) (x5 : Int32) (r : Int32) (X : Stand p l e room_1 s m args below meth c T locs 0 0) (eT : T.heap = h0) (N : Fr n0 locs) (hr : f0_0 x0 x2 x4 x5 = r) :
    OG p e below s (fun v h L => v = (some (.int r)) ∧ Fr n0 L) 0 0 T (mkF m 0 #[.val (.long x0), .second, .val (.long x2), .second, .val (.int x4), .val (.int x5), .unset, .unset, .unset, .unset, .unset, .unset, .unset, .unset, .unset] []) := by
  have hr : (if (x4 &&& (3 : Int32)) = (1 : Int32) then (f0_40 (((x2 &&& (2147483647 : Int64)) % (2147483647 : Int64)) + (1 : Int64)) (((4611686018427387903 : Int64) / (((x2 &&& (2147483647 : Int64)) % (2147483647 : Int64)) + (1 : Int64))) + (x5.toInt64))) else (if (x4 &&& (3 : Int32)) = (2 : Int32) then (f0_55 (((x2 &&& (2147483647 : Int64)) % (2147483647 : Int64)) + (1 : Int64)) (x0 >>> ((31 : Int32) &&& 0x3f).toInt64)) else (f0_55 (((x2 &&& (2147483647 : Int64)) % (2147483647 : Int64)) + (1 : Int64)) x0))) = r := hr
  refine o_lload_n X hx (hb hby at_0) rfl (pc' := 1) rfl ?_
  refine o_ldc2Long X hx hZ hown (hb hby at_1) (hw _ (List.mem_of_getElem? (i := 0) rfl)) (pc' := 4) rfl ?_
  refine o_land X hx (hb hby at_4) (pc' := 5) rfl ?_
  refine o_ldc2Long X hx hZ hown (hb hby at_5) (hw _ (List.mem_of_getElem? (i := 0) rfl)) (pc' := 8) rfl ?_
  refine o_lrem X hx (hb hby at_8) (by decide) (pc' := 9) rfl ?_
  refine o_lconst X hx (hb hby at_9) (1 : Int64) rfl (pc' := 10) rfl ?_
  refine o_ladd X hx (hb hby at_10) (pc' := 11) rfl ?_
  refine o_lstore X hx (hb hby at_11) #[.val (.long x0), .second, .val (.long x2), .second, .val (.int x4), .val (.int x5), .val (.long (((x2 &&& (2147483647 : Int64)) % (2147483647 : Int64)) + (1 : Int64))), .second, .unset, .unset, .unset, .unset, .unset, .unset, .unset] rfl (pc' := 13) rfl ?_
  refine o_iload X hx (hb hby at_13) rfl (pc' := 15) rfl ?_
  refine o_iconst X hx (hb hby at_15) (3 : Int32) rfl (pc' := 16) rfl ?_
  refine o_iand X hx (hb hby at_16) (pc' := 17) rfl ?_
  refine o_istore X hx (hb hby at_17) #[.val (.long x0), .second, .val (.long x2), .second, .val (.int x4), .val (.int x5), .val (.long (((x2 &&& (2147483647 : Int64)) % (2147483647 : Int64)) + (1 : Int64))), .second, .val (.int (x4 &&& (3 : Int32))), .unset, .unset, .unset, .unset, .unset, .unset] rfl (pc' := 19) rfl ?_
  refine o_lload_n X hx (hb hby at_19) rfl (pc' := 20) rfl ?_
  refine o_lstore X hx (hb hby at_20) #[.val (.long x0), .second, .val (.long x2), .second, .val (.int x4), .val (.int x5), .val (.long (((x2 &&& (2147483647 : Int64)) % (2147483647 : Int64)) + (1 : Int64))), .second, .val (.int (x4 &&& (3 : Int32))), .val (.long x0), .second, .unset, .unset, .unset, .unset] rfl (pc' := 22) rfl ?_
  refine o_iload X hx (hb hby at_22) rfl (pc' := 24) rfl ?_
  refine o_iconst X hx (hb hby at_24) (1 : Int32) rfl (pc' := 25) rfl ?_
  by_cases hc1 : (x4 &&& (3 : Int32)) = (1 : Int32)
  · rw [if_pos hc1] at hr
    refine o_icmpNo X hx (hb hby at_25) (c_teq hc1).2 (pc' := 28) rfl ?_
    refine o_ldc2Long X hx hZ hown (hb hby at_28) (hw _ (List.mem_of_getElem? (i := 7) rfl)) (pc' := 31) rfl ?_
    refine o_lload X hx (hb hby at_31) rfl (pc' := 33) rfl ?_
    refine o_ldiv X hx (hb hby at_33) (own_ne (And.left (by first | assumption | exact own_len _))) (pc' := 34) rfl ?_
    refine o_iload X hx (hb hby at_34) rfl (pc' := 36) rfl ?_
    refine o_i2l X hx (hb hby at_36) (pc' := 37) rfl ?_
    refine o_ladd X hx (hb hby at_37) (pc' := 38) rfl ?_
    refine o_lstore X hx (hb hby at_38) #[.val (.long x0), .second, .val (.long x2), .second, .val (.int x4), .val (.int x5), .val (.long (((x2 &&& (2147483647 : Int64)) % (2147483647 : Int64)) + (1 : Int64))), .second, .val (.int (x4 &&& (3 : Int32))), .val (.long (((4611686018427387903 : Int64) / (((x2 &&& (2147483647 : Int64)) % (2147483647 : Int64)) + (1 : Int64))) + (x5.toInt64))), .second, .unset, .unset, .unset, .unset] rfl (pc' := 40) rfl ?_
    exact b0_40 hx hZ hw hby hml hown hnm hret hlk Z0 x0 x2 x4 x5 (((x2 &&& (2147483647 : Int64)) % (2147483647 : Int64)) + (1 : Int64)) (x4 &&& (3 : Int32)) (((4611686018427387903 : Int64) / (((x2 &&& (2147483647 : Int64)) % (2147483647 : Int64)) + (1 : Int64))) + (x5.toInt64)) r X eT N (by first | assumption | decide | exact own_len _) hr
  · rw [if_neg hc1] at hr
    refine o_icmpYes X hx (hb hby at_25) (c_feq hc1).2 (pc' := 43) (by decide) (by decide) ?_
    refine o_iload X hx (hb hby at_43) rfl (pc' := 45) rfl ?_
    refine o_iconst X hx (hb hby at_45) (2 : Int32) rfl (pc' := 46) rfl ?_
    by_cases hc6 : (x4 &&& (3 : Int32)) = (2 : Int32)
    · rw [if_pos hc6] at hr
      refine o_icmpNo X hx (hb hby at_46) (c_teq hc6).2 (pc' := 49) rfl ?_
      refine o_lload_n X hx (hb hby at_49) rfl (pc' := 50) rfl ?_
      refine o_bipush X hx (hb hby at_50) (31 : Int32) rfl (pc' := 52) rfl ?_
      refine o_lshr X hx (hb hby at_52) (pc' := 53) rfl ?_
      refine o_lstore X hx (hb hby at_53) #[.val (.long x0), .second, .val (.long x2), .second, .val (.int x4), .val (.int x5), .val (.long (((x2 &&& (2147483647 : Int64)) % (2147483647 : Int64)) + (1 : Int64))), .second, .val (.int (x4 &&& (3 : Int32))), .val (.long (x0 >>> ((31 : Int32) &&& 0x3f).toInt64)), .second, .unset, .unset, .unset, .unset] rfl (pc' := 55) rfl ?_
      exact b0_55 hx hZ hw hby hml hown hnm hret hlk Z0 x0 x2 x4 x5 (((x2 &&& (2147483647 : Int64)) % (2147483647 : Int64)) + (1 : Int64)) (x4 &&& (3 : Int32)) (x0 >>> ((31 : Int32) &&& 0x3f).toInt64) r X eT N (by first | assumption | decide | exact own_len _) hr
    · rw [if_neg hc6] at hr
      refine o_icmpYes X hx (hb hby at_46) (c_feq hc6).2 (pc' := 55) (by decide) (by decide) ?_
      exact b0_55 hx hZ hw hby hml hown hnm hret hlk Z0 x0 x2 x4 x5 (((x2 &&& (2147483647 : Int64)) % (2147483647 : Int64)) + (1 : Int64)) (x4 &&& (3 : Int32)) x0 r X eT N (by first | assumption | decide | exact own_len _) hr
theorem own_core (L e : Int64) (h1 : 1 ≤ L.toInt) (h2 : L.toInt ≤ 2147483647) : f2_0 e L = f1_0 e L := by
  have k0 : (0 : Int64).toInt = 0 := rfl
  have k1 : (2147483647 : Int64).toInt = 2147483647 := rfl
  have k2 : (4611686018427387903 : Int64).toInt = 4611686018427387903 := rfl
  have k3 : (2147483648 : Int64).toInt = 2147483648 := rfl
  unfold f1_0 f2_0 f2_18
  by_cases he : (0 : Int64) < e
  · rw [if_pos he]
    rw [Int64.lt_iff_toInt_lt, k0] at he
    have hel := e.toInt_lt
    have d1 : ((4611686018427387903 : Int64) / L).toInt = 4611686018427387903 / L.toInt := by
      rw [Int64.toInt_div_of_ne_left _ _ (by decide), k2, Int.tdiv_eq_ediv_of_nonneg (by omega)]
    have d2 : (((4611686018427387903 : Int64) / L) < e) ↔ 4611686018427387903 < e.toInt * L.toInt := by
      rw [Int64.lt_iff_toInt_lt, d1, Int.ediv_lt_iff_lt_mul (by omega)]
    have u1 := own_ush31 e (by omega)
    have u2 := own_and31 e (by omega)
    generalize ((e.toUInt64 >>> ((31 : Int32) &&& 0x3f).toInt64.toUInt64).toInt64) = eh at *
    generalize (e &&& (2147483647 : Int64)) = el at *
    have hE : e.toInt = eh.toInt * 2147483648 + el.toInt := by omega
    have hA0 : 0 ≤ eh.toInt := by omega
    have hA1 : eh.toInt < 4294967296 := by omega
    have hB0 : 0 ≤ el.toInt := by omega
    have hB1 : el.toInt ≤ 2147483647 := by omega
    have mA0 : 0 ≤ eh.toInt * L.toInt := Int.mul_nonneg hA0 (by omega)
    have mA1 : eh.toInt * L.toInt ≤ 4294967295 * 2147483647 := Int.mul_le_mul (by omega) h2 (by omega) (by omega)
    have mB0 : 0 ≤ el.toInt * L.toInt := Int.mul_nonneg hB0 (by omega)
    have mB1 : el.toInt * L.toInt ≤ 2147483647 * 2147483647 := Int.mul_le_mul (by omega) h2 (by omega) (by omega)
    have hP : e.toInt * L.toInt = eh.toInt * L.toInt * 2147483648 + el.toInt * L.toInt := by
      rw [hE, Int.add_mul, Int.mul_right_comm]
    have vA : (eh * L).toInt = eh.toInt * L.toInt := own_lmul (by omega) (by omega)
    have vB : (el * L).toInt = el.toInt * L.toInt := own_lmul (by omega) (by omega)
    have big : e.toInt ≤ 2147483647 → e.toInt * L.toInt ≤ 2147483647 * 2147483647 := fun q => Int.mul_le_mul q h2 (by omega) (by omega)
    have sm : eh.toInt = 0 → eh.toInt * L.toInt = 0 := fun q => by rw [q, Int.zero_mul]
    unfold f1_29
    simp only [d2, Int64.lt_iff_toInt_lt, k1, k2, k3, vA]
    generalize hp : e.toInt * L.toInt = P at *
    by_cases cA : eh.toInt * L.toInt < 2147483648
    · have w1 := own_shl31 (eh * L) (by omega) (by omega)
      have w2 := own_ladd ((eh * L) <<< ((31 : Int32) &&& 0x3f).toInt64) (el * L)
      rw [if_pos cA]
      have w3 : (((eh * L) <<< ((31 : Int32) &&& 0x3f).toInt64) + (el * L)).toInt = P := by omega
      rw [w3]
      by_cases cP : 4611686018427387903 < P
      · rw [if_pos cP, if_pos (by omega), if_pos cP]
      · rw [if_neg cP, if_neg cP]
        have : e * L = ((eh * L) <<< ((31 : Int32) &&& 0x3f).toInt64) + (el * L) := by
          rw [← Int64.toInt_inj, w3, own_lmul (by omega) (by omega), hp]
        rw [this]; simp
    · rw [if_neg cA, if_pos (by omega), if_pos (by omega)]
  · rw [if_neg he]
    rw [Int64.lt_iff_toInt_lt, k0] at he
    rw [if_neg (by rw [Int64.lt_iff_toInt_lt, k1]; omega)]
theorem own_78 (L e : Int64) (h1 : 1 ≤ L.toInt) (h2 : L.toInt ≤ 2147483647) : f0_78 L e = 1 := by
  unfold f0_78; rw [own_core L e h1 h2, if_pos rfl]
theorem own_55 (L e : Int64) (h1 : 1 ≤ L.toInt) (h2 : L.toInt ≤ 2147483647) : f0_55 L e = 1 := by
  unfold f0_55; rw [own_78 L _ h1 h2, own_78 L _ h1 h2]; simp
theorem law_true (x0 x2 : Int64) (x4 x5 : Int32) : f0_0 x0 x2 x4 x5 = 1 := by
  unfold f0_0 f0_40
  obtain ⟨h1, h2⟩ := own_len x2
  simp only [own_55 _ _ h1 h2, ite_self]

theorem pn_0 : plainName "com/example/ridgeline/ridgeline/filtering/ElasticScheduleProductPinLaw" = true := by first | (simp [plainName, overriddenIn]; done) | decide +kernel
theorem ef_0 (m : MethodId) (x0 : Int64) (x2 : Int64) (x4 : Int32) (x5 : Int32) : entryFrame m #[(.long x0), (.long x2), (.int x4), (.int x5)] maxLocals = (mkF m 0 #[.val (.long x0), .second, .val (.long x2), .second, .val (.int x4), .val (.int x5), .unset, .unset, .unset, .unset, .unset, .unset, .unset, .unset, .unset] []) := by first | (simp [entryFrame, mkF, argsToLocals, Value.category, maxLocals]; done) | rfl
def Qd0 (Z : State) (h0 : Heap) (n0 : Nat) (x0 : Int64) (x2 : Int64) (x4 : Int32) (x5 : Int32) : Option Value → Heap → List Loc → Prop := (fun v h L => v = (some (.int (1 : Int32))) ∧ Fr n0 L)
set_option maxRecDepth 65536 in
set_option maxHeartbeats 40000000 in
theorem rm0 (l : Launch) (Z : State) (a0 : Array Value) (hw : ∀ d ∈ tables_1, d.before a0 Z = true) (ws : List Jvm.Cond)  (x0 : Int64) (x2 : Int64) (x4 : Int32) (x5 : Int32) (h0 : Heap) (n0 : Nat) (Z0 : n0 ≤ h0.size) :
    MetFree l x (head1 (Jvm.Cond.code x code maxLocals ret :: ws) room_1) (fun a U => a = #[(.long x0), (.long x2), (.int x4), (.int x5)] ∧ Z.Warmed39 U.vm ∧ U.heap = h0) (fun _ _ _ _ _ => True) (fun _ U o U' => ∃ v L, o = .returned v ∧ (Qd0 Z h0 n0 x0 x2 x4 x5) v U'.heap L ∧ FrameEnd U o U' L room_1.cells room_1.slots) := by
  refine MetFree.of_bodySF (plainFor_of_name pn_0) hisR ?_
  intro p e s m args below meth c s₁ Bd hml0 hP hK
  obtain ⟨rfl, hZ, hh⟩ := hP
  have e0 : s₁.heap = h0 := by rw [← hh, Bd.state]; rfl
  exact OG.cast (ef_0 m x0 x2 x4 x5) (b0_0 Bd.exec hZ hw Bd.bytes hml0 (findClass_of_methodNamed Bd.named) (name_of_methodNamed Bd.named Bd.method).1 Bd.returns Bd.notSynchronized Z0 x0 x2 x4 x5 (1 : Int32) (Stand.of_body Bd) e0 (Fr.nil n0) (law_true _ _ _ _))
set_option maxRecDepth 65536 in
set_option maxHeartbeats 40000000 in
theorem comes_1 {Post : Tables → Env → Array Value → State → Outcome → State → Prop} (hpost : ∀ tb e args s v u, (limb_1_1.after args s (.returned v) u = true ∧ limb_1_2.after args s (.returned v) u = true ∧ True) → FrameEnd s (.returned v) u (Jvm.fieldLocs frame_1_writes args s ++ Jvm.arrayLocs frame_1_arrays args s ++ Jvm.staticLocs frame_1_statics s) 0 0 → Post tb e args s (.returned v) u) :
    ArmFor flags0 classFile x code maxLocals ret World_1 tables_1 room_1 Calls_1 rest_1 Pre_1 Post := by
  intro l hfl _ _ p e ha hc hk s m args below hf hA hF happ hP
  obtain ⟨hcalls, hrest, hpre⟩ := hP
  obtain ⟨-, -, -, hnamed, -, -, -, hat⟩ := (Spec.applies_iff hf).mp happ
  obtain ⟨hg, hn⟩ := and_e (Cond.before_iff.mp (show (Jvm.Cond.and given_1 narrow_1).before args s = true from hpre))
  obtain ⟨g0, r0⟩ := and_e hg
  obtain ⟨g1, r1⟩ := and_e r0
  obtain ⟨g2, r2⟩ := and_e r1
  obtain ⟨g3, r3⟩ := and_e r2
  obtain ⟨w0, w1, w2, w3, rfl⟩ : ∃ w0 w1 w2 w3 : Value, args = #[w0, w1, w2, w3] := by
    have hs : args.size = 4 := by simpa [Cond.value, given_1] using g0
    obtain ⟨L⟩ := args
    match L, hs with
    | [w0, w1, w2, w3], _ => exact ⟨w0, w1, w2, w3, rfl⟩
  have hw := fun d (hd : d ∈ tables_1) => atoms_spec (ws := Jvm.Cond.code x code maxLocals ret :: tables_1) hat d (List.mem_cons_of_mem _ hd)
  obtain ⟨i0, ei0⟩ := isL_v g1
  obtain rfl : w0 = (.long i0) := Option.some.inj ei0
  obtain ⟨i1, ei1⟩ := isL_v g2
  obtain rfl : w1 = (.long i1) := Option.some.inj ei1
  obtain ⟨i2, ei2⟩ := is_v g3
  obtain rfl : w2 = (.int i2) := Option.some.inj ei2
  obtain ⟨i3, ei3⟩ := is_v r3
  obtain rfl : w3 = (.int i3) := Option.some.inj ei3
  obtain ⟨n, o, h1, h2, h3, _, L, rfl, ⟨rfl, N⟩, hq⟩ := rm0 l s _ hw tables_1 i0 i1 i2 i3 s.heap s.heap.size (Nat.le_refl _) p e ha hc hk s m _ below hf ((Spec.applies_iff_loose hf).mp happ).1 ⟨rfl, State.Warmed39.refl s, rfl⟩ trivial
  exact ⟨n, _, h1, h2, h3, hpost _ _ _ _ _ _ ⟨Cond.after_iff.mpr rfl, Cond.after_iff.mpr (eq_i res_at (Term.int_eval (1)) rfl), trivial⟩ ⟨hq.1, hq.2.1, (hq.2.2.sift fun y hy => Or.inr (N y hy)).mono (by decide) (by decide)⟩⟩
theorem main_1_1 : Claimed_1_1 := comes_1 fun _ _ _ _ _ _ h hF => ⟨h.1, hF⟩
theorem main_1_2 : Claimed_1_2 := comes_1 fun _ _ _ _ _ _ h hF => ⟨h.2.1, hF⟩
end Jvm.Pilot.@@N@@
namespace Jvm.Pilot.@@N@@
open Jvm Jvm.ClassFile Sem Op Lib Jvm.Free Jvm.Stand Jvm.Pilot.@@N@@.Jvm.D
/-! MADE BY PROGRAM (witnessworld.py) out of the Statement's table words and the real class files: 9 classes; the members and pool entries that the words name. The judged class is class 1, her method 1. -/
namespace start1
open Jvm.ClassFile
def u (s : String) : CpInfo := .utf8 (stringToUtf16 s)
/-- a pool by its gaps: so many unusable entries, then the entry; so many at the end -/
def gap : Nat → List CpInfo → List CpInfo
  | 0, r => r
  | n + 1, r => .unusable :: gap n r
def poolList (es : List (Nat × CpInfo)) (last : Nat) : List CpInfo := es.foldr (fun e r => gap e.1 (e.2 :: r)) (gap last [])
def pool (es : List (Nat × CpInfo)) (last : Nat) : Array CpInfo := ⟨poolList es last⟩
def fileOf (pool : Array CpInfo) (this : Nat) (attrs : Array Attribute := #[]) (ms : Array MethodInfo := #[]) (fl : Nat := 33) (sup : Nat := 0) (ifs : Array Nat := #[]) (fds : Array FieldInfo := #[]) : ClassFile where
  minorVersion := 0
  majorVersion := 65
  constantPool := pool
  accessFlags := fl
  thisClass := this
  superClass := sup
  interfaces := ifs
  fields := fds
  methods := ms
  attributes := attrs
def plain (name : String) (sup : Option ClassId) : Class where
  name := name
  kind := .ordinary
  loader := none
  accessFlags := 33
  super := sup
  interfaces := #[]
  cf := none
  fields := #[]
  methods := #[]
  instanceTypes := #[]
  staticTypes := #[]
  resolved := #[]
  callSites := []
  init := .initialized
  statics := none
  mirror := none

def pool0 : Array CpInfo := pool [(5, u "<init>"), (0, u "()V"), (1, .class_ 10), (1, u "java/lang/Object")] 113

def k0m0 : Method := { name := "<init>", desc := "()V", sig := { parameters := [], returnType := none }, accessFlags := 1, code := none }
/-- java/lang/Object -/
def k0 : Class := { plain "java/lang/Object" none with
  accessFlags := 33
  interfaces := #[]
  cf := some (fileOf pool0 8 #[] #[{ accessFlags := 1, nameIndex := 5, descriptorIndex := 6, attributes := #[] }] 33 0 #[] #[])
  fields := #[]
  methods := #[k0m0]
  instanceTypes := #[]
  staticTypes := #[]
  resolved := Array.replicate 124 none
  statics := none }

def pool1 : Array CpInfo := pool [(2, .class_ 4), (1, u "java/lang/Object"), (0, u "<init>"), (0, u "()V"), (0, .long 2147483647), (1, .class_ 10), (0, u "com/example/ridgeline/ridgeline/filtering/ElasticScheduleProductPinLaw"), (0, .long 4611686018427387903), (3, .long 9223372036854775808), (1, .methodref 9 18), (0, .nameAndType 19 20), (0, u "reference"), (0, u "(JJ)J"), (0, .methodref 22 23), (0, .class_ 24), (0, .nameAndType 25 20), (0, u "com/example/ridgeline/ridgeline/filtering/ElasticSchedule"), (0, u "product"), (0, .long 2147483648), (1, u "BIG"), (0, u "J"), (3, u "law"), (0, u "(JJII)Z")] 3

def k1m0 : Method := { name := "<init>", desc := "()V", sig := { parameters := [], returnType := none }, accessFlags := 1, code := none }
def k1c1 : Code := { maxStack := 4, maxLocals := 15, code := code, exceptionTable := #[], attributes := #[] }
def k1m1 : Method := { name := "law", desc := "(JJII)Z", sig := { parameters := [.long, .long, .int, .int], returnType := some .boolean }, accessFlags := 9, code := some k1c1 }
def k1c2 : Code := { maxStack := 6, maxLocals := 12, code := method_3_code, exceptionTable := #[], attributes := #[] }
def k1m2 : Method := { name := "reference", desc := "(JJ)J", sig := { parameters := [.long, .long], returnType := some .long }, accessFlags := 10, code := some k1c2 }
/-- com/example/ridgeline/ridgeline/filtering/ElasticScheduleProductPinLaw -/
def k1 : Class := { plain "com/example/ridgeline/ridgeline/filtering/ElasticScheduleProductPinLaw" (some 0) with
  accessFlags := 49
  interfaces := #[]
  cf := some (fileOf pool1 9 #[] #[{ accessFlags := 1, nameIndex := 5, descriptorIndex := 6, attributes := #[] }, { accessFlags := 9, nameIndex := 33, descriptorIndex := 34, attributes := #[] }, { accessFlags := 10, nameIndex := 19, descriptorIndex := 20, attributes := #[] }] 49 2 #[] #[{ accessFlags := 26, nameIndex := 28, descriptorIndex := 29, attributes := #[] }])
  fields := #[{ name := "BIG", type := .long, accessFlags := 26, slot := 0, constantValue := 0 }]
  methods := #[k1m0, k1m1, k1m2]
  instanceTypes := #[]
  staticTypes := #[.long]
  resolved := Array.replicate 38 none
  statics := none }

def pool2 : Array CpInfo := pool [(2, .class_ 4), (1, u "java/lang/Object"), (3, .class_ 10), (1, u "com/example/ridgeline/ridgeline/filtering/ElasticSchedule"), (0, u "highest"), (0, u "I"), (2, u "places"), (0, u "Lcom/example/ridgeline/ridgeline/filtering/Places;"), (2, u "askChanges"), (0, u "[J"), (2, u "openChanges"), (2, u "asked"), (2, u "open"), (2, u "energies"), (4, u "capacity"), (0, u "J"), (3, u "demands"), (0, u "[I"), (5, u "count"), (9, u "lowest"), (8, u "valid"), (2, u "extraDemand"), (2, u "extraFrom"), (2, u "extraTo"), (18, u "(JJ)J"), (8, .long 4611686018427387903), (3, u "product"), (5, .long 2147483647), (6, u "LARGE")] 14

def k2c0 : Code := { maxStack := 6, maxLocals := 4, code := prog_27_method_8_code, exceptionTable := #[], attributes := #[] }
def k2m0 : Method := { name := "product", desc := "(JJ)J", sig := { parameters := [.long, .long], returnType := some .long }, accessFlags := 8, code := some k2c0 }
/-- com/example/ridgeline/ridgeline/filtering/ElasticSchedule -/
def k2 : Class := { plain "com/example/ridgeline/ridgeline/filtering/ElasticSchedule" (some 0) with
  accessFlags := 48
  interfaces := #[]
  cf := some (fileOf pool2 8 #[] #[{ accessFlags := 8, nameIndex := 109, descriptorIndex := 96, attributes := #[] }] 48 2 #[] #[{ accessFlags := 24, nameIndex := 122, descriptorIndex := 38, attributes := #[] }, { accessFlags := 2, nameIndex := 37, descriptorIndex := 38, attributes := #[] }, { accessFlags := 2, nameIndex := 42, descriptorIndex := 43, attributes := #[] }, { accessFlags := 18, nameIndex := 15, descriptorIndex := 16, attributes := #[] }, { accessFlags := 18, nameIndex := 19, descriptorIndex := 20, attributes := #[] }, { accessFlags := 18, nameIndex := 23, descriptorIndex := 20, attributes := #[] }, { accessFlags := 18, nameIndex := 26, descriptorIndex := 20, attributes := #[] }, { accessFlags := 18, nameIndex := 29, descriptorIndex := 20, attributes := #[] }, { accessFlags := 18, nameIndex := 32, descriptorIndex := 20, attributes := #[] }, { accessFlags := 2, nameIndex := 49, descriptorIndex := 12, attributes := #[] }, { accessFlags := 2, nameIndex := 59, descriptorIndex := 12, attributes := #[] }, { accessFlags := 2, nameIndex := 11, descriptorIndex := 12, attributes := #[] }, { accessFlags := 2, nameIndex := 68, descriptorIndex := 12, attributes := #[] }, { accessFlags := 2, nameIndex := 71, descriptorIndex := 12, attributes := #[] }, { accessFlags := 2, nameIndex := 74, descriptorIndex := 12, attributes := #[] }, { accessFlags := 2, nameIndex := 77, descriptorIndex := 12, attributes := #[] }])
  fields := #[{ name := "LARGE", type := .long, accessFlags := 24, slot := 0, constantValue := 0 }, { name := "capacity", type := .long, accessFlags := 2, slot := 0, constantValue := 0 }, { name := "demands", type := (.array .int), accessFlags := 2, slot := 1, constantValue := 0 }, { name := "places", type := (.object "com/example/ridgeline/ridgeline/filtering/Places"), accessFlags := 18, slot := 2, constantValue := 0 }, { name := "askChanges", type := (.array .long), accessFlags := 18, slot := 3, constantValue := 0 }, { name := "openChanges", type := (.array .long), accessFlags := 18, slot := 4, constantValue := 0 }, { name := "asked", type := (.array .long), accessFlags := 18, slot := 5, constantValue := 0 }, { name := "open", type := (.array .long), accessFlags := 18, slot := 6, constantValue := 0 }, { name := "energies", type := (.array .long), accessFlags := 18, slot := 7, constantValue := 0 }, { name := "count", type := .int, accessFlags := 2, slot := 8, constantValue := 0 }, { name := "lowest", type := .int, accessFlags := 2, slot := 9, constantValue := 0 }, { name := "highest", type := .int, accessFlags := 2, slot := 10, constantValue := 0 }, { name := "valid", type := .int, accessFlags := 2, slot := 11, constantValue := 0 }, { name := "extraDemand", type := .int, accessFlags := 2, slot := 12, constantValue := 0 }, { name := "extraFrom", type := .int, accessFlags := 2, slot := 13, constantValue := 0 }, { name := "extraTo", type := .int, accessFlags := 2, slot := 14, constantValue := 0 }]
  methods := #[k2m0]
  instanceTypes := #[.long, (.array .int), (.object "com/example/ridgeline/ridgeline/filtering/Places"), (.array .long), (.array .long), (.array .long), (.array .long), (.array .long), .int, .int, .int, .int, .int, .int, .int]
  staticTypes := #[.long]
  resolved := Array.replicate 137 none
  statics := none }

def pool3 : Array CpInfo := pool [(1, u "java/lang/Cloneable"), (0, .class_ 1), (0, u "java/lang/Object"), (0, .class_ 3)] 3

/-- java/lang/Cloneable -/
def k3 : Class := { plain "java/lang/Cloneable" (some 0) with
  accessFlags := 1537
  interfaces := #[]
  cf := some (fileOf pool3 2 #[] #[] 1537 4 #[] #[])
  fields := #[]
  methods := #[]
  instanceTypes := #[]
  staticTypes := #[]
  resolved := Array.replicate 8 none
  statics := none }

def pool4 : Array CpInfo := pool [(1, u "java/io/Serializable"), (0, .class_ 1), (0, u "java/lang/Object"), (0, .class_ 3)] 3

/-- java/io/Serializable -/
def k4 : Class := { plain "java/io/Serializable" (some 0) with
  accessFlags := 1537
  interfaces := #[]
  cf := some (fileOf pool4 2 #[] #[] 1537 4 #[] #[])
  fields := #[]
  methods := #[]
  instanceTypes := #[]
  staticTypes := #[]
  resolved := Array.replicate 8 none
  statics := none }

/-- the primitive byte -/
def k5 : Class := { plain "byte" none with kind := .primitive 'B', accessFlags := 0x411 }
/-- [B -/
def k6 : Class := { plain "[B" (some 0) with kind := .array 5 .byte, interfaces := #[3, 4], accessFlags := 1041 }

/-- the primitive int -/
def k7 : Class := { plain "int" none with kind := .primitive 'I', accessFlags := 0x411 }
/-- [I -/
def k8 : Class := { plain "[I" (some 0) with kind := .array 7 .int, interfaces := #[3, 4], accessFlags := 1041 }

def heap : Heap := #[]
def classes : Array Class := #[k0, k1, k2, k3, k4, k5, k6, k7, k8]
def interned : List (Array UInt16 × Addr) := []
def slotsUsed : Nat := 0
def theMethod : MethodId := ⟨1, 1⟩
def args0 : Array Value := #[.long 5, .long 7, .int 1, .int 3]
def aboutOver (below : List Frame) : State where
  vm := { classes := classes, interned := interned.toArray }
  heap := heap
  slotsUsed := slotsUsed
  threads := #[{ frames := .invoking theMethod args0 :: below }]
def below0 : List Frame := [.native { method := ⟨0, 0⟩, args := #[] }]
def about1 : State := aboutOver below0
def p0 : Program := .bare "" "" ""
def e0 : Env := launch0.env 0 0 0
theorem w_frames : about1.frames = Frame.invoking theMethod args0 :: below0 := rfl
set_option maxRecDepth 65536 in
theorem w_args : argsFit about1.vm theMethod args0 = true := by decide +kernel
set_option maxRecDepth 65536 in
theorem w_heap : heapFits about1 = true := by decide +kernel
set_option maxRecDepth 65536 in
theorem w_runnable : about1.curStatus? = some .runnable := by decide +kernel
set_option maxRecDepth 65536 in
theorem w_alone : about1.alone = true := by decide +kernel
set_option maxRecDepth 65536 in
theorem w_named : about1.methodNamed? x = some theMethod := by decide +kernel
set_option maxRecDepth 65536 in
theorem w_hears : about1.hears theMethod below0 = true := by decide +kernel
set_option maxRecDepth 65536 in
theorem w_ripe : about1.ripe theMethod args0 below0 = true := by decide +kernel
theorem w_running : about1.status = .running := rfl
set_option maxRecDepth 65536 in
theorem w_room : about1.hasRoom e0.platform room_1 = true :=
  launch0.hasRoom_least _ room_1 (by decide +kernel) (by decide +kernel) (by decide +kernel) (by decide +kernel) (by decide +kernel) (by decide +kernel)
theorem allAtoms_all (ts : List Jvm.Cond) (a : Array Jvm.Value) (st : Jvm.State) : (allAtoms ts).before a st = ts.all (fun c => c.before a st) := by
  induction ts with
  | nil => rfl
  | cons c t ih =>
    show (Jvm.Cond.and c (allAtoms t)).before a st = _
    rw [Jvm.Cond.before_and, ih, List.all_cons]
def words1 : List Jvm.Cond := Jvm.Cond.code x code maxLocals ret :: tables_1
/-- a 'code' word, met by the world's own term for the bytes: nothing is compared byte by byte -/
theorem code_word {y : MethodName} {bytes : ByteArray} {mx : Nat} {rt : Option FieldType} {a : Array Value} {s : State} {m : MethodId} {meth : Method} {c : Code} (h1 : s.methodNamed? y = some m) (h2 : s.vm.method? m = some meth) (h3 : meth.code = some c) (h4 : c.code = bytes)
    (h5 : (c.maxLocals == mx && c.exceptionTable.isEmpty && decide (c.maxStack ≤ mostOperands) && decide (meth.sig.returnType = rt) && !meth.locks && decide (parseMethodDescriptor y.desc = some meth.sig)) = true) : (Jvm.Cond.code y bytes mx rt).before a s = true := by
  simp only [Bool.and_eq_true, beq_iff_eq, Bool.not_eq_true', decide_eq_true_eq] at h5
  obtain ⟨⟨⟨⟨⟨g1, g2⟩, g3⟩, g4⟩, g5⟩, g6⟩ := h5
  simp [Cond.before, Cond.holds, Cond.value, h1, h2, h3, h4, g1, g2, g3, g4, g5, g6]
def isCode : Jvm.Cond → Bool
  | .code _ _ _ _ => true
  | _ => false
theorem all_split {L : List Jvm.Cond} {P : Jvm.Cond → Bool} (h1 : L.all (fun c => isCode c || P c) = true) (h2 : ∀ c ∈ L.filter isCode, P c = true) : L.all P = true := by
  refine List.all_eq_true.mpr fun c hc => ?_
  have h := List.all_eq_true.mp h1 c hc
  rcases Bool.eq_false_or_eq_true (isCode c) with hi | hi
  · exact h2 c (List.mem_filter.mpr ⟨hc, hi⟩)
  · simpa [hi] using h
set_option maxRecDepth 65536 in
theorem w_c0 : (Jvm.Cond.code x code maxLocals ret).before args0 about1 = true := code_word (m := ⟨1, 1⟩) (meth := k1m1) (c := k1c1) (by decide +kernel) rfl rfl rfl (by decide +kernel)
set_option maxRecDepth 65536 in
theorem w_c1 : (Jvm.Cond.code ({ cls := "com/example/ridgeline/ridgeline/filtering/ElasticScheduleProductPinLaw", name := "reference", desc := "(JJ)J" } : Jvm.MethodName) method_3_code (12 : Nat) (Option.some Jvm.ClassFile.FieldType.long)).before args0 about1 = true := code_word (m := ⟨1, 2⟩) (meth := k1m2) (c := k1c2) (by decide +kernel) rfl rfl rfl (by decide +kernel)
set_option maxRecDepth 65536 in
theorem w_c2 : (Jvm.Cond.code ({ cls := "com/example/ridgeline/ridgeline/filtering/ElasticSchedule", name := "product", desc := "(JJ)J" } : Jvm.MethodName) prog_27_method_8_code (4 : Nat) (Option.some Jvm.ClassFile.FieldType.long)).before args0 about1 = true := code_word (m := ⟨2, 0⟩) (meth := k2m0) (c := k2c0) (by decide +kernel) rfl rfl rfl (by decide +kernel)
def codes1 : List Jvm.Cond := [Jvm.Cond.code x code maxLocals ret, Jvm.Cond.code ({ cls := "com/example/ridgeline/ridgeline/filtering/ElasticScheduleProductPinLaw", name := "reference", desc := "(JJ)J" } : Jvm.MethodName) method_3_code (12 : Nat) (Option.some Jvm.ClassFile.FieldType.long), Jvm.Cond.code ({ cls := "com/example/ridgeline/ridgeline/filtering/ElasticSchedule", name := "product", desc := "(JJ)J" } : Jvm.MethodName) prog_27_method_8_code (4 : Nat) (Option.some Jvm.ClassFile.FieldType.long)]
set_option maxRecDepth 65536 in
theorem codes_eq : words1.filter isCode = codes1 := rfl
theorem w_codes : ∀ c ∈ words1.filter isCode, c.before args0 about1 = true := by
  rw [codes_eq]
  intro c hc
  simp only [codes1, List.mem_cons, List.not_mem_nil, or_false] at hc
  rcases hc with rfl | rfl | rfl
  · exact w_c0
  · exact w_c1
  · exact w_c2
set_option maxRecDepth 65536 in
theorem w_t1 : words1.all (fun c => isCode c || c.before args0 about1) = true := by decide +kernel
theorem w_tables : (allAtoms (Jvm.Cond.code x code maxLocals ret :: tables_1)).before args0 about1 = true := by
  rw [allAtoms_all]
  show words1.all (fun c => c.before args0 about1) = true
  refine all_split ?_ w_codes
  rw [w_t1]
set_option maxRecDepth 65536 in
theorem w_case : (Jvm.Cond.and given_1 narrow_1).before args0 about1 = true := by decide +kernel
theorem w_applies : (headSpec (Jvm.Cond.code x code maxLocals ret :: tables_1) room_1).applies x e0.platform about1 = true :=
  (Spec.applies_iff w_frames).mpr ⟨w_running, w_runnable, w_alone, w_named, w_hears, w_ripe, w_room, w_tables⟩
theorem atStart : AtStart classFile x code maxLocals ret World_1 tables_1 room_1 Calls_1 rest_1 Pre_1 launch0 p0 e0 about1 theMethod args0 below0 :=
  ⟨lists_1, trivial, launch0.admits_env _ _ _, launch0.least_env, fairChoices_fair.cas, fairChoices_fair.clock, w_frames, w_args, w_heap, w_applies, trivial, trivial, w_case⟩
end start1
theorem witness_1 : WitnessClaimed_1 := ⟨start1.p0, start1.e0, start1.about1, start1.theMethod, start1.args0, start1.below0, start1.atStart⟩
end Jvm.Pilot.@@N@@
