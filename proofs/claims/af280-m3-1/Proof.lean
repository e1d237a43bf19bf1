import JvmDerived
import JvmDerived.Pilot.@@N@@Statement
import JvmDerived.Pilot.@@N@@Code
set_option linter.unusedVariables false
set_option linter.unusedSimpArgs false
namespace Jvm.RoadKit
open Sem ClassFile Op Lib Jvm.Stand Jvm.Free Jvm.LawKit
section New
variable {p : Program} {l : Launch} {e : Env} {R : Room} {s : State} {m : MethodId} {args : Array Value} {below : List Frame} {meth : Method} {c : Code} {T : State} {locs : List Loc} {cells slots : Nat}
theorem retI (X : Stand p l e R s m args below meth c T locs cells slots) (hx : p.tables.exec = Jvm.exec) {pc : Nat} {Ls : Array Slot} {z : Int32} {rest : List Value} (hret : meth.sig.returnType = some .int) (hd : decode c.code pc = .ok (.ireturn, 1)) {fs : List Frame}
    (hl : ∀ (f : JFrame) (acts : List Action), f.method = m → f.locked = none → f.entered = [] → (doReturn e (T.setTop f) acts (some (.int z))).1 = T.setFrames fs) : Steps p.tables e below (T.setTop (mkF m pc Ls (.int z :: rest))) (T.setFrames fs) := by
  have hm' : T.vm.method? m = some meth := X.method'
  have hn : narrow .int (.int z) = .int z := rfl
  show Steps p.tables e below (T.setTop { method := m, pc := pc, locals := Ls, stack := _ :: rest, locked := none }) _
  jvm_step X.here [X.here.top, hx, hd, hm', hret, hn]
  first | (intro acts; rw [hl _ acts rfl rfl rfl]) | rw [hl _ _ rfl rfl rfl]
  exact Steps.refl _
theorem retJ (X : Stand p l e R s m args below meth c T locs cells slots) (hx : p.tables.exec = Jvm.exec) {pc : Nat} {Ls : Array Slot} {z : Int64} {rest : List Value} (hret : meth.sig.returnType = some .long) (hd : decode c.code pc = .ok (.lreturn, 1)) {fs : List Frame}
    (hl : ∀ (f : JFrame) (acts : List Action), f.method = m → f.locked = none → f.entered = [] → (doReturn e (T.setTop f) acts (some (.long z))).1 = T.setFrames fs) : Steps p.tables e below (T.setTop (mkF m pc Ls (.long z :: rest))) (T.setFrames fs) := by
  have hm' : T.vm.method? m = some meth := X.method'
  have hn : narrow .long (.long z) = .long z := rfl
  show Steps p.tables e below (T.setTop { method := m, pc := pc, locals := Ls, stack := _ :: rest, locked := none }) _
  jvm_step X.here [X.here.top, hx, hd, hm', hret, hn]
  first | (intro acts; rw [hl _ acts rfl rfl rfl]) | rw [hl _ _ rfl rfl rfl]
  exact Steps.refl _
end New
end Jvm.RoadKit
namespace Jvm.Pilot.@@N@@
open Jvm Jvm.ClassFile Sem Op Lib Jvm.Free Jvm.Stand Jvm.LawKit Jvm.RoadKit Bundle Jvm.Pilot.@@N@@.Jvm.D
section Own
variable {p : Program} {l : Launch} {e : Env} {R : Room} {s : State} {m : MethodId} {args : Array Value} {below : List Frame} {meth : Method} {c : Code} {T : State} {locs : List Loc} {cells slots : Nat} {Q : Option Value → Heap → List Loc → Prop} {kc ks : Nat}
/-- from this frame the walk goes to its end, with Q -/
def OG (p : Program) (e : Env) (below : List Frame) (s : State) (Q : Option Value → Heap → List Loc → Prop) (kc ks : Nat) (T : State) (g : JFrame) : Prop :=
  ∃ s₂ o, Steps p.tables e below (T.setTop g) s₂ ∧ s₂.status = .running ∧ Ended s₂ below o ∧ ∃ v L, o = .returned v ∧ Q v s₂.heap L ∧ FrameEnd s o s₂ L kc ks
theorem OG.step {T' : State} {g g' : JFrame} (st : ∀ t, Steps p.tables e below (T'.setTop g') t → Steps p.tables e below (T.setTop g) t) (h : OG p e below s Q kc ks T' g') : OG p e below s Q kc ks T g := by
  obtain ⟨s₂, o, h1, h2⟩ := h
  exact ⟨s₂, o, st _ h1, h2⟩
theorem OG.cast {g g' : JFrame} (q : g = g') (h : OG p e below s Q kc ks T g') : OG p e below s Q kc ks T g := q ▸ h
theorem OG.mono {Q' : Option Value → Heap → List Loc → Prop} {g : JFrame} (hq : ∀ v h L, Q v h L → Q' v h L) (h : OG p e below s Q kc ks T g) : OG p e below s Q' kc ks T g := by
  obtain ⟨s₂, o, h1, h2, h3, v, L, h4, h5, h6⟩ := h
  exact ⟨s₂, o, h1, h2, h3, v, L, h4, hq _ _ _ h5, h6⟩
theorem o_iadd (X : Stand p l e R s m args below meth c T locs cells slots) (hx : p.tables.exec = Jvm.exec) {pc pc' : Nat} {Ls : Array Slot} {x y : Int32} {rest : List Value} (hd : decode c.code pc = .ok (.iadd, 1)) (hp : pc + 1 = pc') (h : OG p e below s Q kc ks T (mkF m pc' Ls (.int (x + y) :: rest))) : OG p e below s Q kc ks T (mkF m pc Ls (.int y :: .int x :: rest)) := by
  subst hp; exact OG.step (fun t q => XS.iadd X.here hx rfl hd rfl q) h
theorem o_isub (X : Stand p l e R s m args below meth c T locs cells slots) (hx : p.tables.exec = Jvm.exec) {pc pc' : Nat} {Ls : Array Slot} {x y : Int32} {rest : List Value} (hd : decode c.code pc = .ok (.isub, 1)) (hp : pc + 1 = pc') (h : OG p e below s Q kc ks T (mkF m pc' Ls (.int (x - y) :: rest))) : OG p e below s Q kc ks T (mkF m pc Ls (.int y :: .int x :: rest)) := by
  subst hp; exact OG.step (fun t q => XS.isub X.here hx rfl hd rfl q) h
theorem o_imul (X : Stand p l e R s m args below meth c T locs cells slots) (hx : p.tables.exec = Jvm.exec) {pc pc' : Nat} {Ls : Array Slot} {x y : Int32} {rest : List Value} (hd : decode c.code pc = .ok (.imul, 1)) (hp : pc + 1 = pc') (h : OG p e below s Q kc ks T (mkF m pc' Ls (.int (x * y) :: rest))) : OG p e below s Q kc ks T (mkF m pc Ls (.int y :: .int x :: rest)) := by
  subst hp; exact OG.step (fun t q => XS.imul X.here hx rfl hd rfl q) h
theorem o_iand (X : Stand p l e R s m args below meth c T locs cells slots) (hx : p.tables.exec = Jvm.exec) {pc pc' : Nat} {Ls : Array Slot} {x y : Int32} {rest : List Value} (hd : decode c.code pc = .ok (.iand, 1)) (hp : pc + 1 = pc') (h : OG p e below s Q kc ks T (mkF m pc' Ls (.int (x &&& y) :: rest))) : OG p e below s Q kc ks T (mkF m pc Ls (.int y :: .int x :: rest)) := by
  subst hp; exact OG.step (fun t q => XS.iand X.here hx rfl hd rfl q) h
theorem o_ior (X : Stand p l e R s m args below meth c T locs cells slots) (hx : p.tables.exec = Jvm.exec) {pc pc' : Nat} {Ls : Array Slot} {x y : Int32} {rest : List Value} (hd : decode c.code pc = .ok (.ior, 1)) (hp : pc + 1 = pc') (h : OG p e below s Q kc ks T (mkF m pc' Ls (.int (x ||| y) :: rest))) : OG p e below s Q kc ks T (mkF m pc Ls (.int y :: .int x :: rest)) := by
  subst hp; exact OG.step (fun t q => XS.ior X.here hx rfl hd rfl q) h
theorem o_ixor (X : Stand p l e R s m args below meth c T locs cells slots) (hx : p.tables.exec = Jvm.exec) {pc pc' : Nat} {Ls : Array Slot} {x y : Int32} {rest : List Value} (hd : decode c.code pc = .ok (.ixor, 1)) (hp : pc + 1 = pc') (h : OG p e below s Q kc ks T (mkF m pc' Ls (.int (x ^^^ y) :: rest))) : OG p e below s Q kc ks T (mkF m pc Ls (.int y :: .int x :: rest)) := by
  subst hp; exact OG.step (fun t q => XS.ixor X.here hx rfl hd rfl q) h
theorem o_ladd (X : Stand p l e R s m args below meth c T locs cells slots) (hx : p.tables.exec = Jvm.exec) {pc pc' : Nat} {Ls : Array Slot} {x y : Int64} {rest : List Value} (hd : decode c.code pc = .ok (.ladd, 1)) (hp : pc + 1 = pc') (h : OG p e below s Q kc ks T (mkF m pc' Ls (.long (x + y) :: rest))) : OG p e below s Q kc ks T (mkF m pc Ls (.long y :: .long x :: rest)) := by
  subst hp; exact OG.step (fun t q => XS.ladd X.here hx rfl hd rfl q) h
theorem o_lsub (X : Stand p l e R s m args below meth c T locs cells slots) (hx : p.tables.exec = Jvm.exec) {pc pc' : Nat} {Ls : Array Slot} {x y : Int64} {rest : List Value} (hd : decode c.code pc = .ok (.lsub, 1)) (hp : pc + 1 = pc') (h : OG p e below s Q kc ks T (mkF m pc' Ls (.long (x - y) :: rest))) : OG p e below s Q kc ks T (mkF m pc Ls (.long y :: .long x :: rest)) := by
  subst hp; exact OG.step (fun t q => XS.lsub X.here hx rfl hd rfl q) h
theorem o_lmul (X : Stand p l e R s m args below meth c T locs cells slots) (hx : p.tables.exec = Jvm.exec) {pc pc' : Nat} {Ls : Array Slot} {x y : Int64} {rest : List Value} (hd : decode c.code pc = .ok (.lmul, 1)) (hp : pc + 1 = pc') (h : OG p e below s Q kc ks T (mkF m pc' Ls (.long (x * y) :: rest))) : OG p e below s Q kc ks T (mkF m pc Ls (.long y :: .long x :: rest)) := by
  subst hp; exact OG.step (fun t q => XS.lmul X.here hx rfl hd rfl q) h
theorem o_land (X : Stand p l e R s m args below meth c T locs cells slots) (hx : p.tables.exec = Jvm.exec) {pc pc' : Nat} {Ls : Array Slot} {x y : Int64} {rest : List Value} (hd : decode c.code pc = .ok (.land, 1)) (hp : pc + 1 = pc') (h : OG p e below s Q kc ks T (mkF m pc' Ls (.long (x &&& y) :: rest))) : OG p e below s Q kc ks T (mkF m pc Ls (.long y :: .long x :: rest)) := by
  subst hp; exact OG.step (fun t q => XS.land X.here hx rfl hd rfl q) h
theorem o_lor (X : Stand p l e R s m args below meth c T locs cells slots) (hx : p.tables.exec = Jvm.exec) {pc pc' : Nat} {Ls : Array Slot} {x y : Int64} {rest : List Value} (hd : decode c.code pc = .ok (.lor, 1)) (hp : pc + 1 = pc') (h : OG p e below s Q kc ks T (mkF m pc' Ls (.long (x ||| y) :: rest))) : OG p e below s Q kc ks T (mkF m pc Ls (.long y :: .long x :: rest)) := by
  subst hp; exact OG.step (fun t q => XS.lor X.here hx rfl hd rfl q) h
theorem o_lxor (X : Stand p l e R s m args below meth c T locs cells slots) (hx : p.tables.exec = Jvm.exec) {pc pc' : Nat} {Ls : Array Slot} {x y : Int64} {rest : List Value} (hd : decode c.code pc = .ok (.lxor, 1)) (hp : pc + 1 = pc') (h : OG p e below s Q kc ks T (mkF m pc' Ls (.long (x ^^^ y) :: rest))) : OG p e below s Q kc ks T (mkF m pc Ls (.long y :: .long x :: rest)) := by
  subst hp; exact OG.step (fun t q => XS.lxor X.here hx rfl hd rfl q) h
theorem o_ishl (X : Stand p l e R s m args below meth c T locs cells slots) (hx : p.tables.exec = Jvm.exec) {pc pc' : Nat} {Ls : Array Slot} {x y : Int32} {rest : List Value} (hd : decode c.code pc = .ok (.ishl, 1)) (hp : pc + 1 = pc') (h : OG p e below s Q kc ks T (mkF m pc' Ls (.int (x <<< (y &&& 31)) :: rest))) : OG p e below s Q kc ks T (mkF m pc Ls (.int y :: .int x :: rest)) := by
  subst hp; exact OG.step (fun t q => XS.ishl X.here hx rfl hd rfl q) h
theorem o_ishr (X : Stand p l e R s m args below meth c T locs cells slots) (hx : p.tables.exec = Jvm.exec) {pc pc' : Nat} {Ls : Array Slot} {x y : Int32} {rest : List Value} (hd : decode c.code pc = .ok (.ishr, 1)) (hp : pc + 1 = pc') (h : OG p e below s Q kc ks T (mkF m pc' Ls (.int (x >>> (y &&& 31)) :: rest))) : OG p e below s Q kc ks T (mkF m pc Ls (.int y :: .int x :: rest)) := by
  subst hp; exact OG.step (fun t q => XS.ishr X.here hx rfl hd rfl q) h
theorem o_iushr (X : Stand p l e R s m args below meth c T locs cells slots) (hx : p.tables.exec = Jvm.exec) {pc pc' : Nat} {Ls : Array Slot} {x y : Int32} {rest : List Value} (hd : decode c.code pc = .ok (.iushr, 1)) (hp : pc + 1 = pc') (h : OG p e below s Q kc ks T (mkF m pc' Ls (.int ((x.toUInt32 >>> (y &&& 31).toUInt32).toInt32) :: rest))) : OG p e below s Q kc ks T (mkF m pc Ls (.int y :: .int x :: rest)) := by
  subst hp; exact OG.step (fun t q => XS.iushr X.here hx rfl hd rfl q) h
theorem o_lshl (X : Stand p l e R s m args below meth c T locs cells slots) (hx : p.tables.exec = Jvm.exec) {pc pc' : Nat} {Ls : Array Slot} {x : Int64} {y : Int32} {rest : List Value} (hd : decode c.code pc = .ok (.lshl, 1)) (hp : pc + 1 = pc') (h : OG p e below s Q kc ks T (mkF m pc' Ls (.long (x <<< (y &&& 0x3f).toInt64) :: rest))) : OG p e below s Q kc ks T (mkF m pc Ls (.int y :: .long x :: rest)) := by
  subst hp; exact OG.step (fun t q => XS.lshl X.here hx rfl hd rfl q) h
theorem o_lshr (X : Stand p l e R s m args below meth c T locs cells slots) (hx : p.tables.exec = Jvm.exec) {pc pc' : Nat} {Ls : Array Slot} {x : Int64} {y : Int32} {rest : List Value} (hd : decode c.code pc = .ok (.lshr, 1)) (hp : pc + 1 = pc') (h : OG p e below s Q kc ks T (mkF m pc' Ls (.long (x >>> (y &&& 0x3f).toInt64) :: rest))) : OG p e below s Q kc ks T (mkF m pc Ls (.int y :: .long x :: rest)) := by
  subst hp; exact OG.step (fun t q => XS.lshr X.here hx rfl hd rfl q) h
theorem o_lushr (X : Stand p l e R s m args below meth c T locs cells slots) (hx : p.tables.exec = Jvm.exec) {pc pc' : Nat} {Ls : Array Slot} {x : Int64} {y : Int32} {rest : List Value} (hd : decode c.code pc = .ok (.lushr, 1)) (hp : pc + 1 = pc') (h : OG p e below s Q kc ks T (mkF m pc' Ls (.long ((x.toUInt64 >>> (y &&& 0x3f).toInt64.toUInt64).toInt64) :: rest))) : OG p e below s Q kc ks T (mkF m pc Ls (.int y :: .long x :: rest)) := by
  subst hp; exact OG.step (fun t q => XS.lushr X.here hx rfl hd rfl q) h
theorem o_idiv (X : Stand p l e R s m args below meth c T locs cells slots) (hx : p.tables.exec = Jvm.exec) {pc pc' : Nat} {Ls : Array Slot} {x y : Int32} {rest : List Value} (hd : decode c.code pc = .ok (.idiv, 1)) (hy : y ≠ 0) (hp : pc + 1 = pc') (h : OG p e below s Q kc ks T (mkF m pc' Ls (.int (x / y) :: rest))) : OG p e below s Q kc ks T (mkF m pc Ls (.int y :: .int x :: rest)) := by
  subst hp; exact OG.step (fun t q => XS.idiv X.here hx rfl hd rfl hy q) h
theorem o_ldiv (X : Stand p l e R s m args below meth c T locs cells slots) (hx : p.tables.exec = Jvm.exec) {pc pc' : Nat} {Ls : Array Slot} {x y : Int64} {rest : List Value} (hd : decode c.code pc = .ok (.ldiv, 1)) (hy : y ≠ 0) (hp : pc + 1 = pc') (h : OG p e below s Q kc ks T (mkF m pc' Ls (.long (x / y) :: rest))) : OG p e below s Q kc ks T (mkF m pc Ls (.long y :: .long x :: rest)) := by
  subst hp; exact OG.step (fun t q => XS.ldiv X.here hx rfl hd rfl hy q) h
theorem o_irem (X : Stand p l e R s m args below meth c T locs cells slots) (hx : p.tables.exec = Jvm.exec) {pc pc' : Nat} {Ls : Array Slot} {x y : Int32} {rest : List Value} (hd : decode c.code pc = .ok (.irem, 1)) (hy : y ≠ 0) (hp : pc + 1 = pc') (h : OG p e below s Q kc ks T (mkF m pc' Ls (.int (x % y) :: rest))) : OG p e below s Q kc ks T (mkF m pc Ls (.int y :: .int x :: rest)) := by
  subst hp; exact OG.step (fun t q => iremM X hx rfl hd rfl hy q) h
theorem o_lrem (X : Stand p l e R s m args below meth c T locs cells slots) (hx : p.tables.exec = Jvm.exec) {pc pc' : Nat} {Ls : Array Slot} {x y : Int64} {rest : List Value} (hd : decode c.code pc = .ok (.lrem, 1)) (hy : y ≠ 0) (hp : pc + 1 = pc') (h : OG p e below s Q kc ks T (mkF m pc' Ls (.long (x % y) :: rest))) : OG p e below s Q kc ks T (mkF m pc Ls (.long y :: .long x :: rest)) := by
  subst hp; rw [← lrem_mod] at h; exact OG.step (fun t q => XS.lrem X.here hx rfl hd rfl hy q) h
theorem o_ineg (X : Stand p l e R s m args below meth c T locs cells slots) (hx : p.tables.exec = Jvm.exec) {pc pc' : Nat} {Ls : Array Slot} {x : Int32} {rest : List Value} (hd : decode c.code pc = .ok (.ineg, 1)) (hp : pc + 1 = pc') (h : OG p e below s Q kc ks T (mkF m pc' Ls (.int ((-x)) :: rest))) : OG p e below s Q kc ks T (mkF m pc Ls (.int x :: rest)) := by
  subst hp; exact OG.step (fun t q => XS.ineg X.here hx rfl hd rfl q) h
theorem o_lneg (X : Stand p l e R s m args below meth c T locs cells slots) (hx : p.tables.exec = Jvm.exec) {pc pc' : Nat} {Ls : Array Slot} {x : Int64} {rest : List Value} (hd : decode c.code pc = .ok (.lneg, 1)) (hp : pc + 1 = pc') (h : OG p e below s Q kc ks T (mkF m pc' Ls (.long ((-x)) :: rest))) : OG p e below s Q kc ks T (mkF m pc Ls (.long x :: rest)) := by
  subst hp; exact OG.step (fun t q => XS.lneg X.here hx rfl hd rfl q) h
theorem o_i2l (X : Stand p l e R s m args below meth c T locs cells slots) (hx : p.tables.exec = Jvm.exec) {pc pc' : Nat} {Ls : Array Slot} {x : Int32} {rest : List Value} (hd : decode c.code pc = .ok (.i2l, 1)) (hp : pc + 1 = pc') (h : OG p e below s Q kc ks T (mkF m pc' Ls (.long (x.toInt64) :: rest))) : OG p e below s Q kc ks T (mkF m pc Ls (.int x :: rest)) := by
  subst hp; exact OG.step (fun t q => XS.i2l X.here hx rfl hd rfl q) h
theorem o_l2i (X : Stand p l e R s m args below meth c T locs cells slots) (hx : p.tables.exec = Jvm.exec) {pc pc' : Nat} {Ls : Array Slot} {x : Int64} {rest : List Value} (hd : decode c.code pc = .ok (.l2i, 1)) (hp : pc + 1 = pc') (h : OG p e below s Q kc ks T (mkF m pc' Ls (.int (x.toInt32) :: rest))) : OG p e below s Q kc ks T (mkF m pc Ls (.long x :: rest)) := by
  subst hp; exact OG.step (fun t q => XS.l2i X.here hx rfl hd rfl q) h
theorem o_i2b (X : Stand p l e R s m args below meth c T locs cells slots) (hx : p.tables.exec = Jvm.exec) {pc pc' : Nat} {Ls : Array Slot} {x : Int32} {rest : List Value} (hd : decode c.code pc = .ok (.i2b, 1)) (hp : pc + 1 = pc') (h : OG p e below s Q kc ks T (mkF m pc' Ls (.int (x.toInt8.toInt32) :: rest))) : OG p e below s Q kc ks T (mkF m pc Ls (.int x :: rest)) := by
  subst hp; exact OG.step (fun t q => XS.i2b X.here hx rfl hd rfl q) h
theorem o_i2c (X : Stand p l e R s m args below meth c T locs cells slots) (hx : p.tables.exec = Jvm.exec) {pc pc' : Nat} {Ls : Array Slot} {x : Int32} {rest : List Value} (hd : decode c.code pc = .ok (.i2c, 1)) (hp : pc + 1 = pc') (h : OG p e below s Q kc ks T (mkF m pc' Ls (.int (x.toUInt32.toUInt16.toUInt32.toInt32) :: rest))) : OG p e below s Q kc ks T (mkF m pc Ls (.int x :: rest)) := by
  subst hp; exact OG.step (fun t q => XS.i2c X.here hx rfl hd rfl q) h
theorem o_i2s (X : Stand p l e R s m args below meth c T locs cells slots) (hx : p.tables.exec = Jvm.exec) {pc pc' : Nat} {Ls : Array Slot} {x : Int32} {rest : List Value} (hd : decode c.code pc = .ok (.i2s, 1)) (hp : pc + 1 = pc') (h : OG p e below s Q kc ks T (mkF m pc' Ls (.int (x.toInt16.toInt32) :: rest))) : OG p e below s Q kc ks T (mkF m pc Ls (.int x :: rest)) := by
  subst hp; exact OG.step (fun t q => XS.i2s X.here hx rfl hd rfl q) h
theorem o_lcmp (X : Stand p l e R s m args below meth c T locs cells slots) (hx : p.tables.exec = Jvm.exec) {pc pc' : Nat} {Ls : Array Slot} {x y : Int64} {rest : List Value} (hd : decode c.code pc = .ok (.lcmp, 1)) (hp : pc + 1 = pc') (h : OG p e below s Q kc ks T (mkF m pc' Ls (.int (lcmpW x y) :: rest))) : OG p e below s Q kc ks T (mkF m pc Ls (.long y :: .long x :: rest)) := by
  subst hp; exact OG.step (fun t q => XS.lcmp X.here hx rfl hd rfl q) h
theorem o_iconst (X : Stand p l e R s m args below meth c T locs cells slots) (hx : p.tables.exec = Jvm.exec) {pc pc' : Nat} {Ls : Array Slot} {i : Int} {rest : List Value} (hd : decode c.code pc = .ok (.iconst i, 1)) (w : Int32) (hv : Int32.ofInt i = w) (hp : pc + 1 = pc') (h : OG p e below s Q kc ks T (mkF m pc' Ls (.int w :: rest))) : OG p e below s Q kc ks T (mkF m pc Ls (rest)) := by
  subst hp hv; exact OG.step (fun t q => XS.iconst X.here hx rfl hd q) h
theorem o_bipush (X : Stand p l e R s m args below meth c T locs cells slots) (hx : p.tables.exec = Jvm.exec) {pc pc' : Nat} {Ls : Array Slot} {i : Int} {rest : List Value} (hd : decode c.code pc = .ok (.bipush i, 2)) (w : Int32) (hv : (Int8.ofInt i).toInt32 = w) (hp : pc + 2 = pc') (h : OG p e below s Q kc ks T (mkF m pc' Ls (.int w :: rest))) : OG p e below s Q kc ks T (mkF m pc Ls (rest)) := by
  subst hp hv; exact OG.step (fun t q => XS.bipush X.here hx rfl hd q) h
theorem o_sipush (X : Stand p l e R s m args below meth c T locs cells slots) (hx : p.tables.exec = Jvm.exec) {pc pc' : Nat} {Ls : Array Slot} {i : Int} {rest : List Value} (hd : decode c.code pc = .ok (.sipush i, 3)) (w : Int32) (hv : (Int16.ofInt i).toInt32 = w) (hp : pc + 3 = pc') (h : OG p e below s Q kc ks T (mkF m pc' Ls (.int w :: rest))) : OG p e below s Q kc ks T (mkF m pc Ls (rest)) := by
  subst hp hv; exact OG.step (fun t q => XS.sipush X.here hx rfl hd q) h
theorem o_lconst (X : Stand p l e R s m args below meth c T locs cells slots) (hx : p.tables.exec = Jvm.exec) {pc pc' : Nat} {Ls : Array Slot} {i : Fin 2} {rest : List Value} (hd : decode c.code pc = .ok (.lconst i, 1)) (w : Int64) (hv : Int64.ofNat i = w) (hp : pc + 1 = pc') (h : OG p e below s Q kc ks T (mkF m pc' Ls (.long w :: rest))) : OG p e below s Q kc ks T (mkF m pc Ls (rest)) := by
  subst hp hv; exact OG.step (fun t q => XS.lconst X.here hx rfl hd q) h
theorem o_aconst_null (X : Stand p l e R s m args below meth c T locs cells slots) (hx : p.tables.exec = Jvm.exec) {pc pc' : Nat} {Ls : Array Slot} {rest : List Value} (hd : decode c.code pc = .ok (.aconst_null, 1)) (hp : pc + 1 = pc') (h : OG p e below s Q kc ks T (mkF m pc' Ls (.null :: rest))) : OG p e below s Q kc ks T (mkF m pc Ls (rest)) := by
  subst hp; exact OG.step (fun t q => XS.aconstNull X.here hx rfl hd q) h
theorem o_iload_n (X : Stand p l e R s m args below meth c T locs cells slots) (hx : p.tables.exec = Jvm.exec) {pc pc' : Nat} {Ls : Array Slot} {i : Fin 4} {x : Int32} {rest : List Value} (hd : decode c.code pc = .ok (.iload_n i, 1)) (hl : Ls[i.val]? = some (.val (.int x))) (hp : pc + 1 = pc') (h : OG p e below s Q kc ks T (mkF m pc' Ls (.int x :: rest))) : OG p e below s Q kc ks T (mkF m pc Ls (rest)) := by
  subst hp; exact OG.step (fun t q => XS.iloadN X.here hx rfl hd hl q) h
theorem o_iload (X : Stand p l e R s m args below meth c T locs cells slots) (hx : p.tables.exec = Jvm.exec) {pc pc' : Nat} {Ls : Array Slot} {i : Nat} {x : Int32} {rest : List Value} (hd : decode c.code pc = .ok (.iload i, 2)) (hl : Ls[i]? = some (.val (.int x))) (hp : pc + 2 = pc') (h : OG p e below s Q kc ks T (mkF m pc' Ls (.int x :: rest))) : OG p e below s Q kc ks T (mkF m pc Ls (rest)) := by
  subst hp; exact OG.step (fun t q => XS.iload X.here hx rfl hd hl q) h
theorem o_lload_n (X : Stand p l e R s m args below meth c T locs cells slots) (hx : p.tables.exec = Jvm.exec) {pc pc' : Nat} {Ls : Array Slot} {i : Fin 4} {x : Int64} {rest : List Value} (hd : decode c.code pc = .ok (.lload_n i, 1)) (hl : Ls[i.val]? = some (.val (.long x))) (hp : pc + 1 = pc') (h : OG p e below s Q kc ks T (mkF m pc' Ls (.long x :: rest))) : OG p e below s Q kc ks T (mkF m pc Ls (rest)) := by
  subst hp; exact OG.step (fun t q => XS.lloadN X.here hx rfl hd hl q) h
theorem o_lload (X : Stand p l e R s m args below meth c T locs cells slots) (hx : p.tables.exec = Jvm.exec) {pc pc' : Nat} {Ls : Array Slot} {i : Nat} {x : Int64} {rest : List Value} (hd : decode c.code pc = .ok (.lload i, 2)) (hl : Ls[i]? = some (.val (.long x))) (hp : pc + 2 = pc') (h : OG p e below s Q kc ks T (mkF m pc' Ls (.long x :: rest))) : OG p e below s Q kc ks T (mkF m pc Ls (rest)) := by
  subst hp; exact OG.step (fun t q => XS.lload X.here hx rfl hd hl q) h
theorem o_aload_n (X : Stand p l e R s m args below meth c T locs cells slots) (hx : p.tables.exec = Jvm.exec) {pc pc' : Nat} {Ls : Array Slot} {i : Fin 4} {x : Value} {rest : List Value} (hd : decode c.code pc = .ok (.aload_n i, 1)) (hl : Ls[i.val]? = some (.val x)) (hv : x.isRef = true) (hp : pc + 1 = pc') (h : OG p e below s Q kc ks T (mkF m pc' Ls (x :: rest))) : OG p e below s Q kc ks T (mkF m pc Ls (rest)) := by
  subst hp; exact OG.step (fun t q => XS.aloadN X.here hx rfl hd hl hv q) h
theorem o_aload (X : Stand p l e R s m args below meth c T locs cells slots) (hx : p.tables.exec = Jvm.exec) {pc pc' : Nat} {Ls : Array Slot} {i : Nat} {x : Value} {rest : List Value} (hd : decode c.code pc = .ok (.aload i, 2)) (hl : Ls[i]? = some (.val x)) (hv : x.isRef = true) (hp : pc + 2 = pc') (h : OG p e below s Q kc ks T (mkF m pc' Ls (x :: rest))) : OG p e below s Q kc ks T (mkF m pc Ls (rest)) := by
  subst hp; exact OG.step (fun t q => XS.aload X.here hx rfl hd hl hv q) h
theorem o_istore_n (X : Stand p l e R s m args below meth c T locs cells slots) (hx : p.tables.exec = Jvm.exec) {pc pc' : Nat} {Ls : Array Slot} {i : Fin 4} {x : Int32} {rest : List Value} (hd : decode c.code pc = .ok (.istore_n i, 1)) (l' : Array Slot) (hl : storeLocals Ls i.val (.int x) = some l') (hp : pc + 1 = pc') (h : OG p e below s Q kc ks T (mkF m pc' l' (rest))) : OG p e below s Q kc ks T (mkF m pc Ls (.int x :: rest)) := by
  subst hp; exact OG.step (fun t q => XS.istoreN X.here hx rfl hd rfl hl q) h
theorem o_istore (X : Stand p l e R s m args below meth c T locs cells slots) (hx : p.tables.exec = Jvm.exec) {pc pc' : Nat} {Ls : Array Slot} {i : Nat} {x : Int32} {rest : List Value} (hd : decode c.code pc = .ok (.istore i, 2)) (l' : Array Slot) (hl : storeLocals Ls i (.int x) = some l') (hp : pc + 2 = pc') (h : OG p e below s Q kc ks T (mkF m pc' l' (rest))) : OG p e below s Q kc ks T (mkF m pc Ls (.int x :: rest)) := by
  subst hp; exact OG.step (fun t q => XS.istore X.here hx rfl hd rfl hl q) h
theorem o_lstore_n (X : Stand p l e R s m args below meth c T locs cells slots) (hx : p.tables.exec = Jvm.exec) {pc pc' : Nat} {Ls : Array Slot} {i : Fin 4} {x : Int64} {rest : List Value} (hd : decode c.code pc = .ok (.lstore_n i, 1)) (l' : Array Slot) (hl : storeLocals Ls i.val (.long x) = some l') (hp : pc + 1 = pc') (h : OG p e below s Q kc ks T (mkF m pc' l' (rest))) : OG p e below s Q kc ks T (mkF m pc Ls (.long x :: rest)) := by
  subst hp; exact OG.step (fun t q => XS.lstoreN X.here hx rfl hd rfl hl q) h
theorem o_lstore (X : Stand p l e R s m args below meth c T locs cells slots) (hx : p.tables.exec = Jvm.exec) {pc pc' : Nat} {Ls : Array Slot} {i : Nat} {x : Int64} {rest : List Value} (hd : decode c.code pc = .ok (.lstore i, 2)) (l' : Array Slot) (hl : storeLocals Ls i (.long x) = some l') (hp : pc + 2 = pc') (h : OG p e below s Q kc ks T (mkF m pc' l' (rest))) : OG p e below s Q kc ks T (mkF m pc Ls (.long x :: rest)) := by
  subst hp; exact OG.step (fun t q => XS.lstore X.here hx rfl hd rfl hl q) h
theorem o_astore_n (X : Stand p l e R s m args below meth c T locs cells slots) (hx : p.tables.exec = Jvm.exec) {pc pc' : Nat} {Ls : Array Slot} {i : Fin 4} {x : Value} {rest : List Value} (hd : decode c.code pc = .ok (.astore_n i, 1)) (hv : x.isRef = true) (l' : Array Slot) (hl : storeLocals Ls i.val x = some l') (hp : pc + 1 = pc') (h : OG p e below s Q kc ks T (mkF m pc' l' (rest))) : OG p e below s Q kc ks T (mkF m pc Ls (x :: rest)) := by
  subst hp; exact OG.step (fun t q => XS.astoreN X.here hx rfl hd rfl hv hl q) h
theorem o_astore (X : Stand p l e R s m args below meth c T locs cells slots) (hx : p.tables.exec = Jvm.exec) {pc pc' : Nat} {Ls : Array Slot} {i : Nat} {x : Value} {rest : List Value} (hd : decode c.code pc = .ok (.astore i, 2)) (hv : x.isRef = true) (l' : Array Slot) (hl : storeLocals Ls i x = some l') (hp : pc + 2 = pc') (h : OG p e below s Q kc ks T (mkF m pc' l' (rest))) : OG p e below s Q kc ks T (mkF m pc Ls (x :: rest)) := by
  subst hp; exact OG.step (fun t q => XS.astore X.here hx rfl hd rfl hv hl q) h
theorem o_iinc (X : Stand p l e R s m args below meth c T locs cells slots) (hx : p.tables.exec = Jvm.exec) {pc pc' : Nat} {Ls : Array Slot} {i : Nat} {k : Int} {x : Int32} {rest : List Value} (hd : decode c.code pc = .ok (.iinc i k, 3)) (w : Int32) (hw' : Int32.ofInt k = w) (hl : Ls[i]? = some (.val (.int x))) (l' : Array Slot) (hl' : storeLocals Ls i (.int (x + w)) = some l') (hp : pc + 3 = pc') (h : OG p e below s Q kc ks T (mkF m pc' l' (rest))) : OG p e below s Q kc ks T (mkF m pc Ls (rest)) := by
  subst hp hw'; exact OG.step (fun t q => XS.iinc X.here hx rfl hd hl hl' q) h
theorem o_dup (X : Stand p l e R s m args below meth c T locs cells slots) (hx : p.tables.exec = Jvm.exec) {pc pc' : Nat} {Ls : Array Slot} {x : Value} {rest : List Value} (hd : decode c.code pc = .ok (.dup, 1)) (hc : x.category = 1) (hp : pc + 1 = pc') (h : OG p e below s Q kc ks T (mkF m pc' Ls (x :: x :: rest))) : OG p e below s Q kc ks T (mkF m pc Ls (x :: rest)) := by
  subst hp; exact OG.step (fun t q => XS.dup X.here hx rfl hd rfl hc q) h
theorem o_pop (X : Stand p l e R s m args below meth c T locs cells slots) (hx : p.tables.exec = Jvm.exec) {pc pc' : Nat} {Ls : Array Slot} {x : Value} {rest : List Value} (hd : decode c.code pc = .ok (.pop, 1)) (hc : x.category = 1) (hp : pc + 1 = pc') (h : OG p e below s Q kc ks T (mkF m pc' Ls (rest))) : OG p e below s Q kc ks T (mkF m pc Ls (x :: rest)) := by
  subst hp; exact OG.step (fun t q => XS.pop X.here hx rfl hd rfl hc q) h
theorem o_dup_x1 (X : Stand p l e R s m args below meth c T locs cells slots) (hx : p.tables.exec = Jvm.exec) {pc pc' : Nat} {Ls : Array Slot} {x y : Value} {rest : List Value} (hd : decode c.code pc = .ok (.dup_x1, 1)) (hc : x.category = 1) (hc2 : y.category = 1) (hp : pc + 1 = pc') (h : OG p e below s Q kc ks T (mkF m pc' Ls (x :: y :: x :: rest))) : OG p e below s Q kc ks T (mkF m pc Ls (x :: y :: rest)) := by
  subst hp; exact OG.step (fun t q => XS.dupX1 X.here hx rfl hd rfl hc hc2 q) h
theorem o_goto (X : Stand p l e R s m args below meth c T locs cells slots) (hx : p.tables.exec = Jvm.exec) {pc pc' : Nat} {Ls : Array Slot} {rest : List Value} {o : Int} (hd : decode c.code pc = .ok (.goto o, 3)) (ho : 0 ≤ (pc : Int) + o) (hp : ((pc : Int) + o).toNat = pc') (h : OG p e below s Q kc ks T (mkF m pc' Ls rest)) : OG p e below s Q kc ks T (mkF m pc Ls rest) :=
  OG.step (fun t q => XS.goto X.here hx rfl rfl hd ho hp q) h
theorem o_ifYes (X : Stand p l e R s m args below meth c T locs cells slots) (hx : p.tables.exec = Jvm.exec) {pc pc' : Nat} {Ls : Array Slot} {rest : List Value} {o : Int} {cd : ClassFile.Cond} {x : Int32} (hd : decode c.code pc = .ok (.ifCond cd o, 3)) (hc : ifCond.holds cd x = true) (ho : 0 ≤ (pc : Int) + o) (hp : ((pc : Int) + o).toNat = pc') (h : OG p e below s Q kc ks T (mkF m pc' Ls rest)) : OG p e below s Q kc ks T (mkF m pc Ls (.int x :: rest)) :=
  OG.step (fun t q => XS.ifYes X.here hx rfl rfl hd rfl hc ho hp q) h
theorem o_ifNo (X : Stand p l e R s m args below meth c T locs cells slots) (hx : p.tables.exec = Jvm.exec) {pc pc' : Nat} {Ls : Array Slot} {rest : List Value} {o : Int} {cd : ClassFile.Cond} {x : Int32} (hd : decode c.code pc = .ok (.ifCond cd o, 3)) (hc : ifCond.holds cd x = false) (hp : pc + 3 = pc') (h : OG p e below s Q kc ks T (mkF m pc' Ls rest)) : OG p e below s Q kc ks T (mkF m pc Ls (.int x :: rest)) := by
  subst hp; exact OG.step (fun t q => XS.ifNo X.here hx rfl hd rfl hc q) h
theorem o_icmpYes (X : Stand p l e R s m args below meth c T locs cells slots) (hx : p.tables.exec = Jvm.exec) {pc pc' : Nat} {Ls : Array Slot} {rest : List Value} {o : Int} {cd : ClassFile.Cond} {x y : Int32} (hd : decode c.code pc = .ok (.if_icmp cd o, 3)) (hc : if_icmp.holds cd x y = true) (ho : 0 ≤ (pc : Int) + o) (hp : ((pc : Int) + o).toNat = pc') (h : OG p e below s Q kc ks T (mkF m pc' Ls rest)) : OG p e below s Q kc ks T (mkF m pc Ls (.int y :: .int x :: rest)) :=
  OG.step (fun t q => XS.icmpYes X.here hx rfl rfl hd rfl hc ho hp q) h
theorem o_icmpNo (X : Stand p l e R s m args below meth c T locs cells slots) (hx : p.tables.exec = Jvm.exec) {pc pc' : Nat} {Ls : Array Slot} {rest : List Value} {o : Int} {cd : ClassFile.Cond} {x y : Int32} (hd : decode c.code pc = .ok (.if_icmp cd o, 3)) (hc : if_icmp.holds cd x y = false) (hp : pc + 3 = pc') (h : OG p e below s Q kc ks T (mkF m pc' Ls rest)) : OG p e below s Q kc ks T (mkF m pc Ls (.int y :: .int x :: rest)) := by
  subst hp; exact OG.step (fun t q => XS.icmpNo X.here hx rfl hd rfl hc q) h
theorem o_ifnonnullYes (X : Stand p l e R s m args below meth c T locs cells slots) (hx : p.tables.exec = Jvm.exec) {pc pc' : Nat} {Ls : Array Slot} {rest : List Value} {o : Int} {b : Addr} (hd : decode c.code pc = .ok (.ifnonnull o, 3)) (ho : 0 ≤ (pc : Int) + o) (hp : ((pc : Int) + o).toNat = pc') (h : OG p e below s Q kc ks T (mkF m pc' Ls rest)) : OG p e below s Q kc ks T (mkF m pc Ls (.ref b :: rest)) :=
  OG.step (fun t q => XS.ifnonnullYes X.here hx rfl rfl hd rfl ho hp q) h
theorem o_ifnonnullNo (X : Stand p l e R s m args below meth c T locs cells slots) (hx : p.tables.exec = Jvm.exec) {pc pc' : Nat} {Ls : Array Slot} {rest : List Value} {o : Int} (hd : decode c.code pc = .ok (.ifnonnull o, 3)) (hp : pc + 3 = pc') (h : OG p e below s Q kc ks T (mkF m pc' Ls rest)) : OG p e below s Q kc ks T (mkF m pc Ls (.null :: rest)) := by
  subst hp; exact OG.step (fun t q => XS.ifnonnullNo X.here hx rfl hd rfl q) h
theorem o_ldcInt (X : Stand p l e R s m args below meth c T locs cells slots) (hx : p.tables.exec = Jvm.exec) {pc pc' : Nat} {Ls : Array Slot} {rest : List Value} {Z : State} {a0 : Array Value} {own : String} {i : Nat} {v : Int32} (hZ : Z.Warmed39 s.vm) (hown : s.vm.findClass own = some m.cls) (hd : decode c.code pc = .ok (.ldc i, 2)) (hk : (Cond.constant own i v).before a0 Z = true) (hp : pc + 2 = pc') (h : OG p e below s Q kc ks T (mkF m pc' Ls (.int v :: rest))) : OG p e below s Q kc ks T (mkF m pc Ls rest) := by
  subst hp; exact OG.step (fun t q => X.ldcInt hx hown (mvT hZ hk) (g := mkF m pc Ls rest) rfl hd t q) h
theorem o_ldc2Long (X : Stand p l e R s m args below meth c T locs cells slots) (hx : p.tables.exec = Jvm.exec) {pc pc' : Nat} {Ls : Array Slot} {rest : List Value} {Z : State} {a0 : Array Value} {own : String} {i : Nat} {v : Int64} (hZ : Z.Warmed39 s.vm) (hown : s.vm.findClass own = some m.cls) (hd : decode c.code pc = .ok (.ldc2_w i, 3)) (hk : (Cond.constantLong own i v).before a0 Z = true) (hp : pc + 3 = pc') (h : OG p e below s Q kc ks T (mkF m pc' Ls (.long v :: rest))) : OG p e below s Q kc ks T (mkF m pc Ls rest) := by
  subst hp; exact OG.step (fun t q => X.ldc2Long hx hown (mvT hZ hk) (g := mkF m pc Ls rest) rfl hd t q) h
theorem o_retI (X : Stand p l e R s m args below meth c T locs cells slots) (hx : p.tables.exec = Jvm.exec) (hlk : meth.locks = false) {pc : Nat} {Ls : Array Slot} {rest : List Value} {z : Int32} (hret : meth.sig.returnType = some .int) (hd : decode c.code pc = .ok (.ireturn, 1)) (hQ : Q (some (.int z)) T.heap locs) (h1 : cells ≤ kc) (h2 : slots ≤ ks) : OG p e below s Q kc ks T (mkF m pc Ls (.int z :: rest)) := by
  obtain ⟨fs, hr, hrun, hended, hW, hsame⟩ := X.leave (v := some (.int z)) (fun h => by rw [hret] at h; cases h) hlk
  exact ⟨_, _, retI X hx hret hd hr, hrun, hended, _, _, rfl, hQ, ⟨_, rfl⟩, hW, hsame.mono h1 h2⟩
theorem o_retJ (X : Stand p l e R s m args below meth c T locs cells slots) (hx : p.tables.exec = Jvm.exec) (hlk : meth.locks = false) {pc : Nat} {Ls : Array Slot} {rest : List Value} {z : Int64} (hret : meth.sig.returnType = some .long) (hd : decode c.code pc = .ok (.lreturn, 1)) (hQ : Q (some (.long z)) T.heap locs) (h1 : cells ≤ kc) (h2 : slots ≤ ks) : OG p e below s Q kc ks T (mkF m pc Ls (.long z :: rest)) := by
  obtain ⟨fs, hr, hrun, hended, hW, hsame⟩ := X.leave (v := some (.long z)) (fun h => by rw [hret] at h; cases h) hlk
  exact ⟨_, _, retJ X hx hret hd hr, hrun, hended, _, _, rfl, hQ, ⟨_, rfl⟩, hW, hsame.mono h1 h2⟩
theorem o_retN (X : Stand p l e R s m args below meth c T locs cells slots) (hx : p.tables.exec = Jvm.exec) (hlk : meth.locks = false) {pc : Nat} {Ls : Array Slot} {rest : List Value} {z w : Int32} {t : FieldType} (ht : t = .boolean ∨ t = .byte ∨ t = .char ∨ t = .short) (hret : meth.sig.returnType = some t) (hd : decode c.code pc = .ok (.ireturn, 1)) (hz : nar t z = w) (hQ : Q (some (.int w)) T.heap locs) (h1 : cells ≤ kc) (h2 : slots ≤ ks) : OG p e below s Q kc ks T (mkF m pc Ls (.int z :: rest)) := by
  subst hz
  obtain ⟨fs, hr, hrun, hended, hW, hsame⟩ := X.leave (v := some (.int (nar t z))) (fun h => by rw [hret] at h; cases h) hlk
  exact ⟨_, _, retN X hx hret ht hd hr, hrun, hended, _, _, rfl, hQ, ⟨_, rfl⟩, hW, hsame.mono h1 h2⟩
theorem o_ret (X : Stand p l e R s m args below meth c T locs cells slots) (hx : p.tables.exec = Jvm.exec) (hlk : meth.locks = false) {pc : Nat} {Ls : Array Slot} (hret : meth.sig.returnType = none) (hd : decode c.code pc = .ok (.return_, 1)) (hQ : Q none T.heap locs) (h1 : cells ≤ kc) (h2 : slots ≤ ks) : OG p e below s Q kc ks T (mkF m pc Ls []) := by
  obtain ⟨fs, hr, hrun, hended, hW, hsame⟩ := X.leave (v := none) (fun _ => rfl) hlk
  exact ⟨_, _, X.returnOut hx hret hd hr, hrun, hended, _, _, rfl, hQ, ⟨_, rfl⟩, hW, hsame.mono h1 h2⟩
variable {Z : State} {a0 : Array Value} {h : Heap}
theorem o_callS (X : Stand p l e R s m args below meth c T locs cells slots) (hx : p.tables.exec = Jvm.exec) (hZ : Z.Warmed39 s.vm) {own : String} {index : Nat} {y : MethodName} {bytes : ByteArray} {maxL : Nat} {ret : Option FieldType} {rm : Room} {Qc : Option Value → Heap → List Loc → Prop} {argsL rest st : List Value} {pc pc' : Nat} {Ls : Array Slot} (W : Nat)
    (hown : s.vm.findClass own = some m.cls) (eT : T.heap = h) (hlink : (Cond.methodLink own index y).before a0 Z = true) (hstat : (Cond.static y).before a0 Z = true) (hinit : (Cond.initialized y.cls).before a0 Z = true) (hcode : (Cond.code y bytes maxL ret).before a0 Z = true) (hy : y.cls ≠ "java/lang/invoke/MethodHandle" ∧ y.cls ≠ "java/lang/invoke/VarHandle")
    (hM : MetFree l y (head1 [Cond.code y bytes maxL ret] rm) (fun a U => a = argsL.toArray ∧ Z.Warmed39 U.vm ∧ U.heap = h) (fun _ _ _ _ _ => True) (fun _ U o U' => ∃ v L, o = .returned v ∧ Qc v U'.heap L ∧ FrameEnd U o U' L rm.cells rm.slots)) (hf : rm.frames + 1 ≤ R.frames) (hl : W + (maxL + 11) + rm.locals ≤ R.locals)
    (hsize : Ls.size = c.maxLocals) (hlen : ∀ sig, parseMethodDescriptor y.desc = some sig → argsL.length = sig.parameters.length) (hs : st = argsL.reverse ++ rest) (hW : (rest.map fun v => v.category).sum ≤ W) (hd : decode c.code pc = .ok (.invokestatic index, 3)) (hp : pc + 3 = pc') (hc : cells + rm.cells ≤ R.cells) (hsl : slots + rm.slots ≤ R.slots)
    (k : ∀ v T' L, Stand p l e R s m args below meth c T' (locs ++ L) (cells + rm.cells) (slots + rm.slots) → Qc v T'.heap L → OG p e below s Q kc ks T' (mkF m pc' Ls (v.toList ++ rest))) : OG p e below s Q kc ks T (mkF m pc Ls st) := by
  subst hp hs
  obtain ⟨v, vm₁, ⟨T1, L1, c1, n1⟩, -, X1, ⟨Lc, hQ, l1, y1, z1⟩, st⟩ := Jvm.LawKit.callS X hx (y := y) hown (mvT hZ hlink) (mvT hZ hstat) (mvT hZ hinit) (mvT hZ hcode) hy (backOf (W := W) hM hZ hcode hinit hf hl) (g := mkF m pc Ls (argsL.reverse ++ rest)) rfl hsize (argsL := argsL) (rest := rest) hlen rfl (by show 2 * 0 + _ ≤ _; omega) hd (fun _ _ => ⟨rfl, eT, hc, hsl⟩)
  dsimp only [Pt.U, Pt.locs, Pt.cells, Pt.slots] at X1 l1 y1 z1 st hQ
  subst l1 y1 z1
  exact OG.step st (k v T1 Lc X1 hQ)
theorem o_special (X : Stand p l e R s m args below meth c T locs cells slots) (hx : p.tables.exec = Jvm.exec) (hZ : Z.Warmed39 s.vm) {own : String} {index : Nat} {y : MethodName} {bytes : ByteArray} {maxL : Nat} {rm : Room} {Qc : Option Value → Heap → List Loc → Prop} {a : Addr} {argsL rest st : List Value} {pc pc' : Nat} {Ls : Array Slot} (W : Nat) (hy1 : y.name = "<init>")
    (hown : s.vm.findClass own = some m.cls) (eT : T.heap = h) (hlink : (Cond.methodLink own index y).before a0 Z = true) (hinst : (Cond.instanceMethod y).before a0 Z = true) (hinit : (Cond.initialized y.cls).before a0 Z = true) (hcode : (Cond.code y bytes maxL none).before a0 Z = true) (hy : y.cls ≠ "java/lang/invoke/MethodHandle" ∧ y.cls ≠ "java/lang/invoke/VarHandle")
    (hM : MetFree l y (head1 [Cond.code y bytes maxL none] rm) (fun b U => b = (.ref a :: argsL).toArray ∧ Z.Warmed39 U.vm ∧ U.heap = h) (fun _ _ _ _ _ => True) (fun _ U o U' => ∃ v L, o = .returned v ∧ Qc v U'.heap L ∧ FrameEnd U o U' L rm.cells rm.slots)) (hf : rm.frames + 1 ≤ R.frames) (hl : W + (maxL + 11) + rm.locals ≤ R.locals)
    (hsize : Ls.size = c.maxLocals) (hlen : ∀ sig, parseMethodDescriptor y.desc = some sig → argsL.length = sig.parameters.length) (hs : st = argsL.reverse ++ .ref a :: rest) (hW : (rest.map fun v => v.category).sum ≤ W) (hd : decode c.code pc = .ok (.invokespecial index, 3)) (hp : pc + 3 = pc') (hc : cells + rm.cells ≤ R.cells) (hsl : slots + rm.slots ≤ R.slots)
    (k : ∀ v T' L, Stand p l e R s m args below meth c T' (locs ++ L) (cells + rm.cells) (slots + rm.slots) → Qc v T'.heap L → OG p e below s Q kc ks T' (mkF m pc' Ls (v.toList ++ rest))) : OG p e below s Q kc ks T (mkF m pc Ls st) := by
  subst hp hs
  obtain ⟨v, vm₁, ⟨T1, L1, c1, n1⟩, -, X1, ⟨Lc, hQ, l1, y1, z1⟩, st⟩ := X.specialBack hx (y := y) hy1 hown (mvT hZ hlink) (mvT hZ hinst) (mvT hZ hcode) hy (backOf (W := W) hM hZ hcode hinit hf hl) (g := mkF m pc Ls (argsL.reverse ++ .ref a :: rest)) rfl hsize (Steps.refl _) (a := a) (argsL := argsL) (rest := rest) hlen rfl (by show 2 * 0 + _ ≤ _; omega) hd (fun _ _ => ⟨rfl, eT, hc, hsl⟩)
  dsimp only [Pt.U, Pt.locs, Pt.cells, Pt.slots] at X1 l1 y1 z1 st hQ
  subst l1 y1 z1
  exact OG.step (fun t q => st.trans q) (k v T1 Lc X1 hQ)
theorem o_virtual (X : Stand p l e R s m args below meth c T locs cells slots) (hx : p.tables.exec = Jvm.exec) (hZ : Z.Warmed39 s.vm) {own C : String} {index : Nat} {y : MethodName} {bytes : ByteArray} {maxL : Nat} {ret : Option FieldType} {rm : Room} {Qc : Option Value → Heap → List Loc → Prop} {a : Addr} {argsL rest st : List Value} {pc pc' : Nat} {Ls : Array Slot} (W : Nat)
    (hown : s.vm.findClass own = some m.cls) (eT : T.heap = h) (hlink : (Cond.methodLink own index y).before a0 Z = true) (hdecl : (Cond.declares y).before a0 Z = true) (hsel : (Cond.selects C y y).before a0 Z = true) (hinst : (Cond.instanceMethod y).before a0 Z = true) (hinit : (Cond.initialized y.cls).before a0 Z = true) (hcode : (Cond.code y bytes maxL ret).before a0 Z = true) (hy : y.cls ≠ "java/lang/invoke/MethodHandle" ∧ y.cls ≠ "java/lang/invoke/VarHandle")
    (E : Exa Z h a C)
    (hM : MetFree l y (head1 [Cond.code y bytes maxL ret] rm) (fun b U => b = (.ref a :: argsL).toArray ∧ Z.Warmed39 U.vm ∧ U.heap = h) (fun _ _ _ _ _ => True) (fun _ U o U' => ∃ v L, o = .returned v ∧ Qc v U'.heap L ∧ FrameEnd U o U' L rm.cells rm.slots)) (hf : rm.frames + 1 ≤ R.frames) (hl : W + (maxL + 11) + rm.locals ≤ R.locals)
    (hsize : Ls.size = c.maxLocals) (hlen : ∀ sig, parseMethodDescriptor y.desc = some sig → argsL.length = sig.parameters.length) (hs : st = argsL.reverse ++ .ref a :: rest) (hW : (rest.map fun v => v.category).sum ≤ W) (hd : decode c.code pc = .ok (.invokevirtual index, 3)) (hp : pc + 3 = pc') (hc : cells + rm.cells ≤ R.cells) (hsl : slots + rm.slots ≤ R.slots)
    (k : ∀ v T' L, Stand p l e R s m args below meth c T' (locs ++ L) (cells + rm.cells) (slots + rm.slots) → Qc v T'.heap L → OG p e below s Q kc ks T' (mkF m pc' Ls (v.toList ++ rest))) : OG p e below s Q kc ks T (mkF m pc Ls st) := by
  subst hp hs
  obtain ⟨cq, kq, qa, qb, qc⟩ := isOf hZ eT E
  obtain ⟨v, vm₁, ⟨T1, L1, c1, n1⟩, -, X1, ⟨Lc, hQ, l1, y1, z1⟩, st⟩ := X.virtualBack hx (y := y) (z := y) hown (mvT hZ hlink) (mvT hZ hdecl) (notFace_of_selects (args := #[]) (mvT hZ hsel)) (mvT hZ hsel) (mvT hZ hinst) hy (backOf (W := W) hM hZ hcode hinit hf hl) qa qc (g := mkF m pc Ls (argsL.reverse ++ .ref a :: rest)) rfl hsize (Steps.refl _) (argsL := argsL) (rest := rest) hlen rfl (by show 2 * 0 + _ ≤ _; omega) hd (fun _ _ => ⟨rfl, eT, hc, hsl⟩)
  dsimp only [Pt.U, Pt.locs, Pt.cells, Pt.slots] at X1 l1 y1 z1 st hQ
  subst l1 y1 z1
  exact OG.step (fun t q => st.trans q) (k v T1 Lc X1 hQ)
theorem o_new (X : Stand p l e R s m args below meth c T locs cells slots) (hx : p.tables.exec = Jvm.exec) (hZ : Z.Warmed39 s.vm) {own C : String} {index n : Nat} {pc pc' : Nat} {Ls : Array Slot} {rest : List Value} (hown : s.vm.findClass own = some m.cls) (eT : T.heap = h) (w : (Cond.classLink own index C).before a0 Z = true) (wi : (Cond.instantiable C n).before a0 Z = true) (wz : (Cond.initialized C).before a0 Z = true) (hd : decode c.code pc = .ok (.new index, 3)) (hp : pc + 3 = pc') (hc : cells + 1 ≤ R.cells) (hl : slots + n ≤ R.slots)
    (k : ∀ T' h' a, Stand p l e R s m args below meth c T' locs (cells + 1) (slots + n) → T'.heap = h' → a = h.size → Ext h h' → Exa Z h' a C → (∀ {O nm d : String} {ty : FieldType}, Laid Z a0 C O nm d → parseFieldDescriptor d = some ty → Fld Z h' a O nm d (defaultValue ty)) → OG p e below s Q kc ks T' (mkF m pc' Ls (.ref a :: rest))) : OG p e below s Q kc ks T (mkF m pc Ls rest) := by
  subst hp
  obtain ⟨T2, h2, X2, e2, E2, A2, D2, -, st2⟩ := newO X hx hZ hown w wi wz eT (g := mkF m pc Ls rest) rfl hd hc hl
  exact OG.step st2 (k T2 h2 _ X2 e2 rfl E2 A2 D2)
theorem o_initO (X : Stand p l e R s m args below meth c T locs cells slots) (hx : p.tables.exec = Jvm.exec) (hZ : Z.Warmed39 s.vm) {own : String} {index : Nat} {a : Addr} {pc pc' : Nat} {Ls : Array Slot} {rest : List Value} (W : Nat) (hown : s.vm.findClass own = some m.cls) (eT : T.heap = h)
    (w1 : (Cond.methodLink own index Lib.objectInit).before a0 Z = true) (w2 : (Cond.instanceMethod Lib.objectInit).before a0 Z = true) (w3 : (Cond.code Lib.objectInit object_method_1_code 1 none).before a0 Z = true) (hsize : Ls.size = c.maxLocals) (hd : decode c.code pc = .ok (.invokespecial index, 3)) (hf : 1 ≤ R.frames) (hW : (rest.map fun v => v.category).sum ≤ W) (hl : W + 12 ≤ R.locals) (hp : pc + 3 = pc')
    (k : ∀ T', Stand p l e R s m args below meth c T' locs cells slots → T'.heap = h → OG p e below s Q kc ks T' (mkF m pc' Ls rest)) : OG p e below s Q kc ks T (mkF m pc Ls (.ref a :: rest)) := by
  subst hp
  obtain ⟨T1, X1, e1, st1⟩ := initO X hx hZ hown w1 w2 w3 eT (g := mkF m pc Ls (.ref a :: rest)) rfl hsize rfl hd hf (W := W) (by show 2 * 0 + _ ≤ _; omega) hl
  exact OG.step st1 (k T1 X1 e1)
theorem o_getF (X : Stand p l e R s m args below meth c T locs cells slots) (hx : p.tables.exec = Jvm.exec) (hZ : Z.Warmed39 s.vm) {own R0 O n d : String} {index : Nat} {a : Addr} {v : Value} {pc pc' : Nat} {Ls : Array Slot} {rest : List Value} (hown : s.vm.findClass own = some m.cls) (eT : T.heap = h) (w : (Cond.fieldLink own index R0 n d).before a0 Z = true) (via : Via Z R0 O n d) (F : Fld Z h a O n d v) (hd : decode c.code pc = .ok (.getfield index, 3)) (hp : pc + 3 = pc')
    (k : ∀ T', Stand p l e R s m args below meth c T' locs cells slots → T'.heap = h → OG p e below s Q kc ks T' (mkF m pc' Ls (v :: rest))) : OG p e below s Q kc ks T (mkF m pc Ls (.ref a :: rest)) := by
  subst hp
  obtain ⟨T1, X1, e1, st1⟩ := getF X hx hZ hown (host := "") (Or.inl w) via eT F (g := mkF m pc Ls (.ref a :: rest)) rfl rfl hd
  exact OG.step st1 (k T1 X1 e1)
theorem o_putF (X : Stand p l e R s m args below meth c T locs cells slots) (hx : p.tables.exec = Jvm.exec) (hZ : Z.Warmed39 s.vm) {own R0 O n d C : String} {index kk : Nat} {ty : FieldType} {a : Addr} {v old : Value} {pc pc' : Nat} {Ls : Array Slot} {rest : List Value} (hown : s.vm.findClass own = some m.cls) (eT : T.heap = h) (w : (Cond.fieldLink own index R0 n d).before a0 Z = true) (via : Via Z R0 O n d) (F : Fld Z h a O n d old) (E : Exa Z h a C)
    (L : (Cond.lays C O n d).before a0 Z = true ∨ ((Cond.laysFinal C O n d).before a0 Z = true ∧ own = O ∧ meth.name = "<init>")) (wi : (Cond.instantiable C kk).before a0 Z = true) (hty : parseFieldDescriptor d = some ty) (hn : narrow ty v = v) (hf : fits ty v = true) (hd : decode c.code pc = .ok (.putfield index, 3)) (hp : pc + 3 = pc')
    (k : ∀ T' h', Stand p l e R s m args below meth c T' (locs ++ [⟨a, RoadKit.slotOf Z O n d⟩]) cells slots → T'.heap = h' → Wr h h' a (RoadKit.slotOf Z O n d) v → OG p e below s Q kc ks T' (mkF m pc' Ls rest)) : OG p e below s Q kc ks T (mkF m pc Ls (v :: .ref a :: rest)) := by
  subst hp
  obtain ⟨T1, h1, X1, e1, W1, st1⟩ := putF X hx hZ hown (host := "") (Or.inl w) via eT F E L wi hty hn hf (g := mkF m pc Ls (v :: .ref a :: rest)) rfl rfl hd
  exact OG.step st1 (k T1 h1 X1 e1 W1)
theorem z_tlt {x : Int32} (h : x < 0) : ifCond.holds .lt x = true ∧ ifCond.holds .ge x = false := ⟨(if0 _ _).trans (tlt h).1, (if0 _ _).trans (tlt h).2.1⟩
theorem z_flt {x : Int32} (h : ¬ x < 0) : ifCond.holds .lt x = false ∧ ifCond.holds .ge x = true := ⟨(if0 _ _).trans (flt h).1, (if0 _ _).trans (flt h).2.1⟩
theorem z_tgt {x : Int32} (h : 0 < x) : ifCond.holds .gt x = true ∧ ifCond.holds .le x = false := ⟨(if0 _ _).trans (tlt h).2.2.1, (if0 _ _).trans (tlt h).2.2.2⟩
theorem z_fgt {x : Int32} (h : ¬ 0 < x) : ifCond.holds .gt x = false ∧ ifCond.holds .le x = true := ⟨(if0 _ _).trans (flt h).2.2.1, (if0 _ _).trans (flt h).2.2.2⟩
theorem z_teq {x : Int32} (h : x = 0) : ifCond.holds .eq x = true ∧ ifCond.holds .ne x = false := ⟨(if0 _ _).trans (teq h).1, (if0 _ _).trans (teq h).2⟩
theorem z_feq {x : Int32} (h : ¬ x = 0) : ifCond.holds .eq x = false ∧ ifCond.holds .ne x = true := ⟨(if0 _ _).trans (feq h).1, (if0 _ _).trans (feq h).2⟩
theorem c_tlt {x y : Int32} (h : x < y) : if_icmp.holds .lt x y = true ∧ if_icmp.holds .ge x y = false := ⟨(tlt h).1, (tlt h).2.1⟩
theorem c_flt {x y : Int32} (h : ¬ x < y) : if_icmp.holds .lt x y = false ∧ if_icmp.holds .ge x y = true := ⟨(flt h).1, (flt h).2.1⟩
theorem c_tgt {x y : Int32} (h : y < x) : if_icmp.holds .gt x y = true ∧ if_icmp.holds .le x y = false := ⟨(tlt h).2.2.1, (tlt h).2.2.2⟩
theorem c_fgt {x y : Int32} (h : ¬ y < x) : if_icmp.holds .gt x y = false ∧ if_icmp.holds .le x y = true := ⟨(flt h).2.2.1, (flt h).2.2.2⟩
theorem c_teq {x y : Int32} (h : x = y) : if_icmp.holds .eq x y = true ∧ if_icmp.holds .ne x y = false := teq h
theorem c_feq {x y : Int32} (h : ¬ x = y) : if_icmp.holds .eq x y = false ∧ if_icmp.holds .ne x y = true := feq h
theorem l_tlt {x y : Int64} (h : x < y) : ifCond.holds .lt (lcmpW x y) = true ∧ ifCond.holds .ge (lcmpW x y) = false := z_tlt ((lw_lt x y).mpr h)
theorem l_flt {x y : Int64} (h : ¬ x < y) : ifCond.holds .lt (lcmpW x y) = false ∧ ifCond.holds .ge (lcmpW x y) = true := z_flt (fun q => h ((lw_lt x y).mp q))
theorem l_tgt {x y : Int64} (h : y < x) : ifCond.holds .gt (lcmpW x y) = true ∧ ifCond.holds .le (lcmpW x y) = false := z_tgt ((lw_gt x y).mpr h)
theorem l_fgt {x y : Int64} (h : ¬ y < x) : ifCond.holds .gt (lcmpW x y) = false ∧ ifCond.holds .le (lcmpW x y) = true := z_fgt (fun q => h ((lw_gt x y).mp q))
theorem l_teq {x y : Int64} (h : x = y) : ifCond.holds .eq (lcmpW x y) = true ∧ ifCond.holds .ne (lcmpW x y) = false := z_teq ((lw_eq x y).mpr h)
theorem l_feq {x y : Int64} (h : ¬ x = y) : ifCond.holds .eq (lcmpW x y) = false ∧ ifCond.holds .ne (lcmpW x y) = true := z_feq (fun q => h ((lw_eq x y).mp q))
end Own
section OwnA
variable {p : Program} {l : Launch} {e : Env} {R : Room} {s : State} {m : MethodId} {args : Array Value} {below : List Frame} {meth : Method} {c : Code} {T : State} {locs : List Loc} {cells slots : Nat} {Q : Option Value → Heap → List Loc → Prop} {kc ks : Nat} {Z : State} {a0 : Array Value} {h h' : Heap} {a b : Addr} {ty : FieldType} {n : Nat} {f : Nat → Value}
/-- an array of n values: the i-th is f i -/
def OAr (Z : State) (h : Heap) (a : Addr) (ty : FieldType) (n : Nat) (f : Nat → Value) : Prop := ∃ c : Cell, Arr Z h a c ty ∧ c.slots.size = n ∧ ∀ i, i < n → c.slots[i]? = some (f i)
theorem OAr.ext (E : Ext h h') (F : OAr Z h b ty n f) : OAr Z h' b ty n f := by obtain ⟨c, A, r⟩ := F; exact ⟨c, A.ext E, r⟩
theorem OAr.other {sl : Nat} {v : Value} (W : Wr h h' a sl v) (F : OAr Z h b ty n f) (q : b ≠ a) : OAr Z h' b ty n f := by obtain ⟨c, A, r⟩ := F; exact ⟨c, A.other W q, r⟩
theorem OAr.keep {ws : List Addr} (F : OAr Z h b ty n f) (K : Keep h h' ws) (q : b ∉ ws) : OAr Z h' b ty n f := by obtain ⟨c, A, r⟩ := F; exact ⟨c, ⟨K.2.1 b c A.1 q, A.2⟩, r⟩
theorem OAr.lt (F : OAr Z h a ty n f) : a < h.size := by obtain ⟨c, A, -⟩ := F; exact A.lt
theorem OAr.cg {g : Nat → Value} (F : OAr Z h a ty n f) (q : ∀ i, i < n → g i = f i) : OAr Z h a ty n g := by obtain ⟨c, A, r, H⟩ := F; exact ⟨c, A, r, fun i hi => by rw [q i hi]; exact H i hi⟩
theorem OAr.same {j : Nat} {v : Value} (W : Wr h h' a j v) (F : OAr Z h a ty n f) : OAr Z h' a ty n (fun i => if i = j then v else f i) := by
  obtain ⟨c, A, r, H⟩ := F
  refine ⟨_, Arr.same W A, by simp [Cell.setSlot, r], fun i hi => ?_⟩
  obtain ⟨c', h1, -, h3, -⟩ := W
  have hlt : j < c.slots.size := by have := h1.symm.trans A.1; cases this; exact h3
  simp only [Cell.setSlot]
  rw [Array.getElem?_setIfInBounds]
  by_cases q : j = i
  · subst q; simp [hlt]
  · rw [if_neg q, if_neg (fun z => q z.symm)]; exact H i hi
theorem OAr.new {k : ClassId} {z : Int32} (A : Arr Z h a (newA k ty z) ty) : OAr Z h a ty z.toNatClampNeg (fun _ => defaultValue ty) :=
  ⟨_, A, sz_new _ _ _, fun i hi => by simp [newA, hi]⟩
/-- the first values by a list -/
def lk (vs : List Value) (k : Nat) : Value := vs.getD k .null
theorem OAr.setL {vs : List Value} {j : Nat} {v : Value} (W : Wr h h' a j v) (F : OAr Z h a ty n (lk vs)) (hj : j < vs.length) : OAr Z h' a ty n (lk (vs.set j v)) :=
  (OAr.same W F).cg fun i hi => by
    unfold lk
    by_cases q : i = j
    · subst q; simp [hj]
    · simp only [List.getD_eq_getElem?_getD, List.getElem?_set, if_neg q, if_neg (fun z : j = i => q z.symm)]
theorem o_alen (X : Stand p l e R s m args below meth c T locs cells slots) (hx : p.tables.exec = Jvm.exec) (hZ : Z.Warmed39 s.vm) {pc pc' : Nat} {Ls : Array Slot} {rest : List Value} (eT : T.heap = h) (F : OAr Z h a ty n f) (hd : decode c.code pc = .ok (.arraylength, 1)) (z : Int32) (hz : n.toInt32 = z) (hp : pc + 1 = pc') (k : OG p e below s Q kc ks T (mkF m pc' Ls (.int z :: rest))) : OG p e below s Q kc ks T (mkF m pc Ls (.ref a :: rest)) := by
  subst hp hz
  obtain ⟨cl, A, r, H⟩ := F
  exact OG.step (fun t q => X.arraylength hx (by rw [eT]; exact A.1) (State.isArrayOf_alike hZ.alike A.2.1) (g := mkF m pc Ls (.ref a :: rest)) rfl rfl hd t (by rw [r]; exact q)) k
theorem o_newarr (X : Stand p l e R s m args below meth c T locs cells slots) (hx : p.tables.exec = Jvm.exec) (hZ : Z.Warmed39 s.vm) {pc pc' : Nat} {Ls : Array Slot} {rest : List Value} {aty : ArrayType} {z : Int32} (eT : T.heap = h) (w : (Cond.arrayClass (newarray.typeOf aty)).before a0 Z = true) (hd : decode c.code pc = .ok (.newarray aty, 2)) (hn : ¬ z < 0) (cap : Nat) (hcap : z.toNatClampNeg ≤ cap) (hb : cap * 8 ≤ 536870912) (hc : cells + 1 ≤ R.cells) (hl : slots + cap ≤ R.slots) (hp : pc + 2 = pc')
    (k : ∀ T' h' a, Stand p l e R s m args below meth c T' locs (cells + 1) (slots + cap) → T'.heap = h' → a = h.size → Ext h h' → OAr Z h' a (newarray.typeOf aty) z.toNatClampNeg (fun _ => defaultValue (newarray.typeOf aty)) → OG p e below s Q kc ks T' (mkF m pc' Ls (.ref a :: rest))) : OG p e below s Q kc ks T (mkF m pc Ls (.int z :: rest)) := by
  subst hp
  obtain ⟨T1, h1, cA, X1, e1, E1, A1, st1⟩ := newP X hx hZ w eT (g := mkF m pc Ls (.int z :: rest)) rfl hd rfl hn hcap hb hc hl
  exact OG.step st1 (k T1 h1 _ X1 e1 rfl E1 (OAr.new A1))
theorem o_inb {cl : Cell} {j : Int32} (r : cl.slots.size = n) (hj : ¬ j < 0) (hlt : j.toNatClampNeg < n) : ¬ (j < 0 ∨ cl.slots.size ≤ j.toNatClampNeg) := by
  rintro (q | q)
  · exact hj q
  · omega
theorem o_iaload (X : Stand p l e R s m args below meth c T locs cells slots) (hx : p.tables.exec = Jvm.exec) (hZ : Z.Warmed39 s.vm) {pc pc' : Nat} {Ls : Array Slot} {rest : List Value} {j : Int32} (eT : T.heap = h) (F : OAr Z h a .int n f) (hd : decode c.code pc = .ok (.iaload, 1)) (hj : ¬ j < 0) (hlt : j.toNatClampNeg < n) (x : Int32) (hv : f j.toNatClampNeg = .int x) (hp : pc + 1 = pc') (k : OG p e below s Q kc ks T (mkF m pc' Ls (.int x :: rest))) : OG p e below s Q kc ks T (mkF m pc Ls (.int j :: .ref a :: rest)) := by
  subst hp
  obtain ⟨cl, A, r, H⟩ := F
  exact OG.step (fun t q => X.iaload hx (j := j) (v := .int x) (by rw [eT]; exact A.1) (State.isArrayOf_alike hZ.alike A.2.1) A.2.2 (o_inb r hj hlt) (by rw [H _ hlt, hv]) (g := mkF m pc Ls (.int j :: .ref a :: rest)) rfl rfl hd t q) k
theorem o_laload (X : Stand p l e R s m args below meth c T locs cells slots) (hx : p.tables.exec = Jvm.exec) (hZ : Z.Warmed39 s.vm) {pc pc' : Nat} {Ls : Array Slot} {rest : List Value} {j : Int32} (eT : T.heap = h) (F : OAr Z h a .long n f) (hd : decode c.code pc = .ok (.laload, 1)) (hj : ¬ j < 0) (hlt : j.toNatClampNeg < n) (x : Int64) (hv : f j.toNatClampNeg = .long x) (hp : pc + 1 = pc') (k : OG p e below s Q kc ks T (mkF m pc' Ls (.long x :: rest))) : OG p e below s Q kc ks T (mkF m pc Ls (.int j :: .ref a :: rest)) := by
  subst hp
  obtain ⟨cl, A, r, H⟩ := F
  exact OG.step (fun t q => X.laload hx (j := j) (v := .long x) (by rw [eT]; exact A.1) (State.isArrayOf_alike hZ.alike A.2.1) A.2.2 (o_inb r hj hlt) (by rw [H _ hlt, hv]) (g := mkF m pc Ls (.int j :: .ref a :: rest)) rfl rfl hd t q) k
theorem o_caload (X : Stand p l e R s m args below meth c T locs cells slots) (hx : p.tables.exec = Jvm.exec) (hZ : Z.Warmed39 s.vm) {pc pc' : Nat} {Ls : Array Slot} {rest : List Value} {j : Int32} (eT : T.heap = h) (F : OAr Z h a .char n f) (hd : decode c.code pc = .ok (.caload, 1)) (hj : ¬ j < 0) (hlt : j.toNatClampNeg < n) (x : Int32) (hv : f j.toNatClampNeg = .int x) (hp : pc + 1 = pc') (k : OG p e below s Q kc ks T (mkF m pc' Ls (.int x :: rest))) : OG p e below s Q kc ks T (mkF m pc Ls (.int j :: .ref a :: rest)) := by
  subst hp
  obtain ⟨cl, A, r, H⟩ := F
  exact OG.step (fun t q => X.caload hx (j := j) (v := .int x) (by rw [eT]; exact A.1) (State.isArrayOf_alike hZ.alike A.2.1) A.2.2 (o_inb r hj hlt) (by rw [H _ hlt, hv]) (g := mkF m pc Ls (.int j :: .ref a :: rest)) rfl rfl hd t q) k
theorem o_baload (X : Stand p l e R s m args below meth c T locs cells slots) (hx : p.tables.exec = Jvm.exec) (hZ : Z.Warmed39 s.vm) {pc pc' : Nat} {Ls : Array Slot} {rest : List Value} {j : Int32} (eT : T.heap = h) (F : OAr Z h a .byte n f) (hd : decode c.code pc = .ok (.baload, 1)) (hj : ¬ j < 0) (hlt : j.toNatClampNeg < n) (x : Int32) (hv : f j.toNatClampNeg = .int x) (hp : pc + 1 = pc') (k : OG p e below s Q kc ks T (mkF m pc' Ls (.int x :: rest))) : OG p e below s Q kc ks T (mkF m pc Ls (.int j :: .ref a :: rest)) := by
  subst hp
  obtain ⟨cl, A, r, H⟩ := F
  exact OG.step (fun t q => X.baloadBytes hx (j := j) (v := .int x) (by rw [eT]; exact A.1) (State.isArrayOf_alike hZ.alike A.2.1) A.2.2 (o_inb r hj hlt) (by rw [H _ hlt, hv]) (g := mkF m pc Ls (.int j :: .ref a :: rest)) rfl rfl hd t q) k
theorem o_iastore (X : Stand p l e R s m args below meth c T locs cells slots) (hx : p.tables.exec = Jvm.exec) (hZ : Z.Warmed39 s.vm) {pc pc' : Nat} {Ls : Array Slot} {rest : List Value} {j : Int32} {x : Int32} (eT : T.heap = h) (F : OAr Z h a .int n f) (hd : decode c.code pc = .ok (.iastore, 1)) (hj : ¬ j < 0) (hlt : j.toNatClampNeg < n) (hp : pc + 1 = pc')
    (k : ∀ T' h', Stand p l e R s m args below meth c T' (locs ++ [⟨a, j.toNatClampNeg⟩]) cells slots → T'.heap = h' → Wr h h' a j.toNatClampNeg (.int x) → OG p e below s Q kc ks T' (mkF m pc' Ls rest)) : OG p e below s Q kc ks T (mkF m pc Ls (.int x :: .int j :: .ref a :: rest)) := by
  subst hp
  obtain ⟨cl, A, r, H⟩ := F
  obtain ⟨T1, h1, X1, e1, W1, st1⟩ := stI X hx hZ eT A (o_inb r hj hlt) (g := mkF m pc Ls (.int x :: .int j :: .ref a :: rest)) rfl rfl hd
  exact OG.step st1 (k T1 h1 X1 e1 W1)
theorem o_lastore (X : Stand p l e R s m args below meth c T locs cells slots) (hx : p.tables.exec = Jvm.exec) (hZ : Z.Warmed39 s.vm) {pc pc' : Nat} {Ls : Array Slot} {rest : List Value} {j : Int32} {x : Int64} (eT : T.heap = h) (F : OAr Z h a .long n f) (hd : decode c.code pc = .ok (.lastore, 1)) (hj : ¬ j < 0) (hlt : j.toNatClampNeg < n) (hp : pc + 1 = pc')
    (k : ∀ T' h', Stand p l e R s m args below meth c T' (locs ++ [⟨a, j.toNatClampNeg⟩]) cells slots → T'.heap = h' → Wr h h' a j.toNatClampNeg (.long x) → OG p e below s Q kc ks T' (mkF m pc' Ls rest)) : OG p e below s Q kc ks T (mkF m pc Ls (.long x :: .int j :: .ref a :: rest)) := by
  subst hp
  obtain ⟨cl, A, r, H⟩ := F
  obtain ⟨T1, h1, X1, e1, W1, st1⟩ := stJ X hx hZ eT A (o_inb r hj hlt) (g := mkF m pc Ls (.long x :: .int j :: .ref a :: rest)) rfl rfl hd
  exact OG.step st1 (k T1 h1 X1 e1 W1)
theorem o_castore (X : Stand p l e R s m args below meth c T locs cells slots) (hx : p.tables.exec = Jvm.exec) (hZ : Z.Warmed39 s.vm) {pc pc' : Nat} {Ls : Array Slot} {rest : List Value} {j : Int32} {x : Int32} (eT : T.heap = h) (F : OAr Z h a .char n f) (hd : decode c.code pc = .ok (.castore, 1)) (hj : ¬ j < 0) (hlt : j.toNatClampNeg < n) (hp : pc + 1 = pc')
    (k : ∀ T' h', Stand p l e R s m args below meth c T' (locs ++ [⟨a, j.toNatClampNeg⟩]) cells slots → T'.heap = h' → Wr h h' a j.toNatClampNeg (.int (nar .char x)) → OG p e below s Q kc ks T' (mkF m pc' Ls rest)) : OG p e below s Q kc ks T (mkF m pc Ls (.int x :: .int j :: .ref a :: rest)) := by
  subst hp
  obtain ⟨cl, A, r, H⟩ := F
  obtain ⟨T1, h1, X1, e1, W1, st1⟩ := stC X hx hZ eT A (o_inb r hj hlt) (g := mkF m pc Ls (.int x :: .int j :: .ref a :: rest)) rfl rfl hd
  exact OG.step st1 (k T1 h1 X1 e1 W1)
theorem o_bastore (X : Stand p l e R s m args below meth c T locs cells slots) (hx : p.tables.exec = Jvm.exec) (hZ : Z.Warmed39 s.vm) {pc pc' : Nat} {Ls : Array Slot} {rest : List Value} {j : Int32} {x : Int32} (eT : T.heap = h) (F : OAr Z h a .byte n f) (hd : decode c.code pc = .ok (.bastore, 1)) (hj : ¬ j < 0) (hlt : j.toNatClampNeg < n) (hp : pc + 1 = pc')
    (k : ∀ T' h', Stand p l e R s m args below meth c T' (locs ++ [⟨a, j.toNatClampNeg⟩]) cells slots → T'.heap = h' → Wr h h' a j.toNatClampNeg (.int (nar .byte x)) → OG p e below s Q kc ks T' (mkF m pc' Ls rest)) : OG p e below s Q kc ks T (mkF m pc Ls (.int x :: .int j :: .ref a :: rest)) := by
  subst hp
  obtain ⟨cl, A, r, H⟩ := F
  obtain ⟨T1, h1, X1, e1, W1, st1⟩ := stB X hx hZ eT A (o_inb r hj hlt) (g := mkF m pc Ls (.int x :: .int j :: .ref a :: rest)) rfl rfl hd
  exact OG.step st1 (k T1 h1 X1 e1 W1)
theorem o_private (X : Stand p l e R s m args below meth c T locs cells slots) (hx : p.tables.exec = Jvm.exec) (hZ : Z.Warmed39 s.vm) {own : String} {index kk : Nat} {y : MethodName} {bytes : ByteArray} {maxL : Nat} {ret : Option FieldType} {rm : Room} {Qc : Option Value → Heap → List Loc → Prop} {argsL rest st : List Value} {pc pc' : Nat} {Ls : Array Slot} (W : Nat)
    (hown : s.vm.findClass own = some m.cls) (eT : T.heap = h) (hlink : (Cond.methodLink own index y).before a0 Z = true) (hinst : (Cond.instanceMethod y).before a0 Z = true) (hpriv : (Cond.privateMethod y).before a0 Z = true) (wi : (Cond.instantiable y.cls kk).before a0 Z = true) (hinit : (Cond.initialized y.cls).before a0 Z = true) (hcode : (Cond.code y bytes maxL ret).before a0 Z = true) (hy : y.cls ≠ "java/lang/invoke/MethodHandle" ∧ y.cls ≠ "java/lang/invoke/VarHandle")
    (E : Exa Z h a y.cls)
    (hM : MetFree l y (head1 [Cond.code y bytes maxL ret] rm) (fun b U => b = (.ref a :: argsL).toArray ∧ Z.Warmed39 U.vm ∧ U.heap = h) (fun _ _ _ _ _ => True) (fun _ U o U' => ∃ v L, o = .returned v ∧ Qc v U'.heap L ∧ FrameEnd U o U' L rm.cells rm.slots)) (hf : rm.frames + 1 ≤ R.frames) (hl : W + (maxL + 11) + rm.locals ≤ R.locals)
    (hsize : Ls.size = c.maxLocals) (hlen : ∀ sig, parseMethodDescriptor y.desc = some sig → argsL.length = sig.parameters.length) (hs : st = argsL.reverse ++ .ref a :: rest) (hW : (rest.map fun v => v.category).sum ≤ W) (hd : decode c.code pc = .ok (.invokevirtual index, 3)) (hp : pc + 3 = pc') (hc : cells + rm.cells ≤ R.cells) (hsl : slots + rm.slots ≤ R.slots)
    (k : ∀ v T' L, Stand p l e R s m args below meth c T' (locs ++ L) (cells + rm.cells) (slots + rm.slots) → Qc v T'.heap L → OG p e below s Q kc ks T' (mkF m pc' Ls (v.toList ++ rest))) : OG p e below s Q kc ks T (mkF m pc Ls st) := by
  subst hp hs
  obtain ⟨cq, q1, q2⟩ := E.cell
  have hpa := Cond.privateMethod_at (mvP hZ hpriv (args := args))
  obtain ⟨cI, kI, i1, i2, -, i4, -⟩ := Cond.instantiable_spec (mvT hZ wi : (Cond.instantiable y.cls kk).before args s = true)
  have hni : kI.isInterface = false := (Bool.or_eq_false_iff.mp i4).1
  have hsel := selects_self_of_private (args := args) i1 i2 hni hpa (mvT hZ hinst) hy
  obtain ⟨v, vm₁, ⟨T1, L1, c1, n1⟩, -, X1, ⟨Lc, hQ, l1, y1, z1⟩, st⟩ := X.privateBack hx (y := y) hown (mvT hZ hlink) (mvT hZ hinst) hsel hpa (mvT hZ hcode) hy (backOf (W := W) hM hZ hcode hinit hf hl) (g := mkF m pc Ls (argsL.reverse ++ .ref a :: rest)) rfl hsize (Steps.refl _) (a := a) (by rw [eT]; exact q1) q2 (argsL := argsL) (rest := rest) hlen rfl (by show 2 * 0 + _ ≤ _; omega) hd (fun _ _ => ⟨rfl, eT, hc, hsl⟩)
  dsimp only [Pt.U, Pt.locs, Pt.cells, Pt.slots] at X1 l1 y1 z1 st hQ
  subst l1 y1 z1
  exact OG.step (fun t q => st.trans q) (k v T1 Lc X1 hQ)
end OwnA
section OwnB
def ci (c : Nat → Int32) : Nat → Value := fun i => .int (c i)
def cj (c : Nat → Int64) : Nat → Value := fun i => .long (c i)
def li (vs : List Int32) (i : Nat) : Int32 := vs.getD i 0
def upd (c : Nat → Int32) (j : Nat) (x : Int32) : Nat → Int32 := fun i => if i = j then x else c i
def updJ (c : Nat → Int64) (j : Nat) (x : Int64) : Nat → Int64 := fun i => if i = j then x else c i
variable {Z : State} {h h' : Heap} {a : Addr} {ty : FieldType} {n : Nat}
theorem OAr.setI {vs : List Int32} {j : Nat} {x : Int32} (W : Wr h h' a j (.int x)) (F : OAr Z h a ty n (ci (li vs))) (hj : j < vs.length) : OAr Z h' a ty n (ci (li (vs.set j x))) :=
  (OAr.same W F).cg fun i hi => by
    unfold ci li
    by_cases q : i = j
    · subst q; simp [hj]
    · simp only [List.getD_eq_getElem?_getD, List.getElem?_set, if_neg q, if_neg (fun z : j = i => q z.symm)]
theorem OAr.updI {c : Nat → Int32} {j : Nat} {x : Int32} (W : Wr h h' a j (.int x)) (F : OAr Z h a ty n (ci c)) : OAr Z h' a ty n (ci (upd c j x)) :=
  (OAr.same W F).cg fun i hi => by unfold ci upd; split <;> rfl
theorem OAr.updJ {c : Nat → Int64} {j : Nat} {x : Int64} (W : Wr h h' a j (.long x)) (F : OAr Z h a ty n (cj c)) : OAr Z h' a ty n (cj (updJ c j x)) :=
  (OAr.same W F).cg fun i hi => by unfold cj Jvm.Pilot.@@N@@.updJ; split <;> rfl
theorem OAr.zeros {k : Nat} (F : OAr Z h a ty n (fun _ => .int 0)) : OAr Z h a ty n (ci (li (List.replicate k 0))) :=
  F.cg fun i hi => by unfold ci li; by_cases q : i < k <;> simp [q]
theorem own_back {z : Int32} (q : ¬ z < 0) : z.toNatClampNeg.toInt32 = z := (back32 q).1
end OwnB
section OwnW
variable {p : Program} {l : Launch} {e : Env} {R : Room} {s sv : State} {m : MethodId} {args : Array Value} {below : List Frame} {meth : Method} {c : Code} {T : State} {locs : List Loc} {cells slots : Nat} {Q : Option Value → Heap → List Loc → Prop} {kc ks : Nat}
/-- as OG; string constants may have been interned meanwhile -/
def OGW (p : Program) (e : Env) (below : List Frame) (s : State) (Q : Option Value → Heap → List Loc → Prop) (kc ks : Nat) (T : State) (g : JFrame) : Prop :=
  ∃ s₂ o, Steps p.tables e below (T.setTop g) s₂ ∧ s₂.status = .running ∧ Ended s₂ below o ∧ ∃ v L, o = .returned v ∧ Q v s₂.heap L ∧ ReturnedEndW s o s₂ L kc ks
theorem OGW.step {T' : State} {g g' : JFrame} (st : ∀ t, Steps p.tables e below (T'.setTop g') t → Steps p.tables e below (T.setTop g) t) (h : OGW p e below s Q kc ks T' g') : OGW p e below s Q kc ks T g := by
  obtain ⟨s₂, o, h1, h2⟩ := h
  exact ⟨s₂, o, st _ h1, h2⟩
theorem OGW.cast {g g' : JFrame} (q : g = g') (h : OGW p e below s Q kc ks T g') : OGW p e below s Q kc ks T g := q ▸ h
theorem OGW.mono {Q' : Option Value → Heap → List Loc → Prop} {g : JFrame} (hq : ∀ v h L, Q v h L → Q' v h L) (h : OGW p e below s Q kc ks T g) : OGW p e below s Q' kc ks T g := by
  obtain ⟨s₂, o, h1, h2, h3, v, L, h4, h5, h6⟩ := h
  exact ⟨s₂, o, h1, h2, h3, v, L, h4, hq _ _ _ h5, h6⟩
theorem w_iadd (X : Stand p l e R sv m args below meth c T locs cells slots) (hx : p.tables.exec = Jvm.exec) {pc pc' : Nat} {Ls : Array Slot} {x y : Int32} {rest : List Value} (hd : decode c.code pc = .ok (.iadd, 1)) (hp : pc + 1 = pc') (h : OGW p e below s Q kc ks T (mkF m pc' Ls (.int (x + y) :: rest))) : OGW p e below s Q kc ks T (mkF m pc Ls (.int y :: .int x :: rest)) := by
  subst hp; exact OGW.step (fun t q => XS.iadd X.here hx rfl hd rfl q) h
theorem w_isub (X : Stand p l e R sv m args below meth c T locs cells slots) (hx : p.tables.exec = Jvm.exec) {pc pc' : Nat} {Ls : Array Slot} {x y : Int32} {rest : List Value} (hd : decode c.code pc = .ok (.isub, 1)) (hp : pc + 1 = pc') (h : OGW p e below s Q kc ks T (mkF m pc' Ls (.int (x - y) :: rest))) : OGW p e below s Q kc ks T (mkF m pc Ls (.int y :: .int x :: rest)) := by
  subst hp; exact OGW.step (fun t q => XS.isub X.here hx rfl hd rfl q) h
theorem w_imul (X : Stand p l e R sv m args below meth c T locs cells slots) (hx : p.tables.exec = Jvm.exec) {pc pc' : Nat} {Ls : Array Slot} {x y : Int32} {rest : List Value} (hd : decode c.code pc = .ok (.imul, 1)) (hp : pc + 1 = pc') (h : OGW p e below s Q kc ks T (mkF m pc' Ls (.int (x * y) :: rest))) : OGW p e below s Q kc ks T (mkF m pc Ls (.int y :: .int x :: rest)) := by
  subst hp; exact OGW.step (fun t q => XS.imul X.here hx rfl hd rfl q) h
theorem w_iand (X : Stand p l e R sv m args below meth c T locs cells slots) (hx : p.tables.exec = Jvm.exec) {pc pc' : Nat} {Ls : Array Slot} {x y : Int32} {rest : List Value} (hd : decode c.code pc = .ok (.iand, 1)) (hp : pc + 1 = pc') (h : OGW p e below s Q kc ks T (mkF m pc' Ls (.int (x &&& y) :: rest))) : OGW p e below s Q kc ks T (mkF m pc Ls (.int y :: .int x :: rest)) := by
  subst hp; exact OGW.step (fun t q => XS.iand X.here hx rfl hd rfl q) h
theorem w_ior (X : Stand p l e R sv m args below meth c T locs cells slots) (hx : p.tables.exec = Jvm.exec) {pc pc' : Nat} {Ls : Array Slot} {x y : Int32} {rest : List Value} (hd : decode c.code pc = .ok (.ior, 1)) (hp : pc + 1 = pc') (h : OGW p e below s Q kc ks T (mkF m pc' Ls (.int (x ||| y) :: rest))) : OGW p e below s Q kc ks T (mkF m pc Ls (.int y :: .int x :: rest)) := by
  subst hp; exact OGW.step (fun t q => XS.ior X.here hx rfl hd rfl q) h
theorem w_ixor (X : Stand p l e R sv m args below meth c T locs cells slots) (hx : p.tables.exec = Jvm.exec) {pc pc' : Nat} {Ls : Array Slot} {x y : Int32} {rest : List Value} (hd : decode c.code pc = .ok (.ixor, 1)) (hp : pc + 1 = pc') (h : OGW p e below s Q kc ks T (mkF m pc' Ls (.int (x ^^^ y) :: rest))) : OGW p e below s Q kc ks T (mkF m pc Ls (.int y :: .int x :: rest)) := by
  subst hp; exact OGW.step (fun t q => XS.ixor X.here hx rfl hd rfl q) h
theorem w_ladd (X : Stand p l e R sv m args below meth c T locs cells slots) (hx : p.tables.exec = Jvm.exec) {pc pc' : Nat} {Ls : Array Slot} {x y : Int64} {rest : List Value} (hd : decode c.code pc = .ok (.ladd, 1)) (hp : pc + 1 = pc') (h : OGW p e below s Q kc ks T (mkF m pc' Ls (.long (x + y) :: rest))) : OGW p e below s Q kc ks T (mkF m pc Ls (.long y :: .long x :: rest)) := by
  subst hp; exact OGW.step (fun t q => XS.ladd X.here hx rfl hd rfl q) h
theorem w_lsub (X : Stand p l e R sv m args below meth c T locs cells slots) (hx : p.tables.exec = Jvm.exec) {pc pc' : Nat} {Ls : Array Slot} {x y : Int64} {rest : List Value} (hd : decode c.code pc = .ok (.lsub, 1)) (hp : pc + 1 = pc') (h : OGW p e below s Q kc ks T (mkF m pc' Ls (.long (x - y) :: rest))) : OGW p e below s Q kc ks T (mkF m pc Ls (.long y :: .long x :: rest)) := by
  subst hp; exact OGW.step (fun t q => XS.lsub X.here hx rfl hd rfl q) h
theorem w_lmul (X : Stand p l e R sv m args below meth c T locs cells slots) (hx : p.tables.exec = Jvm.exec) {pc pc' : Nat} {Ls : Array Slot} {x y : Int64} {rest : List Value} (hd : decode c.code pc = .ok (.lmul, 1)) (hp : pc + 1 = pc') (h : OGW p e below s Q kc ks T (mkF m pc' Ls (.long (x * y) :: rest))) : OGW p e below s Q kc ks T (mkF m pc Ls (.long y :: .long x :: rest)) := by
  subst hp; exact OGW.step (fun t q => XS.lmul X.here hx rfl hd rfl q) h
theorem w_land (X : Stand p l e R sv m args below meth c T locs cells slots) (hx : p.tables.exec = Jvm.exec) {pc pc' : Nat} {Ls : Array Slot} {x y : Int64} {rest : List Value} (hd : decode c.code pc = .ok (.land, 1)) (hp : pc + 1 = pc') (h : OGW p e below s Q kc ks T (mkF m pc' Ls (.long (x &&& y) :: rest))) : OGW p e below s Q kc ks T (mkF m pc Ls (.long y :: .long x :: rest)) := by
  subst hp; exact OGW.step (fun t q => XS.land X.here hx rfl hd rfl q) h
theorem w_lor (X : Stand p l e R sv m args below meth c T locs cells slots) (hx : p.tables.exec = Jvm.exec) {pc pc' : Nat} {Ls : Array Slot} {x y : Int64} {rest : List Value} (hd : decode c.code pc = .ok (.lor, 1)) (hp : pc + 1 = pc') (h : OGW p e below s Q kc ks T (mkF m pc' Ls (.long (x ||| y) :: rest))) : OGW p e below s Q kc ks T (mkF m pc Ls (.long y :: .long x :: rest)) := by
  subst hp; exact OGW.step (fun t q => XS.lor X.here hx rfl hd rfl q) h
theorem w_lxor (X : Stand p l e R sv m args below meth c T locs cells slots) (hx : p.tables.exec = Jvm.exec) {pc pc' : Nat} {Ls : Array Slot} {x y : Int64} {rest : List Value} (hd : decode c.code pc = .ok (.lxor, 1)) (hp : pc + 1 = pc') (h : OGW p e below s Q kc ks T (mkF m pc' Ls (.long (x ^^^ y) :: rest))) : OGW p e below s Q kc ks T (mkF m pc Ls (.long y :: .long x :: rest)) := by
  subst hp; exact OGW.step (fun t q => XS.lxor X.here hx rfl hd rfl q) h
theorem w_ishl (X : Stand p l e R sv m args below meth c T locs cells slots) (hx : p.tables.exec = Jvm.exec) {pc pc' : Nat} {Ls : Array Slot} {x y : Int32} {rest : List Value} (hd : decode c.code pc = .ok (.ishl, 1)) (hp : pc + 1 = pc') (h : OGW p e below s Q kc ks T (mkF m pc' Ls (.int (x <<< (y &&& 31)) :: rest))) : OGW p e below s Q kc ks T (mkF m pc Ls (.int y :: .int x :: rest)) := by
  subst hp; exact OGW.step (fun t q => XS.ishl X.here hx rfl hd rfl q) h
theorem w_ishr (X : Stand p l e R sv m args below meth c T locs cells slots) (hx : p.tables.exec = Jvm.exec) {pc pc' : Nat} {Ls : Array Slot} {x y : Int32} {rest : List Value} (hd : decode c.code pc = .ok (.ishr, 1)) (hp : pc + 1 = pc') (h : OGW p e below s Q kc ks T (mkF m pc' Ls (.int (x >>> (y &&& 31)) :: rest))) : OGW p e below s Q kc ks T (mkF m pc Ls (.int y :: .int x :: rest)) := by
  subst hp; exact OGW.step (fun t q => XS.ishr X.here hx rfl hd rfl q) h
theorem w_iushr (X : Stand p l e R sv m args below meth c T locs cells slots) (hx : p.tables.exec = Jvm.exec) {pc pc' : Nat} {Ls : Array Slot} {x y : Int32} {rest : List Value} (hd : decode c.code pc = .ok (.iushr, 1)) (hp : pc + 1 = pc') (h : OGW p e below s Q kc ks T (mkF m pc' Ls (.int ((x.toUInt32 >>> (y &&& 31).toUInt32).toInt32) :: rest))) : OGW p e below s Q kc ks T (mkF m pc Ls (.int y :: .int x :: rest)) := by
  subst hp; exact OGW.step (fun t q => XS.iushr X.here hx rfl hd rfl q) h
theorem w_lshl (X : Stand p l e R sv m args below meth c T locs cells slots) (hx : p.tables.exec = Jvm.exec) {pc pc' : Nat} {Ls : Array Slot} {x : Int64} {y : Int32} {rest : List Value} (hd : decode c.code pc = .ok (.lshl, 1)) (hp : pc + 1 = pc') (h : OGW p e below s Q kc ks T (mkF m pc' Ls (.long (x <<< (y &&& 0x3f).toInt64) :: rest))) : OGW p e below s Q kc ks T (mkF m pc Ls (.int y :: .long x :: rest)) := by
  subst hp; exact OGW.step (fun t q => XS.lshl X.here hx rfl hd rfl q) h
theorem w_lshr (X : Stand p l e R sv m args below meth c T locs cells slots) (hx : p.tables.exec = Jvm.exec) {pc pc' : Nat} {Ls : Array Slot} {x : Int64} {y : Int32} {rest : List Value} (hd : decode c.code pc = .ok (.lshr, 1)) (hp : pc + 1 = pc') (h : OGW p e below s Q kc ks T (mkF m pc' Ls (.long (x >>> (y &&& 0x3f).toInt64) :: rest))) : OGW p e below s Q kc ks T (mkF m pc Ls (.int y :: .long x :: rest)) := by
  subst hp; exact OGW.step (fun t q => XS.lshr X.here hx rfl hd rfl q) h
theorem w_lushr (X : Stand p l e R sv m args below meth c T locs cells slots) (hx : p.tables.exec = Jvm.exec) {pc pc' : Nat} {Ls : Array Slot} {x : Int64} {y : Int32} {rest : List Value} (hd : decode c.code pc = .ok (.lushr, 1)) (hp : pc + 1 = pc') (h : OGW p e below s Q kc ks T (mkF m pc' Ls (.long ((x.toUInt64 >>> (y &&& 0x3f).toInt64.toUInt64).toInt64) :: rest))) : OGW p e below s Q kc ks T (mkF m pc Ls (.int y :: .long x :: rest)) := by
  subst hp; exact OGW.step (fun t q => XS.lushr X.here hx rfl hd rfl q) h
theorem w_idiv (X : Stand p l e R sv m args below meth c T locs cells slots) (hx : p.tables.exec = Jvm.exec) {pc pc' : Nat} {Ls : Array Slot} {x y : Int32} {rest : List Value} (hd : decode c.code pc = .ok (.idiv, 1)) (hy : y ≠ 0) (hp : pc + 1 = pc') (h : OGW p e below s Q kc ks T (mkF m pc' Ls (.int (x / y) :: rest))) : OGW p e below s Q kc ks T (mkF m pc Ls (.int y :: .int x :: rest)) := by
  subst hp; exact OGW.step (fun t q => XS.idiv X.here hx rfl hd rfl hy q) h
theorem w_ldiv (X : Stand p l e R sv m args below meth c T locs cells slots) (hx : p.tables.exec = Jvm.exec) {pc pc' : Nat} {Ls : Array Slot} {x y : Int64} {rest : List Value} (hd : decode c.code pc = .ok (.ldiv, 1)) (hy : y ≠ 0) (hp : pc + 1 = pc') (h : OGW p e below s Q kc ks T (mkF m pc' Ls (.long (x / y) :: rest))) : OGW p e below s Q kc ks T (mkF m pc Ls (.long y :: .long x :: rest)) := by
  subst hp; exact OGW.step (fun t q => XS.ldiv X.here hx rfl hd rfl hy q) h
theorem w_irem (X : Stand p l e R sv m args below meth c T locs cells slots) (hx : p.tables.exec = Jvm.exec) {pc pc' : Nat} {Ls : Array Slot} {x y : Int32} {rest : List Value} (hd : decode c.code pc = .ok (.irem, 1)) (hy : y ≠ 0) (hp : pc + 1 = pc') (h : OGW p e below s Q kc ks T (mkF m pc' Ls (.int (x % y) :: rest))) : OGW p e below s Q kc ks T (mkF m pc Ls (.int y :: .int x :: rest)) := by
  subst hp; exact OGW.step (fun t q => iremM X hx rfl hd rfl hy q) h
theorem w_lrem (X : Stand p l e R sv m args below meth c T locs cells slots) (hx : p.tables.exec = Jvm.exec) {pc pc' : Nat} {Ls : Array Slot} {x y : Int64} {rest : List Value} (hd : decode c.code pc = .ok (.lrem, 1)) (hy : y ≠ 0) (hp : pc + 1 = pc') (h : OGW p e below s Q kc ks T (mkF m pc' Ls (.long (x % y) :: rest))) : OGW p e below s Q kc ks T (mkF m pc Ls (.long y :: .long x :: rest)) := by
  subst hp; rw [← lrem_mod] at h; exact OGW.step (fun t q => XS.lrem X.here hx rfl hd rfl hy q) h
theorem w_ineg (X : Stand p l e R sv m args below meth c T locs cells slots) (hx : p.tables.exec = Jvm.exec) {pc pc' : Nat} {Ls : Array Slot} {x : Int32} {rest : List Value} (hd : decode c.code pc = .ok (.ineg, 1)) (hp : pc + 1 = pc') (h : OGW p e below s Q kc ks T (mkF m pc' Ls (.int ((-x)) :: rest))) : OGW p e below s Q kc ks T (mkF m pc Ls (.int x :: rest)) := by
  subst hp; exact OGW.step (fun t q => XS.ineg X.here hx rfl hd rfl q) h
theorem w_lneg (X : Stand p l e R sv m args below meth c T locs cells slots) (hx : p.tables.exec = Jvm.exec) {pc pc' : Nat} {Ls : Array Slot} {x : Int64} {rest : List Value} (hd : decode c.code pc = .ok (.lneg, 1)) (hp : pc + 1 = pc') (h : OGW p e below s Q kc ks T (mkF m pc' Ls (.long ((-x)) :: rest))) : OGW p e below s Q kc ks T (mkF m pc Ls (.long x :: rest)) := by
  subst hp; exact OGW.step (fun t q => XS.lneg X.here hx rfl hd rfl q) h
theorem w_i2l (X : Stand p l e R sv m args below meth c T locs cells slots) (hx : p.tables.exec = Jvm.exec) {pc pc' : Nat} {Ls : Array Slot} {x : Int32} {rest : List Value} (hd : decode c.code pc = .ok (.i2l, 1)) (hp : pc + 1 = pc') (h : OGW p e below s Q kc ks T (mkF m pc' Ls (.long (x.toInt64) :: rest))) : OGW p e below s Q kc ks T (mkF m pc Ls (.int x :: rest)) := by
  subst hp; exact OGW.step (fun t q => XS.i2l X.here hx rfl hd rfl q) h
theorem w_l2i (X : Stand p l e R sv m args below meth c T locs cells slots) (hx : p.tables.exec = Jvm.exec) {pc pc' : Nat} {Ls : Array Slot} {x : Int64} {rest : List Value} (hd : decode c.code pc = .ok (.l2i, 1)) (hp : pc + 1 = pc') (h : OGW p e below s Q kc ks T (mkF m pc' Ls (.int (x.toInt32) :: rest))) : OGW p e below s Q kc ks T (mkF m pc Ls (.long x :: rest)) := by
  subst hp; exact OGW.step (fun t q => XS.l2i X.here hx rfl hd rfl q) h
theorem w_i2b (X : Stand p l e R sv m args below meth c T locs cells slots) (hx : p.tables.exec = Jvm.exec) {pc pc' : Nat} {Ls : Array Slot} {x : Int32} {rest : List Value} (hd : decode c.code pc = .ok (.i2b, 1)) (hp : pc + 1 = pc') (h : OGW p e below s Q kc ks T (mkF m pc' Ls (.int (x.toInt8.toInt32) :: rest))) : OGW p e below s Q kc ks T (mkF m pc Ls (.int x :: rest)) := by
  subst hp; exact OGW.step (fun t q => XS.i2b X.here hx rfl hd rfl q) h
theorem w_i2c (X : Stand p l e R sv m args below meth c T locs cells slots) (hx : p.tables.exec = Jvm.exec) {pc pc' : Nat} {Ls : Array Slot} {x : Int32} {rest : List Value} (hd : decode c.code pc = .ok (.i2c, 1)) (hp : pc + 1 = pc') (h : OGW p e below s Q kc ks T (mkF m pc' Ls (.int (x.toUInt32.toUInt16.toUInt32.toInt32) :: rest))) : OGW p e below s Q kc ks T (mkF m pc Ls (.int x :: rest)) := by
  subst hp; exact OGW.step (fun t q => XS.i2c X.here hx rfl hd rfl q) h
theorem w_i2s (X : Stand p l e R sv m args below meth c T locs cells slots) (hx : p.tables.exec = Jvm.exec) {pc pc' : Nat} {Ls : Array Slot} {x : Int32} {rest : List Value} (hd : decode c.code pc = .ok (.i2s, 1)) (hp : pc + 1 = pc') (h : OGW p e below s Q kc ks T (mkF m pc' Ls (.int (x.toInt16.toInt32) :: rest))) : OGW p e below s Q kc ks T (mkF m pc Ls (.int x :: rest)) := by
  subst hp; exact OGW.step (fun t q => XS.i2s X.here hx rfl hd rfl q) h
theorem w_lcmp (X : Stand p l e R sv m args below meth c T locs cells slots) (hx : p.tables.exec = Jvm.exec) {pc pc' : Nat} {Ls : Array Slot} {x y : Int64} {rest : List Value} (hd : decode c.code pc = .ok (.lcmp, 1)) (hp : pc + 1 = pc') (h : OGW p e below s Q kc ks T (mkF m pc' Ls (.int (lcmpW x y) :: rest))) : OGW p e below s Q kc ks T (mkF m pc Ls (.long y :: .long x :: rest)) := by
  subst hp; exact OGW.step (fun t q => XS.lcmp X.here hx rfl hd rfl q) h
theorem w_iconst (X : Stand p l e R sv m args below meth c T locs cells slots) (hx : p.tables.exec = Jvm.exec) {pc pc' : Nat} {Ls : Array Slot} {i : Int} {rest : List Value} (hd : decode c.code pc = .ok (.iconst i, 1)) (w : Int32) (hv : Int32.ofInt i = w) (hp : pc + 1 = pc') (h : OGW p e below s Q kc ks T (mkF m pc' Ls (.int w :: rest))) : OGW p e below s Q kc ks T (mkF m pc Ls (rest)) := by
  subst hp hv; exact OGW.step (fun t q => XS.iconst X.here hx rfl hd q) h
theorem w_bipush (X : Stand p l e R sv m args below meth c T locs cells slots) (hx : p.tables.exec = Jvm.exec) {pc pc' : Nat} {Ls : Array Slot} {i : Int} {rest : List Value} (hd : decode c.code pc = .ok (.bipush i, 2)) (w : Int32) (hv : (Int8.ofInt i).toInt32 = w) (hp : pc + 2 = pc') (h : OGW p e below s Q kc ks T (mkF m pc' Ls (.int w :: rest))) : OGW p e below s Q kc ks T (mkF m pc Ls (rest)) := by
  subst hp hv; exact OGW.step (fun t q => XS.bipush X.here hx rfl hd q) h
theorem w_sipush (X : Stand p l e R sv m args below meth c T locs cells slots) (hx : p.tables.exec = Jvm.exec) {pc pc' : Nat} {Ls : Array Slot} {i : Int} {rest : List Value} (hd : decode c.code pc = .ok (.sipush i, 3)) (w : Int32) (hv : (Int16.ofInt i).toInt32 = w) (hp : pc + 3 = pc') (h : OGW p e below s Q kc ks T (mkF m pc' Ls (.int w :: rest))) : OGW p e below s Q kc ks T (mkF m pc Ls (rest)) := by
  subst hp hv; exact OGW.step (fun t q => XS.sipush X.here hx rfl hd q) h
theorem w_lconst (X : Stand p l e R sv m args below meth c T locs cells slots) (hx : p.tables.exec = Jvm.exec) {pc pc' : Nat} {Ls : Array Slot} {i : Fin 2} {rest : List Value} (hd : decode c.code pc = .ok (.lconst i, 1)) (w : Int64) (hv : Int64.ofNat i = w) (hp : pc + 1 = pc') (h : OGW p e below s Q kc ks T (mkF m pc' Ls (.long w :: rest))) : OGW p e below s Q kc ks T (mkF m pc Ls (rest)) := by
  subst hp hv; exact OGW.step (fun t q => XS.lconst X.here hx rfl hd q) h
theorem w_aconst_null (X : Stand p l e R sv m args below meth c T locs cells slots) (hx : p.tables.exec = Jvm.exec) {pc pc' : Nat} {Ls : Array Slot} {rest : List Value} (hd : decode c.code pc = .ok (.aconst_null, 1)) (hp : pc + 1 = pc') (h : OGW p e below s Q kc ks T (mkF m pc' Ls (.null :: rest))) : OGW p e below s Q kc ks T (mkF m pc Ls (rest)) := by
  subst hp; exact OGW.step (fun t q => XS.aconstNull X.here hx rfl hd q) h
theorem w_iload_n (X : Stand p l e R sv m args below meth c T locs cells slots) (hx : p.tables.exec = Jvm.exec) {pc pc' : Nat} {Ls : Array Slot} {i : Fin 4} {x : Int32} {rest : List Value} (hd : decode c.code pc = .ok (.iload_n i, 1)) (hl : Ls[i.val]? = some (.val (.int x))) (hp : pc + 1 = pc') (h : OGW p e below s Q kc ks T (mkF m pc' Ls (.int x :: rest))) : OGW p e below s Q kc ks T (mkF m pc Ls (rest)) := by
  subst hp; exact OGW.step (fun t q => XS.iloadN X.here hx rfl hd hl q) h
theorem w_iload (X : Stand p l e R sv m args below meth c T locs cells slots) (hx : p.tables.exec = Jvm.exec) {pc pc' : Nat} {Ls : Array Slot} {i : Nat} {x : Int32} {rest : List Value} (hd : decode c.code pc = .ok (.iload i, 2)) (hl : Ls[i]? = some (.val (.int x))) (hp : pc + 2 = pc') (h : OGW p e below s Q kc ks T (mkF m pc' Ls (.int x :: rest))) : OGW p e below s Q kc ks T (mkF m pc Ls (rest)) := by
  subst hp; exact OGW.step (fun t q => XS.iload X.here hx rfl hd hl q) h
theorem w_lload_n (X : Stand p l e R sv m args below meth c T locs cells slots) (hx : p.tables.exec = Jvm.exec) {pc pc' : Nat} {Ls : Array Slot} {i : Fin 4} {x : Int64} {rest : List Value} (hd : decode c.code pc = .ok (.lload_n i, 1)) (hl : Ls[i.val]? = some (.val (.long x))) (hp : pc + 1 = pc') (h : OGW p e below s Q kc ks T (mkF m pc' Ls (.long x :: rest))) : OGW p e below s Q kc ks T (mkF m pc Ls (rest)) := by
  subst hp; exact OGW.step (fun t q => XS.lloadN X.here hx rfl hd hl q) h
theorem w_lload (X : Stand p l e R sv m args below meth c T locs cells slots) (hx : p.tables.exec = Jvm.exec) {pc pc' : Nat} {Ls : Array Slot} {i : Nat} {x : Int64} {rest : List Value} (hd : decode c.code pc = .ok (.lload i, 2)) (hl : Ls[i]? = some (.val (.long x))) (hp : pc + 2 = pc') (h : OGW p e below s Q kc ks T (mkF m pc' Ls (.long x :: rest))) : OGW p e below s Q kc ks T (mkF m pc Ls (rest)) := by
  subst hp; exact OGW.step (fun t q => XS.lload X.here hx rfl hd hl q) h
theorem w_aload_n (X : Stand p l e R sv m args below meth c T locs cells slots) (hx : p.tables.exec = Jvm.exec) {pc pc' : Nat} {Ls : Array Slot} {i : Fin 4} {x : Value} {rest : List Value} (hd : decode c.code pc = .ok (.aload_n i, 1)) (hl : Ls[i.val]? = some (.val x)) (hv : x.isRef = true) (hp : pc + 1 = pc') (h : OGW p e below s Q kc ks T (mkF m pc' Ls (x :: rest))) : OGW p e below s Q kc ks T (mkF m pc Ls (rest)) := by
  subst hp; exact OGW.step (fun t q => XS.aloadN X.here hx rfl hd hl hv q) h
theorem w_aload (X : Stand p l e R sv m args below meth c T locs cells slots) (hx : p.tables.exec = Jvm.exec) {pc pc' : Nat} {Ls : Array Slot} {i : Nat} {x : Value} {rest : List Value} (hd : decode c.code pc = .ok (.aload i, 2)) (hl : Ls[i]? = some (.val x)) (hv : x.isRef = true) (hp : pc + 2 = pc') (h : OGW p e below s Q kc ks T (mkF m pc' Ls (x :: rest))) : OGW p e below s Q kc ks T (mkF m pc Ls (rest)) := by
  subst hp; exact OGW.step (fun t q => XS.aload X.here hx rfl hd hl hv q) h
theorem w_istore_n (X : Stand p l e R sv m args below meth c T locs cells slots) (hx : p.tables.exec = Jvm.exec) {pc pc' : Nat} {Ls : Array Slot} {i : Fin 4} {x : Int32} {rest : List Value} (hd : decode c.code pc = .ok (.istore_n i, 1)) (l' : Array Slot) (hl : storeLocals Ls i.val (.int x) = some l') (hp : pc + 1 = pc') (h : OGW p e below s Q kc ks T (mkF m pc' l' (rest))) : OGW p e below s Q kc ks T (mkF m pc Ls (.int x :: rest)) := by
  subst hp; exact OGW.step (fun t q => XS.istoreN X.here hx rfl hd rfl hl q) h
theorem w_istore (X : Stand p l e R sv m args below meth c T locs cells slots) (hx : p.tables.exec = Jvm.exec) {pc pc' : Nat} {Ls : Array Slot} {i : Nat} {x : Int32} {rest : List Value} (hd : decode c.code pc = .ok (.istore i, 2)) (l' : Array Slot) (hl : storeLocals Ls i (.int x) = some l') (hp : pc + 2 = pc') (h : OGW p e below s Q kc ks T (mkF m pc' l' (rest))) : OGW p e below s Q kc ks T (mkF m pc Ls (.int x :: rest)) := by
  subst hp; exact OGW.step (fun t q => XS.istore X.here hx rfl hd rfl hl q) h
theorem w_lstore_n (X : Stand p l e R sv m args below meth c T locs cells slots) (hx : p.tables.exec = Jvm.exec) {pc pc' : Nat} {Ls : Array Slot} {i : Fin 4} {x : Int64} {rest : List Value} (hd : decode c.code pc = .ok (.lstore_n i, 1)) (l' : Array Slot) (hl : storeLocals Ls i.val (.long x) = some l') (hp : pc + 1 = pc') (h : OGW p e below s Q kc ks T (mkF m pc' l' (rest))) : OGW p e below s Q kc ks T (mkF m pc Ls (.long x :: rest)) := by
  subst hp; exact OGW.step (fun t q => XS.lstoreN X.here hx rfl hd rfl hl q) h
theorem w_lstore (X : Stand p l e R sv m args below meth c T locs cells slots) (hx : p.tables.exec = Jvm.exec) {pc pc' : Nat} {Ls : Array Slot} {i : Nat} {x : Int64} {rest : List Value} (hd : decode c.code pc = .ok (.lstore i, 2)) (l' : Array Slot) (hl : storeLocals Ls i (.long x) = some l') (hp : pc + 2 = pc') (h : OGW p e below s Q kc ks T (mkF m pc' l' (rest))) : OGW p e below s Q kc ks T (mkF m pc Ls (.long x :: rest)) := by
  subst hp; exact OGW.step (fun t q => XS.lstore X.here hx rfl hd rfl hl q) h
theorem w_astore_n (X : Stand p l e R sv m args below meth c T locs cells slots) (hx : p.tables.exec = Jvm.exec) {pc pc' : Nat} {Ls : Array Slot} {i : Fin 4} {x : Value} {rest : List Value} (hd : decode c.code pc = .ok (.astore_n i, 1)) (hv : x.isRef = true) (l' : Array Slot) (hl : storeLocals Ls i.val x = some l') (hp : pc + 1 = pc') (h : OGW p e below s Q kc ks T (mkF m pc' l' (rest))) : OGW p e below s Q kc ks T (mkF m pc Ls (x :: rest)) := by
  subst hp; exact OGW.step (fun t q => XS.astoreN X.here hx rfl hd rfl hv hl q) h
theorem w_astore (X : Stand p l e R sv m args below meth c T locs cells slots) (hx : p.tables.exec = Jvm.exec) {pc pc' : Nat} {Ls : Array Slot} {i : Nat} {x : Value} {rest : List Value} (hd : decode c.code pc = .ok (.astore i, 2)) (hv : x.isRef = true) (l' : Array Slot) (hl : storeLocals Ls i x = some l') (hp : pc + 2 = pc') (h : OGW p e below s Q kc ks T (mkF m pc' l' (rest))) : OGW p e below s Q kc ks T (mkF m pc Ls (x :: rest)) := by
  subst hp; exact OGW.step (fun t q => XS.astore X.here hx rfl hd rfl hv hl q) h
theorem w_iinc (X : Stand p l e R sv m args below meth c T locs cells slots) (hx : p.tables.exec = Jvm.exec) {pc pc' : Nat} {Ls : Array Slot} {i : Nat} {k : Int} {x : Int32} {rest : List Value} (hd : decode c.code pc = .ok (.iinc i k, 3)) (w : Int32) (hw' : Int32.ofInt k = w) (hl : Ls[i]? = some (.val (.int x))) (l' : Array Slot) (hl' : storeLocals Ls i (.int (x + w)) = some l') (hp : pc + 3 = pc') (h : OGW p e below s Q kc ks T (mkF m pc' l' (rest))) : OGW p e below s Q kc ks T (mkF m pc Ls (rest)) := by
  subst hp hw'; exact OGW.step (fun t q => XS.iinc X.here hx rfl hd hl hl' q) h
theorem w_dup (X : Stand p l e R sv m args below meth c T locs cells slots) (hx : p.tables.exec = Jvm.exec) {pc pc' : Nat} {Ls : Array Slot} {x : Value} {rest : List Value} (hd : decode c.code pc = .ok (.dup, 1)) (hc : x.category = 1) (hp : pc + 1 = pc') (h : OGW p e below s Q kc ks T (mkF m pc' Ls (x :: x :: rest))) : OGW p e below s Q kc ks T (mkF m pc Ls (x :: rest)) := by
  subst hp; exact OGW.step (fun t q => XS.dup X.here hx rfl hd rfl hc q) h
theorem w_pop (X : Stand p l e R sv m args below meth c T locs cells slots) (hx : p.tables.exec = Jvm.exec) {pc pc' : Nat} {Ls : Array Slot} {x : Value} {rest : List Value} (hd : decode c.code pc = .ok (.pop, 1)) (hc : x.category = 1) (hp : pc + 1 = pc') (h : OGW p e below s Q kc ks T (mkF m pc' Ls (rest))) : OGW p e below s Q kc ks T (mkF m pc Ls (x :: rest)) := by
  subst hp; exact OGW.step (fun t q => XS.pop X.here hx rfl hd rfl hc q) h
theorem w_dup_x1 (X : Stand p l e R sv m args below meth c T locs cells slots) (hx : p.tables.exec = Jvm.exec) {pc pc' : Nat} {Ls : Array Slot} {x y : Value} {rest : List Value} (hd : decode c.code pc = .ok (.dup_x1, 1)) (hc : x.category = 1) (hc2 : y.category = 1) (hp : pc + 1 = pc') (h : OGW p e below s Q kc ks T (mkF m pc' Ls (x :: y :: x :: rest))) : OGW p e below s Q kc ks T (mkF m pc Ls (x :: y :: rest)) := by
  subst hp; exact OGW.step (fun t q => XS.dupX1 X.here hx rfl hd rfl hc hc2 q) h
theorem w_goto (X : Stand p l e R sv m args below meth c T locs cells slots) (hx : p.tables.exec = Jvm.exec) {pc pc' : Nat} {Ls : Array Slot} {rest : List Value} {o : Int} (hd : decode c.code pc = .ok (.goto o, 3)) (ho : 0 ≤ (pc : Int) + o) (hp : ((pc : Int) + o).toNat = pc') (h : OGW p e below s Q kc ks T (mkF m pc' Ls rest)) : OGW p e below s Q kc ks T (mkF m pc Ls rest) :=
  OGW.step (fun t q => XS.goto X.here hx rfl rfl hd ho hp q) h
theorem w_ifYes (X : Stand p l e R sv m args below meth c T locs cells slots) (hx : p.tables.exec = Jvm.exec) {pc pc' : Nat} {Ls : Array Slot} {rest : List Value} {o : Int} {cd : ClassFile.Cond} {x : Int32} (hd : decode c.code pc = .ok (.ifCond cd o, 3)) (hc : ifCond.holds cd x = true) (ho : 0 ≤ (pc : Int) + o) (hp : ((pc : Int) + o).toNat = pc') (h : OGW p e below s Q kc ks T (mkF m pc' Ls rest)) : OGW p e below s Q kc ks T (mkF m pc Ls (.int x :: rest)) :=
  OGW.step (fun t q => XS.ifYes X.here hx rfl rfl hd rfl hc ho hp q) h
theorem w_ifNo (X : Stand p l e R sv m args below meth c T locs cells slots) (hx : p.tables.exec = Jvm.exec) {pc pc' : Nat} {Ls : Array Slot} {rest : List Value} {o : Int} {cd : ClassFile.Cond} {x : Int32} (hd : decode c.code pc = .ok (.ifCond cd o, 3)) (hc : ifCond.holds cd x = false) (hp : pc + 3 = pc') (h : OGW p e below s Q kc ks T (mkF m pc' Ls rest)) : OGW p e below s Q kc ks T (mkF m pc Ls (.int x :: rest)) := by
  subst hp; exact OGW.step (fun t q => XS.ifNo X.here hx rfl hd rfl hc q) h
theorem w_icmpYes (X : Stand p l e R sv m args below meth c T locs cells slots) (hx : p.tables.exec = Jvm.exec) {pc pc' : Nat} {Ls : Array Slot} {rest : List Value} {o : Int} {cd : ClassFile.Cond} {x y : Int32} (hd : decode c.code pc = .ok (.if_icmp cd o, 3)) (hc : if_icmp.holds cd x y = true) (ho : 0 ≤ (pc : Int) + o) (hp : ((pc : Int) + o).toNat = pc') (h : OGW p e below s Q kc ks T (mkF m pc' Ls rest)) : OGW p e below s Q kc ks T (mkF m pc Ls (.int y :: .int x :: rest)) :=
  OGW.step (fun t q => XS.icmpYes X.here hx rfl rfl hd rfl hc ho hp q) h
theorem w_icmpNo (X : Stand p l e R sv m args below meth c T locs cells slots) (hx : p.tables.exec = Jvm.exec) {pc pc' : Nat} {Ls : Array Slot} {rest : List Value} {o : Int} {cd : ClassFile.Cond} {x y : Int32} (hd : decode c.code pc = .ok (.if_icmp cd o, 3)) (hc : if_icmp.holds cd x y = false) (hp : pc + 3 = pc') (h : OGW p e below s Q kc ks T (mkF m pc' Ls rest)) : OGW p e below s Q kc ks T (mkF m pc Ls (.int y :: .int x :: rest)) := by
  subst hp; exact OGW.step (fun t q => XS.icmpNo X.here hx rfl hd rfl hc q) h
theorem w_ifnonnullYes (X : Stand p l e R sv m args below meth c T locs cells slots) (hx : p.tables.exec = Jvm.exec) {pc pc' : Nat} {Ls : Array Slot} {rest : List Value} {o : Int} {b : Addr} (hd : decode c.code pc = .ok (.ifnonnull o, 3)) (ho : 0 ≤ (pc : Int) + o) (hp : ((pc : Int) + o).toNat = pc') (h : OGW p e below s Q kc ks T (mkF m pc' Ls rest)) : OGW p e below s Q kc ks T (mkF m pc Ls (.ref b :: rest)) :=
  OGW.step (fun t q => XS.ifnonnullYes X.here hx rfl rfl hd rfl ho hp q) h
theorem w_ifnonnullNo (X : Stand p l e R sv m args below meth c T locs cells slots) (hx : p.tables.exec = Jvm.exec) {pc pc' : Nat} {Ls : Array Slot} {rest : List Value} {o : Int} (hd : decode c.code pc = .ok (.ifnonnull o, 3)) (hp : pc + 3 = pc') (h : OGW p e below s Q kc ks T (mkF m pc' Ls rest)) : OGW p e below s Q kc ks T (mkF m pc Ls (.null :: rest)) := by
  subst hp; exact OGW.step (fun t q => XS.ifnonnullNo X.here hx rfl hd rfl q) h
theorem w_ldcInt (X : Stand p l e R sv m args below meth c T locs cells slots) (hx : p.tables.exec = Jvm.exec) {pc pc' : Nat} {Ls : Array Slot} {rest : List Value} {Z : State} {a0 : Array Value} {own : String} {i : Nat} {v : Int32} (hZ : Z.Warmed39 sv.vm) (hown : sv.vm.findClass own = some m.cls) (hd : decode c.code pc = .ok (.ldc i, 2)) (hk : (Cond.constant own i v).before a0 Z = true) (hp : pc + 2 = pc') (h : OGW p e below s Q kc ks T (mkF m pc' Ls (.int v :: rest))) : OGW p e below s Q kc ks T (mkF m pc Ls rest) := by
  subst hp; exact OGW.step (fun t q => X.ldcInt hx hown (mvT hZ hk) (g := mkF m pc Ls rest) rfl hd t q) h
theorem w_ldc2Long (X : Stand p l e R sv m args below meth c T locs cells slots) (hx : p.tables.exec = Jvm.exec) {pc pc' : Nat} {Ls : Array Slot} {rest : List Value} {Z : State} {a0 : Array Value} {own : String} {i : Nat} {v : Int64} (hZ : Z.Warmed39 sv.vm) (hown : sv.vm.findClass own = some m.cls) (hd : decode c.code pc = .ok (.ldc2_w i, 3)) (hk : (Cond.constantLong own i v).before a0 Z = true) (hp : pc + 3 = pc') (h : OGW p e below s Q kc ks T (mkF m pc' Ls (.long v :: rest))) : OGW p e below s Q kc ks T (mkF m pc Ls rest) := by
  subst hp; exact OGW.step (fun t q => X.ldc2Long hx hown (mvT hZ hk) (g := mkF m pc Ls rest) rfl hd t q) h
variable {Z : State} {a0 : Array Value} {h : Heap}
theorem w_callS (X : Stand p l e R sv m args below meth c T locs cells slots) (hx : p.tables.exec = Jvm.exec) (hZ : Z.Warmed39 sv.vm) {own : String} {index : Nat} {y : MethodName} {bytes : ByteArray} {maxL : Nat} {ret : Option FieldType} {rm : Room} {Qc : Option Value → Heap → List Loc → Prop} {argsL rest st : List Value} {pc pc' : Nat} {Ls : Array Slot} (W : Nat)
    (hown : sv.vm.findClass own = some m.cls) (eT : T.heap = h) (hlink : (Cond.methodLink own index y).before a0 Z = true) (hstat : (Cond.static y).before a0 Z = true) (hinit : (Cond.initialized y.cls).before a0 Z = true) (hcode : (Cond.code y bytes maxL ret).before a0 Z = true) (hy : y.cls ≠ "java/lang/invoke/MethodHandle" ∧ y.cls ≠ "java/lang/invoke/VarHandle")
    (hM : MetFree l y (head1 [Cond.code y bytes maxL ret] rm) (fun a U => a = argsL.toArray ∧ Z.Warmed39 U.vm ∧ U.heap = h) (fun _ _ _ _ _ => True) (fun _ U o U' => ∃ v L, o = .returned v ∧ Qc v U'.heap L ∧ FrameEnd U o U' L rm.cells rm.slots)) (hf : rm.frames + 1 ≤ R.frames) (hl : W + (maxL + 11) + rm.locals ≤ R.locals)
    (hsize : Ls.size = c.maxLocals) (hlen : ∀ sig, parseMethodDescriptor y.desc = some sig → argsL.length = sig.parameters.length) (hs : st = argsL.reverse ++ rest) (hW : (rest.map fun v => v.category).sum ≤ W) (hd : decode c.code pc = .ok (.invokestatic index, 3)) (hp : pc + 3 = pc') (hc : cells + rm.cells ≤ R.cells) (hsl : slots + rm.slots ≤ R.slots)
    (k : ∀ v T' L, Stand p l e R sv m args below meth c T' (locs ++ L) (cells + rm.cells) (slots + rm.slots) → Qc v T'.heap L → OGW p e below s Q kc ks T' (mkF m pc' Ls (v.toList ++ rest))) : OGW p e below s Q kc ks T (mkF m pc Ls st) := by
  subst hp hs
  obtain ⟨v, vm₁, ⟨T1, L1, c1, n1⟩, -, X1, ⟨Lc, hQ, l1, y1, z1⟩, st⟩ := Jvm.LawKit.callS X hx (y := y) hown (mvT hZ hlink) (mvT hZ hstat) (mvT hZ hinit) (mvT hZ hcode) hy (backOf (W := W) hM hZ hcode hinit hf hl) (g := mkF m pc Ls (argsL.reverse ++ rest)) rfl hsize (argsL := argsL) (rest := rest) hlen rfl (by show 2 * 0 + _ ≤ _; omega) hd (fun _ _ => ⟨rfl, eT, hc, hsl⟩)
  dsimp only [Pt.U, Pt.locs, Pt.cells, Pt.slots] at X1 l1 y1 z1 st hQ
  subst l1 y1 z1
  exact OGW.step st (k v T1 Lc X1 hQ)
theorem w_special (X : Stand p l e R sv m args below meth c T locs cells slots) (hx : p.tables.exec = Jvm.exec) (hZ : Z.Warmed39 sv.vm) {own : String} {index : Nat} {y : MethodName} {bytes : ByteArray} {maxL : Nat} {rm : Room} {Qc : Option Value → Heap → List Loc → Prop} {a : Addr} {argsL rest st : List Value} {pc pc' : Nat} {Ls : Array Slot} (W : Nat) (hy1 : y.name = "<init>")
    (hown : sv.vm.findClass own = some m.cls) (eT : T.heap = h) (hlink : (Cond.methodLink own index y).before a0 Z = true) (hinst : (Cond.instanceMethod y).before a0 Z = true) (hinit : (Cond.initialized y.cls).before a0 Z = true) (hcode : (Cond.code y bytes maxL none).before a0 Z = true) (hy : y.cls ≠ "java/lang/invoke/MethodHandle" ∧ y.cls ≠ "java/lang/invoke/VarHandle")
    (hM : MetFree l y (head1 [Cond.code y bytes maxL none] rm) (fun b U => b = (.ref a :: argsL).toArray ∧ Z.Warmed39 U.vm ∧ U.heap = h) (fun _ _ _ _ _ => True) (fun _ U o U' => ∃ v L, o = .returned v ∧ Qc v U'.heap L ∧ FrameEnd U o U' L rm.cells rm.slots)) (hf : rm.frames + 1 ≤ R.frames) (hl : W + (maxL + 11) + rm.locals ≤ R.locals)
    (hsize : Ls.size = c.maxLocals) (hlen : ∀ sig, parseMethodDescriptor y.desc = some sig → argsL.length = sig.parameters.length) (hs : st = argsL.reverse ++ .ref a :: rest) (hW : (rest.map fun v => v.category).sum ≤ W) (hd : decode c.code pc = .ok (.invokespecial index, 3)) (hp : pc + 3 = pc') (hc : cells + rm.cells ≤ R.cells) (hsl : slots + rm.slots ≤ R.slots)
    (k : ∀ v T' L, Stand p l e R sv m args below meth c T' (locs ++ L) (cells + rm.cells) (slots + rm.slots) → Qc v T'.heap L → OGW p e below s Q kc ks T' (mkF m pc' Ls (v.toList ++ rest))) : OGW p e below s Q kc ks T (mkF m pc Ls st) := by
  subst hp hs
  obtain ⟨v, vm₁, ⟨T1, L1, c1, n1⟩, -, X1, ⟨Lc, hQ, l1, y1, z1⟩, st⟩ := X.specialBack hx (y := y) hy1 hown (mvT hZ hlink) (mvT hZ hinst) (mvT hZ hcode) hy (backOf (W := W) hM hZ hcode hinit hf hl) (g := mkF m pc Ls (argsL.reverse ++ .ref a :: rest)) rfl hsize (Steps.refl _) (a := a) (argsL := argsL) (rest := rest) hlen rfl (by show 2 * 0 + _ ≤ _; omega) hd (fun _ _ => ⟨rfl, eT, hc, hsl⟩)
  dsimp only [Pt.U, Pt.locs, Pt.cells, Pt.slots] at X1 l1 y1 z1 st hQ
  subst l1 y1 z1
  exact OGW.step (fun t q => st.trans q) (k v T1 Lc X1 hQ)
theorem w_virtual (X : Stand p l e R sv m args below meth c T locs cells slots) (hx : p.tables.exec = Jvm.exec) (hZ : Z.Warmed39 sv.vm) {own C : String} {index : Nat} {y : MethodName} {bytes : ByteArray} {maxL : Nat} {ret : Option FieldType} {rm : Room} {Qc : Option Value → Heap → List Loc → Prop} {a : Addr} {argsL rest st : List Value} {pc pc' : Nat} {Ls : Array Slot} (W : Nat)
    (hown : sv.vm.findClass own = some m.cls) (eT : T.heap = h) (hlink : (Cond.methodLink own index y).before a0 Z = true) (hdecl : (Cond.declares y).before a0 Z = true) (hsel : (Cond.selects C y y).before a0 Z = true) (hinst : (Cond.instanceMethod y).before a0 Z = true) (hinit : (Cond.initialized y.cls).before a0 Z = true) (hcode : (Cond.code y bytes maxL ret).before a0 Z = true) (hy : y.cls ≠ "java/lang/invoke/MethodHandle" ∧ y.cls ≠ "java/lang/invoke/VarHandle")
    (E : Exa Z h a C)
    (hM : MetFree l y (head1 [Cond.code y bytes maxL ret] rm) (fun b U => b = (.ref a :: argsL).toArray ∧ Z.Warmed39 U.vm ∧ U.heap = h) (fun _ _ _ _ _ => True) (fun _ U o U' => ∃ v L, o = .returned v ∧ Qc v U'.heap L ∧ FrameEnd U o U' L rm.cells rm.slots)) (hf : rm.frames + 1 ≤ R.frames) (hl : W + (maxL + 11) + rm.locals ≤ R.locals)
    (hsize : Ls.size = c.maxLocals) (hlen : ∀ sig, parseMethodDescriptor y.desc = some sig → argsL.length = sig.parameters.length) (hs : st = argsL.reverse ++ .ref a :: rest) (hW : (rest.map fun v => v.category).sum ≤ W) (hd : decode c.code pc = .ok (.invokevirtual index, 3)) (hp : pc + 3 = pc') (hc : cells + rm.cells ≤ R.cells) (hsl : slots + rm.slots ≤ R.slots)
    (k : ∀ v T' L, Stand p l e R sv m args below meth c T' (locs ++ L) (cells + rm.cells) (slots + rm.slots) → Qc v T'.heap L → OGW p e below s Q kc ks T' (mkF m pc' Ls (v.toList ++ rest))) : OGW p e below s Q kc ks T (mkF m pc Ls st) := by
  subst hp hs
  obtain ⟨cq, kq, qa, qb, qc⟩ := isOf hZ eT E
  obtain ⟨v, vm₁, ⟨T1, L1, c1, n1⟩, -, X1, ⟨Lc, hQ, l1, y1, z1⟩, st⟩ := X.virtualBack hx (y := y) (z := y) hown (mvT hZ hlink) (mvT hZ hdecl) (notFace_of_selects (args := #[]) (mvT hZ hsel)) (mvT hZ hsel) (mvT hZ hinst) hy (backOf (W := W) hM hZ hcode hinit hf hl) qa qc (g := mkF m pc Ls (argsL.reverse ++ .ref a :: rest)) rfl hsize (Steps.refl _) (argsL := argsL) (rest := rest) hlen rfl (by show 2 * 0 + _ ≤ _; omega) hd (fun _ _ => ⟨rfl, eT, hc, hsl⟩)
  dsimp only [Pt.U, Pt.locs, Pt.cells, Pt.slots] at X1 l1 y1 z1 st hQ
  subst l1 y1 z1
  exact OGW.step (fun t q => st.trans q) (k v T1 Lc X1 hQ)
theorem w_new (X : Stand p l e R sv m args below meth c T locs cells slots) (hx : p.tables.exec = Jvm.exec) (hZ : Z.Warmed39 sv.vm) {own C : String} {index n : Nat} {pc pc' : Nat} {Ls : Array Slot} {rest : List Value} (hown : sv.vm.findClass own = some m.cls) (eT : T.heap = h) (w : (Cond.classLink own index C).before a0 Z = true) (wi : (Cond.instantiable C n).before a0 Z = true) (wz : (Cond.initialized C).before a0 Z = true) (hd : decode c.code pc = .ok (.new index, 3)) (hp : pc + 3 = pc') (hc : cells + 1 ≤ R.cells) (hl : slots + n ≤ R.slots)
    (k : ∀ T' h' a, Stand p l e R sv m args below meth c T' locs (cells + 1) (slots + n) → T'.heap = h' → a = h.size → Ext h h' → Exa Z h' a C → (∀ {O nm d : String} {ty : FieldType}, Laid Z a0 C O nm d → parseFieldDescriptor d = some ty → Fld Z h' a O nm d (defaultValue ty)) → OGW p e below s Q kc ks T' (mkF m pc' Ls (.ref a :: rest))) : OGW p e below s Q kc ks T (mkF m pc Ls rest) := by
  subst hp
  obtain ⟨T2, h2, X2, e2, E2, A2, D2, -, st2⟩ := newO X hx hZ hown w wi wz eT (g := mkF m pc Ls rest) rfl hd hc hl
  exact OGW.step st2 (k T2 h2 _ X2 e2 rfl E2 A2 D2)
theorem w_initO (X : Stand p l e R sv m args below meth c T locs cells slots) (hx : p.tables.exec = Jvm.exec) (hZ : Z.Warmed39 sv.vm) {own : String} {index : Nat} {a : Addr} {pc pc' : Nat} {Ls : Array Slot} {rest : List Value} (W : Nat) (hown : sv.vm.findClass own = some m.cls) (eT : T.heap = h)
    (w1 : (Cond.methodLink own index Lib.objectInit).before a0 Z = true) (w2 : (Cond.instanceMethod Lib.objectInit).before a0 Z = true) (w3 : (Cond.code Lib.objectInit object_method_1_code 1 none).before a0 Z = true) (hsize : Ls.size = c.maxLocals) (hd : decode c.code pc = .ok (.invokespecial index, 3)) (hf : 1 ≤ R.frames) (hW : (rest.map fun v => v.category).sum ≤ W) (hl : W + 12 ≤ R.locals) (hp : pc + 3 = pc')
    (k : ∀ T', Stand p l e R sv m args below meth c T' locs cells slots → T'.heap = h → OGW p e below s Q kc ks T' (mkF m pc' Ls rest)) : OGW p e below s Q kc ks T (mkF m pc Ls (.ref a :: rest)) := by
  subst hp
  obtain ⟨T1, X1, e1, st1⟩ := initO X hx hZ hown w1 w2 w3 eT (g := mkF m pc Ls (.ref a :: rest)) rfl hsize rfl hd hf (W := W) (by show 2 * 0 + _ ≤ _; omega) hl
  exact OGW.step st1 (k T1 X1 e1)
theorem w_getF (X : Stand p l e R sv m args below meth c T locs cells slots) (hx : p.tables.exec = Jvm.exec) (hZ : Z.Warmed39 sv.vm) {own R0 O n d : String} {index : Nat} {a : Addr} {v : Value} {pc pc' : Nat} {Ls : Array Slot} {rest : List Value} (hown : sv.vm.findClass own = some m.cls) (eT : T.heap = h) (w : (Cond.fieldLink own index R0 n d).before a0 Z = true) (via : Via Z R0 O n d) (F : Fld Z h a O n d v) (hd : decode c.code pc = .ok (.getfield index, 3)) (hp : pc + 3 = pc')
    (k : ∀ T', Stand p l e R sv m args below meth c T' locs cells slots → T'.heap = h → OGW p e below s Q kc ks T' (mkF m pc' Ls (v :: rest))) : OGW p e below s Q kc ks T (mkF m pc Ls (.ref a :: rest)) := by
  subst hp
  obtain ⟨T1, X1, e1, st1⟩ := getF X hx hZ hown (host := "") (Or.inl w) via eT F (g := mkF m pc Ls (.ref a :: rest)) rfl rfl hd
  exact OGW.step st1 (k T1 X1 e1)
theorem w_putF (X : Stand p l e R sv m args below meth c T locs cells slots) (hx : p.tables.exec = Jvm.exec) (hZ : Z.Warmed39 sv.vm) {own R0 O n d C : String} {index kk : Nat} {ty : FieldType} {a : Addr} {v old : Value} {pc pc' : Nat} {Ls : Array Slot} {rest : List Value} (hown : sv.vm.findClass own = some m.cls) (eT : T.heap = h) (w : (Cond.fieldLink own index R0 n d).before a0 Z = true) (via : Via Z R0 O n d) (F : Fld Z h a O n d old) (E : Exa Z h a C)
    (L : (Cond.lays C O n d).before a0 Z = true ∨ ((Cond.laysFinal C O n d).before a0 Z = true ∧ own = O ∧ meth.name = "<init>")) (wi : (Cond.instantiable C kk).before a0 Z = true) (hty : parseFieldDescriptor d = some ty) (hn : narrow ty v = v) (hf : fits ty v = true) (hd : decode c.code pc = .ok (.putfield index, 3)) (hp : pc + 3 = pc')
    (k : ∀ T' h', Stand p l e R sv m args below meth c T' (locs ++ [⟨a, RoadKit.slotOf Z O n d⟩]) cells slots → T'.heap = h' → Wr h h' a (RoadKit.slotOf Z O n d) v → OGW p e below s Q kc ks T' (mkF m pc' Ls rest)) : OGW p e below s Q kc ks T (mkF m pc Ls (v :: .ref a :: rest)) := by
  subst hp
  obtain ⟨T1, h1, X1, e1, W1, st1⟩ := putF X hx hZ hown (host := "") (Or.inl w) via eT F E L wi hty hn hf (g := mkF m pc Ls (v :: .ref a :: rest)) rfl rfl hd
  exact OGW.step st1 (k T1 h1 X1 e1 W1)
theorem w_retI {vm : Vm} {k0 : Nat} (X : Stand p l e R (s.setVm vm) m args below meth c T locs cells slots) (hS : s.Since vm k0) (hk : k0 ≤ T.heap.size) (hx : p.tables.exec = Jvm.exec) (hlk : meth.locks = false) {pc : Nat} {Ls : Array Slot} {rest : List Value} {z : Int32} (hret : meth.sig.returnType = some .int) (hd : decode c.code pc = .ok (.ireturn, 1)) (hQ : Q (some (.int z)) T.heap locs) (h1 : cells ≤ kc) (h2 : slots ≤ ks) : OGW p e below s Q kc ks T (mkF m pc Ls (.int z :: rest)) := by
  obtain ⟨fs, hr, hrun, hended, e1, e2, e3, e4⟩ := X.leaveW hS hk (v := some (.int z)) (fun h => by rw [hret] at h; cases h) hlk
  exact ⟨_, _, retI X hx hret hd hr, hrun, hended, _, _, rfl, hQ, e1, e2, e3, e4.mono h1 h2⟩
theorem w_retJ {vm : Vm} {k0 : Nat} (X : Stand p l e R (s.setVm vm) m args below meth c T locs cells slots) (hS : s.Since vm k0) (hk : k0 ≤ T.heap.size) (hx : p.tables.exec = Jvm.exec) (hlk : meth.locks = false) {pc : Nat} {Ls : Array Slot} {rest : List Value} {z : Int64} (hret : meth.sig.returnType = some .long) (hd : decode c.code pc = .ok (.lreturn, 1)) (hQ : Q (some (.long z)) T.heap locs) (h1 : cells ≤ kc) (h2 : slots ≤ ks) : OGW p e below s Q kc ks T (mkF m pc Ls (.long z :: rest)) := by
  obtain ⟨fs, hr, hrun, hended, e1, e2, e3, e4⟩ := X.leaveW hS hk (v := some (.long z)) (fun h => by rw [hret] at h; cases h) hlk
  exact ⟨_, _, retJ X hx hret hd hr, hrun, hended, _, _, rfl, hQ, e1, e2, e3, e4.mono h1 h2⟩
theorem w_retN {vm : Vm} {k0 : Nat} (X : Stand p l e R (s.setVm vm) m args below meth c T locs cells slots) (hS : s.Since vm k0) (hk : k0 ≤ T.heap.size) (hx : p.tables.exec = Jvm.exec) (hlk : meth.locks = false) {pc : Nat} {Ls : Array Slot} {rest : List Value} {z w : Int32} {t : FieldType} (ht : t = .boolean ∨ t = .byte ∨ t = .char ∨ t = .short) (hret : meth.sig.returnType = some t) (hd : decode c.code pc = .ok (.ireturn, 1)) (hz : nar t z = w) (hQ : Q (some (.int w)) T.heap locs) (h1 : cells ≤ kc) (h2 : slots ≤ ks) : OGW p e below s Q kc ks T (mkF m pc Ls (.int z :: rest)) := by
  subst hz
  obtain ⟨fs, hr, hrun, hended, e1, e2, e3, e4⟩ := X.leaveW hS hk (v := some (.int (nar t z))) (fun h => by rw [hret] at h; cases h) hlk
  exact ⟨_, _, retN X hx hret ht hd hr, hrun, hended, _, _, rfl, hQ, e1, e2, e3, e4.mono h1 h2⟩
theorem w_ret {vm : Vm} {k0 : Nat} (X : Stand p l e R (s.setVm vm) m args below meth c T locs cells slots) (hS : s.Since vm k0) (hk : k0 ≤ T.heap.size) (hx : p.tables.exec = Jvm.exec) (hlk : meth.locks = false) {pc : Nat} {Ls : Array Slot} (hret : meth.sig.returnType = none) (hd : decode c.code pc = .ok (.return_, 1)) (hQ : Q none T.heap locs) (h1 : cells ≤ kc) (h2 : slots ≤ ks) : OGW p e below s Q kc ks T (mkF m pc Ls []) := by
  obtain ⟨fs, hr, hrun, hended, e1, e2, e3, e4⟩ := X.leaveW hS hk (v := none) (fun _ => rfl) hlk
  exact ⟨_, _, X.returnOut hx hret hd hr, hrun, hended, _, _, rfl, hQ, e1, e2, e3, e4.mono h1 h2⟩
theorem w_ldcS {vm : Vm} {k0 : Nat} (X : Stand p l e R (s.setVm vm) m args below meth c T locs cells slots) (hx : p.tables.exec = Jvm.exec) (hZ : Z.Warmed39 vm) {own text : String} {index : Nat} {pc pc' : Nat} {Ls : Array Slot} {rest : List Value} (hown : vm.findClass own = some m.cls) (w : (Cond.stringLink own index text).before a0 Z = true) (wS : ∀ a ∈ Bundle.stringAtoms, a.before a0 Z = true)
    (eT : T.heap = h) (hS : s.Since vm k0) (hk : k0 ≤ h.size) (hd : decode c.code pc = .ok (.ldc index, 2)) (n : Nat) (hn : 4 * text.toList.length ≤ n) (hbig : n ≤ 536870912) (hc : cells + 2 ≤ R.cells) (hl : slots + (n + 4) ≤ R.slots) (hp : pc + 2 = pc')
    (k : ∀ (a : Addr) (T' : State) (h' : Heap) (vm' : Vm), Stand p l e R (s.setVm vm') m args below meth c T' locs (cells + 2) (slots + (n + 4)) → T'.heap = h' → Ext h h' → s.Since vm' h'.size → Z.Warmed39 vm' → vm'.findClass own = some m.cls → OGW p e below s Q kc ks T' (mkF m pc' Ls (.ref a :: rest))) : OGW p e below s Q kc ks T (mkF m pc Ls rest) := by
  subst hp
  obtain ⟨a, T', h', k1, X', e', E', S', q', Z', o', st⟩ := ldcS X hx hZ hown w wS eT hS hk (g := mkF m pc Ls rest) rfl hd hn hbig hc hl
  refine OGW.step st (k a T' h' T'.vm X' e' E' ?_ Z' o')
  exact State.Since.trans S' ((State.WarmedH.refl (s.setVm T'.vm)).since _) q'
theorem w_specialW {vm : Vm} {k0 : Nat} (X : Stand p l e R (s.setVm vm) m args below meth c T locs cells slots) (hx : p.tables.exec = Jvm.exec) (hZ : Z.Warmed39 vm) {own : String} {index : Nat} {y : MethodName} {bytes : ByteArray} {maxL : Nat} {rm : Room} {Qc : Option Value → Heap → List Loc → Prop} {a : Addr} {argsL rest st : List Value} {pc pc' : Nat} {Ls : Array Slot} (W : Nat) (hy1 : y.name = "<init>")
    (hown : vm.findClass own = some m.cls) (eT : T.heap = h) (hS : s.Since vm k0) (hk : k0 ≤ h.size) (hlink : (Cond.methodLink own index y).before a0 Z = true) (hinst : (Cond.instanceMethod y).before a0 Z = true) (hinit : (Cond.initialized y.cls).before a0 Z = true) (hcode : (Cond.code y bytes maxL none).before a0 Z = true) (hy : y.cls ≠ "java/lang/invoke/MethodHandle" ∧ y.cls ≠ "java/lang/invoke/VarHandle")
    (hM : MetFree l y (head1 [Cond.code y bytes maxL none] rm) (fun b U => b = (.ref a :: argsL).toArray ∧ Z.Warmed39 U.vm ∧ U.heap = h) (fun _ _ _ _ _ => True) (fun _ U o U' => ∃ v L, o = .returned v ∧ Qc v U'.heap L ∧ ReturnedEndW U o U' L rm.cells rm.slots)) (hf : rm.frames + 1 ≤ R.frames) (hl : W + (maxL + 11) + rm.locals ≤ R.locals)
    (hsize : Ls.size = c.maxLocals) (hlen : ∀ sig, parseMethodDescriptor y.desc = some sig → argsL.length = sig.parameters.length) (hs : st = argsL.reverse ++ .ref a :: rest) (hW : (rest.map fun v => v.category).sum ≤ W) (hd : decode c.code pc = .ok (.invokespecial index, 3)) (hp : pc + 3 = pc') (hc : cells + rm.cells ≤ R.cells) (hsl : slots + rm.slots ≤ R.slots)
    (k : ∀ v T' L vm', Stand p l e R (s.setVm vm') m args below meth c T' (locs ++ L) (cells + rm.cells) (slots + rm.slots) → Qc v T'.heap L → s.Since vm' T'.heap.size → Z.Warmed39 vm' → vm'.findClass own = some m.cls → OGW p e below s Q kc ks T' (mkF m pc' Ls (v.toList ++ rest))) : OGW p e below s Q kc ks T (mkF m pc Ls st) := by
  subst hp hs
  have hZ' : Z.Warmed39 (s.setVm vm).vm := hZ
  have hown' : (s.setVm vm).vm.findClass own = some m.cls := hown
  obtain ⟨v, vm₁, ⟨T1, L1, c1, n1⟩, -, X1, S1, g1, ⟨Lc, hQ, l1, y1, z1⟩, st⟩ := X.specialBackS hx (y := y) hy1 hown' (mvT hZ' hlink) (mvT hZ' hinst) (mvT hZ' hcode) hy (backOfS (W := W) hM hZ' hcode hinit hf hl) (g := mkF m pc Ls (argsL.reverse ++ .ref a :: rest)) rfl hsize (Steps.refl _) (a := a) (argsL := argsL) (rest := rest) hlen rfl (by show 2 * 0 + _ ≤ _; omega) hd (fun _ _ => ⟨rfl, eT, hc, hsl⟩)
  dsimp only [Pt.U, Pt.locs, Pt.cells, Pt.slots] at X1 S1 g1 l1 y1 z1 st hQ
  subst l1 y1 z1
  refine OGW.step (fun t q => st.trans q) (k v T1 Lc T1.vm X1 hQ (hS.trans S1 (Nat.le_trans hk (by rw [← eT]; exact g1))) (State.Warmed39.trans (t := s.setVm vm) hZ S1.1) ?_)
  rw [S1.1.alike.findClass]; exact hown'
end OwnW
theorem own_wS {Z : State} {a0 : Array Value} (hw : ∀ d ∈ tables_1, d.before a0 Z = true) : ∀ a ∈ Bundle.stringAtoms, a.before a0 Z = true := by
  intro a ha
  simp only [Bundle.stringAtoms, Bundle.sN, List.mem_cons, List.not_mem_nil, or_false] at ha
  rcases ha with rfl | rfl | rfl | rfl | rfl | rfl | rfl
  · exact hw _ (List.mem_of_getElem? (i := 16) rfl)
  · exact hw _ (List.mem_of_getElem? (i := 17) rfl)
  · exact hw _ (List.mem_of_getElem? (i := 18) rfl)
  · exact hw _ (List.mem_of_getElem? (i := 19) rfl)
  · exact hw _ (List.mem_of_getElem? (i := 20) rfl)
  · exact hw _ (List.mem_of_getElem? (i := 21) rfl)
  · exact hw _ (List.mem_of_getElem? (i := 22) rfl)
theorem d2_0 : decode jdk_30_method_1_code 0 = .ok (.aload_n 0, 1) := by decide +kernel
theorem d2_1 : decode jdk_30_method_1_code 1 = .ok (.invokespecial 1, 3) := by decide +kernel
theorem d2_4 : decode jdk_30_method_1_code 4 = .ok (.return_, 1) := by decide +kernel
def f2_0  : Option (Unit) := (some ())
set_option maxRecDepth 65536 in
set_option maxHeartbeats 40000000 in
theorem b2_0 {p : Program} {l : Launch} {e : Env} {s : State} {m : MethodId} {args : Array Value} {below : List Frame} {meth : Method} {c : Code} {Z : State} {a0 : Array Value} {h0 : Heap} {n0 : Nat} (hx : p.tables.exec = Jvm.exec) (hZ : Z.Warmed39 s.vm) (hw : ∀ d ∈ tables_1, d.before a0 Z = true) (hby : c.code = jdk_30_method_1_code) (hml : c.maxLocals = 1) (hown : s.vm.findClass "java/lang/Record" = some m.cls) (hnm : meth.name = "<init>") (hret : meth.sig.returnType = none) (hlk : meth.locks = false) (o0 : Addr) {T : State} {locs : List Loc}  (r : Unit) (X : Stand p l e ({ frames := 1, cells := 0, slots := 0, locals := 12 } : Room) s m args below meth c T locs 0 0) (eT : T.heap = h0) (N : Fr n0 locs) (Z0 : n0 ≤ h0.size) (hr : f2_0  = some r) :
    OG p e below s (fun v h L => v = none ∧ Fr n0 L ∧ h = h0) 0 0 T (mkF m 0 #[.val (.ref o0)] []) := by
  have hr : (some ()) = some r := hr
  refine o_aload_n X hx (hb hby d2_0) rfl rfl (pc' := 1) rfl ?_
  refine o_initO X hx hZ 0 hown eT (hw _ (List.mem_of_getElem? (i := 12) rfl)) (hw _ (List.mem_of_getElem? (i := 13) rfl)) (hw _ (List.mem_of_getElem? (i := 14) rfl)) (by rw [hml]; rfl) (hb hby d2_1) (by decide) (Nat.le_refl _) (by decide) (pc' := 4) rfl ?_
  intro T1 X1 e1
  obtain rfl : () = r := Option.some.inj hr
  exact o_ret X1 hx hlk hret (hb hby d2_4) ⟨rfl, N, e1⟩ (by decide) (by decide)
theorem pn_2 : plainName "java/lang/Record" = true := by first | (simp [plainName, overriddenIn]; done) | decide +kernel
theorem ef_2 (m : MethodId) (o0 : Addr) : entryFrame m #[(.ref o0)] 1 = (mkF m 0 #[.val (.ref o0)] []) := by first | (simp [entryFrame, mkF, argsToLocals, Value.category]; done) | rfl
def Qd2 (Z : State) (h0 : Heap) (n0 : Nat) (o0 : Addr) (r : Unit) : Option Value → Heap → List Loc → Prop := (fun v h L => v = none ∧ Fr n0 L ∧ h = h0)
set_option maxRecDepth 65536 in
set_option maxHeartbeats 40000000 in
theorem rm2 (l : Launch) (Z : State) (a0 : Array Value) (hw : ∀ d ∈ tables_1, d.before a0 Z = true) (ws : List Jvm.Cond) (o0 : Addr) (h0 : Heap) (n0 : Nat) (Z0 : n0 ≤ h0.size) (r : Unit) (hr : f2_0  = some r) :
    MetFree l (⟨"java/lang/Record", "<init>", "()V"⟩ : MethodName) (head1 (Jvm.Cond.code (⟨"java/lang/Record", "<init>", "()V"⟩ : MethodName) jdk_30_method_1_code 1 none :: ws) ({ frames := 1, cells := 0, slots := 0, locals := 12 } : Room)) (fun a U => a = #[(.ref o0)] ∧ Z.Warmed39 U.vm ∧ U.heap = h0) (fun _ _ _ _ _ => True) (fun _ U o U' => ∃ v L, o = .returned v ∧ (Qd2 Z h0 n0 o0 r) v U'.heap L ∧ FrameEnd U o U' L ({ frames := 1, cells := 0, slots := 0, locals := 12 } : Room).cells ({ frames := 1, cells := 0, slots := 0, locals := 12 } : Room).slots) := by
  refine MetFree.of_bodySF (plainFor_of_name pn_2) hisR ?_
  intro p e s m args below meth c s₁ Bd hml0 hP hK
  obtain ⟨rfl, hZ, hh⟩ := hP
  have e0 : s₁.heap = h0 := by rw [← hh, Bd.state]; rfl
  exact OG.cast (ef_2 m o0) (b2_0 Bd.exec hZ hw Bd.bytes hml0 (findClass_of_methodNamed Bd.named) (name_of_methodNamed Bd.named Bd.method).1 Bd.returns Bd.notSynchronized o0  r (Stand.of_body Bd) e0 (Fr.nil n0) Z0 hr)
theorem d4_0 : decode prog_46_method_5_code 0 = .ok (.iload_n 1, 1) := by decide +kernel
theorem d4_1 : decode prog_46_method_5_code 1 = .ok (.ifCond .ge 18, 3) := by decide +kernel
theorem d4_19 : decode prog_46_method_5_code 19 = .ok (.return_, 1) := by decide +kernel
def f4_0 (x1 : Int32) : Option (Unit) := (if ¬ (x1 < (0 : Int32)) then (some ()) else none)
set_option maxRecDepth 65536 in
set_option maxHeartbeats 40000000 in
theorem b4_0 {p : Program} {l : Launch} {e : Env} {s : State} {m : MethodId} {args : Array Value} {below : List Frame} {meth : Method} {c : Code} {Z : State} {a0 : Array Value} {h0 : Heap} {n0 : Nat} (hx : p.tables.exec = Jvm.exec) (hZ : Z.Warmed39 s.vm) (hw : ∀ d ∈ tables_1, d.before a0 Z = true) (hby : c.code = prog_46_method_5_code) (hml : c.maxLocals = 2) (hown : s.vm.findClass "com/example/ridgeline/ridgeline/filtering/Task" = some m.cls) (hnm : meth.name = "requireNonNegative") (hret : meth.sig.returnType = none) (hlk : meth.locks = false) (o0 : Addr) {T : State} {locs : List Loc} (x1 : Int32) (r : Unit) (X : Stand p l e ({ frames := 0, cells := 0, slots := 0, locals := 0 } : Room) s m args below meth c T locs 0 0) (eT : T.heap = h0) (N : Fr n0 locs) (Z0 : n0 ≤ h0.size) (hr : f4_0 x1 = some r) :
    OG p e below s (fun v h L => v = none ∧ Fr n0 L ∧ h = h0) 0 0 T (mkF m 0 #[.val (.ref o0), .val (.int x1)] []) := by
  have hr : (if ¬ (x1 < (0 : Int32)) then (some ()) else none) = some r := hr
  refine o_iload_n X hx (hb hby d4_0) rfl (pc' := 1) rfl ?_
  by_cases hg1 : ¬ (x1 < (0 : Int32))
  case neg => rw [if_neg hg1] at hr; cases hr
  rw [if_pos hg1] at hr
  refine o_ifYes X hx (hb hby d4_1) (z_flt hg1).2 (pc' := 19) (by decide) (by decide) ?_
  obtain rfl : () = r := Option.some.inj hr
  exact o_ret X hx hlk hret (hb hby d4_19) ⟨rfl, N, eT⟩ (by decide) (by decide)
theorem pn_4 : plainName "com/example/ridgeline/ridgeline/filtering/Task" = true := by first | (simp [plainName, overriddenIn]; done) | decide +kernel
theorem ef_4 (m : MethodId) (o0 : Addr) (x1 : Int32) : entryFrame m #[(.ref o0), (.int x1)] 2 = (mkF m 0 #[.val (.ref o0), .val (.int x1)] []) := by first | (simp [entryFrame, mkF, argsToLocals, Value.category]; done) | rfl
def Qd4 (Z : State) (h0 : Heap) (n0 : Nat) (o0 : Addr) (x1 : Int32) (r : Unit) : Option Value → Heap → List Loc → Prop := (fun v h L => v = none ∧ Fr n0 L ∧ h = h0)
set_option maxRecDepth 65536 in
set_option maxHeartbeats 40000000 in
theorem rm4 (l : Launch) (Z : State) (a0 : Array Value) (hw : ∀ d ∈ tables_1, d.before a0 Z = true) (ws : List Jvm.Cond) (o0 : Addr) (x1 : Int32) (h0 : Heap) (n0 : Nat) (Z0 : n0 ≤ h0.size) (r : Unit) (hr : f4_0 x1 = some r) :
    MetFree l (⟨"com/example/ridgeline/ridgeline/filtering/Task", "requireNonNegative", "(Ljava/lang/String;I)V"⟩ : MethodName) (head1 (Jvm.Cond.code (⟨"com/example/ridgeline/ridgeline/filtering/Task", "requireNonNegative", "(Ljava/lang/String;I)V"⟩ : MethodName) prog_46_method_5_code 2 none :: ws) ({ frames := 0, cells := 0, slots := 0, locals := 0 } : Room)) (fun a U => a = #[(.ref o0), (.int x1)] ∧ Z.Warmed39 U.vm ∧ U.heap = h0) (fun _ _ _ _ _ => True) (fun _ U o U' => ∃ v L, o = .returned v ∧ (Qd4 Z h0 n0 o0 x1 r) v U'.heap L ∧ FrameEnd U o U' L ({ frames := 0, cells := 0, slots := 0, locals := 0 } : Room).cells ({ frames := 0, cells := 0, slots := 0, locals := 0 } : Room).slots) := by
  refine MetFree.of_bodySF (plainFor_of_name pn_4) hisR ?_
  intro p e s m args below meth c s₁ Bd hml0 hP hK
  obtain ⟨rfl, hZ, hh⟩ := hP
  have e0 : s₁.heap = h0 := by rw [← hh, Bd.state]; rfl
  exact OG.cast (ef_4 m o0 x1) (b4_0 Bd.exec hZ hw Bd.bytes hml0 (findClass_of_methodNamed Bd.named) (name_of_methodNamed Bd.named Bd.method).1 Bd.returns Bd.notSynchronized o0 x1 r (Stand.of_body Bd) e0 (Fr.nil n0) Z0 hr)
theorem d1_0 : decode prog_46_method_1_code 0 = .ok (.aload_n 0, 1) := by decide +kernel
theorem d1_1 : decode prog_46_method_1_code 1 = .ok (.invokespecial 1, 3) := by decide +kernel
theorem pd_0 : parseMethodDescriptor "()V" = some ⟨[], none⟩ := by decide +kernel
theorem d1_4 : decode prog_46_method_1_code 4 = .ok (.ldc 7, 2) := by decide +kernel
theorem d1_6 : decode prog_46_method_1_code 6 = .ok (.iload_n 1, 1) := by decide +kernel
theorem d1_7 : decode prog_46_method_1_code 7 = .ok (.invokestatic 9, 3) := by decide +kernel
theorem pd_1 : parseMethodDescriptor "(Ljava/lang/String;I)V" = some ⟨[(.object "java/lang/String"), .int], none⟩ := by decide +kernel
theorem d1_10 : decode prog_46_method_1_code 10 = .ok (.ldc 15, 2) := by decide +kernel
theorem d1_12 : decode prog_46_method_1_code 12 = .ok (.iload_n 2, 1) := by decide +kernel
theorem d1_13 : decode prog_46_method_1_code 13 = .ok (.invokestatic 9, 3) := by decide +kernel
theorem d1_16 : decode prog_46_method_1_code 16 = .ok (.ldc 17, 2) := by decide +kernel
theorem d1_18 : decode prog_46_method_1_code 18 = .ok (.iload_n 3, 1) := by decide +kernel
theorem d1_19 : decode prog_46_method_1_code 19 = .ok (.invokestatic 9, 3) := by decide +kernel
theorem d1_22 : decode prog_46_method_1_code 22 = .ok (.ldc 19, 2) := by decide +kernel
theorem d1_24 : decode prog_46_method_1_code 24 = .ok (.iload 4, 2) := by decide +kernel
theorem d1_26 : decode prog_46_method_1_code 26 = .ok (.invokestatic 9, 3) := by decide +kernel
theorem d1_29 : decode prog_46_method_1_code 29 = .ok (.aload_n 0, 1) := by decide +kernel
theorem d1_30 : decode prog_46_method_1_code 30 = .ok (.iload_n 1, 1) := by decide +kernel
theorem d1_31 : decode prog_46_method_1_code 31 = .ok (.putfield 21, 3) := by decide +kernel
theorem d1_34 : decode prog_46_method_1_code 34 = .ok (.aload_n 0, 1) := by decide +kernel
theorem d1_35 : decode prog_46_method_1_code 35 = .ok (.iload_n 2, 1) := by decide +kernel
theorem d1_36 : decode prog_46_method_1_code 36 = .ok (.putfield 25, 3) := by decide +kernel
theorem d1_39 : decode prog_46_method_1_code 39 = .ok (.aload_n 0, 1) := by decide +kernel
theorem d1_40 : decode prog_46_method_1_code 40 = .ok (.iload_n 3, 1) := by decide +kernel
theorem d1_41 : decode prog_46_method_1_code 41 = .ok (.putfield 28, 3) := by decide +kernel
theorem d1_44 : decode prog_46_method_1_code 44 = .ok (.aload_n 0, 1) := by decide +kernel
theorem d1_45 : decode prog_46_method_1_code 45 = .ok (.iload 4, 2) := by decide +kernel
theorem d1_47 : decode prog_46_method_1_code 47 = .ok (.putfield 30, 3) := by decide +kernel
theorem d1_50 : decode prog_46_method_1_code 50 = .ok (.return_, 1) := by decide +kernel
def f1_0 (x1 : Int32) (x2 : Int32) (x3 : Int32) (x4 : Int32) : Option (Int32 × Int32 × Int32 × Int32) := (Option.bind (f2_0 ) (fun v1 => (Option.bind (f4_0 x1) (fun v3 => (Option.bind (f4_0 x2) (fun v5 => (Option.bind (f4_0 x3) (fun v7 => (Option.bind (f4_0 x4) (fun v9 => (some (x1, x2, x3, x4))))))))))))
set_option maxRecDepth 65536 in
set_option maxHeartbeats 40000000 in
theorem b1_0 {p : Program} {l : Launch} {e : Env} {s : State} {m : MethodId} {args : Array Value} {below : List Frame} {meth : Method} {c : Code} {Z : State} {a0 : Array Value} {h0 : Heap} {n0 : Nat} {vm : Vm} (hx : p.tables.exec = Jvm.exec) (hZ : Z.Warmed39 vm) (hw : ∀ d ∈ tables_1, d.before a0 Z = true) (hby : c.code = prog_46_method_1_code) (hml : c.maxLocals = 5) (hown : vm.findClass "com/example/ridgeline/ridgeline/filtering/Task" = some m.cls) (hnm : meth.name = "<init>") (hret : meth.sig.returnType = none) (hlk : meth.locks = false) (o0 : Addr) {T : State} {locs : List Loc} {h : Heap} {k0 : Nat} (u_earliestStart : Value) (u_latestEnd : Value) (u_duration : Value) (u_demand : Value) (x1 : Int32) (x2 : Int32) (x3 : Int32) (x4 : Int32) (r : Int32 × Int32 × Int32 × Int32) (X : Stand p l e ({ frames := 2, cells := 8, slots := 272, locals := 24 } : Room) (s.setVm vm) m args below meth c T locs 0 0) (eT : T.heap = h) (N : Fr n0 locs) (hsz : n0 ≤ h.size) (hS : s.Since vm k0) (hk : k0 ≤ h.size) (K : Keep h0 h [o0]) (E_o0 : Exa Z h o0 "com/example/ridgeline/ridgeline/filtering/Task") (F_o0_earliestStart : Fld Z h o0 "com/example/ridgeline/ridgeline/filtering/Task" "earliestStart" "I" u_earliestStart) (F_o0_latestEnd : Fld Z h o0 "com/example/ridgeline/ridgeline/filtering/Task" "latestEnd" "I" u_latestEnd) (F_o0_duration : Fld Z h o0 "com/example/ridgeline/ridgeline/filtering/Task" "duration" "I" u_duration) (F_o0_demand : Fld Z h o0 "com/example/ridgeline/ridgeline/filtering/Task" "demand" "I" u_demand) (g_o0 : n0 ≤ o0) (hr : f1_0 x1 x2 x3 x4 = some r) :
    OGW p e below s (fun v h L => v = none ∧ Fr n0 L ∧ Keep h0 h [o0] ∧ Exa Z h o0 "com/example/ridgeline/ridgeline/filtering/Task" ∧ Fld Z h o0 "com/example/ridgeline/ridgeline/filtering/Task" "earliestStart" "I" (.int r.1) ∧ Fld Z h o0 "com/example/ridgeline/ridgeline/filtering/Task" "latestEnd" "I" (.int r.2.1) ∧ Fld Z h o0 "com/example/ridgeline/ridgeline/filtering/Task" "duration" "I" (.int r.2.2.1) ∧ Fld Z h o0 "com/example/ridgeline/ridgeline/filtering/Task" "demand" "I" (.int r.2.2.2)) 8 272 T (mkF m 0 #[.val (.ref o0), .val (.int x1), .val (.int x2), .val (.int x3), .val (.int x4)] []) := by
  have hr : (Option.bind (f2_0 ) (fun v1 => (Option.bind (f4_0 x1) (fun v3 => (Option.bind (f4_0 x2) (fun v5 => (Option.bind (f4_0 x3) (fun v7 => (Option.bind (f4_0 x4) (fun v9 => (some (x1, x2, x3, x4)))))))))))) = some r := hr
  refine w_aload_n X hx (hb hby d1_0) rfl rfl (pc' := 1) rfl ?_
  rcases hq1 : f2_0  with _ | v1
  · rw [hq1] at hr; cases hr
  rw [hq1] at hr
  dsimp only [Option.bind] at hr
  refine w_special X hx hZ (argsL := []) (rest := []) (a := o0) 0 rfl hown eT (hw _ (List.mem_of_getElem? (i := 7) rfl)) (hw _ (List.mem_of_getElem? (i := 8) rfl)) (hw _ (List.mem_of_getElem? (i := 10) rfl)) (hw _ (List.mem_of_getElem? (i := 11) rfl)) (by decide) (rm2 l Z a0 hw [] o0 h n0 hsz v1 hq1) (by decide) (by decide) (by rw [hml]; rfl) (lenOf pd_0 rfl) rfl (Nat.le_refl _) (hb hby d1_1) (pc' := 4) rfl (by decide) (by decide) ?_
  rintro _ T1 L1 X1 ⟨rfl, N1, e1⟩
  replace X1 : Stand p l e ({ frames := 2, cells := 8, slots := 272, locals := 24 } : Room) (s.setVm vm) m args below meth c T1 (locs ++ L1) 0 0 := X1
  have M1 := Fr.app N N1
  dsimp only [Option.toList, List.cons_append, List.nil_append]
  refine w_ldcS X1 hx hZ hown (hw _ (List.mem_of_getElem? (i := 15) rfl)) (own_wS hw) e1 hS hk (hb hby d1_4) 64 (by decide) (by decide) (by decide) (by decide) (pc' := 6) rfl ?_
  intro a2 T2 h2 vm2 X2 e2 E2 S2 hZ hown
  have A2_o0 := Exa.ext E2 E_o0
  have F2_o0_earliestStart := Fld.ext E2 F_o0_earliestStart
  have F2_o0_latestEnd := Fld.ext E2 F_o0_latestEnd
  have F2_o0_duration := Fld.ext E2 F_o0_duration
  have F2_o0_demand := Fld.ext E2 F_o0_demand
  have z2 : n0 ≤ h2.size := Nat.le_trans hsz E2.1
  have K2 := Keep.ext K E2
  refine w_iload_n X2 hx (hb hby d1_6) rfl (pc' := 7) rfl ?_
  rcases hq3 : f4_0 x1 with _ | v3
  · rw [hq3] at hr; cases hr
  rw [hq3] at hr
  dsimp only [Option.bind] at hr
  refine w_callS X2 hx hZ (argsL := [(.ref a2), (.int x1)]) (rest := []) 0 hown e2 (hw _ (List.mem_of_getElem? (i := 23) rfl)) (hw _ (List.mem_of_getElem? (i := 24) rfl)) (hw _ (List.mem_of_getElem? (i := 3) rfl)) (hw _ (List.mem_of_getElem? (i := 25) rfl)) (by decide) (rm4 l Z a0 hw [] a2 x1 h2 n0 z2 v3 hq3) (by decide) (by decide) (by rw [hml]; rfl) (lenOf pd_1 rfl) rfl (Nat.le_refl _) (hb hby d1_7) (pc' := 10) rfl (by decide) (by decide) ?_
  rintro _ T3 L3 X3 ⟨rfl, N3, e3⟩
  replace X3 : Stand p l e ({ frames := 2, cells := 8, slots := 272, locals := 24 } : Room) (s.setVm vm2) m args below meth c T3 ((locs ++ L1) ++ L3) 2 68 := X3
  have M3 := Fr.app M1 N3
  dsimp only [Option.toList, List.cons_append, List.nil_append]
  refine w_ldcS X3 hx hZ hown (hw _ (List.mem_of_getElem? (i := 26) rfl)) (own_wS hw) e3 S2 (Nat.le_refl _) (hb hby d1_10) 64 (by decide) (by decide) (by decide) (by decide) (pc' := 12) rfl ?_
  intro a4 T4 h4 vm4 X4 e4 E4 S4 hZ hown
  have A4_o0 := Exa.ext E4 A2_o0
  have F4_o0_earliestStart := Fld.ext E4 F2_o0_earliestStart
  have F4_o0_latestEnd := Fld.ext E4 F2_o0_latestEnd
  have F4_o0_duration := Fld.ext E4 F2_o0_duration
  have F4_o0_demand := Fld.ext E4 F2_o0_demand
  have z4 : n0 ≤ h4.size := Nat.le_trans z2 E4.1
  have K4 := Keep.ext K2 E4
  refine w_iload_n X4 hx (hb hby d1_12) rfl (pc' := 13) rfl ?_
  rcases hq5 : f4_0 x2 with _ | v5
  · rw [hq5] at hr; cases hr
  rw [hq5] at hr
  dsimp only [Option.bind] at hr
  refine w_callS X4 hx hZ (argsL := [(.ref a4), (.int x2)]) (rest := []) 0 hown e4 (hw _ (List.mem_of_getElem? (i := 23) rfl)) (hw _ (List.mem_of_getElem? (i := 24) rfl)) (hw _ (List.mem_of_getElem? (i := 3) rfl)) (hw _ (List.mem_of_getElem? (i := 25) rfl)) (by decide) (rm4 l Z a0 hw [] a4 x2 h4 n0 z4 v5 hq5) (by decide) (by decide) (by rw [hml]; rfl) (lenOf pd_1 rfl) rfl (Nat.le_refl _) (hb hby d1_13) (pc' := 16) rfl (by decide) (by decide) ?_
  rintro _ T5 L5 X5 ⟨rfl, N5, e5⟩
  replace X5 : Stand p l e ({ frames := 2, cells := 8, slots := 272, locals := 24 } : Room) (s.setVm vm4) m args below meth c T5 (((locs ++ L1) ++ L3) ++ L5) 4 136 := X5
  have M5 := Fr.app M3 N5
  dsimp only [Option.toList, List.cons_append, List.nil_append]
  refine w_ldcS X5 hx hZ hown (hw _ (List.mem_of_getElem? (i := 27) rfl)) (own_wS hw) e5 S4 (Nat.le_refl _) (hb hby d1_16) 64 (by decide) (by decide) (by decide) (by decide) (pc' := 18) rfl ?_
  intro a6 T6 h6 vm6 X6 e6 E6 S6 hZ hown
  have A6_o0 := Exa.ext E6 A4_o0
  have F6_o0_earliestStart := Fld.ext E6 F4_o0_earliestStart
  have F6_o0_latestEnd := Fld.ext E6 F4_o0_latestEnd
  have F6_o0_duration := Fld.ext E6 F4_o0_duration
  have F6_o0_demand := Fld.ext E6 F4_o0_demand
  have z6 : n0 ≤ h6.size := Nat.le_trans z4 E6.1
  have K6 := Keep.ext K4 E6
  refine w_iload_n X6 hx (hb hby d1_18) rfl (pc' := 19) rfl ?_
  rcases hq7 : f4_0 x3 with _ | v7
  · rw [hq7] at hr; cases hr
  rw [hq7] at hr
  dsimp only [Option.bind] at hr
  refine w_callS X6 hx hZ (argsL := [(.ref a6), (.int x3)]) (rest := []) 0 hown e6 (hw _ (List.mem_of_getElem? (i := 23) rfl)) (hw _ (List.mem_of_getElem? (i := 24) rfl)) (hw _ (List.mem_of_getElem? (i := 3) rfl)) (hw _ (List.mem_of_getElem? (i := 25) rfl)) (by decide) (rm4 l Z a0 hw [] a6 x3 h6 n0 z6 v7 hq7) (by decide) (by decide) (by rw [hml]; rfl) (lenOf pd_1 rfl) rfl (Nat.le_refl _) (hb hby d1_19) (pc' := 22) rfl (by decide) (by decide) ?_
  rintro _ T7 L7 X7 ⟨rfl, N7, e7⟩
  replace X7 : Stand p l e ({ frames := 2, cells := 8, slots := 272, locals := 24 } : Room) (s.setVm vm6) m args below meth c T7 ((((locs ++ L1) ++ L3) ++ L5) ++ L7) 6 204 := X7
  have M7 := Fr.app M5 N7
  dsimp only [Option.toList, List.cons_append, List.nil_append]
  refine w_ldcS X7 hx hZ hown (hw _ (List.mem_of_getElem? (i := 28) rfl)) (own_wS hw) e7 S6 (Nat.le_refl _) (hb hby d1_22) 64 (by decide) (by decide) (by decide) (by decide) (pc' := 24) rfl ?_
  intro a8 T8 h8 vm8 X8 e8 E8 S8 hZ hown
  have A8_o0 := Exa.ext E8 A6_o0
  have F8_o0_earliestStart := Fld.ext E8 F6_o0_earliestStart
  have F8_o0_latestEnd := Fld.ext E8 F6_o0_latestEnd
  have F8_o0_duration := Fld.ext E8 F6_o0_duration
  have F8_o0_demand := Fld.ext E8 F6_o0_demand
  have z8 : n0 ≤ h8.size := Nat.le_trans z6 E8.1
  have K8 := Keep.ext K6 E8
  refine w_iload X8 hx (hb hby d1_24) rfl (pc' := 26) rfl ?_
  rcases hq9 : f4_0 x4 with _ | v9
  · rw [hq9] at hr; cases hr
  rw [hq9] at hr
  dsimp only [Option.bind] at hr
  refine w_callS X8 hx hZ (argsL := [(.ref a8), (.int x4)]) (rest := []) 0 hown e8 (hw _ (List.mem_of_getElem? (i := 23) rfl)) (hw _ (List.mem_of_getElem? (i := 24) rfl)) (hw _ (List.mem_of_getElem? (i := 3) rfl)) (hw _ (List.mem_of_getElem? (i := 25) rfl)) (by decide) (rm4 l Z a0 hw [] a8 x4 h8 n0 z8 v9 hq9) (by decide) (by decide) (by rw [hml]; rfl) (lenOf pd_1 rfl) rfl (Nat.le_refl _) (hb hby d1_26) (pc' := 29) rfl (by decide) (by decide) ?_
  rintro _ T9 L9 X9 ⟨rfl, N9, e9⟩
  replace X9 : Stand p l e ({ frames := 2, cells := 8, slots := 272, locals := 24 } : Room) (s.setVm vm8) m args below meth c T9 (((((locs ++ L1) ++ L3) ++ L5) ++ L7) ++ L9) 8 272 := X9
  have M9 := Fr.app M7 N9
  dsimp only [Option.toList, List.cons_append, List.nil_append]
  refine w_aload_n X9 hx (hb hby d1_29) rfl rfl (pc' := 30) rfl ?_
  refine w_iload_n X9 hx (hb hby d1_30) rfl (pc' := 31) rfl ?_
  refine w_putF X9 hx hZ hown e9 (hw _ (List.mem_of_getElem? (i := 29) rfl)) Via.refl F8_o0_earliestStart A8_o0 (Or.inr ⟨(hw _ (List.mem_of_getElem? (i := 30) rfl)), rfl, hnm⟩) (hw _ (List.mem_of_getElem? (i := 2) rfl)) (ty := .int) (by decide) rfl rfl (hb hby d1_31) (pc' := 34) rfl ?_
  intro T10 h10 X10 e10 W10
  have F10_o0_earliestStart := Fld.same W10 F8_o0_earliestStart
  have A10_o0 := Exa.wr W10 A8_o0
  have F10_o0_latestEnd := Fld.other W10 F8_o0_latestEnd (Or.inr (slot_ne (Or.inr (hw _ (List.mem_of_getElem? (i := 32) rfl))) (Or.inr (hw _ (List.mem_of_getElem? (i := 30) rfl))) (by decide) (t := .int) (t' := .int) (by decide) (by decide)))
  have F10_o0_duration := Fld.other W10 F8_o0_duration (Or.inr (slot_ne (Or.inr (hw _ (List.mem_of_getElem? (i := 34) rfl))) (Or.inr (hw _ (List.mem_of_getElem? (i := 30) rfl))) (by decide) (t := .int) (t' := .int) (by decide) (by decide)))
  have F10_o0_demand := Fld.other W10 F8_o0_demand (Or.inr (slot_ne (Or.inr (hw _ (List.mem_of_getElem? (i := 36) rfl))) (Or.inr (hw _ (List.mem_of_getElem? (i := 30) rfl))) (by decide) (t := .int) (t' := .int) (by decide) (by decide)))
  have N10 := Fr.snoc X10 M9 g_o0
  have z10 : n0 ≤ h10.size := Nat.le_trans z8 (Keep.of_wr W10).1
  have y10 := Nat.le_trans (Nat.le_refl _) (Keep.of_wr W10).1
  have K10 := Keep.wr K8 W10 (Or.inl (by simp))
  refine w_aload_n X10 hx (hb hby d1_34) rfl rfl (pc' := 35) rfl ?_
  refine w_iload_n X10 hx (hb hby d1_35) rfl (pc' := 36) rfl ?_
  refine w_putF X10 hx hZ hown e10 (hw _ (List.mem_of_getElem? (i := 31) rfl)) Via.refl F10_o0_latestEnd A10_o0 (Or.inr ⟨(hw _ (List.mem_of_getElem? (i := 32) rfl)), rfl, hnm⟩) (hw _ (List.mem_of_getElem? (i := 2) rfl)) (ty := .int) (by decide) rfl rfl (hb hby d1_36) (pc' := 39) rfl ?_
  intro T11 h11 X11 e11 W11
  have F11_o0_latestEnd := Fld.same W11 F10_o0_latestEnd
  have A11_o0 := Exa.wr W11 A10_o0
  have F11_o0_earliestStart := Fld.other W11 F10_o0_earliestStart (Or.inr (slot_ne (Or.inr (hw _ (List.mem_of_getElem? (i := 30) rfl))) (Or.inr (hw _ (List.mem_of_getElem? (i := 32) rfl))) (by decide) (t := .int) (t' := .int) (by decide) (by decide)))
  have F11_o0_duration := Fld.other W11 F10_o0_duration (Or.inr (slot_ne (Or.inr (hw _ (List.mem_of_getElem? (i := 34) rfl))) (Or.inr (hw _ (List.mem_of_getElem? (i := 32) rfl))) (by decide) (t := .int) (t' := .int) (by decide) (by decide)))
  have F11_o0_demand := Fld.other W11 F10_o0_demand (Or.inr (slot_ne (Or.inr (hw _ (List.mem_of_getElem? (i := 36) rfl))) (Or.inr (hw _ (List.mem_of_getElem? (i := 32) rfl))) (by decide) (t := .int) (t' := .int) (by decide) (by decide)))
  have N11 := Fr.snoc X11 N10 g_o0
  have z11 : n0 ≤ h11.size := Nat.le_trans z10 (Keep.of_wr W11).1
  have y11 := Nat.le_trans y10 (Keep.of_wr W11).1
  have K11 := Keep.wr K10 W11 (Or.inl (by simp))
  refine w_aload_n X11 hx (hb hby d1_39) rfl rfl (pc' := 40) rfl ?_
  refine w_iload_n X11 hx (hb hby d1_40) rfl (pc' := 41) rfl ?_
  refine w_putF X11 hx hZ hown e11 (hw _ (List.mem_of_getElem? (i := 33) rfl)) Via.refl F11_o0_duration A11_o0 (Or.inr ⟨(hw _ (List.mem_of_getElem? (i := 34) rfl)), rfl, hnm⟩) (hw _ (List.mem_of_getElem? (i := 2) rfl)) (ty := .int) (by decide) rfl rfl (hb hby d1_41) (pc' := 44) rfl ?_
  intro T12 h12 X12 e12 W12
  have F12_o0_duration := Fld.same W12 F11_o0_duration
  have A12_o0 := Exa.wr W12 A11_o0
  have F12_o0_earliestStart := Fld.other W12 F11_o0_earliestStart (Or.inr (slot_ne (Or.inr (hw _ (List.mem_of_getElem? (i := 30) rfl))) (Or.inr (hw _ (List.mem_of_getElem? (i := 34) rfl))) (by decide) (t := .int) (t' := .int) (by decide) (by decide)))
  have F12_o0_latestEnd := Fld.other W12 F11_o0_latestEnd (Or.inr (slot_ne (Or.inr (hw _ (List.mem_of_getElem? (i := 32) rfl))) (Or.inr (hw _ (List.mem_of_getElem? (i := 34) rfl))) (by decide) (t := .int) (t' := .int) (by decide) (by decide)))
  have F12_o0_demand := Fld.other W12 F11_o0_demand (Or.inr (slot_ne (Or.inr (hw _ (List.mem_of_getElem? (i := 36) rfl))) (Or.inr (hw _ (List.mem_of_getElem? (i := 34) rfl))) (by decide) (t := .int) (t' := .int) (by decide) (by decide)))
  have N12 := Fr.snoc X12 N11 g_o0
  have z12 : n0 ≤ h12.size := Nat.le_trans z11 (Keep.of_wr W12).1
  have y12 := Nat.le_trans y11 (Keep.of_wr W12).1
  have K12 := Keep.wr K11 W12 (Or.inl (by simp))
  refine w_aload_n X12 hx (hb hby d1_44) rfl rfl (pc' := 45) rfl ?_
  refine w_iload X12 hx (hb hby d1_45) rfl (pc' := 47) rfl ?_
  refine w_putF X12 hx hZ hown e12 (hw _ (List.mem_of_getElem? (i := 35) rfl)) Via.refl F12_o0_demand A12_o0 (Or.inr ⟨(hw _ (List.mem_of_getElem? (i := 36) rfl)), rfl, hnm⟩) (hw _ (List.mem_of_getElem? (i := 2) rfl)) (ty := .int) (by decide) rfl rfl (hb hby d1_47) (pc' := 50) rfl ?_
  intro T13 h13 X13 e13 W13
  have F13_o0_demand := Fld.same W13 F12_o0_demand
  have A13_o0 := Exa.wr W13 A12_o0
  have F13_o0_earliestStart := Fld.other W13 F12_o0_earliestStart (Or.inr (slot_ne (Or.inr (hw _ (List.mem_of_getElem? (i := 30) rfl))) (Or.inr (hw _ (List.mem_of_getElem? (i := 36) rfl))) (by decide) (t := .int) (t' := .int) (by decide) (by decide)))
  have F13_o0_latestEnd := Fld.other W13 F12_o0_latestEnd (Or.inr (slot_ne (Or.inr (hw _ (List.mem_of_getElem? (i := 32) rfl))) (Or.inr (hw _ (List.mem_of_getElem? (i := 36) rfl))) (by decide) (t := .int) (t' := .int) (by decide) (by decide)))
  have F13_o0_duration := Fld.other W13 F12_o0_duration (Or.inr (slot_ne (Or.inr (hw _ (List.mem_of_getElem? (i := 34) rfl))) (Or.inr (hw _ (List.mem_of_getElem? (i := 36) rfl))) (by decide) (t := .int) (t' := .int) (by decide) (by decide)))
  have N13 := Fr.snoc X13 N12 g_o0
  have z13 : n0 ≤ h13.size := Nat.le_trans z12 (Keep.of_wr W13).1
  have y13 := Nat.le_trans y12 (Keep.of_wr W13).1
  have K13 := Keep.wr K12 W13 (Or.inl (by simp))
  obtain rfl : (x1, x2, x3, x4) = r := Option.some.inj hr
  exact w_ret X13 S8 (by rw [e13]; exact y13) hx hlk hret (hb hby d1_50) (by rw [e13]; exact ⟨rfl, N13, K13, A13_o0, F13_o0_earliestStart, F13_o0_latestEnd, F13_o0_duration, F13_o0_demand⟩) (by decide) (by decide)
theorem pn_1 : plainName "com/example/ridgeline/ridgeline/filtering/Task" = true := by first | (simp [plainName, overriddenIn]; done) | decide +kernel
theorem ef_1 (m : MethodId) (o0 : Addr) (x1 : Int32) (x2 : Int32) (x3 : Int32) (x4 : Int32) : entryFrame m #[(.ref o0), (.int x1), (.int x2), (.int x3), (.int x4)] 5 = (mkF m 0 #[.val (.ref o0), .val (.int x1), .val (.int x2), .val (.int x3), .val (.int x4)] []) := by first | (simp [entryFrame, mkF, argsToLocals, Value.category]; done) | rfl
def Qd1 (Z : State) (h0 : Heap) (n0 : Nat) (o0 : Addr) (x1 : Int32) (x2 : Int32) (x3 : Int32) (x4 : Int32) (u_earliestStart : Value) (u_latestEnd : Value) (u_duration : Value) (u_demand : Value) (r : Int32 × Int32 × Int32 × Int32) : Option Value → Heap → List Loc → Prop := (fun v h L => v = none ∧ Fr n0 L ∧ Keep h0 h [o0] ∧ Exa Z h o0 "com/example/ridgeline/ridgeline/filtering/Task" ∧ Fld Z h o0 "com/example/ridgeline/ridgeline/filtering/Task" "earliestStart" "I" (.int r.1) ∧ Fld Z h o0 "com/example/ridgeline/ridgeline/filtering/Task" "latestEnd" "I" (.int r.2.1) ∧ Fld Z h o0 "com/example/ridgeline/ridgeline/filtering/Task" "duration" "I" (.int r.2.2.1) ∧ Fld Z h o0 "com/example/ridgeline/ridgeline/filtering/Task" "demand" "I" (.int r.2.2.2))
set_option maxRecDepth 65536 in
set_option maxHeartbeats 40000000 in
theorem rm1 (l : Launch) (Z : State) (a0 : Array Value) (hw : ∀ d ∈ tables_1, d.before a0 Z = true) (ws : List Jvm.Cond) (o0 : Addr) (x1 : Int32) (x2 : Int32) (x3 : Int32) (x4 : Int32) (u_earliestStart : Value) (u_latestEnd : Value) (u_duration : Value) (u_demand : Value) (h0 : Heap) (n0 : Nat) (Z0 : n0 ≤ h0.size) (E_o0 : Exa Z h0 o0 "com/example/ridgeline/ridgeline/filtering/Task") (F_o0_earliestStart : Fld Z h0 o0 "com/example/ridgeline/ridgeline/filtering/Task" "earliestStart" "I" u_earliestStart) (F_o0_latestEnd : Fld Z h0 o0 "com/example/ridgeline/ridgeline/filtering/Task" "latestEnd" "I" u_latestEnd) (F_o0_duration : Fld Z h0 o0 "com/example/ridgeline/ridgeline/filtering/Task" "duration" "I" u_duration) (F_o0_demand : Fld Z h0 o0 "com/example/ridgeline/ridgeline/filtering/Task" "demand" "I" u_demand) (g_o0 : n0 ≤ o0) (r : Int32 × Int32 × Int32 × Int32) (hr : f1_0 x1 x2 x3 x4 = some r) :
    MetFree l (⟨"com/example/ridgeline/ridgeline/filtering/Task", "<init>", "(IIII)V"⟩ : MethodName) (head1 (Jvm.Cond.code (⟨"com/example/ridgeline/ridgeline/filtering/Task", "<init>", "(IIII)V"⟩ : MethodName) prog_46_method_1_code 5 none :: ws) ({ frames := 2, cells := 8, slots := 272, locals := 24 } : Room)) (fun a U => a = #[(.ref o0), (.int x1), (.int x2), (.int x3), (.int x4)] ∧ Z.Warmed39 U.vm ∧ U.heap = h0) (fun _ _ _ _ _ => True) (fun _ U o U' => ∃ v L, o = .returned v ∧ (Qd1 Z h0 n0 o0 x1 x2 x3 x4 u_earliestStart u_latestEnd u_duration u_demand r) v U'.heap L ∧ ReturnedEndW U o U' L ({ frames := 2, cells := 8, slots := 272, locals := 24 } : Room).cells ({ frames := 2, cells := 8, slots := 272, locals := 24 } : Room).slots) := by
  refine MetFree.of_bodySF (plainFor_of_name pn_1) hisR ?_
  intro p e s m args below meth c s₁ Bd hml0 hP hK
  obtain ⟨rfl, hZ, hh⟩ := hP
  have e0 : s₁.heap = h0 := by rw [← hh, Bd.state]; rfl
  exact OGW.cast (ef_1 m o0 x1 x2 x3 x4) (b1_0 Bd.exec hZ hw Bd.bytes hml0 (findClass_of_methodNamed Bd.named) (name_of_methodNamed Bd.named Bd.method).1 Bd.returns Bd.notSynchronized o0 u_earliestStart u_latestEnd u_duration u_demand x1 x2 x3 x4 r (Stand.of_body Bd) e0 (Fr.nil n0) Z0 ((State.WarmedH.refl s).since 0) (Nat.zero_le _) (Keep.refl h0 [o0]) E_o0 F_o0_earliestStart F_o0_latestEnd F_o0_duration F_o0_demand g_o0 hr)
theorem d5_0 : decode prog_46_method_3_code 0 = .ok (.aload_n 0, 1) := by decide +kernel
theorem d5_1 : decode prog_46_method_3_code 1 = .ok (.getfield 21, 3) := by decide +kernel
theorem d5_4 : decode prog_46_method_3_code 4 = .ok (.i2l, 1) := by decide +kernel
theorem d5_5 : decode prog_46_method_3_code 5 = .ok (.aload_n 0, 1) := by decide +kernel
theorem d5_6 : decode prog_46_method_3_code 6 = .ok (.getfield 28, 3) := by decide +kernel
theorem d5_9 : decode prog_46_method_3_code 9 = .ok (.i2l, 1) := by decide +kernel
theorem d5_10 : decode prog_46_method_3_code 10 = .ok (.ladd, 1) := by decide +kernel
theorem d5_11 : decode prog_46_method_3_code 11 = .ok (.lreturn, 1) := by decide +kernel
def f5_0 (u_earliestStart : Int32) (u_duration : Int32) : Option (Int64) := (some ((u_earliestStart.toInt64) + (u_duration.toInt64)))
set_option maxRecDepth 65536 in
set_option maxHeartbeats 40000000 in
theorem b5_0 {p : Program} {l : Launch} {e : Env} {s : State} {m : MethodId} {args : Array Value} {below : List Frame} {meth : Method} {c : Code} {Z : State} {a0 : Array Value} {h0 : Heap} {n0 : Nat} (hx : p.tables.exec = Jvm.exec) (hZ : Z.Warmed39 s.vm) (hw : ∀ d ∈ tables_1, d.before a0 Z = true) (hby : c.code = prog_46_method_3_code) (hml : c.maxLocals = 1) (hown : s.vm.findClass "com/example/ridgeline/ridgeline/filtering/Task" = some m.cls) (hnm : meth.name = "earliestEnd") (hret : meth.sig.returnType = some .long) (hlk : meth.locks = false) (o0 : Addr) {T : State} {locs : List Loc} (u_earliestStart : Int32) (u_duration : Int32) (r : Int64) (X : Stand p l e ({ frames := 0, cells := 0, slots := 0, locals := 0 } : Room) s m args below meth c T locs 0 0) (eT : T.heap = h0) (N : Fr n0 locs) (Z0 : n0 ≤ h0.size) (E_o0 : Exa Z h0 o0 "com/example/ridgeline/ridgeline/filtering/Task") (F_o0_earliestStart : Fld Z h0 o0 "com/example/ridgeline/ridgeline/filtering/Task" "earliestStart" "I" (.int u_earliestStart)) (F_o0_duration : Fld Z h0 o0 "com/example/ridgeline/ridgeline/filtering/Task" "duration" "I" (.int u_duration)) (hr : f5_0 u_earliestStart u_duration = some r) :
    OG p e below s (fun v h L => v = (some (.long r)) ∧ Fr n0 L ∧ h = h0) 0 0 T (mkF m 0 #[.val (.ref o0)] []) := by
  have hr : (some ((u_earliestStart.toInt64) + (u_duration.toInt64))) = some r := hr
  refine o_aload_n X hx (hb hby d5_0) rfl rfl (pc' := 1) rfl ?_
  refine o_getF X hx hZ hown eT (hw _ (List.mem_of_getElem? (i := 29) rfl)) Via.refl F_o0_earliestStart (hb hby d5_1) (pc' := 4) rfl ?_
  intro T1 X1 e1
  refine o_i2l X1 hx (hb hby d5_4) (pc' := 5) rfl ?_
  refine o_aload_n X1 hx (hb hby d5_5) rfl rfl (pc' := 6) rfl ?_
  refine o_getF X1 hx hZ hown e1 (hw _ (List.mem_of_getElem? (i := 33) rfl)) Via.refl F_o0_duration (hb hby d5_6) (pc' := 9) rfl ?_
  intro T2 X2 e2
  refine o_i2l X2 hx (hb hby d5_9) (pc' := 10) rfl ?_
  refine o_ladd X2 hx (hb hby d5_10) (pc' := 11) rfl ?_
  obtain rfl : ((u_earliestStart.toInt64) + (u_duration.toInt64)) = r := Option.some.inj hr
  exact o_retJ X2 hx hlk hret (hb hby d5_11) ⟨rfl, N, e2⟩ (by decide) (by decide)
theorem pn_5 : plainName "com/example/ridgeline/ridgeline/filtering/Task" = true := by first | (simp [plainName, overriddenIn]; done) | decide +kernel
theorem ef_5 (m : MethodId) (o0 : Addr) : entryFrame m #[(.ref o0)] 1 = (mkF m 0 #[.val (.ref o0)] []) := by first | (simp [entryFrame, mkF, argsToLocals, Value.category]; done) | rfl
def Qd5 (Z : State) (h0 : Heap) (n0 : Nat) (o0 : Addr) (u_earliestStart : Int32) (u_duration : Int32) (r : Int64) : Option Value → Heap → List Loc → Prop := (fun v h L => v = (some (.long r)) ∧ Fr n0 L ∧ h = h0)
set_option maxRecDepth 65536 in
set_option maxHeartbeats 40000000 in
theorem rm5 (l : Launch) (Z : State) (a0 : Array Value) (hw : ∀ d ∈ tables_1, d.before a0 Z = true) (ws : List Jvm.Cond) (o0 : Addr) (u_earliestStart : Int32) (u_duration : Int32) (h0 : Heap) (n0 : Nat) (Z0 : n0 ≤ h0.size) (E_o0 : Exa Z h0 o0 "com/example/ridgeline/ridgeline/filtering/Task") (F_o0_earliestStart : Fld Z h0 o0 "com/example/ridgeline/ridgeline/filtering/Task" "earliestStart" "I" (.int u_earliestStart)) (F_o0_duration : Fld Z h0 o0 "com/example/ridgeline/ridgeline/filtering/Task" "duration" "I" (.int u_duration)) (r : Int64) (hr : f5_0 u_earliestStart u_duration = some r) :
    MetFree l (⟨"com/example/ridgeline/ridgeline/filtering/Task", "earliestEnd", "()J"⟩ : MethodName) (head1 (Jvm.Cond.code (⟨"com/example/ridgeline/ridgeline/filtering/Task", "earliestEnd", "()J"⟩ : MethodName) prog_46_method_3_code 1 (some .long) :: ws) ({ frames := 0, cells := 0, slots := 0, locals := 0 } : Room)) (fun a U => a = #[(.ref o0)] ∧ Z.Warmed39 U.vm ∧ U.heap = h0) (fun _ _ _ _ _ => True) (fun _ U o U' => ∃ v L, o = .returned v ∧ (Qd5 Z h0 n0 o0 u_earliestStart u_duration r) v U'.heap L ∧ FrameEnd U o U' L ({ frames := 0, cells := 0, slots := 0, locals := 0 } : Room).cells ({ frames := 0, cells := 0, slots := 0, locals := 0 } : Room).slots) := by
  refine MetFree.of_bodySF (plainFor_of_name pn_5) hisR ?_
  intro p e s m args below meth c s₁ Bd hml0 hP hK
  obtain ⟨rfl, hZ, hh⟩ := hP
  have e0 : s₁.heap = h0 := by rw [← hh, Bd.state]; rfl
  exact OG.cast (ef_5 m o0) (b5_0 Bd.exec hZ hw Bd.bytes hml0 (findClass_of_methodNamed Bd.named) (name_of_methodNamed Bd.named Bd.method).1 Bd.returns Bd.notSynchronized o0 u_earliestStart u_duration r (Stand.of_body Bd) e0 (Fr.nil n0) Z0 E_o0 F_o0_earliestStart F_o0_duration hr)
theorem d6_0 : decode prog_46_method_9_code 0 = .ok (.aload_n 0, 1) := by decide +kernel
theorem d6_1 : decode prog_46_method_9_code 1 = .ok (.getfield 21, 3) := by decide +kernel
theorem d6_4 : decode prog_46_method_9_code 4 = .ok (.ireturn, 1) := by decide +kernel
def f6_0 (u_earliestStart : Int32) : Option (Int32) := (some u_earliestStart)
set_option maxRecDepth 65536 in
set_option maxHeartbeats 40000000 in
theorem b6_0 {p : Program} {l : Launch} {e : Env} {s : State} {m : MethodId} {args : Array Value} {below : List Frame} {meth : Method} {c : Code} {Z : State} {a0 : Array Value} {h0 : Heap} {n0 : Nat} (hx : p.tables.exec = Jvm.exec) (hZ : Z.Warmed39 s.vm) (hw : ∀ d ∈ tables_1, d.before a0 Z = true) (hby : c.code = prog_46_method_9_code) (hml : c.maxLocals = 1) (hown : s.vm.findClass "com/example/ridgeline/ridgeline/filtering/Task" = some m.cls) (hnm : meth.name = "earliestStart") (hret : meth.sig.returnType = some .int) (hlk : meth.locks = false) (o0 : Addr) {T : State} {locs : List Loc} (u_earliestStart : Int32) (r : Int32) (X : Stand p l e ({ frames := 0, cells := 0, slots := 0, locals := 0 } : Room) s m args below meth c T locs 0 0) (eT : T.heap = h0) (N : Fr n0 locs) (Z0 : n0 ≤ h0.size) (E_o0 : Exa Z h0 o0 "com/example/ridgeline/ridgeline/filtering/Task") (F_o0_earliestStart : Fld Z h0 o0 "com/example/ridgeline/ridgeline/filtering/Task" "earliestStart" "I" (.int u_earliestStart)) (hr : f6_0 u_earliestStart = some r) :
    OG p e below s (fun v h L => v = (some (.int r)) ∧ Fr n0 L ∧ h = h0) 0 0 T (mkF m 0 #[.val (.ref o0)] []) := by
  have hr : (some u_earliestStart) = some r := hr
  refine o_aload_n X hx (hb hby d6_0) rfl rfl (pc' := 1) rfl ?_
  refine o_getF X hx hZ hown eT (hw _ (List.mem_of_getElem? (i := 29) rfl)) Via.refl F_o0_earliestStart (hb hby d6_1) (pc' := 4) rfl ?_
  intro T1 X1 e1
  obtain rfl : u_earliestStart = r := Option.some.inj hr
  exact o_retI X1 hx hlk hret (hb hby d6_4) ⟨rfl, N, e1⟩ (by decide) (by decide)
theorem pn_6 : plainName "com/example/ridgeline/ridgeline/filtering/Task" = true := by first | (simp [plainName, overriddenIn]; done) | decide +kernel
theorem ef_6 (m : MethodId) (o0 : Addr) : entryFrame m #[(.ref o0)] 1 = (mkF m 0 #[.val (.ref o0)] []) := by first | (simp [entryFrame, mkF, argsToLocals, Value.category]; done) | rfl
def Qd6 (Z : State) (h0 : Heap) (n0 : Nat) (o0 : Addr) (u_earliestStart : Int32) (r : Int32) : Option Value → Heap → List Loc → Prop := (fun v h L => v = (some (.int r)) ∧ Fr n0 L ∧ h = h0)
set_option maxRecDepth 65536 in
set_option maxHeartbeats 40000000 in
theorem rm6 (l : Launch) (Z : State) (a0 : Array Value) (hw : ∀ d ∈ tables_1, d.before a0 Z = true) (ws : List Jvm.Cond) (o0 : Addr) (u_earliestStart : Int32) (h0 : Heap) (n0 : Nat) (Z0 : n0 ≤ h0.size) (E_o0 : Exa Z h0 o0 "com/example/ridgeline/ridgeline/filtering/Task") (F_o0_earliestStart : Fld Z h0 o0 "com/example/ridgeline/ridgeline/filtering/Task" "earliestStart" "I" (.int u_earliestStart)) (r : Int32) (hr : f6_0 u_earliestStart = some r) :
    MetFree l (⟨"com/example/ridgeline/ridgeline/filtering/Task", "earliestStart", "()I"⟩ : MethodName) (head1 (Jvm.Cond.code (⟨"com/example/ridgeline/ridgeline/filtering/Task", "earliestStart", "()I"⟩ : MethodName) prog_46_method_9_code 1 (some .int) :: ws) ({ frames := 0, cells := 0, slots := 0, locals := 0 } : Room)) (fun a U => a = #[(.ref o0)] ∧ Z.Warmed39 U.vm ∧ U.heap = h0) (fun _ _ _ _ _ => True) (fun _ U o U' => ∃ v L, o = .returned v ∧ (Qd6 Z h0 n0 o0 u_earliestStart r) v U'.heap L ∧ FrameEnd U o U' L ({ frames := 0, cells := 0, slots := 0, locals := 0 } : Room).cells ({ frames := 0, cells := 0, slots := 0, locals := 0 } : Room).slots) := by
  refine MetFree.of_bodySF (plainFor_of_name pn_6) hisR ?_
  intro p e s m args below meth c s₁ Bd hml0 hP hK
  obtain ⟨rfl, hZ, hh⟩ := hP
  have e0 : s₁.heap = h0 := by rw [← hh, Bd.state]; rfl
  exact OG.cast (ef_6 m o0) (b6_0 Bd.exec hZ hw Bd.bytes hml0 (findClass_of_methodNamed Bd.named) (name_of_methodNamed Bd.named Bd.method).1 Bd.returns Bd.notSynchronized o0 u_earliestStart r (Stand.of_body Bd) e0 (Fr.nil n0) Z0 E_o0 F_o0_earliestStart hr)
theorem d7_0 : decode prog_46_method_11_code 0 = .ok (.aload_n 0, 1) := by decide +kernel
theorem d7_1 : decode prog_46_method_11_code 1 = .ok (.getfield 28, 3) := by decide +kernel
theorem d7_4 : decode prog_46_method_11_code 4 = .ok (.ireturn, 1) := by decide +kernel
def f7_0 (u_duration : Int32) : Option (Int32) := (some u_duration)
set_option maxRecDepth 65536 in
set_option maxHeartbeats 40000000 in
theorem b7_0 {p : Program} {l : Launch} {e : Env} {s : State} {m : MethodId} {args : Array Value} {below : List Frame} {meth : Method} {c : Code} {Z : State} {a0 : Array Value} {h0 : Heap} {n0 : Nat} (hx : p.tables.exec = Jvm.exec) (hZ : Z.Warmed39 s.vm) (hw : ∀ d ∈ tables_1, d.before a0 Z = true) (hby : c.code = prog_46_method_11_code) (hml : c.maxLocals = 1) (hown : s.vm.findClass "com/example/ridgeline/ridgeline/filtering/Task" = some m.cls) (hnm : meth.name = "duration") (hret : meth.sig.returnType = some .int) (hlk : meth.locks = false) (o0 : Addr) {T : State} {locs : List Loc} (u_duration : Int32) (r : Int32) (X : Stand p l e ({ frames := 0, cells := 0, slots := 0, locals := 0 } : Room) s m args below meth c T locs 0 0) (eT : T.heap = h0) (N : Fr n0 locs) (Z0 : n0 ≤ h0.size) (E_o0 : Exa Z h0 o0 "com/example/ridgeline/ridgeline/filtering/Task") (F_o0_duration : Fld Z h0 o0 "com/example/ridgeline/ridgeline/filtering/Task" "duration" "I" (.int u_duration)) (hr : f7_0 u_duration = some r) :
    OG p e below s (fun v h L => v = (some (.int r)) ∧ Fr n0 L ∧ h = h0) 0 0 T (mkF m 0 #[.val (.ref o0)] []) := by
  have hr : (some u_duration) = some r := hr
  refine o_aload_n X hx (hb hby d7_0) rfl rfl (pc' := 1) rfl ?_
  refine o_getF X hx hZ hown eT (hw _ (List.mem_of_getElem? (i := 33) rfl)) Via.refl F_o0_duration (hb hby d7_1) (pc' := 4) rfl ?_
  intro T1 X1 e1
  obtain rfl : u_duration = r := Option.some.inj hr
  exact o_retI X1 hx hlk hret (hb hby d7_4) ⟨rfl, N, e1⟩ (by decide) (by decide)
theorem pn_7 : plainName "com/example/ridgeline/ridgeline/filtering/Task" = true := by first | (simp [plainName, overriddenIn]; done) | decide +kernel
theorem ef_7 (m : MethodId) (o0 : Addr) : entryFrame m #[(.ref o0)] 1 = (mkF m 0 #[.val (.ref o0)] []) := by first | (simp [entryFrame, mkF, argsToLocals, Value.category]; done) | rfl
def Qd7 (Z : State) (h0 : Heap) (n0 : Nat) (o0 : Addr) (u_duration : Int32) (r : Int32) : Option Value → Heap → List Loc → Prop := (fun v h L => v = (some (.int r)) ∧ Fr n0 L ∧ h = h0)
set_option maxRecDepth 65536 in
set_option maxHeartbeats 40000000 in
theorem rm7 (l : Launch) (Z : State) (a0 : Array Value) (hw : ∀ d ∈ tables_1, d.before a0 Z = true) (ws : List Jvm.Cond) (o0 : Addr) (u_duration : Int32) (h0 : Heap) (n0 : Nat) (Z0 : n0 ≤ h0.size) (E_o0 : Exa Z h0 o0 "com/example/ridgeline/ridgeline/filtering/Task") (F_o0_duration : Fld Z h0 o0 "com/example/ridgeline/ridgeline/filtering/Task" "duration" "I" (.int u_duration)) (r : Int32) (hr : f7_0 u_duration = some r) :
    MetFree l (⟨"com/example/ridgeline/ridgeline/filtering/Task", "duration", "()I"⟩ : MethodName) (head1 (Jvm.Cond.code (⟨"com/example/ridgeline/ridgeline/filtering/Task", "duration", "()I"⟩ : MethodName) prog_46_method_11_code 1 (some .int) :: ws) ({ frames := 0, cells := 0, slots := 0, locals := 0 } : Room)) (fun a U => a = #[(.ref o0)] ∧ Z.Warmed39 U.vm ∧ U.heap = h0) (fun _ _ _ _ _ => True) (fun _ U o U' => ∃ v L, o = .returned v ∧ (Qd7 Z h0 n0 o0 u_duration r) v U'.heap L ∧ FrameEnd U o U' L ({ frames := 0, cells := 0, slots := 0, locals := 0 } : Room).cells ({ frames := 0, cells := 0, slots := 0, locals := 0 } : Room).slots) := by
  refine MetFree.of_bodySF (plainFor_of_name pn_7) hisR ?_
  intro p e s m args below meth c s₁ Bd hml0 hP hK
  obtain ⟨rfl, hZ, hh⟩ := hP
  have e0 : s₁.heap = h0 := by rw [← hh, Bd.state]; rfl
  exact OG.cast (ef_7 m o0) (b7_0 Bd.exec hZ hw Bd.bytes hml0 (findClass_of_methodNamed Bd.named) (name_of_methodNamed Bd.named Bd.method).1 Bd.returns Bd.notSynchronized o0 u_duration r (Stand.of_body Bd) e0 (Fr.nil n0) Z0 E_o0 F_o0_duration hr)
theorem pd_2 : parseMethodDescriptor "(IIII)V" = some ⟨[.int, .int, .int, .int], none⟩ := by decide +kernel
theorem pd_3 : parseMethodDescriptor "()J" = some ⟨[], some .long⟩ := by decide +kernel
theorem pd_4 : parseMethodDescriptor "()I" = some ⟨[], some .int⟩ := by decide +kernel
def f0_133 (x11 : Int32) (x12 : Int32) (x13 : Int32) (t0 : Int32) : Option (Int32) := (if x11 = (0 : Int32) then (some (0 : Int32)) else (if x12 = (0 : Int32) then (some (0 : Int32)) else (if x13 = (0 : Int32) then (some (0 : Int32)) else (if t0 = (0 : Int32) then (some (0 : Int32)) else (some (1 : Int32))))))
set_option maxRecDepth 65536 in
set_option maxHeartbeats 40000000 in
theorem b0_133 {p : Program} {l : Launch} {e : Env} {s : State} {m : MethodId} {args : Array Value} {below : List Frame} {meth : Method} {c : Code} {Z : State} {a0 : Array Value} {n0 : Nat} {vm : Vm} (hx : p.tables.exec = Jvm.exec) (hZ : Z.Warmed39 vm) (hw : ∀ d ∈ tables_1, d.before a0 Z = true) (hby : c.code = code) (hml : c.maxLocals = 15) (hown : vm.findClass "com/example/ridgeline/ridgeline/filtering/TaskEarliestEndPinLaw" = some m.cls) (hnm : meth.name = "law") (hret : meth.sig.returnType = some .boolean) (hlk : meth.locks = false)  {T : State} {locs : List Loc} {h : Heap} {k0 : Nat} (d0 : Int32) (d1 : Int32) (d2 : Int32) (d3 : Int32) (d4 : Int32) (d5 : Int32) (d6 : Int32) (d7 : Int32) (d8 : Addr) (d9 : Int64) (x11 : Int32) (x12 : Int32) (x13 : Int32) (t0 : Int32) (r : Int32) (X : Stand p l e room_1 (s.setVm vm) m args below meth c T locs 9 276) (eT : T.heap = h) (N : Fr n0 locs) (hsz : n0 ≤ h.size) (hS : s.Since vm k0) (hk : k0 ≤ h.size) (hr : f0_133 x11 x12 x13 t0 = some r) :
    OGW p e below s (fun v h L => v = (some (.int r)) ∧ Fr n0 L) 24 4224 T (mkF m 133 #[.val (.int d0), .val (.int d1), .val (.int d2), .val (.int d3), .val (.int d4), .val (.int d5), .val (.int d6), .val (.int d7), .val (.ref d8), .val (.long d9), .second, .val (.int x11), .val (.int x12), .val (.int x13), .unset] [(.int t0)]) := by
  have hr : (if x11 = (0 : Int32) then (some (0 : Int32)) else (if x12 = (0 : Int32) then (some (0 : Int32)) else (if x13 = (0 : Int32) then (some (0 : Int32)) else (if t0 = (0 : Int32) then (some (0 : Int32)) else (some (1 : Int32)))))) = some r := hr
  refine w_istore X hx (hb hby at_133) #[.val (.int d0), .val (.int d1), .val (.int d2), .val (.int d3), .val (.int d4), .val (.int d5), .val (.int d6), .val (.int d7), .val (.ref d8), .val (.long d9), .second, .val (.int x11), .val (.int x12), .val (.int x13), .val (.int t0)] rfl (pc' := 135) rfl ?_
  refine w_iload X hx (hb hby at_135) rfl (pc' := 137) rfl ?_
  by_cases hc10 : x11 = (0 : Int32)
  · rw [if_pos hc10] at hr
    refine w_ifYes X hx (hb hby at_137) (z_teq hc10).1 (pc' := 159) (by decide) (by decide) ?_
    refine w_iconst X hx (hb hby at_159) (0 : Int32) rfl (pc' := 160) rfl ?_
    obtain rfl : (0 : Int32) = r := Option.some.inj hr
    exact w_retN X hS (by rw [eT]; exact hk) hx hlk (t := .boolean) (by simp) hret (hb hby at_160) rfl ⟨rfl, N⟩ (by decide) (by decide)
  · rw [if_neg hc10] at hr
    refine w_ifNo X hx (hb hby at_137) (z_feq hc10).1 (pc' := 140) rfl ?_
    refine w_iload X hx (hb hby at_140) rfl (pc' := 142) rfl ?_
    by_cases hc11 : x12 = (0 : Int32)
    · rw [if_pos hc11] at hr
      refine w_ifYes X hx (hb hby at_142) (z_teq hc11).1 (pc' := 159) (by decide) (by decide) ?_
      refine w_iconst X hx (hb hby at_159) (0 : Int32) rfl (pc' := 160) rfl ?_
      obtain rfl : (0 : Int32) = r := Option.some.inj hr
      exact w_retN X hS (by rw [eT]; exact hk) hx hlk (t := .boolean) (by simp) hret (hb hby at_160) rfl ⟨rfl, N⟩ (by decide) (by decide)
    · rw [if_neg hc11] at hr
      refine w_ifNo X hx (hb hby at_142) (z_feq hc11).1 (pc' := 145) rfl ?_
      refine w_iload X hx (hb hby at_145) rfl (pc' := 147) rfl ?_
      by_cases hc12 : x13 = (0 : Int32)
      · rw [if_pos hc12] at hr
        refine w_ifYes X hx (hb hby at_147) (z_teq hc12).1 (pc' := 159) (by decide) (by decide) ?_
        refine w_iconst X hx (hb hby at_159) (0 : Int32) rfl (pc' := 160) rfl ?_
        obtain rfl : (0 : Int32) = r := Option.some.inj hr
        exact w_retN X hS (by rw [eT]; exact hk) hx hlk (t := .boolean) (by simp) hret (hb hby at_160) rfl ⟨rfl, N⟩ (by decide) (by decide)
      · rw [if_neg hc12] at hr
        refine w_ifNo X hx (hb hby at_147) (z_feq hc12).1 (pc' := 150) rfl ?_
        refine w_iload X hx (hb hby at_150) rfl (pc' := 152) rfl ?_
        by_cases hc13 : t0 = (0 : Int32)
        · rw [if_pos hc13] at hr
          refine w_ifYes X hx (hb hby at_152) (z_teq hc13).1 (pc' := 159) (by decide) (by decide) ?_
          refine w_iconst X hx (hb hby at_159) (0 : Int32) rfl (pc' := 160) rfl ?_
          obtain rfl : (0 : Int32) = r := Option.some.inj hr
          exact w_retN X hS (by rw [eT]; exact hk) hx hlk (t := .boolean) (by simp) hret (hb hby at_160) rfl ⟨rfl, N⟩ (by decide) (by decide)
        · rw [if_neg hc13] at hr
          refine w_ifNo X hx (hb hby at_152) (z_feq hc13).1 (pc' := 155) rfl ?_
          refine w_iconst X hx (hb hby at_155) (1 : Int32) rfl (pc' := 156) rfl ?_
          refine w_goto X hx (hb hby at_156) (pc' := 160) (by decide) (by decide) ?_
          obtain rfl : (1 : Int32) = r := Option.some.inj hr
          exact w_retN X hS (by rw [eT]; exact hk) hx hlk (t := .boolean) (by simp) hret (hb hby at_160) rfl ⟨rfl, N⟩ (by decide) (by decide)
def f0_117 (x9 : Int64) (x11 : Int32) (x12 : Int32) (t0 : Int32) : Option (Int32) := (if (4294967294 : Int64) < x9 then (f0_133 x11 x12 t0 (0 : Int32)) else (f0_133 x11 x12 t0 (1 : Int32)))
set_option maxRecDepth 65536 in
set_option maxHeartbeats 40000000 in
theorem b0_117 {p : Program} {l : Launch} {e : Env} {s : State} {m : MethodId} {args : Array Value} {below : List Frame} {meth : Method} {c : Code} {Z : State} {a0 : Array Value} {n0 : Nat} {vm : Vm} (hx : p.tables.exec = Jvm.exec) (hZ : Z.Warmed39 vm) (hw : ∀ d ∈ tables_1, d.before a0 Z = true) (hby : c.code = code) (hml : c.maxLocals = 15) (hown : vm.findClass "com/example/ridgeline/ridgeline/filtering/TaskEarliestEndPinLaw" = some m.cls) (hnm : meth.name = "law") (hret : meth.sig.returnType = some .boolean) (hlk : meth.locks = false)  {T : State} {locs : List Loc} {h : Heap} {k0 : Nat} (d0 : Int32) (d1 : Int32) (d2 : Int32) (d3 : Int32) (d4 : Int32) (d5 : Int32) (d6 : Int32) (d7 : Int32) (d8 : Addr) (x9 : Int64) (x11 : Int32) (x12 : Int32) (t0 : Int32) (r : Int32) (X : Stand p l e room_1 (s.setVm vm) m args below meth c T locs 9 276) (eT : T.heap = h) (N : Fr n0 locs) (hsz : n0 ≤ h.size) (hS : s.Since vm k0) (hk : k0 ≤ h.size) (hr : f0_117 x9 x11 x12 t0 = some r) :
    OGW p e below s (fun v h L => v = (some (.int r)) ∧ Fr n0 L) 24 4224 T (mkF m 117 #[.val (.int d0), .val (.int d1), .val (.int d2), .val (.int d3), .val (.int d4), .val (.int d5), .val (.int d6), .val (.int d7), .val (.ref d8), .val (.long x9), .second, .val (.int x11), .val (.int x12), .unset, .unset] [(.int t0)]) := by
  have hr : (if (4294967294 : Int64) < x9 then (f0_133 x11 x12 t0 (0 : Int32)) else (f0_133 x11 x12 t0 (1 : Int32))) = some r := hr
  refine w_istore X hx (hb hby at_117) #[.val (.int d0), .val (.int d1), .val (.int d2), .val (.int d3), .val (.int d4), .val (.int d5), .val (.int d6), .val (.int d7), .val (.ref d8), .val (.long x9), .second, .val (.int x11), .val (.int x12), .val (.int t0), .unset] rfl (pc' := 119) rfl ?_
  refine w_lload X hx (hb hby at_119) rfl (pc' := 121) rfl ?_
  refine w_ldc2Long X hx hZ hown (hb hby at_121) (hw _ (List.mem_of_getElem? (i := 52) rfl)) (pc' := 124) rfl ?_
  refine w_lcmp X hx (hb hby at_124) (pc' := 125) rfl ?_
  by_cases hc9 : (4294967294 : Int64) < x9
  · rw [if_pos hc9] at hr
    refine w_ifYes X hx (hb hby at_125) (l_tgt hc9).1 (pc' := 132) (by decide) (by decide) ?_
    refine w_iconst X hx (hb hby at_132) (0 : Int32) rfl (pc' := 133) rfl ?_
    exact b0_133 hx hZ hw hby hml hown hnm hret hlk d0 d1 d2 d3 d4 d5 d6 d7 d8 x9 x11 x12 t0 (0 : Int32) r X eT N hsz hS hk hr
  · rw [if_neg hc9] at hr
    refine w_ifNo X hx (hb hby at_125) (l_fgt hc9).1 (pc' := 128) rfl ?_
    refine w_iconst X hx (hb hby at_128) (1 : Int32) rfl (pc' := 129) rfl ?_
    refine w_goto X hx (hb hby at_129) (pc' := 133) (by decide) (by decide) ?_
    exact b0_133 hx hZ hw hby hml hown hnm hret hlk d0 d1 d2 d3 d4 d5 d6 d7 d8 x9 x11 x12 t0 (1 : Int32) r X eT N hsz hS hk hr
def f0_116 (x9 : Int64) (x11 : Int32) (x12 : Int32) : Option (Int32) := (f0_117 x9 x11 x12 (0 : Int32))
set_option maxRecDepth 65536 in
set_option maxHeartbeats 40000000 in
theorem b0_116 {p : Program} {l : Launch} {e : Env} {s : State} {m : MethodId} {args : Array Value} {below : List Frame} {meth : Method} {c : Code} {Z : State} {a0 : Array Value} {n0 : Nat} {vm : Vm} (hx : p.tables.exec = Jvm.exec) (hZ : Z.Warmed39 vm) (hw : ∀ d ∈ tables_1, d.before a0 Z = true) (hby : c.code = code) (hml : c.maxLocals = 15) (hown : vm.findClass "com/example/ridgeline/ridgeline/filtering/TaskEarliestEndPinLaw" = some m.cls) (hnm : meth.name = "law") (hret : meth.sig.returnType = some .boolean) (hlk : meth.locks = false)  {T : State} {locs : List Loc} {h : Heap} {k0 : Nat} (d0 : Int32) (d1 : Int32) (d2 : Int32) (d3 : Int32) (d4 : Int32) (d5 : Int32) (d6 : Int32) (d7 : Int32) (d8 : Addr) (x9 : Int64) (x11 : Int32) (x12 : Int32) (r : Int32) (X : Stand p l e room_1 (s.setVm vm) m args below meth c T locs 9 276) (eT : T.heap = h) (N : Fr n0 locs) (hsz : n0 ≤ h.size) (hS : s.Since vm k0) (hk : k0 ≤ h.size) (hr : f0_116 x9 x11 x12 = some r) :
    OGW p e below s (fun v h L => v = (some (.int r)) ∧ Fr n0 L) 24 4224 T (mkF m 116 #[.val (.int d0), .val (.int d1), .val (.int d2), .val (.int d3), .val (.int d4), .val (.int d5), .val (.int d6), .val (.int d7), .val (.ref d8), .val (.long x9), .second, .val (.int x11), .val (.int x12), .unset, .unset] []) := by
  have hr : (f0_117 x9 x11 x12 (0 : Int32)) = some r := hr
  refine w_iconst X hx (hb hby at_116) (0 : Int32) rfl (pc' := 117) rfl ?_
  exact b0_117 hx hZ hw hby hml hown hnm hret hlk d0 d1 d2 d3 d4 d5 d6 d7 d8 x9 x11 x12 (0 : Int32) r X eT N hsz hS hk hr
def f0_92 (x4 : Int32) (x6 : Int32) (x9 : Int64) (x11 : Int32) (t0 : Int32) : Option (Int32) := (if x9 < (x4.toInt64) then (f0_116 x9 x11 t0) else (if x9 < (x6.toInt64) then (f0_116 x9 x11 t0) else (f0_117 x9 x11 t0 (1 : Int32))))
set_option maxRecDepth 65536 in
set_option maxHeartbeats 40000000 in
theorem b0_92 {p : Program} {l : Launch} {e : Env} {s : State} {m : MethodId} {args : Array Value} {below : List Frame} {meth : Method} {c : Code} {Z : State} {a0 : Array Value} {n0 : Nat} {vm : Vm} (hx : p.tables.exec = Jvm.exec) (hZ : Z.Warmed39 vm) (hw : ∀ d ∈ tables_1, d.before a0 Z = true) (hby : c.code = code) (hml : c.maxLocals = 15) (hown : vm.findClass "com/example/ridgeline/ridgeline/filtering/TaskEarliestEndPinLaw" = some m.cls) (hnm : meth.name = "law") (hret : meth.sig.returnType = some .boolean) (hlk : meth.locks = false)  {T : State} {locs : List Loc} {h : Heap} {k0 : Nat} (d0 : Int32) (d1 : Int32) (d2 : Int32) (d3 : Int32) (x4 : Int32) (d5 : Int32) (x6 : Int32) (d7 : Int32) (d8 : Addr) (x9 : Int64) (x11 : Int32) (t0 : Int32) (r : Int32) (X : Stand p l e room_1 (s.setVm vm) m args below meth c T locs 9 276) (eT : T.heap = h) (N : Fr n0 locs) (hsz : n0 ≤ h.size) (hS : s.Since vm k0) (hk : k0 ≤ h.size) (hr : f0_92 x4 x6 x9 x11 t0 = some r) :
    OGW p e below s (fun v h L => v = (some (.int r)) ∧ Fr n0 L) 24 4224 T (mkF m 92 #[.val (.int d0), .val (.int d1), .val (.int d2), .val (.int d3), .val (.int x4), .val (.int d5), .val (.int x6), .val (.int d7), .val (.ref d8), .val (.long x9), .second, .val (.int x11), .unset, .unset, .unset] [(.int t0)]) := by
  have hr : (if x9 < (x4.toInt64) then (f0_116 x9 x11 t0) else (if x9 < (x6.toInt64) then (f0_116 x9 x11 t0) else (f0_117 x9 x11 t0 (1 : Int32)))) = some r := hr
  refine w_istore X hx (hb hby at_92) #[.val (.int d0), .val (.int d1), .val (.int d2), .val (.int d3), .val (.int x4), .val (.int d5), .val (.int x6), .val (.int d7), .val (.ref d8), .val (.long x9), .second, .val (.int x11), .val (.int t0), .unset, .unset] rfl (pc' := 94) rfl ?_
  refine w_lload X hx (hb hby at_94) rfl (pc' := 96) rfl ?_
  refine w_iload X hx (hb hby at_96) rfl (pc' := 98) rfl ?_
  refine w_i2l X hx (hb hby at_98) (pc' := 99) rfl ?_
  refine w_lcmp X hx (hb hby at_99) (pc' := 100) rfl ?_
  by_cases hc8 : x9 < (x4.toInt64)
  · rw [if_pos hc8] at hr
    refine w_ifYes X hx (hb hby at_100) (l_tlt hc8).1 (pc' := 116) (by decide) (by decide) ?_
    exact b0_116 hx hZ hw hby hml hown hnm hret hlk d0 d1 d2 d3 x4 d5 x6 d7 d8 x9 x11 t0 r X eT N hsz hS hk hr
  · rw [if_neg hc8] at hr
    refine w_ifNo X hx (hb hby at_100) (l_flt hc8).1 (pc' := 103) rfl ?_
    refine w_lload X hx (hb hby at_103) rfl (pc' := 105) rfl ?_
    refine w_iload X hx (hb hby at_105) rfl (pc' := 107) rfl ?_
    refine w_i2l X hx (hb hby at_107) (pc' := 108) rfl ?_
    refine w_lcmp X hx (hb hby at_108) (pc' := 109) rfl ?_
    by_cases hc14 : x9 < (x6.toInt64)
    · rw [if_pos hc14] at hr
      refine w_ifYes X hx (hb hby at_109) (l_tlt hc14).1 (pc' := 116) (by decide) (by decide) ?_
      exact b0_116 hx hZ hw hby hml hown hnm hret hlk d0 d1 d2 d3 x4 d5 x6 d7 d8 x9 x11 t0 r X eT N hsz hS hk hr
    · rw [if_neg hc14] at hr
      refine w_ifNo X hx (hb hby at_109) (l_flt hc14).1 (pc' := 112) rfl ?_
      refine w_iconst X hx (hb hby at_112) (1 : Int32) rfl (pc' := 113) rfl ?_
      refine w_goto X hx (hb hby at_113) (pc' := 117) (by decide) (by decide) ?_
      exact b0_117 hx hZ hw hby hml hown hnm hret hlk d0 d1 d2 d3 x4 d5 x6 d7 d8 x9 x11 t0 (1 : Int32) r X eT N hsz hS hk hr
def f0_66 (u_earliestStart_a1 : Int32) (u_latestEnd_a1 : Int32) (u_duration_a1 : Int32) (u_demand_a1 : Int32) (x4 : Int32) (x6 : Int32) (x9 : Int64) (t0 : Int32) : Option (Int32) := (Option.bind (f6_0 u_earliestStart_a1) (fun v5 => (Option.bind (f7_0 u_duration_a1) (fun v6 => (if (x9 - (v5.toInt64)) = (v6.toInt64) then (f0_92 x4 x6 x9 t0 (1 : Int32)) else (f0_92 x4 x6 x9 t0 (0 : Int32)))))))
set_option maxRecDepth 65536 in
set_option maxHeartbeats 40000000 in
theorem b0_66 {p : Program} {l : Launch} {e : Env} {s : State} {m : MethodId} {args : Array Value} {below : List Frame} {meth : Method} {c : Code} {Z : State} {a0 : Array Value} {n0 : Nat} {vm : Vm} (hx : p.tables.exec = Jvm.exec) (hZ : Z.Warmed39 vm) (hw : ∀ d ∈ tables_1, d.before a0 Z = true) (hby : c.code = code) (hml : c.maxLocals = 15) (hown : vm.findClass "com/example/ridgeline/ridgeline/filtering/TaskEarliestEndPinLaw" = some m.cls) (hnm : meth.name = "law") (hret : meth.sig.returnType = some .boolean) (hlk : meth.locks = false)  {T : State} {locs : List Loc} {h : Heap} {k0 : Nat} (a1 : Addr) (u_earliestStart_a1 : Int32) (u_latestEnd_a1 : Int32) (u_duration_a1 : Int32) (u_demand_a1 : Int32) (d0 : Int32) (d1 : Int32) (d2 : Int32) (d3 : Int32) (x4 : Int32) (d5 : Int32) (x6 : Int32) (d7 : Int32) (x9 : Int64) (t0 : Int32) (r : Int32) (X : Stand p l e room_1 (s.setVm vm) m args below meth c T locs 9 276) (eT : T.heap = h) (N : Fr n0 locs) (hsz : n0 ≤ h.size) (hS : s.Since vm k0) (hk : k0 ≤ h.size) (E_a1 : Exa Z h a1 "com/example/ridgeline/ridgeline/filtering/Task") (F_a1_earliestStart : Fld Z h a1 "com/example/ridgeline/ridgeline/filtering/Task" "earliestStart" "I" (.int u_earliestStart_a1)) (F_a1_latestEnd : Fld Z h a1 "com/example/ridgeline/ridgeline/filtering/Task" "latestEnd" "I" (.int u_latestEnd_a1)) (F_a1_duration : Fld Z h a1 "com/example/ridgeline/ridgeline/filtering/Task" "duration" "I" (.int u_duration_a1)) (F_a1_demand : Fld Z h a1 "com/example/ridgeline/ridgeline/filtering/Task" "demand" "I" (.int u_demand_a1)) (g_a1 : n0 ≤ a1) (hr : f0_66 u_earliestStart_a1 u_latestEnd_a1 u_duration_a1 u_demand_a1 x4 x6 x9 t0 = some r) :
    OGW p e below s (fun v h L => v = (some (.int r)) ∧ Fr n0 L) 24 4224 T (mkF m 66 #[.val (.int d0), .val (.int d1), .val (.int d2), .val (.int d3), .val (.int x4), .val (.int d5), .val (.int x6), .val (.int d7), .val (.ref a1), .val (.long x9), .second, .unset, .unset, .unset, .unset] [(.int t0)]) := by
  have hr : (Option.bind (f6_0 u_earliestStart_a1) (fun v5 => (Option.bind (f7_0 u_duration_a1) (fun v6 => (if (x9 - (v5.toInt64)) = (v6.toInt64) then (f0_92 x4 x6 x9 t0 (1 : Int32)) else (f0_92 x4 x6 x9 t0 (0 : Int32))))))) = some r := hr
  refine w_istore X hx (hb hby at_66) #[.val (.int d0), .val (.int d1), .val (.int d2), .val (.int d3), .val (.int x4), .val (.int d5), .val (.int x6), .val (.int d7), .val (.ref a1), .val (.long x9), .second, .val (.int t0), .unset, .unset, .unset] rfl (pc' := 68) rfl ?_
  refine w_lload X hx (hb hby at_68) rfl (pc' := 70) rfl ?_
  refine w_aload X hx (hb hby at_70) rfl rfl (pc' := 72) rfl ?_
  rcases hq5 : f6_0 u_earliestStart_a1 with _ | v5
  · rw [hq5] at hr; cases hr
  rw [hq5] at hr
  dsimp only [Option.bind] at hr
  refine w_virtual X hx hZ (argsL := []) (rest := [(.long x9)]) (a := a1) 2 hown eT (hw _ (List.mem_of_getElem? (i := 42) rfl)) (hw _ (List.mem_of_getElem? (i := 43) rfl)) (hw _ (List.mem_of_getElem? (i := 45) rfl)) (hw _ (List.mem_of_getElem? (i := 44) rfl)) (hw _ (List.mem_of_getElem? (i := 3) rfl)) (hw _ (List.mem_of_getElem? (i := 46) rfl)) (by decide) E_a1 (rm6 l Z a0 hw [] a1 u_earliestStart_a1 h n0 hsz E_a1 F_a1_earliestStart v5 hq5) (by decide) (by decide) (by rw [hml]; rfl) (lenOf pd_4 rfl) rfl (Nat.le_refl _) (hb hby at_72) (pc' := 75) rfl (by decide) (by decide) ?_
  rintro _ T5 L5 X5 ⟨rfl, N5, e5⟩
  replace X5 : Stand p l e room_1 (s.setVm vm) m args below meth c T5 (locs ++ L5) 9 276 := X5
  have M5 := Fr.app N N5
  dsimp only [Option.toList, List.cons_append, List.nil_append]
  refine w_i2l X5 hx (hb hby at_75) (pc' := 76) rfl ?_
  refine w_lsub X5 hx (hb hby at_76) (pc' := 77) rfl ?_
  refine w_aload X5 hx (hb hby at_77) rfl rfl (pc' := 79) rfl ?_
  rcases hq6 : f7_0 u_duration_a1 with _ | v6
  · rw [hq6] at hr; cases hr
  rw [hq6] at hr
  dsimp only [Option.bind] at hr
  refine w_virtual X5 hx hZ (argsL := []) (rest := [(.long (x9 - (v5.toInt64)))]) (a := a1) 2 hown e5 (hw _ (List.mem_of_getElem? (i := 47) rfl)) (hw _ (List.mem_of_getElem? (i := 48) rfl)) (hw _ (List.mem_of_getElem? (i := 50) rfl)) (hw _ (List.mem_of_getElem? (i := 49) rfl)) (hw _ (List.mem_of_getElem? (i := 3) rfl)) (hw _ (List.mem_of_getElem? (i := 51) rfl)) (by decide) E_a1 (rm7 l Z a0 hw [] a1 u_duration_a1 h n0 hsz E_a1 F_a1_duration v6 hq6) (by decide) (by decide) (by rw [hml]; rfl) (lenOf pd_4 rfl) rfl (Nat.le_refl _) (hb hby at_79) (pc' := 82) rfl (by decide) (by decide) ?_
  rintro _ T6 L6 X6 ⟨rfl, N6, e6⟩
  replace X6 : Stand p l e room_1 (s.setVm vm) m args below meth c T6 ((locs ++ L5) ++ L6) 9 276 := X6
  have M6 := Fr.app M5 N6
  dsimp only [Option.toList, List.cons_append, List.nil_append]
  refine w_i2l X6 hx (hb hby at_82) (pc' := 83) rfl ?_
  refine w_lcmp X6 hx (hb hby at_83) (pc' := 84) rfl ?_
  by_cases hc7 : (x9 - (v5.toInt64)) = (v6.toInt64)
  · rw [if_pos hc7] at hr
    refine w_ifNo X6 hx (hb hby at_84) (l_teq hc7).2 (pc' := 87) rfl ?_
    refine w_iconst X6 hx (hb hby at_87) (1 : Int32) rfl (pc' := 88) rfl ?_
    refine w_goto X6 hx (hb hby at_88) (pc' := 92) (by decide) (by decide) ?_
    exact b0_92 hx hZ hw hby hml hown hnm hret hlk d0 d1 d2 d3 x4 d5 x6 d7 a1 x9 t0 (1 : Int32) r X6 e6 M6 hsz hS hk hr
  · rw [if_neg hc7] at hr
    refine w_ifYes X6 hx (hb hby at_84) (l_feq hc7).2 (pc' := 91) (by decide) (by decide) ?_
    refine w_iconst X6 hx (hb hby at_91) (0 : Int32) rfl (pc' := 92) rfl ?_
    exact b0_92 hx hZ hw hby hml hown hnm hret hlk d0 d1 d2 d3 x4 d5 x6 d7 a1 x9 t0 (0 : Int32) r X6 e6 M6 hsz hS hk hr
def f0_0 (x0 : Int32) (x1 : Int32) (x2 : Int32) (x3 : Int32) : Option (Int32) := (Option.bind (f1_0 (x0 &&& (2147483647 : Int32)) (x1 &&& (2147483647 : Int32)) (x2 &&& (2147483647 : Int32)) (x3 &&& (2147483647 : Int32))) (fun v2 => (Option.bind (f5_0 v2.1 v2.2.2.1) (fun v3 => (if (v3 - ((x0 &&& (2147483647 : Int32)).toInt64)) = ((x2 &&& (2147483647 : Int32)).toInt64) then (f0_66 v2.1 v2.2.1 v2.2.2.1 v2.2.2.2 (x0 &&& (2147483647 : Int32)) (x2 &&& (2147483647 : Int32)) v3 (1 : Int32)) else (f0_66 v2.1 v2.2.1 v2.2.2.1 v2.2.2.2 (x0 &&& (2147483647 : Int32)) (x2 &&& (2147483647 : Int32)) v3 (0 : Int32)))))))
set_option maxRecDepth 65536 in
set_option maxHeartbeats 40000000 in
theorem b0_0 {p : Program} {l : Launch} {e : Env} {s : State} {m : MethodId} {args : Array Value} {below : List Frame} {meth : Method} {c : Code} {Z : State} {a0 : Array Value} {n0 : Nat} {vm : Vm} (hx : p.tables.exec = Jvm.exec) (hZ : Z.Warmed39 vm) (hw : ∀ d ∈ tables_1, d.before a0 Z = true) (hby : c.code = code) (hml : c.maxLocals = 15) (hown : vm.findClass "com/example/ridgeline/ridgeline/filtering/TaskEarliestEndPinLaw" = some m.cls) (hnm : meth.name = "law") (hret : meth.sig.returnType = some .boolean) (hlk : meth.locks = false)  {T : State} {locs : List Loc} {h : Heap} {k0 : Nat} (x0 : Int32) (x1 : Int32) (x2 : Int32) (x3 : Int32) (r : Int32) (X : Stand p l e room_1 (s.setVm vm) m args below meth c T locs 0 0) (eT : T.heap = h) (N : Fr n0 locs) (hsz : n0 ≤ h.size) (hS : s.Since vm k0) (hk : k0 ≤ h.size) (hr : f0_0 x0 x1 x2 x3 = some r) :
    OGW p e below s (fun v h L => v = (some (.int r)) ∧ Fr n0 L) 24 4224 T (mkF m 0 #[.val (.int x0), .val (.int x1), .val (.int x2), .val (.int x3), .unset, .unset, .unset, .unset, .unset, .unset, .unset, .unset, .unset, .unset, .unset] []) := by
  have hr : (Option.bind (f1_0 (x0 &&& (2147483647 : Int32)) (x1 &&& (2147483647 : Int32)) (x2 &&& (2147483647 : Int32)) (x3 &&& (2147483647 : Int32))) (fun v2 => (Option.bind (f5_0 v2.1 v2.2.2.1) (fun v3 => (if (v3 - ((x0 &&& (2147483647 : Int32)).toInt64)) = ((x2 &&& (2147483647 : Int32)).toInt64) then (f0_66 v2.1 v2.2.1 v2.2.2.1 v2.2.2.2 (x0 &&& (2147483647 : Int32)) (x2 &&& (2147483647 : Int32)) v3 (1 : Int32)) else (f0_66 v2.1 v2.2.1 v2.2.2.1 v2.2.2.2 (x0 &&& (2147483647 : Int32)) (x2 &&& (2147483647 : Int32)) v3 (0 : Int32))))))) = some r := hr
  refine w_iload_n X hx (hb hby at_0) rfl (pc' := 1) rfl ?_
  refine w_ldcInt X hx hZ hown (hb hby at_1) (hw _ (List.mem_of_getElem? (i := 0) rfl)) (pc' := 3) rfl ?_
  refine w_iand X hx (hb hby at_3) (pc' := 4) rfl ?_
  refine w_istore X hx (hb hby at_4) #[.val (.int x0), .val (.int x1), .val (.int x2), .val (.int x3), .val (.int (x0 &&& (2147483647 : Int32))), .unset, .unset, .unset, .unset, .unset, .unset, .unset, .unset, .unset, .unset] rfl (pc' := 6) rfl ?_
  refine w_iload_n X hx (hb hby at_6) rfl (pc' := 7) rfl ?_
  refine w_ldcInt X hx hZ hown (hb hby at_7) (hw _ (List.mem_of_getElem? (i := 0) rfl)) (pc' := 9) rfl ?_
  refine w_iand X hx (hb hby at_9) (pc' := 10) rfl ?_
  refine w_istore X hx (hb hby at_10) #[.val (.int x0), .val (.int x1), .val (.int x2), .val (.int x3), .val (.int (x0 &&& (2147483647 : Int32))), .val (.int (x1 &&& (2147483647 : Int32))), .unset, .unset, .unset, .unset, .unset, .unset, .unset, .unset, .unset] rfl (pc' := 12) rfl ?_
  refine w_iload_n X hx (hb hby at_12) rfl (pc' := 13) rfl ?_
  refine w_ldcInt X hx hZ hown (hb hby at_13) (hw _ (List.mem_of_getElem? (i := 0) rfl)) (pc' := 15) rfl ?_
  refine w_iand X hx (hb hby at_15) (pc' := 16) rfl ?_
  refine w_istore X hx (hb hby at_16) #[.val (.int x0), .val (.int x1), .val (.int x2), .val (.int x3), .val (.int (x0 &&& (2147483647 : Int32))), .val (.int (x1 &&& (2147483647 : Int32))), .val (.int (x2 &&& (2147483647 : Int32))), .unset, .unset, .unset, .unset, .unset, .unset, .unset, .unset] rfl (pc' := 18) rfl ?_
  refine w_iload_n X hx (hb hby at_18) rfl (pc' := 19) rfl ?_
  refine w_ldcInt X hx hZ hown (hb hby at_19) (hw _ (List.mem_of_getElem? (i := 0) rfl)) (pc' := 21) rfl ?_
  refine w_iand X hx (hb hby at_21) (pc' := 22) rfl ?_
  refine w_istore X hx (hb hby at_22) #[.val (.int x0), .val (.int x1), .val (.int x2), .val (.int x3), .val (.int (x0 &&& (2147483647 : Int32))), .val (.int (x1 &&& (2147483647 : Int32))), .val (.int (x2 &&& (2147483647 : Int32))), .val (.int (x3 &&& (2147483647 : Int32))), .unset, .unset, .unset, .unset, .unset, .unset, .unset] rfl (pc' := 24) rfl ?_
  refine w_new X hx hZ hown eT (hw _ (List.mem_of_getElem? (i := 1) rfl)) (hw _ (List.mem_of_getElem? (i := 2) rfl)) (hw _ (List.mem_of_getElem? (i := 3) rfl)) (hb hby at_24) (pc' := 27) rfl (by decide) (by decide) ?_
  intro T1 h1 a1 X1 e1 q1 E1 A1 D1
  have g1 : n0 ≤ a1 := Nat.le_trans hsz (Nat.le_of_eq q1.symm)
  have z1 : n0 ≤ h1.size := Nat.le_trans hsz E1.1
  have y1 := Nat.le_trans hk E1.1
  have F1_earliestStart : Fld Z h1 a1 "com/example/ridgeline/ridgeline/filtering/Task" "earliestStart" "I" (.int (0 : Int32)) := D1 (Or.inr (hw _ (List.mem_of_getElem? (i := 30) rfl))) (ty := .int) (by decide)
  have F1_latestEnd : Fld Z h1 a1 "com/example/ridgeline/ridgeline/filtering/Task" "latestEnd" "I" (.int (0 : Int32)) := D1 (Or.inr (hw _ (List.mem_of_getElem? (i := 32) rfl))) (ty := .int) (by decide)
  have F1_duration : Fld Z h1 a1 "com/example/ridgeline/ridgeline/filtering/Task" "duration" "I" (.int (0 : Int32)) := D1 (Or.inr (hw _ (List.mem_of_getElem? (i := 34) rfl))) (ty := .int) (by decide)
  have F1_demand : Fld Z h1 a1 "com/example/ridgeline/ridgeline/filtering/Task" "demand" "I" (.int (0 : Int32)) := D1 (Or.inr (hw _ (List.mem_of_getElem? (i := 36) rfl))) (ty := .int) (by decide)
  refine w_dup X1 hx (hb hby at_27) rfl (pc' := 28) rfl ?_
  refine w_iload X1 hx (hb hby at_28) rfl (pc' := 30) rfl ?_
  refine w_iload X1 hx (hb hby at_30) rfl (pc' := 32) rfl ?_
  refine w_iload X1 hx (hb hby at_32) rfl (pc' := 34) rfl ?_
  refine w_iload X1 hx (hb hby at_34) rfl (pc' := 36) rfl ?_
  rcases hq2 : f1_0 (x0 &&& (2147483647 : Int32)) (x1 &&& (2147483647 : Int32)) (x2 &&& (2147483647 : Int32)) (x3 &&& (2147483647 : Int32)) with _ | v2
  · rw [hq2] at hr; cases hr
  rw [hq2] at hr
  dsimp only [Option.bind] at hr
  refine w_specialW X1 hx hZ (argsL := [(.int (x0 &&& (2147483647 : Int32))), (.int (x1 &&& (2147483647 : Int32))), (.int (x2 &&& (2147483647 : Int32))), (.int (x3 &&& (2147483647 : Int32)))]) (rest := [(.ref a1)]) (a := a1) 1 rfl hown e1 hS y1 (hw _ (List.mem_of_getElem? (i := 4) rfl)) (hw _ (List.mem_of_getElem? (i := 5) rfl)) (hw _ (List.mem_of_getElem? (i := 3) rfl)) (hw _ (List.mem_of_getElem? (i := 6) rfl)) (by decide) (rm1 l Z a0 hw [] a1 (x0 &&& (2147483647 : Int32)) (x1 &&& (2147483647 : Int32)) (x2 &&& (2147483647 : Int32)) (x3 &&& (2147483647 : Int32)) (.int (0 : Int32)) (.int (0 : Int32)) (.int (0 : Int32)) (.int (0 : Int32)) h1 n0 z1 A1 F1_earliestStart F1_latestEnd F1_duration F1_demand g1 v2 hq2) (by decide) (by decide) (by rw [hml]; rfl) (lenOf pd_2 rfl) rfl (Nat.le_refl _) (hb hby at_36) (pc' := 39) rfl (by decide) (by decide) ?_
  rintro _ T2 L2 vm2 X2 ⟨rfl, N2, K2, B2, F2_earliestStart, F2_latestEnd, F2_duration, F2_demand⟩ S2 hZ hown
  replace X2 : Stand p l e room_1 (s.setVm vm2) m args below meth c T2 (locs ++ L2) 9 276 := X2
  have M2 := Fr.app N N2
  dsimp only [Option.toList, List.cons_append, List.nil_append]
  have A2_a1 := Exa.keep A1 K2
  have z2 : n0 ≤ T2.heap.size := Nat.le_trans z1 K2.1
  refine w_astore X2 hx (hb hby at_39) rfl #[.val (.int x0), .val (.int x1), .val (.int x2), .val (.int x3), .val (.int (x0 &&& (2147483647 : Int32))), .val (.int (x1 &&& (2147483647 : Int32))), .val (.int (x2 &&& (2147483647 : Int32))), .val (.int (x3 &&& (2147483647 : Int32))), .val (.ref a1), .unset, .unset, .unset, .unset, .unset, .unset] rfl (pc' := 41) rfl ?_
  refine w_aload X2 hx (hb hby at_41) rfl rfl (pc' := 43) rfl ?_
  rcases hq3 : f5_0 v2.1 v2.2.2.1 with _ | v3
  · rw [hq3] at hr; cases hr
  rw [hq3] at hr
  dsimp only [Option.bind] at hr
  refine w_virtual X2 hx hZ (argsL := []) (rest := []) (a := a1) 0 hown (rfl : T2.heap = T2.heap) (hw _ (List.mem_of_getElem? (i := 37) rfl)) (hw _ (List.mem_of_getElem? (i := 38) rfl)) (hw _ (List.mem_of_getElem? (i := 40) rfl)) (hw _ (List.mem_of_getElem? (i := 39) rfl)) (hw _ (List.mem_of_getElem? (i := 3) rfl)) (hw _ (List.mem_of_getElem? (i := 41) rfl)) (by decide) B2 (rm5 l Z a0 hw [] a1 v2.1 v2.2.2.1 T2.heap n0 z2 B2 F2_earliestStart F2_duration v3 hq3) (by decide) (by decide) (by rw [hml]; rfl) (lenOf pd_3 rfl) rfl (Nat.le_refl _) (hb hby at_43) (pc' := 46) rfl (by decide) (by decide) ?_
  rintro _ T3 L3 X3 ⟨rfl, N3, e3⟩
  replace X3 : Stand p l e room_1 (s.setVm vm2) m args below meth c T3 ((locs ++ L2) ++ L3) 9 276 := X3
  have M3 := Fr.app M2 N3
  dsimp only [Option.toList, List.cons_append, List.nil_append]
  refine w_lstore X3 hx (hb hby at_46) #[.val (.int x0), .val (.int x1), .val (.int x2), .val (.int x3), .val (.int (x0 &&& (2147483647 : Int32))), .val (.int (x1 &&& (2147483647 : Int32))), .val (.int (x2 &&& (2147483647 : Int32))), .val (.int (x3 &&& (2147483647 : Int32))), .val (.ref a1), .val (.long v3), .second, .unset, .unset, .unset, .unset] rfl (pc' := 48) rfl ?_
  refine w_lload X3 hx (hb hby at_48) rfl (pc' := 50) rfl ?_
  refine w_iload X3 hx (hb hby at_50) rfl (pc' := 52) rfl ?_
  refine w_i2l X3 hx (hb hby at_52) (pc' := 53) rfl ?_
  refine w_lsub X3 hx (hb hby at_53) (pc' := 54) rfl ?_
  refine w_iload X3 hx (hb hby at_54) rfl (pc' := 56) rfl ?_
  refine w_i2l X3 hx (hb hby at_56) (pc' := 57) rfl ?_
  refine w_lcmp X3 hx (hb hby at_57) (pc' := 58) rfl ?_
  by_cases hc4 : (v3 - ((x0 &&& (2147483647 : Int32)).toInt64)) = ((x2 &&& (2147483647 : Int32)).toInt64)
  · rw [if_pos hc4] at hr
    refine w_ifNo X3 hx (hb hby at_58) (l_teq hc4).2 (pc' := 61) rfl ?_
    refine w_iconst X3 hx (hb hby at_61) (1 : Int32) rfl (pc' := 62) rfl ?_
    refine w_goto X3 hx (hb hby at_62) (pc' := 66) (by decide) (by decide) ?_
    exact b0_66 hx hZ hw hby hml hown hnm hret hlk a1 v2.1 v2.2.1 v2.2.2.1 v2.2.2.2 x0 x1 x2 x3 (x0 &&& (2147483647 : Int32)) (x1 &&& (2147483647 : Int32)) (x2 &&& (2147483647 : Int32)) (x3 &&& (2147483647 : Int32)) v3 (1 : Int32) r X3 e3 M3 z2 S2 (Nat.le_refl _) B2 F2_earliestStart F2_latestEnd F2_duration F2_demand g1 hr
  · rw [if_neg hc4] at hr
    refine w_ifYes X3 hx (hb hby at_58) (l_feq hc4).2 (pc' := 65) (by decide) (by decide) ?_
    refine w_iconst X3 hx (hb hby at_65) (0 : Int32) rfl (pc' := 66) rfl ?_
    exact b0_66 hx hZ hw hby hml hown hnm hret hlk a1 v2.1 v2.2.1 v2.2.2.1 v2.2.2.2 x0 x1 x2 x3 (x0 &&& (2147483647 : Int32)) (x1 &&& (2147483647 : Int32)) (x2 &&& (2147483647 : Int32)) (x3 &&& (2147483647 : Int32)) v3 (0 : Int32) r X3 e3 M3 z2 S2 (Nat.le_refl _) B2 F2_earliestStart F2_latestEnd F2_duration F2_demand g1 hr
theorem own_max (x : Int64) : 0 ≤ (x &&& (9223372036854775807 : Int64)).toInt := by
  have : (x &&& (9223372036854775807 : Int64)).toBitVec.msb = false := by
    rw [Int64.toBitVec_and, BitVec.msb_and, show (9223372036854775807 : Int64).toBitVec.msb = false by decide, Bool.and_false]
  rw [← Int64.toInt_toBitVec, BitVec.toInt_eq_msb_cond, this]; simp
theorem own_ladd (a b : Int64) : ((a + b).toInt = a.toInt + b.toInt ∨ (a + b).toInt = a.toInt + b.toInt + 2^64 ∨ (a + b).toInt = a.toInt + b.toInt - 2^64) ∧ -2^63 ≤ (a + b).toInt ∧ (a + b).toInt < 2^63 := by
  refine ⟨?_, (a+b).le_toInt, (a+b).toInt_lt⟩
  rw [Int64.toInt_add, Int.bmod_def]; have := a.toInt_lt; have := b.toInt_lt; have := a.le_toInt; have := b.le_toInt; omega
theorem own_lsub (a b : Int64) : ((a - b).toInt = a.toInt - b.toInt ∨ (a - b).toInt = a.toInt - b.toInt + 2^64 ∨ (a - b).toInt = a.toInt - b.toInt - 2^64) ∧ -2^63 ≤ (a - b).toInt ∧ (a - b).toInt < 2^63 := by
  refine ⟨?_, (a-b).le_toInt, (a-b).toInt_lt⟩
  rw [Int64.toInt_sub, Int.bmod_def]; have := a.toInt_lt; have := b.toInt_lt; have := a.le_toInt; have := b.le_toInt; omega
theorem own_nn (x : Int32) : 0 ≤ (x &&& 2147483647).toInt := by
  have : (x &&& (2147483647 : Int32)).toBitVec.msb = false := by
    rw [Int32.toBitVec_and, BitVec.msb_and, show (2147483647 : Int32).toBitVec.msb = false by decide, Bool.and_false]
  rw [← Int32.toInt_toBitVec, BitVec.toInt_eq_msb_cond, this]; simp
theorem own_k (c : Int32) : c.toInt64.toInt = c.toInt := by simp
theorem law_true (x0 x1 x2 x3 : Int32) : f0_0 x0 x1 x2 x3 = some 1 := by
  have n0 := own_nn x0; have n1 := own_nn x1; have n2 := own_nn x2; have n3 := own_nn x3
  unfold f0_0
  generalize (x0 &&& 2147483647) = a at *
  generalize (x1 &&& 2147483647) = b at *
  generalize (x2 &&& 2147483647) = c at *
  generalize (x3 &&& 2147483647) = d at *
  have k0 : (0 : Int32).toInt = 0 := rfl
  have g : ∀ y : Int32, 0 ≤ y.toInt → f4_0 y = some () := fun y hy => by
    unfold f4_0; rw [if_pos (by rw [Int32.lt_iff_toInt_lt, k0]; omega)]
  have e1 : f1_0 a b c d = some (a, b, c, d) := by
    unfold f1_0 f2_0; simp only [g _ n0, g _ n1, g _ n2, g _ n3, Option.bind_some]
  rw [e1]
  unfold f5_0 f0_66 f6_0 f7_0
  simp only [Option.bind_some]
  have ka := own_k a; have kc := own_k c
  have la := a.toInt_lt; have lc := c.toInt_lt
  have s1 := own_ladd a.toInt64 c.toInt64
  have s2 := own_lsub (a.toInt64 + c.toInt64) a.toInt64
  have q : a.toInt64 + c.toInt64 - a.toInt64 = c.toInt64 := by rw [← Int64.toInt_inj]; omega
  rw [if_pos q, if_pos q]
  have k4 : (4294967294 : Int64).toInt = 4294967294 := rfl
  unfold f0_92
  rw [if_neg (by rw [Int64.lt_iff_toInt_lt]; omega), if_neg (by rw [Int64.lt_iff_toInt_lt]; omega)]
  unfold f0_117
  rw [if_neg (by rw [Int64.lt_iff_toInt_lt, k4]; omega)]
  rfl

theorem pn_0 : plainName "com/example/ridgeline/ridgeline/filtering/TaskEarliestEndPinLaw" = true := by first | (simp [plainName, overriddenIn]; done) | decide +kernel
theorem ef_0 (m : MethodId) (x0 : Int32) (x1 : Int32) (x2 : Int32) (x3 : Int32) : entryFrame m #[(.int x0), (.int x1), (.int x2), (.int x3)] maxLocals = (mkF m 0 #[.val (.int x0), .val (.int x1), .val (.int x2), .val (.int x3), .unset, .unset, .unset, .unset, .unset, .unset, .unset, .unset, .unset, .unset, .unset] []) := by first | (simp [entryFrame, mkF, argsToLocals, Value.category, maxLocals]; done) | rfl
def Qd0 (Z : State) (h0 : Heap) (n0 : Nat) (x0 : Int32) (x1 : Int32) (x2 : Int32) (x3 : Int32) : Option Value → Heap → List Loc → Prop := (fun v h L => v = (some (.int (1 : Int32))) ∧ Fr n0 L)
set_option maxRecDepth 65536 in
set_option maxHeartbeats 40000000 in
theorem rm0 (l : Launch) (Z : State) (a0 : Array Value) (hw : ∀ d ∈ tables_1, d.before a0 Z = true) (ws : List Jvm.Cond) (x0 : Int32) (x1 : Int32) (x2 : Int32) (x3 : Int32) (h0 : Heap) (n0 : Nat) (Z0 : n0 ≤ h0.size) :
    MetFree l x (head1 (Jvm.Cond.code x code maxLocals ret :: ws) room_1) (fun a U => a = #[(.int x0), (.int x1), (.int x2), (.int x3)] ∧ Z.Warmed39 U.vm ∧ U.heap = h0) (fun _ _ _ _ _ => True) (fun _ U o U' => ∃ v L, o = .returned v ∧ (Qd0 Z h0 n0 x0 x1 x2 x3) v U'.heap L ∧ ReturnedEndW U o U' L room_1.cells room_1.slots) := by
  refine MetFree.of_bodySF (plainFor_of_name pn_0) hisR ?_
  intro p e s m args below meth c s₁ Bd hml0 hP hK
  obtain ⟨rfl, hZ, hh⟩ := hP
  have e0 : s₁.heap = h0 := by rw [← hh, Bd.state]; rfl
  exact OGW.cast (ef_0 m x0 x1 x2 x3) (b0_0 Bd.exec hZ hw Bd.bytes hml0 (findClass_of_methodNamed Bd.named) (name_of_methodNamed Bd.named Bd.method).1 Bd.returns Bd.notSynchronized x0 x1 x2 x3 (1 : Int32) (Stand.of_body Bd) e0 (Fr.nil n0) Z0 ((State.WarmedH.refl s).since 0) (Nat.zero_le _) (law_true _ _ _ _))
set_option maxRecDepth 65536 in
set_option maxHeartbeats 40000000 in
theorem comes_1 {Post : Tables → Env → Array Value → State → Outcome → State → Prop} (hpost : ∀ tb e args s v u, (limb_1_1.after args s (.returned v) u = true ∧ limb_1_2.after args s (.returned v) u = true ∧ True) → ReturnedEndW s (.returned v) u (Jvm.fieldLocs frame_1_writes args s ++ Jvm.arrayLocs frame_1_arrays args s ++ Jvm.staticLocs frame_1_statics s) 24 4224 → Post tb e args s (.returned v) u) :
    ArmFor flags0 classFile x code maxLocals ret World_1 tables_1 room_1 Calls_1 rest_1 Pre_1 Post := by
  intro l hfl _ _ p e ha hc hk s m args below hf hA hF happ hP
  obtain ⟨hcalls, hrest, hpre⟩ := hP
  obtain ⟨-, -, -, hnamed, -, -, -, hat⟩ := (Spec.applies_iff hf).mp happ
  obtain ⟨hg, hn⟩ := and_e (Cond.before_iff.mp (show (Jvm.Cond.and given_1 narrow_1).before args s = true from hpre))
  obtain ⟨g0, r0⟩ := and_e hg
  obtain ⟨g1, r1⟩ := and_e r0
  obtain ⟨g2, r2⟩ := and_e r1
  obtain ⟨g3, r3⟩ := and_e r2
  obtain ⟨w0, w1, w2, w3, rfl⟩ : ∃ w0 w1 w2 w3 : Value, args = #[w0, w1, w2, w3] := by
    have hs : args.size = 4 := by simpa [Cond.value, given_1] using g0
    obtain ⟨L⟩ := args
    match L, hs with
    | [w0, w1, w2, w3], _ => exact ⟨w0, w1, w2, w3, rfl⟩
  have hw := fun d (hd : d ∈ tables_1) => atoms_spec (ws := Jvm.Cond.code x code maxLocals ret :: tables_1) hat d (List.mem_cons_of_mem _ hd)
  obtain ⟨i0, ei0⟩ := is_v g1
  obtain rfl : w0 = (.int i0) := Option.some.inj ei0
  obtain ⟨i1, ei1⟩ := is_v g2
  obtain rfl : w1 = (.int i1) := Option.some.inj ei1
  obtain ⟨i2, ei2⟩ := is_v g3
  obtain rfl : w2 = (.int i2) := Option.some.inj ei2
  obtain ⟨i3, ei3⟩ := is_v r3
  obtain rfl : w3 = (.int i3) := Option.some.inj ei3
  obtain ⟨n, o, h1, h2, h3, _, L, rfl, ⟨rfl, N⟩, hq⟩ := rm0 l s _ hw tables_1 i0 i1 i2 i3 s.heap s.heap.size (Nat.le_refl _) p e ha hc hk s m _ below hf ((Spec.applies_iff_loose hf).mp happ).1 ⟨rfl, State.Warmed39.refl s, rfl⟩ trivial
  exact ⟨n, _, h1, h2, h3, hpost _ _ _ _ _ _ ⟨Cond.after_iff.mpr rfl, Cond.after_iff.mpr (eq_i res_at (Term.int_eval (1)) rfl), trivial⟩ ⟨hq.1, hq.2.1, hq.2.2.1, (hq.2.2.2.sift fun y hy => Or.inr (N y hy)).mono (by decide) (by decide)⟩⟩
theorem main_1_1 : Claimed_1_1 := comes_1 fun _ _ _ _ _ _ h hF => ⟨h.1, hF⟩
theorem main_1_2 : Claimed_1_2 := comes_1 fun _ _ _ _ _ _ h hF => ⟨h.2.1, hF⟩
end Jvm.Pilot.@@N@@
namespace Jvm.Pilot.@@N@@
open Jvm Jvm.ClassFile Sem Op Lib Jvm.Free Jvm.Stand Jvm.Pilot.@@N@@.Jvm.D
/-! MADE BY PROGRAM (witnessworld.py) out of the Statement's table words and the real class files: 15 classes; the members and pool entries that the words name. The judged class is class 1, her method 1. -/
namespace start1
open Jvm.ClassFile
def u (s : String) : CpInfo := .utf8 (stringToUtf16 s)
/-- a pool by its gaps: so many unusable entries, then the entry; so many at the end -/
def gap : Nat → List CpInfo → List CpInfo
  | 0, r => r
  | n + 1, r => .unusable :: gap n r
def poolList (es : List (Nat × CpInfo)) (last : Nat) : List CpInfo := es.foldr (fun e r => gap e.1 (e.2 :: r)) (gap last [])
def pool (es : List (Nat × CpInfo)) (last : Nat) : Array CpInfo := ⟨poolList es last⟩
def fileOf (pool : Array CpInfo) (this : Nat) (attrs : Array Attribute := #[]) (ms : Array MethodInfo := #[]) (fl : Nat := 33) (sup : Nat := 0) (ifs : Array Nat := #[]) (fds : Array FieldInfo := #[]) : ClassFile where
  minorVersion := 0
  majorVersion := 65
  constantPool := pool
  accessFlags := fl
  thisClass := this
  superClass := sup
  interfaces := ifs
  fields := fds
  methods := ms
  attributes := attrs
def plain (name : String) (sup : Option ClassId) : Class where
  name := name
  kind := .ordinary
  loader := none
  accessFlags := 33
  super := sup
  interfaces := #[]
  cf := none
  fields := #[]
  methods := #[]
  instanceTypes := #[]
  staticTypes := #[]
  resolved := #[]
  callSites := []
  init := .initialized
  statics := none
  mirror := none

def pool0 : Array CpInfo := pool [(5, u "<init>"), (0, u "()V"), (1, .class_ 10), (1, u "java/lang/Object")] 113

def k0c0 : Code := { maxStack := 0, maxLocals := 1, code := object_method_1_code, exceptionTable := #[], attributes := #[] }
def k0m0 : Method := { name := "<init>", desc := "()V", sig := { parameters := [], returnType := none }, accessFlags := 1, code := some k0c0 }
/-- java/lang/Object -/
def k0 : Class := { plain "java/lang/Object" none with
  accessFlags := 33
  interfaces := #[]
  cf := some (fileOf pool0 8 #[] #[{ accessFlags := 1, nameIndex := 5, descriptorIndex := 6, attributes := #[] }] 33 0 #[] #[])
  fields := #[]
  methods := #[k0m0]
  instanceTypes := #[]
  staticTypes := #[]
  resolved := Array.replicate 124 none
  statics := none }

def pool1 : Array CpInfo := pool [(2, .class_ 4), (1, u "java/lang/Object"), (0, u "<init>"), (0, u "()V"), (0, .integer 2147483647), (0, .class_ 9), (0, u "com/example/ridgeline/ridgeline/filtering/Task"), (0, .methodref 8 11), (0, .nameAndType 5 12), (0, u "(IIII)V"), (0, .methodref 8 14), (0, .nameAndType 15 16), (0, u "earliestEnd"), (0, u "()J"), (0, .methodref 8 18), (0, .nameAndType 19 20), (0, u "earliestStart"), (0, u "()I"), (0, .methodref 8 22), (0, .nameAndType 23 20), (0, u "duration"), (2, .long 4294967294), (1, .class_ 29), (0, u "com/example/ridgeline/ridgeline/filtering/TaskEarliestEndPinLaw"), (2, u "law"), (0, u "(IIII)Z")] 3

def k1m0 : Method := { name := "<init>", desc := "()V", sig := { parameters := [], returnType := none }, accessFlags := 1, code := none }
def k1c1 : Code := { maxStack := 6, maxLocals := 15, code := code, exceptionTable := #[], attributes := #[] }
def k1m1 : Method := { name := "law", desc := "(IIII)Z", sig := { parameters := [.int, .int, .int, .int], returnType := some .boolean }, accessFlags := 9, code := some k1c1 }
/-- com/example/ridgeline/ridgeline/filtering/TaskEarliestEndPinLaw -/
def k1 : Class := { plain "com/example/ridgeline/ridgeline/filtering/TaskEarliestEndPinLaw" (some 0) with
  accessFlags := 49
  interfaces := #[]
  cf := some (fileOf pool1 28 #[] #[{ accessFlags := 1, nameIndex := 5, descriptorIndex := 6, attributes := #[] }, { accessFlags := 9, nameIndex := 32, descriptorIndex := 33, attributes := #[] }] 49 2 #[] #[])
  fields := #[]
  methods := #[k1m0, k1m1]
  instanceTypes := #[]
  staticTypes := #[]
  resolved := Array.replicate 37 none
  statics := none }

def pool2 : Array CpInfo := pool [(1, .methodref 2 3), (0, .class_ 4), (0, .nameAndType 5 6), (0, u "java/lang/Object"), (0, u "<init>"), (0, u "()V"), (0, .class_ 8), (0, u "java/lang/Record")] 13

def k2c0 : Code := { maxStack := 1, maxLocals := 1, code := jdk_30_method_1_code, exceptionTable := #[], attributes := #[] }
def k2m0 : Method := { name := "<init>", desc := "()V", sig := { parameters := [], returnType := none }, accessFlags := 4, code := some k2c0 }
/-- java/lang/Record -/
def k2 : Class := { plain "java/lang/Record" (some 0) with
  accessFlags := 1057
  interfaces := #[]
  cf := some (fileOf pool2 7 #[] #[{ accessFlags := 4, nameIndex := 5, descriptorIndex := 6, attributes := #[] }] 1057 2 #[] #[])
  fields := #[]
  methods := #[k2m0]
  instanceTypes := #[]
  staticTypes := #[]
  resolved := Array.replicate 22 none
  statics := none }

def pool3 : Array CpInfo := pool [(1, .methodref 2 3), (0, .class_ 4), (0, .nameAndType 5 6), (0, u "java/lang/Record"), (0, u "<init>"), (0, u "()V"), (0, .string 8), (0, u "earliest start"), (0, .methodref 10 11), (0, .class_ 12), (0, .nameAndType 13 14), (0, u "com/example/ridgeline/ridgeline/filtering/Task"), (0, u "requireNonNegative"), (0, u "(Ljava/lang/String;I)V"), (0, .string 16), (0, u "latest end"), (0, .string 18), (0, u "duration"), (0, .string 20), (0, u "demand"), (0, .fieldref 10 22), (0, .nameAndType 23 24), (0, u "earliestStart"), (0, u "I"), (0, .fieldref 10 26), (0, .nameAndType 27 24), (0, u "latestEnd"), (0, .fieldref 10 29), (0, .nameAndType 18 24), (0, .fieldref 10 31), (0, .nameAndType 20 24), (21, u "(IIII)V"), (4, u "()I"), (0, u "earliestEnd"), (0, u "()J")] 35

def k3c0 : Code := { maxStack := 2, maxLocals := 5, code := prog_46_method_1_code, exceptionTable := #[], attributes := #[] }
def k3m0 : Method := { name := "<init>", desc := "(IIII)V", sig := { parameters := [.int, .int, .int, .int], returnType := none }, accessFlags := 1, code := some k3c0 }
def k3c1 : Code := { maxStack := 4, maxLocals := 1, code := prog_46_method_3_code, exceptionTable := #[], attributes := #[] }
def k3m1 : Method := { name := "earliestEnd", desc := "()J", sig := { parameters := [], returnType := some .long }, accessFlags := 1, code := some k3c1 }
def k3c2 : Code := { maxStack := 4, maxLocals := 2, code := prog_46_method_5_code, exceptionTable := #[], attributes := #[] }
def k3m2 : Method := { name := "requireNonNegative", desc := "(Ljava/lang/String;I)V", sig := { parameters := [(.object "java/lang/String"), .int], returnType := none }, accessFlags := 10, code := some k3c2 }
def k3c3 : Code := { maxStack := 1, maxLocals := 1, code := prog_46_method_9_code, exceptionTable := #[], attributes := #[] }
def k3m3 : Method := { name := "earliestStart", desc := "()I", sig := { parameters := [], returnType := some .int }, accessFlags := 1, code := some k3c3 }
def k3c4 : Code := { maxStack := 1, maxLocals := 1, code := prog_46_method_11_code, exceptionTable := #[], attributes := #[] }
def k3m4 : Method := { name := "duration", desc := "()I", sig := { parameters := [], returnType := some .int }, accessFlags := 1, code := some k3c4 }
/-- com/example/ridgeline/ridgeline/filtering/Task -/
def k3 : Class := { plain "com/example/ridgeline/ridgeline/filtering/Task" (some 2) with
  accessFlags := 49
  interfaces := #[]
  cf := some (fileOf pool3 10 #[] #[{ accessFlags := 1, nameIndex := 5, descriptorIndex := 53, attributes := #[] }, { accessFlags := 1, nameIndex := 59, descriptorIndex := 60, attributes := #[] }, { accessFlags := 10, nameIndex := 13, descriptorIndex := 14, attributes := #[] }, { accessFlags := 1, nameIndex := 23, descriptorIndex := 58, attributes := #[] }, { accessFlags := 1, nameIndex := 18, descriptorIndex := 58, attributes := #[] }] 49 2 #[] #[{ accessFlags := 18, nameIndex := 23, descriptorIndex := 24, attributes := #[] }, { accessFlags := 18, nameIndex := 27, descriptorIndex := 24, attributes := #[] }, { accessFlags := 18, nameIndex := 18, descriptorIndex := 24, attributes := #[] }, { accessFlags := 18, nameIndex := 20, descriptorIndex := 24, attributes := #[] }])
  fields := #[{ name := "earliestStart", type := .int, accessFlags := 18, slot := 0, constantValue := 0 }, { name := "latestEnd", type := .int, accessFlags := 18, slot := 1, constantValue := 0 }, { name := "duration", type := .int, accessFlags := 18, slot := 2, constantValue := 0 }, { name := "demand", type := .int, accessFlags := 18, slot := 3, constantValue := 0 }]
  methods := #[k3m0, k3m1, k3m2, k3m3, k3m4]
  instanceTypes := #[.int, .int, .int, .int]
  staticTypes := #[]
  resolved := Array.replicate 96 none
  statics := none }

def pool4 : Array CpInfo := pool [(1, .class_ 2), (0, u "java/io/Serializable"), (0, .class_ 4), (0, u "java/lang/Object")] 2

/-- java/io/Serializable -/
def k4 : Class := { plain "java/io/Serializable" (some 0) with
  accessFlags := 1537
  interfaces := #[]
  cf := some (fileOf pool4 1 #[] #[] 1537 3 #[] #[])
  fields := #[]
  methods := #[]
  instanceTypes := #[]
  staticTypes := #[]
  resolved := Array.replicate 7 none
  statics := none }

def pool5 : Array CpInfo := pool [(1, .class_ 2), (0, u "java/lang/Comparable"), (0, .class_ 4), (0, u "java/lang/Object")] 7

/-- java/lang/Comparable -/
def k5 : Class := { plain "java/lang/Comparable" (some 0) with
  accessFlags := 1537
  interfaces := #[]
  cf := some (fileOf pool5 1 #[] #[] 1537 3 #[] #[])
  fields := #[]
  methods := #[]
  instanceTypes := #[]
  staticTypes := #[]
  resolved := Array.replicate 12 none
  statics := none }

def pool6 : Array CpInfo := pool [(2, .class_ 4), (1, u "java/lang/CharSequence"), (42, .class_ 48), (0, u "java/lang/CharSequence$1CodePointIterator"), (10, .class_ 60), (0, u "java/lang/CharSequence$1CharIterator"), (5, .class_ 67), (0, u "java/lang/Object")] 63

/-- java/lang/CharSequence -/
def k6 : Class := { plain "java/lang/CharSequence" (some 0) with
  accessFlags := 1537
  interfaces := #[]
  cf := some (fileOf pool6 2 #[.nestMembers #[47, 59]] #[] 1537 66 #[] #[])
  fields := #[]
  methods := #[]
  instanceTypes := #[]
  staticTypes := #[]
  resolved := Array.replicate 131 none
  statics := none }

def pool7 : Array CpInfo := pool [(1, .class_ 2), (0, u "java/lang/constant/Constable"), (0, .class_ 4), (0, u "java/lang/Object")] 6

/-- java/lang/constant/Constable -/
def k7 : Class := { plain "java/lang/constant/Constable" (some 0) with
  accessFlags := 1537
  interfaces := #[]
  cf := some (fileOf pool7 1 #[] #[] 1537 3 #[] #[])
  fields := #[]
  methods := #[]
  instanceTypes := #[]
  staticTypes := #[]
  resolved := Array.replicate 11 none
  statics := none }

def pool8 : Array CpInfo := pool [(1, .class_ 2), (0, u "java/lang/constant/ConstantDesc"), (0, .class_ 4), (0, u "java/lang/Object")] 32

/-- java/lang/constant/ConstantDesc -/
def k8 : Class := { plain "java/lang/constant/ConstantDesc" (some 0) with
  accessFlags := 1537
  interfaces := #[]
  cf := some (fileOf pool8 1 #[] #[] 1537 3 #[] #[])
  fields := #[]
  methods := #[]
  instanceTypes := #[]
  staticTypes := #[]
  resolved := Array.replicate 37 none
  statics := none }

def pool9 : Array CpInfo := pool [(2, .class_ 4), (1, u "java/lang/Object"), (0, u "<init>"), (0, u "()V"), (3, .class_ 12), (1, u "java/lang/String"), (0, u "value"), (0, u "[B"), (2, u "coder"), (0, u "B"), (2, u "hash"), (0, u "I"), (2, u "hashIsZero"), (0, u "Z"), (13, u "COMPACT_STRINGS"), (534, .class_ 576), (0, u "java/lang/CharSequence"), (22, u "CASE_INSENSITIVE_ORDER"), (0, u "Ljava/util/Comparator;"), (500, u "serialPersistentFields"), (0, u "[Ljava/io/ObjectStreamField;"), (0, .class_ 1104), (0, u "java/lang/String$CaseInsensitiveComparator"), (1, .class_ 1107), (0, u "java/io/Serializable"), (0, .class_ 1109), (0, u "java/lang/Comparable"), (0, .class_ 1111), (0, u "java/lang/constant/Constable"), (0, .class_ 1113), (0, u "java/lang/constant/ConstantDesc"), (2, u "serialVersionUID"), (0, u "J"), (3, u "REPL"), (0, u "C"), (2, u "LATIN1"), (1, u "UTF16")] 323

def k9m0 : Method := { name := "<init>", desc := "()V", sig := { parameters := [], returnType := none }, accessFlags := 1, code := none }
/-- java/lang/String -/
def k9 : Class := { plain "java/lang/String" (some 0) with
  accessFlags := 49
  interfaces := #[4, 5, 6, 7, 8]
  cf := some (fileOf pool9 10 #[.nestMembers #[1103]] #[{ accessFlags := 1, nameIndex := 5, descriptorIndex := 6, attributes := #[] }] 49 2 #[1106, 1108, 575, 1110, 1112] #[{ accessFlags := 18, nameIndex := 13, descriptorIndex := 14, attributes := #[] }, { accessFlags := 18, nameIndex := 17, descriptorIndex := 18, attributes := #[] }, { accessFlags := 2, nameIndex := 21, descriptorIndex := 22, attributes := #[] }, { accessFlags := 2, nameIndex := 25, descriptorIndex := 26, attributes := #[] }, { accessFlags := 26, nameIndex := 1116, descriptorIndex := 1117, attributes := #[] }, { accessFlags := 24, nameIndex := 40, descriptorIndex := 26, attributes := #[] }, { accessFlags := 26, nameIndex := 1101, descriptorIndex := 1102, attributes := #[] }, { accessFlags := 26, nameIndex := 1121, descriptorIndex := 1122, attributes := #[] }, { accessFlags := 25, nameIndex := 599, descriptorIndex := 600, attributes := #[] }, { accessFlags := 24, nameIndex := 1125, descriptorIndex := 18, attributes := #[] }, { accessFlags := 24, nameIndex := 1127, descriptorIndex := 18, attributes := #[] }])
  fields := #[{ name := "value", type := (.array .byte), accessFlags := 18, slot := 0, constantValue := 0 }, { name := "coder", type := .byte, accessFlags := 18, slot := 1, constantValue := 0 }, { name := "hash", type := .int, accessFlags := 2, slot := 2, constantValue := 0 }, { name := "hashIsZero", type := .boolean, accessFlags := 2, slot := 3, constantValue := 0 }, { name := "serialVersionUID", type := .long, accessFlags := 26, slot := 0, constantValue := 0 }, { name := "COMPACT_STRINGS", type := .boolean, accessFlags := 24, slot := 1, constantValue := 0 }, { name := "serialPersistentFields", type := (.array (.object "java/io/ObjectStreamField")), accessFlags := 26, slot := 2, constantValue := 0 }, { name := "REPL", type := .char, accessFlags := 26, slot := 3, constantValue := 0 }, { name := "CASE_INSENSITIVE_ORDER", type := (.object "java/util/Comparator"), accessFlags := 25, slot := 4, constantValue := 0 }, { name := "LATIN1", type := .byte, accessFlags := 24, slot := 5, constantValue := 0 }, { name := "UTF16", type := .byte, accessFlags := 24, slot := 6, constantValue := 0 }]
  methods := #[k9m0]
  instanceTypes := #[(.array .byte), .byte, .int, .boolean]
  staticTypes := #[.long, .boolean, (.array (.object "java/io/ObjectStreamField")), .char, (.object "java/util/Comparator"), .byte, .byte]
  resolved := Array.replicate 1451 none
  statics := none }

def pool10 : Array CpInfo := pool [(1, u "java/lang/Cloneable"), (0, .class_ 1), (0, u "java/lang/Object"), (0, .class_ 3)] 3

/-- java/lang/Cloneable -/
def k10 : Class := { plain "java/lang/Cloneable" (some 0) with
  accessFlags := 1537
  interfaces := #[]
  cf := some (fileOf pool10 2 #[] #[] 1537 4 #[] #[])
  fields := #[]
  methods := #[]
  instanceTypes := #[]
  staticTypes := #[]
  resolved := Array.replicate 8 none
  statics := none }

/-- the primitive byte -/
def k11 : Class := { plain "byte" none with kind := .primitive 'B', accessFlags := 0x411 }
/-- [B -/
def k12 : Class := { plain "[B" (some 0) with kind := .array 11 .byte, interfaces := #[10, 4], accessFlags := 1041 }

/-- the primitive int -/
def k13 : Class := { plain "int" none with kind := .primitive 'I', accessFlags := 0x411 }
/-- [I -/
def k14 : Class := { plain "[I" (some 0) with kind := .array 13 .int, interfaces := #[10, 4], accessFlags := 1041 }

def heap : Heap := #[]
def classes : Array Class := #[k0, k1, k2, k3, k4, k5, k6, k7, k8, k9, k10, k11, k12, k13, k14]
def interned : List (Array UInt16 × Addr) := []
def slotsUsed : Nat := 0
def theMethod : MethodId := ⟨1, 1⟩
def args0 : Array Value := #[.int 5, .int 7, .int 9, .int 3]
def aboutOver (below : List Frame) : State where
  vm := { classes := classes, interned := interned.toArray }
  heap := heap
  slotsUsed := slotsUsed
  threads := #[{ frames := .invoking theMethod args0 :: below }]
def below0 : List Frame := [.native { method := ⟨0, 0⟩, args := #[] }]
def about1 : State := aboutOver below0
def p0 : Program := .bare "" "" ""
def e0 : Env := launch0.env 0 0 0
theorem w_frames : about1.frames = Frame.invoking theMethod args0 :: below0 := rfl
set_option maxRecDepth 65536 in
theorem w_args : argsFit about1.vm theMethod args0 = true := by decide +kernel
set_option maxRecDepth 65536 in
theorem w_heap : heapFits about1 = true := by decide +kernel
set_option maxRecDepth 65536 in
theorem w_runnable : about1.curStatus? = some .runnable := by decide +kernel
set_option maxRecDepth 65536 in
theorem w_alone : about1.alone = true := by decide +kernel
set_option maxRecDepth 65536 in
theorem w_named : about1.methodNamed? x = some theMethod := by decide +kernel
set_option maxRecDepth 65536 in
theorem w_hears : about1.hears theMethod below0 = true := by decide +kernel
set_option maxRecDepth 65536 in
theorem w_ripe : about1.ripe theMethod args0 below0 = true := by decide +kernel
theorem w_running : about1.status = .running := rfl
set_option maxRecDepth 65536 in
theorem w_room : about1.hasRoom e0.platform room_1 = true :=
  launch0.hasRoom_least _ room_1 (by decide +kernel) (by decide +kernel) (by decide +kernel) (by decide +kernel) (by decide +kernel) (by decide +kernel)
theorem allAtoms_all (ts : List Jvm.Cond) (a : Array Jvm.Value) (st : Jvm.State) : (allAtoms ts).before a st = ts.all (fun c => c.before a st) := by
  induction ts with
  | nil => rfl
  | cons c t ih =>
    show (Jvm.Cond.and c (allAtoms t)).before a st = _
    rw [Jvm.Cond.before_and, ih, List.all_cons]
def words1 : List Jvm.Cond := Jvm.Cond.code x code maxLocals ret :: tables_1
/-- a 'code' word, met by the world's own term for the bytes: nothing is compared byte by byte -/
theorem code_word {y : MethodName} {bytes : ByteArray} {mx : Nat} {rt : Option FieldType} {a : Array Value} {s : State} {m : MethodId} {meth : Method} {c : Code} (h1 : s.methodNamed? y = some m) (h2 : s.vm.method? m = some meth) (h3 : meth.code = some c) (h4 : c.code = bytes)
    (h5 : (c.maxLocals == mx && c.exceptionTable.isEmpty && decide (c.maxStack ≤ mostOperands) && decide (meth.sig.returnType = rt) && !meth.locks && decide (parseMethodDescriptor y.desc = some meth.sig)) = true) : (Jvm.Cond.code y bytes mx rt).before a s = true := by
  simp only [Bool.and_eq_true, beq_iff_eq, Bool.not_eq_true', decide_eq_true_eq] at h5
  obtain ⟨⟨⟨⟨⟨g1, g2⟩, g3⟩, g4⟩, g5⟩, g6⟩ := h5
  simp [Cond.before, Cond.holds, Cond.value, h1, h2, h3, h4, g1, g2, g3, g4, g5, g6]
def isCode : Jvm.Cond → Bool
  | .code _ _ _ _ => true
  | _ => false
theorem all_split {L : List Jvm.Cond} {P : Jvm.Cond → Bool} (h1 : L.all (fun c => isCode c || P c) = true) (h2 : ∀ c ∈ L.filter isCode, P c = true) : L.all P = true := by
  refine List.all_eq_true.mpr fun c hc => ?_
  have h := List.all_eq_true.mp h1 c hc
  rcases Bool.eq_false_or_eq_true (isCode c) with hi | hi
  · exact h2 c (List.mem_filter.mpr ⟨hc, hi⟩)
  · simpa [hi] using h
set_option maxRecDepth 65536 in
theorem w_c0 : (Jvm.Cond.code x code maxLocals ret).before args0 about1 = true := code_word (m := ⟨1, 1⟩) (meth := k1m1) (c := k1c1) (by decide +kernel) rfl rfl rfl (by decide +kernel)
set_option maxRecDepth 65536 in
theorem w_c1 : (Jvm.Cond.code ({ cls := "com/example/ridgeline/ridgeline/filtering/Task", name := "<init>", desc := "(IIII)V" } : Jvm.MethodName) prog_46_method_1_code (5 : Nat) (Option.none : Option Jvm.ClassFile.FieldType)).before args0 about1 = true := code_word (m := ⟨3, 0⟩) (meth := k3m0) (c := k3c0) (by decide +kernel) rfl rfl rfl (by decide +kernel)
set_option maxRecDepth 65536 in
theorem w_c2 : (Jvm.Cond.code ({ cls := "java/lang/Record", name := "<init>", desc := "()V" } : Jvm.MethodName) jdk_30_method_1_code (1 : Nat) (Option.none : Option Jvm.ClassFile.FieldType)).before args0 about1 = true := code_word (m := ⟨2, 0⟩) (meth := k2m0) (c := k2c0) (by decide +kernel) rfl rfl rfl (by decide +kernel)
set_option maxRecDepth 65536 in
theorem w_c3 : (Jvm.Cond.code ({ cls := "java/lang/Object", name := "<init>", desc := "()V" } : Jvm.MethodName) object_method_1_code (1 : Nat) (Option.none : Option Jvm.ClassFile.FieldType)).before args0 about1 = true := code_word (m := ⟨0, 0⟩) (meth := k0m0) (c := k0c0) (by decide +kernel) rfl rfl rfl (by decide +kernel)
set_option maxRecDepth 65536 in
theorem w_c4 : (Jvm.Cond.code ({ cls := "com/example/ridgeline/ridgeline/filtering/Task", name := "requireNonNegative", desc := "(Ljava/lang/String;I)V" } : Jvm.MethodName) prog_46_method_5_code (2 : Nat) (Option.none : Option Jvm.ClassFile.FieldType)).before args0 about1 = true := code_word (m := ⟨3, 2⟩) (meth := k3m2) (c := k3c2) (by decide +kernel) rfl rfl rfl (by decide +kernel)
set_option maxRecDepth 65536 in
theorem w_c5 : (Jvm.Cond.code ({ cls := "com/example/ridgeline/ridgeline/filtering/Task", name := "earliestEnd", desc := "()J" } : Jvm.MethodName) prog_46_method_3_code (1 : Nat) (Option.some Jvm.ClassFile.FieldType.long)).before args0 about1 = true := code_word (m := ⟨3, 1⟩) (meth := k3m1) (c := k3c1) (by decide +kernel) rfl rfl rfl (by decide +kernel)
set_option maxRecDepth 65536 in
theorem w_c6 : (Jvm.Cond.code ({ cls := "com/example/ridgeline/ridgeline/filtering/Task", name := "earliestStart", desc := "()I" } : Jvm.MethodName) prog_46_method_9_code (1 : Nat) (Option.some Jvm.ClassFile.FieldType.int)).before args0 about1 = true := code_word (m := ⟨3, 3⟩) (meth := k3m3) (c := k3c3) (by decide +kernel) rfl rfl rfl (by decide +kernel)
set_option maxRecDepth 65536 in
theorem w_c7 : (Jvm.Cond.code ({ cls := "com/example/ridgeline/ridgeline/filtering/Task", name := "duration", desc := "()I" } : Jvm.MethodName) prog_46_method_11_code (1 : Nat) (Option.some Jvm.ClassFile.FieldType.int)).before args0 about1 = true := code_word (m := ⟨3, 4⟩) (meth := k3m4) (c := k3c4) (by decide +kernel) rfl rfl rfl (by decide +kernel)
def codes1 : List Jvm.Cond := [Jvm.Cond.code x code maxLocals ret, Jvm.Cond.code ({ cls := "com/example/ridgeline/ridgeline/filtering/Task", name := "<init>", desc := "(IIII)V" } : Jvm.MethodName) prog_46_method_1_code (5 : Nat) (Option.none : Option Jvm.ClassFile.FieldType), Jvm.Cond.code ({ cls := "java/lang/Record", name := "<init>", desc := "()V" } : Jvm.MethodName) jdk_30_method_1_code (1 : Nat) (Option.none : Option Jvm.ClassFile.FieldType), Jvm.Cond.code ({ cls := "java/lang/Object", name := "<init>", desc := "()V" } : Jvm.MethodName) object_method_1_code (1 : Nat) (Option.none : Option Jvm.ClassFile.FieldType), Jvm.Cond.code ({ cls := "com/example/ridgeline/ridgeline/filtering/Task", name := "requireNonNegative", desc := "(Ljava/lang/String;I)V" } : Jvm.MethodName) prog_46_method_5_code (2 : Nat) (Option.none : Option Jvm.ClassFile.FieldType), Jvm.Cond.code ({ cls := "com/example/ridgeline/ridgeline/filtering/Task", name := "earliestEnd", desc := "()J" } : Jvm.MethodName) prog_46_method_3_code (1 : Nat) (Option.some Jvm.ClassFile.FieldType.long), Jvm.Cond.code ({ cls := "com/example/ridgeline/ridgeline/filtering/Task", name := "earliestStart", desc := "()I" } : Jvm.MethodName) prog_46_method_9_code (1 : Nat) (Option.some Jvm.ClassFile.FieldType.int), Jvm.Cond.code ({ cls := "com/example/ridgeline/ridgeline/filtering/Task", name := "duration", desc := "()I" } : Jvm.MethodName) prog_46_method_11_code (1 : Nat) (Option.some Jvm.ClassFile.FieldType.int)]
set_option maxRecDepth 65536 in
theorem codes_eq : words1.filter isCode = codes1 := rfl
theorem w_codes : ∀ c ∈ words1.filter isCode, c.before args0 about1 = true := by
  rw [codes_eq]
  intro c hc
  simp only [codes1, List.mem_cons, List.not_mem_nil, or_false] at hc
  rcases hc with rfl | rfl | rfl | rfl | rfl | rfl | rfl | rfl
  · exact w_c0
  · exact w_c1
  · exact w_c2
  · exact w_c3
  · exact w_c4
  · exact w_c5
  · exact w_c6
  · exact w_c7
set_option maxRecDepth 65536 in
theorem w_t1 : (words1.take 24).all (fun c => isCode c || c.before args0 about1) = true := by decide +kernel
set_option maxRecDepth 65536 in
theorem w_t2 : ((words1.drop 24).take 24).all (fun c => isCode c || c.before args0 about1) = true := by decide +kernel
set_option maxRecDepth 65536 in
theorem w_t3 : ((words1.drop 24).drop 24).all (fun c => isCode c || c.before args0 about1) = true := by decide +kernel
theorem w_tables : (allAtoms (Jvm.Cond.code x code maxLocals ret :: tables_1)).before args0 about1 = true := by
  rw [allAtoms_all]
  show words1.all (fun c => c.before args0 about1) = true
  refine all_split ?_ w_codes
  rw [← List.take_append_drop 24 words1, List.all_append, w_t1, ← List.take_append_drop 24 (words1.drop 24), List.all_append, w_t2, w_t3]
  rfl
set_option maxRecDepth 65536 in
theorem w_case : (Jvm.Cond.and given_1 narrow_1).before args0 about1 = true := by decide +kernel
theorem w_applies : (headSpec (Jvm.Cond.code x code maxLocals ret :: tables_1) room_1).applies x e0.platform about1 = true :=
  (Spec.applies_iff w_frames).mpr ⟨w_running, w_runnable, w_alone, w_named, w_hears, w_ripe, w_room, w_tables⟩
theorem atStart : AtStart classFile x code maxLocals ret World_1 tables_1 room_1 Calls_1 rest_1 Pre_1 launch0 p0 e0 about1 theMethod args0 below0 :=
  ⟨lists_1, trivial, launch0.admits_env _ _ _, launch0.least_env, fairChoices_fair.cas, fairChoices_fair.clock, w_frames, w_args, w_heap, w_applies, trivial, trivial, w_case⟩
end start1
theorem witness_1 : WitnessClaimed_1 := ⟨start1.p0, start1.e0, start1.about1, start1.theMethod, start1.args0, start1.below0, start1.atStart⟩
end Jvm.Pilot.@@N@@
