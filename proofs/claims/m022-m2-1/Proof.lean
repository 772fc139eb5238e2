import JvmDerived
import JvmDerived.Pilot.@@N@@Statement
import JvmDerived.Pilot.@@N@@Code
set_option linter.unusedVariables false
set_option linter.unusedSimpArgs false
namespace Jvm.Pilot.@@N@@
open Jvm Jvm.ClassFile Sem Op Lib Jvm.Free Jvm.Stand Jvm.LawKit Jvm.RoadKit Bundle Jvm.Pilot.@@N@@.Jvm.D
/-! own kit: the walk in program order: own_G says that from this frame on the run ends as promised -/
def own_G (tb : Tables) (e : Env) (below : List Frame) (P : Outcome → State → Prop) (T : State) (f : JFrame) : Prop :=
  ∃ s₂ o, Steps tb e below (T.setTop f) s₂ ∧ s₂.status = .running ∧ Ended s₂ below o ∧ P o s₂
def own_P (s : State) (Q : Option Value → Heap → List Loc → Prop) (C S : Nat) (o : Outcome) (U : State) : Prop :=
  ∃ v L, o = .returned v ∧ Q v U.heap L ∧ FrameEnd s o U L C S
theorem own_go {tb : Tables} {e : Env} {below : List Frame} {P : Outcome → State → Prop} {T T' : State} {f f' : JFrame} (st : ∀ target, Steps tb e below (T'.setTop f') target → Steps tb e below (T.setTop f) target) (k : own_G tb e below P T' f') : own_G tb e below P T f := by
  obtain ⟨s₂, o, h1, h2⟩ := k
  exact ⟨s₂, o, st _ h1, h2⟩
section OwnKit
variable {p : Program} {l : Launch} {e : Env} {R : Room} {s : State} {m : MethodId} {args : Array Value} {below : List Frame} {meth : Method} {c : Code} {T : State} {locs : List Loc} {cells slots : Nat} {Z : State} {a0 : Array Value} {h : Heap} {P : Outcome → State → Prop}
theorem own_body {y : MethodName} {bytes : ByteArray} {maxL : Nat} {ret : Option FieldType} {ws : List Jvm.Cond} {rm : Room} {as' : Array Value} {Q : Option Value → Heap → List Loc → Prop} {C S : Nat} (pn : plainFor y = true)
    (body : ∀ p e s m below meth c s₁, p.tables.exec = Jvm.exec → c.code = bytes → c.maxLocals = maxL → s.vm.findClass y.cls = some m.cls → meth.name = y.name → meth.locks = false → meth.sig.returnType = ret → Z.Warmed39 s.vm → Stand p l e rm s m as' below meth c s₁ [] 0 0 → s₁.heap = h →
      own_G p.tables e below (own_P s Q C S) s₁ (entryFrame m as' maxL)) :
    MetFree l y (head1 (Jvm.Cond.code y bytes maxL ret :: ws) rm) (fun a U => a = as' ∧ Z.Warmed39 U.vm ∧ U.heap = h) (fun _ _ _ _ _ => True) (fun _ U o U' => ∃ v L, o = .returned v ∧ Q v U'.heap L ∧ FrameEnd U o U' L C S) := by
  refine MetFree.of_bodySF (maxLocals := maxL) (ret := ret) (code := bytes) pn hisR ?_
  intro p e s m args below meth c s₁ Bd hml0 hP hK
  obtain ⟨rfl, hZ, hh⟩ := hP
  exact body p e s m below meth c s₁ Bd.exec Bd.bytes hml0 (findClass_of_methodNamed Bd.named) (name_of_methodNamed Bd.named Bd.method).1 (BodyLoose.notSynchronized Bd) Bd.returns hZ (Stand.of_body Bd) (by rw [← hh, Bd.state]; rfl)
theorem own_ret {v : Option Value} {f : JFrame} {Q : Option Value → Heap → List Loc → Prop} {C S : Nat} (X : Stand p l e R s m args below meth c T locs cells slots) (hlk : meth.locks = false) (hv : meth.sig.returnType = none → v = none)
    (st : ∀ fs, (∀ (f : JFrame) (acts : List Action), f.method = m → f.locked = none → f.entered = [] → (doReturn e (T.setTop f) acts v).1 = T.setFrames fs) → Steps p.tables e below (T.setTop f) (T.setFrames fs)) (hC : cells ≤ C) (hS : slots ≤ S) (hq : Q v T.heap locs) : own_G p.tables e below (own_P s Q C S) T f := by
  obtain ⟨fs, hr, hrun, hended, hW, hsame⟩ := X.leave (v := v) hv hlk
  exact ⟨_, _, st fs hr, hrun, hended, _, _, rfl, hq, ⟨_, rfl⟩, hW, hsame.mono hC hS⟩
theorem own_retN {Q : Option Value → Heap → List Loc → Prop} {C S : Nat} (X : Stand p l e R s m args below meth c T locs cells slots) (hx : p.tables.exec = Jvm.exec) (hlk : meth.locks = false) {t : FieldType} (hret : meth.sig.returnType = some t) (ht : t = .boolean ∨ t = .byte ∨ t = .char ∨ t = .short) {pc : Nat} {Ls : Array Slot} {z : Int32} {rest : List Value} (hd : decode c.code pc = .ok (.ireturn, 1)) (hC : cells ≤ C) (hS : slots ≤ S) (hq : Q (some (.int (nar t z))) T.heap locs) :
    own_G p.tables e below (own_P s Q C S) T (mkF m pc Ls (.int z :: rest)) :=
  own_ret X hlk (fun h => by rw [hret] at h; cases h) (fun fs hr => retN X hx hret ht hd hr) hC hS hq
theorem own_retI {Q : Option Value → Heap → List Loc → Prop} {C S : Nat} (X : Stand p l e R s m args below meth c T locs cells slots) (hx : p.tables.exec = Jvm.exec) (hlk : meth.locks = false) (hret : meth.sig.returnType = some .int) {pc : Nat} {Ls : Array Slot} {z : Int32} {rest : List Value} (hd : decode c.code pc = .ok (.ireturn, 1)) (hC : cells ≤ C) (hS : slots ≤ S) (hq : Q (some (.int z)) T.heap locs) :
    own_G p.tables e below (own_P s Q C S) T (mkF m pc Ls (.int z :: rest)) :=
  own_ret X hlk (fun h => by rw [hret] at h; cases h) (fun fs hr => retOut X hx hret rfl (Or.inl ⟨rfl, Or.inl rfl, z, rfl⟩) hd hr) hC hS hq
theorem own_retJ {Q : Option Value → Heap → List Loc → Prop} {C S : Nat} (X : Stand p l e R s m args below meth c T locs cells slots) (hx : p.tables.exec = Jvm.exec) (hlk : meth.locks = false) (hret : meth.sig.returnType = some .long) {pc : Nat} {Ls : Array Slot} {z : Int64} {rest : List Value} (hd : decode c.code pc = .ok (.lreturn, 1)) (hC : cells ≤ C) (hS : slots ≤ S) (hq : Q (some (.long z)) T.heap locs) :
    own_G p.tables e below (own_P s Q C S) T (mkF m pc Ls (.long z :: rest)) :=
  own_ret X hlk (fun h => by rw [hret] at h; cases h) (fun fs hr => retOut X hx hret rfl (Or.inr (Or.inl ⟨rfl, rfl, z, rfl⟩)) hd hr) hC hS hq
theorem own_retA {Q : Option Value → Heap → List Loc → Prop} {C S : Nat} (X : Stand p l e R s m args below meth c T locs cells slots) (hx : p.tables.exec = Jvm.exec) (hlk : meth.locks = false) {t : FieldType} (hret : meth.sig.returnType = some t) (ht : t.isReference = true) {pc : Nat} {Ls : Array Slot} {w : Value} {rest : List Value} (hw : w.isRef = true) (hn : narrow t w = w) (hd : decode c.code pc = .ok (.areturn, 1)) (hC : cells ≤ C) (hS : slots ≤ S) (hq : Q (some w) T.heap locs) :
    own_G p.tables e below (own_P s Q C S) T (mkF m pc Ls (w :: rest)) :=
  own_ret X hlk (fun h => by rw [hret] at h; cases h) (fun fs hr => retOut X hx hret hn (Or.inr (Or.inr (Or.inr (Or.inr ⟨rfl, ht, hw⟩)))) hd hr) hC hS hq
theorem own_retV {Q : Option Value → Heap → List Loc → Prop} {C S : Nat} (X : Stand p l e R s m args below meth c T locs cells slots) (hx : p.tables.exec = Jvm.exec) (hlk : meth.locks = false) (hret : meth.sig.returnType = none) {pc : Nat} {Ls : Array Slot} (hd : decode c.code pc = .ok (.return_, 1)) (hC : cells ≤ C) (hS : slots ≤ S) (hq : Q none T.heap locs) :
    own_G p.tables e below (own_P s Q C S) T (mkF m pc Ls []) :=
  own_ret X hlk (fun h => rfl) (fun fs hr => X.returnOut hx hret hd hr) hC hS hq
theorem own_iadd (X : Stand p l e R s m args below meth c T locs cells slots) (hx : p.tables.exec = Jvm.exec) {pc pc' : Nat} {Ls : Array Slot} {x y z : Int32} {rest : List Value} (hd : decode c.code pc = .ok (.iadd, 1)) (hz : x + y = z) (hp : pc + 1 = pc') (k : own_G p.tables e below P T (mkF m pc' Ls (.int z :: rest))) : own_G p.tables e below P T (mkF m pc Ls (.int y :: .int x :: rest)) := by
  subst hp; subst hz; exact own_go (fun t q => XS.iadd X.here hx rfl hd rfl q) k
theorem own_isub (X : Stand p l e R s m args below meth c T locs cells slots) (hx : p.tables.exec = Jvm.exec) {pc pc' : Nat} {Ls : Array Slot} {x y z : Int32} {rest : List Value} (hd : decode c.code pc = .ok (.isub, 1)) (hz : x - y = z) (hp : pc + 1 = pc') (k : own_G p.tables e below P T (mkF m pc' Ls (.int z :: rest))) : own_G p.tables e below P T (mkF m pc Ls (.int y :: .int x :: rest)) := by
  subst hp; subst hz; exact own_go (fun t q => XS.isub X.here hx rfl hd rfl q) k
theorem own_imul (X : Stand p l e R s m args below meth c T locs cells slots) (hx : p.tables.exec = Jvm.exec) {pc pc' : Nat} {Ls : Array Slot} {x y z : Int32} {rest : List Value} (hd : decode c.code pc = .ok (.imul, 1)) (hz : x * y = z) (hp : pc + 1 = pc') (k : own_G p.tables e below P T (mkF m pc' Ls (.int z :: rest))) : own_G p.tables e below P T (mkF m pc Ls (.int y :: .int x :: rest)) := by
  subst hp; subst hz; exact own_go (fun t q => XS.imul X.here hx rfl hd rfl q) k
theorem own_iand (X : Stand p l e R s m args below meth c T locs cells slots) (hx : p.tables.exec = Jvm.exec) {pc pc' : Nat} {Ls : Array Slot} {x y z : Int32} {rest : List Value} (hd : decode c.code pc = .ok (.iand, 1)) (hz : x &&& y = z) (hp : pc + 1 = pc') (k : own_G p.tables e below P T (mkF m pc' Ls (.int z :: rest))) : own_G p.tables e below P T (mkF m pc Ls (.int y :: .int x :: rest)) := by
  subst hp; subst hz; exact own_go (fun t q => XS.iand X.here hx rfl hd rfl q) k
theorem own_ior (X : Stand p l e R s m args below meth c T locs cells slots) (hx : p.tables.exec = Jvm.exec) {pc pc' : Nat} {Ls : Array Slot} {x y z : Int32} {rest : List Value} (hd : decode c.code pc = .ok (.ior, 1)) (hz : x ||| y = z) (hp : pc + 1 = pc') (k : own_G p.tables e below P T (mkF m pc' Ls (.int z :: rest))) : own_G p.tables e below P T (mkF m pc Ls (.int y :: .int x :: rest)) := by
  subst hp; subst hz; exact own_go (fun t q => XS.ior X.here hx rfl hd rfl q) k
theorem own_ixor (X : Stand p l e R s m args below meth c T locs cells slots) (hx : p.tables.exec = Jvm.exec) {pc pc' : Nat} {Ls : Array Slot} {x y z : Int32} {rest : List Value} (hd : decode c.code pc = .ok (.ixor, 1)) (hz : x ^^^ y = z) (hp : pc + 1 = pc') (k : own_G p.tables e below P T (mkF m pc' Ls (.int z :: rest))) : own_G p.tables e below P T (mkF m pc Ls (.int y :: .int x :: rest)) := by
  subst hp; subst hz; exact own_go (fun t q => XS.ixor X.here hx rfl hd rfl q) k
theorem own_ladd (X : Stand p l e R s m args below meth c T locs cells slots) (hx : p.tables.exec = Jvm.exec) {pc pc' : Nat} {Ls : Array Slot} {x y z : Int64} {rest : List Value} (hd : decode c.code pc = .ok (.ladd, 1)) (hz : x + y = z) (hp : pc + 1 = pc') (k : own_G p.tables e below P T (mkF m pc' Ls (.long z :: rest))) : own_G p.tables e below P T (mkF m pc Ls (.long y :: .long x :: rest)) := by
  subst hp; subst hz; exact own_go (fun t q => XS.ladd X.here hx rfl hd rfl q) k
theorem own_lsub (X : Stand p l e R s m args below meth c T locs cells slots) (hx : p.tables.exec = Jvm.exec) {pc pc' : Nat} {Ls : Array Slot} {x y z : Int64} {rest : List Value} (hd : decode c.code pc = .ok (.lsub, 1)) (hz : x - y = z) (hp : pc + 1 = pc') (k : own_G p.tables e below P T (mkF m pc' Ls (.long z :: rest))) : own_G p.tables e below P T (mkF m pc Ls (.long y :: .long x :: rest)) := by
  subst hp; subst hz; exact own_go (fun t q => XS.lsub X.here hx rfl hd rfl q) k
theorem own_lmul (X : Stand p l e R s m args below meth c T locs cells slots) (hx : p.tables.exec = Jvm.exec) {pc pc' : Nat} {Ls : Array Slot} {x y z : Int64} {rest : List Value} (hd : decode c.code pc = .ok (.lmul, 1)) (hz : x * y = z) (hp : pc + 1 = pc') (k : own_G p.tables e below P T (mkF m pc' Ls (.long z :: rest))) : own_G p.tables e below P T (mkF m pc Ls (.long y :: .long x :: rest)) := by
  subst hp; subst hz; exact own_go (fun t q => XS.lmul X.here hx rfl hd rfl q) k
theorem own_land (X : Stand p l e R s m args below meth c T locs cells slots) (hx : p.tables.exec = Jvm.exec) {pc pc' : Nat} {Ls : Array Slot} {x y z : Int64} {rest : List Value} (hd : decode c.code pc = .ok (.land, 1)) (hz : x &&& y = z) (hp : pc + 1 = pc') (k : own_G p.tables e below P T (mkF m pc' Ls (.long z :: rest))) : own_G p.tables e below P T (mkF m pc Ls (.long y :: .long x :: rest)) := by
  subst hp; subst hz; exact own_go (fun t q => XS.land X.here hx rfl hd rfl q) k
theorem own_lor (X : Stand p l e R s m args below meth c T locs cells slots) (hx : p.tables.exec = Jvm.exec) {pc pc' : Nat} {Ls : Array Slot} {x y z : Int64} {rest : List Value} (hd : decode c.code pc = .ok (.lor, 1)) (hz : x ||| y = z) (hp : pc + 1 = pc') (k : own_G p.tables e below P T (mkF m pc' Ls (.long z :: rest))) : own_G p.tables e below P T (mkF m pc Ls (.long y :: .long x :: rest)) := by
  subst hp; subst hz; exact own_go (fun t q => XS.lor X.here hx rfl hd rfl q) k
theorem own_lxor (X : Stand p l e R s m args below meth c T locs cells slots) (hx : p.tables.exec = Jvm.exec) {pc pc' : Nat} {Ls : Array Slot} {x y z : Int64} {rest : List Value} (hd : decode c.code pc = .ok (.lxor, 1)) (hz : x ^^^ y = z) (hp : pc + 1 = pc') (k : own_G p.tables e below P T (mkF m pc' Ls (.long z :: rest))) : own_G p.tables e below P T (mkF m pc Ls (.long y :: .long x :: rest)) := by
  subst hp; subst hz; exact own_go (fun t q => XS.lxor X.here hx rfl hd rfl q) k
theorem own_ishl (X : Stand p l e R s m args below meth c T locs cells slots) (hx : p.tables.exec = Jvm.exec) {pc pc' : Nat} {Ls : Array Slot} {x y : Int32} {rest : List Value} (hd : decode c.code pc = .ok (.ishl, 1)) (hp : pc + 1 = pc') (k : own_G p.tables e below P T (mkF m pc' Ls (.int (x <<< (y &&& 31)) :: rest))) : own_G p.tables e below P T (mkF m pc Ls (.int y :: .int x :: rest)) := by
  subst hp; exact own_go (fun t q => XS.ishl X.here hx rfl hd rfl q) k
theorem own_ishr (X : Stand p l e R s m args below meth c T locs cells slots) (hx : p.tables.exec = Jvm.exec) {pc pc' : Nat} {Ls : Array Slot} {x y : Int32} {rest : List Value} (hd : decode c.code pc = .ok (.ishr, 1)) (hp : pc + 1 = pc') (k : own_G p.tables e below P T (mkF m pc' Ls (.int (x >>> (y &&& 31)) :: rest))) : own_G p.tables e below P T (mkF m pc Ls (.int y :: .int x :: rest)) := by
  subst hp; exact own_go (fun t q => XS.ishr X.here hx rfl hd rfl q) k
theorem own_iushr (X : Stand p l e R s m args below meth c T locs cells slots) (hx : p.tables.exec = Jvm.exec) {pc pc' : Nat} {Ls : Array Slot} {x y : Int32} {rest : List Value} (hd : decode c.code pc = .ok (.iushr, 1)) (hp : pc + 1 = pc') (k : own_G p.tables e below P T (mkF m pc' Ls (.int ((x.toUInt32 >>> (y &&& 31).toUInt32).toInt32) :: rest))) : own_G p.tables e below P T (mkF m pc Ls (.int y :: .int x :: rest)) := by
  subst hp; exact own_go (fun t q => XS.iushr X.here hx rfl hd rfl q) k
theorem own_lshl (X : Stand p l e R s m args below meth c T locs cells slots) (hx : p.tables.exec = Jvm.exec) {pc pc' : Nat} {Ls : Array Slot} {x : Int64} {y : Int32} {rest : List Value} (hd : decode c.code pc = .ok (.lshl, 1)) (hp : pc + 1 = pc') (k : own_G p.tables e below P T (mkF m pc' Ls (.long (x <<< (y &&& 0x3f).toInt64) :: rest))) : own_G p.tables e below P T (mkF m pc Ls (.int y :: .long x :: rest)) := by
  subst hp; exact own_go (fun t q => XS.lshl X.here hx rfl hd rfl q) k
theorem own_lshr (X : Stand p l e R s m args below meth c T locs cells slots) (hx : p.tables.exec = Jvm.exec) {pc pc' : Nat} {Ls : Array Slot} {x : Int64} {y : Int32} {rest : List Value} (hd : decode c.code pc = .ok (.lshr, 1)) (hp : pc + 1 = pc') (k : own_G p.tables e below P T (mkF m pc' Ls (.long (x >>> (y &&& 0x3f).toInt64) :: rest))) : own_G p.tables e below P T (mkF m pc Ls (.int y :: .long x :: rest)) := by
  subst hp; exact own_go (fun t q => XS.lshr X.here hx rfl hd rfl q) k
theorem own_lushr (X : Stand p l e R s m args below meth c T locs cells slots) (hx : p.tables.exec = Jvm.exec) {pc pc' : Nat} {Ls : Array Slot} {x : Int64} {y : Int32} {rest : List Value} (hd : decode c.code pc = .ok (.lushr, 1)) (hp : pc + 1 = pc') (k : own_G p.tables e below P T (mkF m pc' Ls (.long ((x.toUInt64 >>> (y &&& 0x3f).toInt64.toUInt64).toInt64) :: rest))) : own_G p.tables e below P T (mkF m pc Ls (.int y :: .long x :: rest)) := by
  subst hp; exact own_go (fun t q => XS.lushr X.here hx rfl hd rfl q) k
theorem own_i2l (X : Stand p l e R s m args below meth c T locs cells slots) (hx : p.tables.exec = Jvm.exec) {pc pc' : Nat} {Ls : Array Slot} {x : Int32} {rest : List Value} (hd : decode c.code pc = .ok (.i2l, 1)) (hp : pc + 1 = pc') (k : own_G p.tables e below P T (mkF m pc' Ls (.long (x.toInt64) :: rest))) : own_G p.tables e below P T (mkF m pc Ls (.int x :: rest)) := by
  subst hp; exact own_go (fun t q => XS.i2l X.here hx rfl hd rfl q) k
theorem own_l2i (X : Stand p l e R s m args below meth c T locs cells slots) (hx : p.tables.exec = Jvm.exec) {pc pc' : Nat} {Ls : Array Slot} {x : Int64} {rest : List Value} (hd : decode c.code pc = .ok (.l2i, 1)) (hp : pc + 1 = pc') (k : own_G p.tables e below P T (mkF m pc' Ls (.int (x.toInt32) :: rest))) : own_G p.tables e below P T (mkF m pc Ls (.long x :: rest)) := by
  subst hp; exact own_go (fun t q => XS.l2i X.here hx rfl hd rfl q) k
theorem own_i2b (X : Stand p l e R s m args below meth c T locs cells slots) (hx : p.tables.exec = Jvm.exec) {pc pc' : Nat} {Ls : Array Slot} {x : Int32} {rest : List Value} (hd : decode c.code pc = .ok (.i2b, 1)) (hp : pc + 1 = pc') (k : own_G p.tables e below P T (mkF m pc' Ls (.int (x.toInt8.toInt32) :: rest))) : own_G p.tables e below P T (mkF m pc Ls (.int x :: rest)) := by
  subst hp; exact own_go (fun t q => XS.i2b X.here hx rfl hd rfl q) k
theorem own_i2s (X : Stand p l e R s m args below meth c T locs cells slots) (hx : p.tables.exec = Jvm.exec) {pc pc' : Nat} {Ls : Array Slot} {x : Int32} {rest : List Value} (hd : decode c.code pc = .ok (.i2s, 1)) (hp : pc + 1 = pc') (k : own_G p.tables e below P T (mkF m pc' Ls (.int (x.toInt16.toInt32) :: rest))) : own_G p.tables e below P T (mkF m pc Ls (.int x :: rest)) := by
  subst hp; exact own_go (fun t q => XS.i2s X.here hx rfl hd rfl q) k
theorem own_i2c (X : Stand p l e R s m args below meth c T locs cells slots) (hx : p.tables.exec = Jvm.exec) {pc pc' : Nat} {Ls : Array Slot} {x : Int32} {rest : List Value} (hd : decode c.code pc = .ok (.i2c, 1)) (hp : pc + 1 = pc') (k : own_G p.tables e below P T (mkF m pc' Ls (.int (x.toUInt32.toUInt16.toUInt32.toInt32) :: rest))) : own_G p.tables e below P T (mkF m pc Ls (.int x :: rest)) := by
  subst hp; exact own_go (fun t q => XS.i2c X.here hx rfl hd rfl q) k
theorem own_ineg (X : Stand p l e R s m args below meth c T locs cells slots) (hx : p.tables.exec = Jvm.exec) {pc pc' : Nat} {Ls : Array Slot} {x : Int32} {rest : List Value} (hd : decode c.code pc = .ok (.ineg, 1)) (hp : pc + 1 = pc') (k : own_G p.tables e below P T (mkF m pc' Ls (.int (-x) :: rest))) : own_G p.tables e below P T (mkF m pc Ls (.int x :: rest)) := by
  subst hp; exact own_go (fun t q => XS.ineg X.here hx rfl hd rfl q) k
theorem own_lneg (X : Stand p l e R s m args below meth c T locs cells slots) (hx : p.tables.exec = Jvm.exec) {pc pc' : Nat} {Ls : Array Slot} {x : Int64} {rest : List Value} (hd : decode c.code pc = .ok (.lneg, 1)) (hp : pc + 1 = pc') (k : own_G p.tables e below P T (mkF m pc' Ls (.long (-x) :: rest))) : own_G p.tables e below P T (mkF m pc Ls (.long x :: rest)) := by
  subst hp; exact own_go (fun t q => XS.lneg X.here hx rfl hd rfl q) k
theorem own_lcmp (X : Stand p l e R s m args below meth c T locs cells slots) (hx : p.tables.exec = Jvm.exec) {pc pc' : Nat} {Ls : Array Slot} {x y : Int64} {rest : List Value} (hd : decode c.code pc = .ok (.lcmp, 1)) (hp : pc + 1 = pc') (k : own_G p.tables e below P T (mkF m pc' Ls (.int (lcmpW x y) :: rest))) : own_G p.tables e below P T (mkF m pc Ls (.long y :: .long x :: rest)) := by
  subst hp; exact own_go (fun t q => XS.lcmp X.here hx rfl hd rfl q) k
theorem own_idiv (X : Stand p l e R s m args below meth c T locs cells slots) (hx : p.tables.exec = Jvm.exec) {pc pc' : Nat} {Ls : Array Slot} {x y z : Int32} {rest : List Value} (hd : decode c.code pc = .ok (.idiv, 1)) (hz : x / y = z) (hy : y ≠ 0) (hp : pc + 1 = pc') (k : own_G p.tables e below P T (mkF m pc' Ls (.int z :: rest))) : own_G p.tables e below P T (mkF m pc Ls (.int y :: .int x :: rest)) := by
  subst hp; subst hz; exact own_go (fun t q => XS.idiv X.here hx rfl hd rfl hy q) k
theorem own_irem (X : Stand p l e R s m args below meth c T locs cells slots) (hx : p.tables.exec = Jvm.exec) {pc pc' : Nat} {Ls : Array Slot} {x y : Int32} {rest : List Value} (hd : decode c.code pc = .ok (.irem, 1)) (hy : y ≠ 0) (hp : pc + 1 = pc') (k : own_G p.tables e below P T (mkF m pc' Ls (.int (x % y) :: rest))) : own_G p.tables e below P T (mkF m pc Ls (.int y :: .int x :: rest)) := by
  subst hp; exact own_go (fun t q => iremM X hx rfl hd rfl hy q) k
theorem own_iloadN (X : Stand p l e R s m args below meth c T locs cells slots) (hx : p.tables.exec = Jvm.exec) {pc pc' : Nat} {Ls : Array Slot} {j : Fin 4} {v : Int32} {st : List Value} (hd : decode c.code pc = .ok (.iload_n j, 1)) (hl : Ls[j.val]? = some (.val (.int v))) (hp : pc + 1 = pc') (k : own_G p.tables e below P T (mkF m pc' Ls (.int v :: st))) : own_G p.tables e below P T (mkF m pc Ls (st)) := by
  subst hp; exact own_go (fun t q => XS.iloadN X.here hx rfl hd hl q) k
theorem own_iload (X : Stand p l e R s m args below meth c T locs cells slots) (hx : p.tables.exec = Jvm.exec) {pc pc' : Nat} {Ls : Array Slot} {j : Nat} {v : Int32} {st : List Value} (hd : decode c.code pc = .ok (.iload j, 2)) (hl : Ls[j]? = some (.val (.int v))) (hp : pc + 2 = pc') (k : own_G p.tables e below P T (mkF m pc' Ls (.int v :: st))) : own_G p.tables e below P T (mkF m pc Ls (st)) := by
  subst hp; exact own_go (fun t q => XS.iload X.here hx rfl hd hl q) k
theorem own_lloadN (X : Stand p l e R s m args below meth c T locs cells slots) (hx : p.tables.exec = Jvm.exec) {pc pc' : Nat} {Ls : Array Slot} {j : Fin 4} {v : Int64} {st : List Value} (hd : decode c.code pc = .ok (.lload_n j, 1)) (hl : Ls[j.val]? = some (.val (.long v))) (hp : pc + 1 = pc') (k : own_G p.tables e below P T (mkF m pc' Ls (.long v :: st))) : own_G p.tables e below P T (mkF m pc Ls (st)) := by
  subst hp; exact own_go (fun t q => XS.lloadN X.here hx rfl hd hl q) k
theorem own_lload (X : Stand p l e R s m args below meth c T locs cells slots) (hx : p.tables.exec = Jvm.exec) {pc pc' : Nat} {Ls : Array Slot} {j : Nat} {v : Int64} {st : List Value} (hd : decode c.code pc = .ok (.lload j, 2)) (hl : Ls[j]? = some (.val (.long v))) (hp : pc + 2 = pc') (k : own_G p.tables e below P T (mkF m pc' Ls (.long v :: st))) : own_G p.tables e below P T (mkF m pc Ls (st)) := by
  subst hp; exact own_go (fun t q => XS.lload X.here hx rfl hd hl q) k
theorem own_aloadN (X : Stand p l e R s m args below meth c T locs cells slots) (hx : p.tables.exec = Jvm.exec) {pc pc' : Nat} {Ls : Array Slot} {j : Fin 4} {v : Value} {st : List Value} (hd : decode c.code pc = .ok (.aload_n j, 1)) (hl : Ls[j.val]? = some (.val v)) (hv : v.isRef = true) (hp : pc + 1 = pc') (k : own_G p.tables e below P T (mkF m pc' Ls (v :: st))) : own_G p.tables e below P T (mkF m pc Ls (st)) := by
  subst hp; exact own_go (fun t q => XS.aloadN X.here hx rfl hd hl hv q) k
theorem own_istoreN (X : Stand p l e R s m args below meth c T locs cells slots) (hx : p.tables.exec = Jvm.exec) {pc pc' : Nat} {Ls : Array Slot} {j : Fin 4} {v : Int32} {rest : List Value} {Ls' : Array Slot} (hd : decode c.code pc = .ok (.istore_n j, 1)) (hl : storeLocals Ls j.val (.int v) = some Ls') (hp : pc + 1 = pc') (k : own_G p.tables e below P T (mkF m pc' Ls' (rest))) : own_G p.tables e below P T (mkF m pc Ls (.int v :: rest)) := by
  subst hp; exact own_go (fun t q => XS.istoreN X.here hx rfl hd rfl hl q) k
theorem own_lstoreN (X : Stand p l e R s m args below meth c T locs cells slots) (hx : p.tables.exec = Jvm.exec) {pc pc' : Nat} {Ls : Array Slot} {j : Fin 4} {v : Int64} {rest : List Value} {Ls' : Array Slot} (hd : decode c.code pc = .ok (.lstore_n j, 1)) (hl : storeLocals Ls j.val (.long v) = some Ls') (hp : pc + 1 = pc') (k : own_G p.tables e below P T (mkF m pc' Ls' (rest))) : own_G p.tables e below P T (mkF m pc Ls (.long v :: rest)) := by
  subst hp; exact own_go (fun t q => XS.lstoreN X.here hx rfl hd rfl hl q) k
theorem own_astoreN (X : Stand p l e R s m args below meth c T locs cells slots) (hx : p.tables.exec = Jvm.exec) {pc pc' : Nat} {Ls : Array Slot} {j : Fin 4} {v : Value} {rest : List Value} {Ls' : Array Slot} (hd : decode c.code pc = .ok (.astore_n j, 1)) (hv : v.isRef = true) (hl : storeLocals Ls j.val v = some Ls') (hp : pc + 1 = pc') (k : own_G p.tables e below P T (mkF m pc' Ls' (rest))) : own_G p.tables e below P T (mkF m pc Ls (v :: rest)) := by
  subst hp; exact own_go (fun t q => XS.astoreN X.here hx rfl hd rfl hv hl q) k
theorem own_aload (X : Stand p l e R s m args below meth c T locs cells slots) (hx : p.tables.exec = Jvm.exec) {pc pc' : Nat} {Ls : Array Slot} {j : Nat} {v : Value} {st : List Value} (hd : decode c.code pc = .ok (.aload j, 2)) (hl : Ls[j]? = some (.val v)) (hv : v.isRef = true) (hp : pc + 2 = pc') (k : own_G p.tables e below P T (mkF m pc' Ls (v :: st))) : own_G p.tables e below P T (mkF m pc Ls (st)) := by
  subst hp; exact own_go (fun t q => XS.aload X.here hx rfl hd hl hv q) k
theorem own_istore (X : Stand p l e R s m args below meth c T locs cells slots) (hx : p.tables.exec = Jvm.exec) {pc pc' : Nat} {Ls : Array Slot} {j : Nat} {v : Int32} {rest : List Value} {Ls' : Array Slot} (hd : decode c.code pc = .ok (.istore j, 2)) (hl : storeLocals Ls j (.int v) = some Ls') (hp : pc + 2 = pc') (k : own_G p.tables e below P T (mkF m pc' Ls' (rest))) : own_G p.tables e below P T (mkF m pc Ls (.int v :: rest)) := by
  subst hp; exact own_go (fun t q => XS.istore X.here hx rfl hd rfl hl q) k
theorem own_lstore (X : Stand p l e R s m args below meth c T locs cells slots) (hx : p.tables.exec = Jvm.exec) {pc pc' : Nat} {Ls : Array Slot} {j : Nat} {v : Int64} {rest : List Value} {Ls' : Array Slot} (hd : decode c.code pc = .ok (.lstore j, 2)) (hl : storeLocals Ls j (.long v) = some Ls') (hp : pc + 2 = pc') (k : own_G p.tables e below P T (mkF m pc' Ls' (rest))) : own_G p.tables e below P T (mkF m pc Ls (.long v :: rest)) := by
  subst hp; exact own_go (fun t q => XS.lstore X.here hx rfl hd rfl hl q) k
theorem own_astore (X : Stand p l e R s m args below meth c T locs cells slots) (hx : p.tables.exec = Jvm.exec) {pc pc' : Nat} {Ls : Array Slot} {j : Nat} {v : Value} {rest : List Value} {Ls' : Array Slot} (hd : decode c.code pc = .ok (.astore j, 2)) (hv : v.isRef = true) (hl : storeLocals Ls j v = some Ls') (hp : pc + 2 = pc') (k : own_G p.tables e below P T (mkF m pc' Ls' (rest))) : own_G p.tables e below P T (mkF m pc Ls (v :: rest)) := by
  subst hp; exact own_go (fun t q => XS.astore X.here hx rfl hd rfl hv hl q) k
theorem own_iinc (X : Stand p l e R s m args below meth c T locs cells slots) (hx : p.tables.exec = Jvm.exec) {pc pc' : Nat} {Ls : Array Slot} {j : Nat} {cst : Int} {x : Int32} {st : List Value} {Ls' : Array Slot} (hd : decode c.code pc = .ok (.iinc j cst, 3)) (hl : Ls[j]? = some (.val (.int x))) (hl' : storeLocals Ls j (.int (x + Int32.ofInt cst)) = some Ls') (hp : pc + 3 = pc') (k : own_G p.tables e below P T (mkF m pc' Ls' (st))) : own_G p.tables e below P T (mkF m pc Ls (st)) := by
  subst hp; exact own_go (fun t q => XS.iinc X.here hx rfl hd hl hl' q) k
theorem own_iconst (X : Stand p l e R s m args below meth c T locs cells slots) (hx : p.tables.exec = Jvm.exec) {pc pc' : Nat} {Ls : Array Slot} {i : Int} {st : List Value} (z : Int32) (hd : decode c.code pc = .ok (.iconst i, 1)) (hz : Int32.ofInt i = z) (hp : pc + 1 = pc') (k : own_G p.tables e below P T (mkF m pc' Ls (.int z :: st))) : own_G p.tables e below P T (mkF m pc Ls (st)) := by
  subst hp; subst hz; exact own_go (fun t q => XS.iconst X.here hx rfl hd q) k
theorem own_bipush (X : Stand p l e R s m args below meth c T locs cells slots) (hx : p.tables.exec = Jvm.exec) {pc pc' : Nat} {Ls : Array Slot} {i : Int} {st : List Value} (z : Int32) (hd : decode c.code pc = .ok (.bipush i, 2)) (hz : (Int8.ofInt i).toInt32 = z) (hp : pc + 2 = pc') (k : own_G p.tables e below P T (mkF m pc' Ls (.int z :: st))) : own_G p.tables e below P T (mkF m pc Ls (st)) := by
  subst hp; subst hz; exact own_go (fun t q => XS.bipush X.here hx rfl hd q) k
theorem own_sipush (X : Stand p l e R s m args below meth c T locs cells slots) (hx : p.tables.exec = Jvm.exec) {pc pc' : Nat} {Ls : Array Slot} {i : Int} {st : List Value} (z : Int32) (hd : decode c.code pc = .ok (.sipush i, 3)) (hz : (Int16.ofInt i).toInt32 = z) (hp : pc + 3 = pc') (k : own_G p.tables e below P T (mkF m pc' Ls (.int z :: st))) : own_G p.tables e below P T (mkF m pc Ls (st)) := by
  subst hp; subst hz; exact own_go (fun t q => XS.sipush X.here hx rfl hd q) k
theorem own_lconst (X : Stand p l e R s m args below meth c T locs cells slots) (hx : p.tables.exec = Jvm.exec) {pc pc' : Nat} {Ls : Array Slot} {i : Fin 2} {st : List Value} (z : Int64) (hd : decode c.code pc = .ok (.lconst i, 1)) (hz : Int64.ofNat i = z) (hp : pc + 1 = pc') (k : own_G p.tables e below P T (mkF m pc' Ls (.long z :: st))) : own_G p.tables e below P T (mkF m pc Ls (st)) := by
  subst hp; subst hz; exact own_go (fun t q => XS.lconst X.here hx rfl hd q) k
theorem own_aconstNull (X : Stand p l e R s m args below meth c T locs cells slots) (hx : p.tables.exec = Jvm.exec) {pc pc' : Nat} {Ls : Array Slot} {st : List Value} (hd : decode c.code pc = .ok (.aconst_null, 1)) (hp : pc + 1 = pc') (k : own_G p.tables e below P T (mkF m pc' Ls (.null :: st))) : own_G p.tables e below P T (mkF m pc Ls (st)) := by
  subst hp; exact own_go (fun t q => XS.aconstNull X.here hx rfl hd q) k
theorem own_dup (X : Stand p l e R s m args below meth c T locs cells slots) (hx : p.tables.exec = Jvm.exec) {pc pc' : Nat} {Ls : Array Slot} {v : Value} {rest : List Value} (hd : decode c.code pc = .ok (.dup, 1)) (hc : v.category = 1) (hp : pc + 1 = pc') (k : own_G p.tables e below P T (mkF m pc' Ls (v :: v :: rest))) : own_G p.tables e below P T (mkF m pc Ls (v :: rest)) := by
  subst hp; exact own_go (fun t q => XS.dup X.here hx rfl hd rfl hc q) k
theorem own_pop (X : Stand p l e R s m args below meth c T locs cells slots) (hx : p.tables.exec = Jvm.exec) {pc pc' : Nat} {Ls : Array Slot} {v : Value} {rest : List Value} (hd : decode c.code pc = .ok (.pop, 1)) (hc : v.category = 1) (hp : pc + 1 = pc') (k : own_G p.tables e below P T (mkF m pc' Ls (rest))) : own_G p.tables e below P T (mkF m pc Ls (v :: rest)) := by
  subst hp; exact own_go (fun t q => XS.pop X.here hx rfl hd rfl hc q) k
theorem own_dupX1 (X : Stand p l e R s m args below meth c T locs cells slots) (hx : p.tables.exec = Jvm.exec) {pc pc' : Nat} {Ls : Array Slot} {v w : Value} {rest : List Value} (hd : decode c.code pc = .ok (.dup_x1, 1)) (hc : v.category = 1) (hc' : w.category = 1) (hp : pc + 1 = pc') (k : own_G p.tables e below P T (mkF m pc' Ls (v :: w :: v :: rest))) : own_G p.tables e below P T (mkF m pc Ls (v :: w :: rest)) := by
  subst hp; exact own_go (fun t q => XS.dupX1 X.here hx rfl hd rfl hc hc' q) k
theorem own_dup2 (X : Stand p l e R s m args below meth c T locs cells slots) (hx : p.tables.exec = Jvm.exec) {pc pc' : Nat} {Ls : Array Slot} {v w : Value} {rest : List Value} (hd : decode c.code pc = .ok (.dup2, 1)) (hc : v.category = 1) (hc' : w.category = 1) (hp : pc + 1 = pc') (k : own_G p.tables e below P T (mkF m pc' Ls (v :: w :: v :: w :: rest))) : own_G p.tables e below P T (mkF m pc Ls (v :: w :: rest)) := by
  subst hp; exact own_go (fun t q => Jvm.Free.XT.dup2 X.here hx rfl hd rfl hc hc' q) k
theorem own_goto (X : Stand p l e R s m args below meth c T locs cells slots) (hx : p.tables.exec = Jvm.exec) {pc pc' : Nat} {Ls : Array Slot} {st : List Value} {o : Int} (hd : decode c.code pc = .ok (.goto o, 3)) (ho : 0 ≤ (pc : Int) + o) (hp : ((pc : Int) + o).toNat = pc') (k : own_G p.tables e below P T (mkF m pc' Ls (st))) : own_G p.tables e below P T (mkF m pc Ls (st)) := by
  exact own_go (fun t q => XS.goto X.here hx rfl (pc0 := pc) (pc' := pc') rfl hd ho hp q) k
theorem own_ifYes (X : Stand p l e R s m args below meth c T locs cells slots) (hx : p.tables.exec = Jvm.exec) {pc pc' : Nat} {Ls : Array Slot} {cd : ClassFile.Cond} {x : Int32} {rest : List Value} {o : Int} (hd : decode c.code pc = .ok (.ifCond cd o, 3)) (hc : if_icmp.holds cd x 0 = true) (ho : 0 ≤ (pc : Int) + o) (hp : ((pc : Int) + o).toNat = pc') (k : own_G p.tables e below P T (mkF m pc' Ls (rest))) : own_G p.tables e below P T (mkF m pc Ls (.int x :: rest)) := by
  exact own_go (fun t q => XS.ifYes X.here hx rfl (pc0 := pc) (pc' := pc') rfl hd rfl ((if0 _ _).trans hc) ho hp q) k
theorem own_icmpYes (X : Stand p l e R s m args below meth c T locs cells slots) (hx : p.tables.exec = Jvm.exec) {pc pc' : Nat} {Ls : Array Slot} {cd : ClassFile.Cond} {x y : Int32} {rest : List Value} {o : Int} (hd : decode c.code pc = .ok (.if_icmp cd o, 3)) (hc : if_icmp.holds cd x y = true) (ho : 0 ≤ (pc : Int) + o) (hp : ((pc : Int) + o).toNat = pc') (k : own_G p.tables e below P T (mkF m pc' Ls (rest))) : own_G p.tables e below P T (mkF m pc Ls (.int y :: .int x :: rest)) := by
  exact own_go (fun t q => XS.icmpYes X.here hx rfl (pc0 := pc) (pc' := pc') rfl hd rfl hc ho hp q) k
theorem own_ifnullYes (X : Stand p l e R s m args below meth c T locs cells slots) (hx : p.tables.exec = Jvm.exec) {pc pc' : Nat} {Ls : Array Slot} {rest : List Value} {o : Int} (hd : decode c.code pc = .ok (.ifnull o, 3)) (ho : 0 ≤ (pc : Int) + o) (hp : ((pc : Int) + o).toNat = pc') (k : own_G p.tables e below P T (mkF m pc' Ls (rest))) : own_G p.tables e below P T (mkF m pc Ls (.null :: rest)) := by
  exact own_go (fun t q => XS.ifnullYes X.here hx rfl (pc0 := pc) (pc' := pc') rfl hd rfl ho hp q) k
theorem own_ifnonnullYes (X : Stand p l e R s m args below meth c T locs cells slots) (hx : p.tables.exec = Jvm.exec) {pc pc' : Nat} {Ls : Array Slot} {b : Addr} {rest : List Value} {o : Int} (hd : decode c.code pc = .ok (.ifnonnull o, 3)) (ho : 0 ≤ (pc : Int) + o) (hp : ((pc : Int) + o).toNat = pc') (k : own_G p.tables e below P T (mkF m pc' Ls (rest))) : own_G p.tables e below P T (mkF m pc Ls (.ref b :: rest)) := by
  exact own_go (fun t q => XS.ifnonnullYes X.here hx rfl (pc0 := pc) (pc' := pc') rfl hd rfl ho hp q) k
theorem own_ifNo (X : Stand p l e R s m args below meth c T locs cells slots) (hx : p.tables.exec = Jvm.exec) {pc pc' : Nat} {Ls : Array Slot} {cd : ClassFile.Cond} {o : Int} {x : Int32} {rest : List Value} (hd : decode c.code pc = .ok (.ifCond cd o, 3)) (hc : if_icmp.holds cd x 0 = false) (hp : pc + 3 = pc') (k : own_G p.tables e below P T (mkF m pc' Ls (rest))) : own_G p.tables e below P T (mkF m pc Ls (.int x :: rest)) := by
  subst hp; exact own_go (fun t q => XS.ifNo X.here hx rfl hd rfl ((if0 _ _).trans hc) q) k
theorem own_icmpNo (X : Stand p l e R s m args below meth c T locs cells slots) (hx : p.tables.exec = Jvm.exec) {pc pc' : Nat} {Ls : Array Slot} {cd : ClassFile.Cond} {o : Int} {x y : Int32} {rest : List Value} (hd : decode c.code pc = .ok (.if_icmp cd o, 3)) (hc : if_icmp.holds cd x y = false) (hp : pc + 3 = pc') (k : own_G p.tables e below P T (mkF m pc' Ls (rest))) : own_G p.tables e below P T (mkF m pc Ls (.int y :: .int x :: rest)) := by
  subst hp; exact own_go (fun t q => XS.icmpNo X.here hx rfl hd rfl hc q) k
theorem own_ifnullNo (X : Stand p l e R s m args below meth c T locs cells slots) (hx : p.tables.exec = Jvm.exec) {pc pc' : Nat} {Ls : Array Slot} {o : Int} {b : Addr} {rest : List Value} (hd : decode c.code pc = .ok (.ifnull o, 3)) (hp : pc + 3 = pc') (k : own_G p.tables e below P T (mkF m pc' Ls (rest))) : own_G p.tables e below P T (mkF m pc Ls (.ref b :: rest)) := by
  subst hp; exact own_go (fun t q => XS.ifnullNo X.here hx rfl hd rfl q) k
theorem own_ifnonnullNo (X : Stand p l e R s m args below meth c T locs cells slots) (hx : p.tables.exec = Jvm.exec) {pc pc' : Nat} {Ls : Array Slot} {o : Int} {rest : List Value} (hd : decode c.code pc = .ok (.ifnonnull o, 3)) (hp : pc + 3 = pc') (k : own_G p.tables e below P T (mkF m pc' Ls (rest))) : own_G p.tables e below P T (mkF m pc Ls (.null :: rest)) := by
  subst hp; exact own_go (fun t q => XS.ifnonnullNo X.here hx rfl hd rfl q) k
theorem own_acmp (X : Stand p l e R s m args below meth c T locs cells slots) (hx : p.tables.exec = Jvm.exec) {pc pc' : Nat} {Ls : Array Slot} {cd : ACond} {x y : Value} {rest : List Value} {o : Int} (same : Bool) (hd : decode c.code pc = .ok (.if_acmp cd o, 3)) (h1 : x.isRef = true) (h2 : y.isRef = true) (hq : decide (x = y) = same) (ho : 0 ≤ (pc : Int) + o) (hp : pc' = if acV cd same = true then ((pc : Int) + o).toNat else pc + 3) (k : own_G p.tables e below P T (mkF m pc' Ls rest)) : own_G p.tables e below P T (mkF m pc Ls (y :: x :: rest)) := by
  exact own_go (fun t q => Jvm.RoadKit.acmp (g := mkF m pc Ls (y :: x :: rest)) X hx rfl h1 h2 (pc0 := pc) (pc' := pc') rfl hd rfl hq ho hp q) k
theorem own_ldcI (X : Stand p l e R s m args below meth c T locs cells slots) (hx : p.tables.exec = Jvm.exec) {pc pc' : Nat} {Ls : Array Slot} (hZ : Z.Warmed39 s.vm) {own : String} {idx : Nat} {z : Int32} {st : List Value} (hown : s.vm.findClass own = some m.cls) (w : (Jvm.Cond.constant own idx z).before a0 Z = true) (hd : decode c.code pc = .ok (.ldc idx, 2)) (hp : pc + 2 = pc') (k : own_G p.tables e below P T (mkF m pc' Ls (.int z :: st))) : own_G p.tables e below P T (mkF m pc Ls st) := by
  subst hp; exact own_go (X.ldcInt hx hown (mvT hZ w) (g := mkF m pc Ls st) rfl hd) k
theorem own_ldcwI (X : Stand p l e R s m args below meth c T locs cells slots) (hx : p.tables.exec = Jvm.exec) {pc pc' : Nat} {Ls : Array Slot} (hZ : Z.Warmed39 s.vm) {own : String} {idx : Nat} {z : Int32} {st : List Value} (hown : s.vm.findClass own = some m.cls) (w : (Jvm.Cond.constant own idx z).before a0 Z = true) (hd : decode c.code pc = .ok (.ldc_w idx, 3)) (hp : pc + 3 = pc') (k : own_G p.tables e below P T (mkF m pc' Ls (.int z :: st))) : own_G p.tables e below P T (mkF m pc Ls st) := by
  subst hp; exact own_go (X.ldcwInt hx hown (mvT hZ w) (g := mkF m pc Ls st) rfl hd) k
theorem own_ldc2J (X : Stand p l e R s m args below meth c T locs cells slots) (hx : p.tables.exec = Jvm.exec) {pc pc' : Nat} {Ls : Array Slot} (hZ : Z.Warmed39 s.vm) {own : String} {idx : Nat} {z : Int64} {st : List Value} (hown : s.vm.findClass own = some m.cls) (w : (Jvm.Cond.constantLong own idx z).before a0 Z = true) (hd : decode c.code pc = .ok (.ldc2_w idx, 3)) (hp : pc + 3 = pc') (k : own_G p.tables e below P T (mkF m pc' Ls (.long z :: st))) : own_G p.tables e below P T (mkF m pc Ls st) := by
  subst hp; exact own_go (X.ldc2Long hx hown (mvT hZ w) (g := mkF m pc Ls st) rfl hd) k
theorem own_getF (X : Stand p l e R s m args below meth c T locs cells slots) (hx : p.tables.exec = Jvm.exec) {pc pc' : Nat} {Ls : Array Slot} (hZ : Z.Warmed39 s.vm) {own R0 O n d host : String} {idx : Nat} {a : Addr} {v : Value} {rest : List Value} (hown : s.vm.findClass own = some m.cls) (w : (Cond.fieldLink own idx R0 n d).before a0 Z = true ∨ (Cond.fieldLinkNest own idx R0 n d host).before a0 Z = true) (via : Via Z R0 O n d) (eT : T.heap = h) (F : Fld Z h a O n d v) (hd : decode c.code pc = .ok (.getfield idx, 3)) (hp : pc + 3 = pc') (k : ∀ T', Stand p l e R s m args below meth c T' locs cells slots → T'.heap = h → own_G p.tables e below P T' (mkF m pc' Ls (v :: rest))) : own_G p.tables e below P T (mkF m pc Ls (.ref a :: rest)) := by
  subst hp; obtain ⟨T', X', e', st⟩ := getF X hx hZ hown w via eT F (g := mkF m pc Ls (.ref a :: rest)) rfl rfl hd; exact own_go st (k T' X' e')
theorem own_getS (X : Stand p l e R s m args below meth c T locs cells slots) (hx : p.tables.exec = Jvm.exec) {pc pc' : Nat} {Ls : Array Slot} (hZ : Z.Warmed39 s.vm) {own R0 O n d host : String} {idx : Nat} {v : Value} {st : List Value} (hown : s.vm.findClass own = some m.cls) (w : (Cond.fieldLink own idx R0 n d).before a0 Z = true ∨ (Cond.fieldLinkNest own idx R0 n d host).before a0 Z = true) (via : Via Z R0 O n d) (eT : T.heap = h) (F : Sta Z h O n d v) (hd : decode c.code pc = .ok (.getstatic idx, 3)) (hp : pc + 3 = pc') (k : ∀ T', Stand p l e R s m args below meth c T' locs cells slots → T'.heap = h → own_G p.tables e below P T' (mkF m pc' Ls (v :: st))) : own_G p.tables e below P T (mkF m pc Ls st) := by
  subst hp; obtain ⟨T', X', e', stp⟩ := getS2 X hx hZ hown w via eT F (g := mkF m pc Ls st) rfl hd; exact own_go stp (k T' X' e')
theorem own_len (X : Stand p l e R s m args below meth c T locs cells slots) (hx : p.tables.exec = Jvm.exec) {pc pc' : Nat} {Ls : Array Slot} (hZ : Z.Warmed39 s.vm) {a : Addr} {cl : Cell} {ty : FieldType} {z : Int32} {rest : List Value} (eT : T.heap = h) (A : Arr Z h a cl ty) (S : cl.slots.size = z.toNatClampNeg) (M : ¬ z < 0) (hd : decode c.code pc = .ok (.arraylength, 1)) (hp : pc + 1 = pc') (k : own_G p.tables e below P T (mkF m pc' Ls (.int z :: rest))) : own_G p.tables e below P T (mkF m pc Ls (.ref a :: rest)) := by
  subst hp; exact own_go (fun t q => X.arraylength hx (by rw [eT]; exact A.1) (State.isArrayOf_alike hZ.alike A.2.1) (g := mkF m pc Ls (.ref a :: rest)) rfl rfl hd _ (by rw [len_of S M]; exact q)) k
theorem own_iaload (X : Stand p l e R s m args below meth c T locs cells slots) (hx : p.tables.exec = Jvm.exec) {pc pc' : Nat} {Ls : Array Slot} (hZ : Z.Warmed39 s.vm) {a : Addr} {cl : Cell} {j : Int32} {v : Int32} {rest : List Value} (eT : T.heap = h) (A : Arr Z h a cl .int) (hj : ¬ (j < 0 ∨ cl.slots.size ≤ j.toNatClampNeg)) (hv : cl.slots[j.toNatClampNeg]? = some (.int v)) (hd : decode c.code pc = .ok (.iaload, 1)) (hp : pc + 1 = pc') (k : own_G p.tables e below P T (mkF m pc' Ls ((.int v) :: rest))) : own_G p.tables e below P T (mkF m pc Ls (.int j :: .ref a :: rest)) := by
  subst hp; exact own_go (X.iaload hx (j := j) (v := (.int v)) (by rw [eT]; exact A.1) (State.isArrayOf_alike hZ.alike A.2.1) A.2.2 hj hv (g := mkF m pc Ls (.int j :: .ref a :: rest)) rfl rfl hd) k
theorem own_laload (X : Stand p l e R s m args below meth c T locs cells slots) (hx : p.tables.exec = Jvm.exec) {pc pc' : Nat} {Ls : Array Slot} (hZ : Z.Warmed39 s.vm) {a : Addr} {cl : Cell} {j : Int32} {v : Int64} {rest : List Value} (eT : T.heap = h) (A : Arr Z h a cl .long) (hj : ¬ (j < 0 ∨ cl.slots.size ≤ j.toNatClampNeg)) (hv : cl.slots[j.toNatClampNeg]? = some (.long v)) (hd : decode c.code pc = .ok (.laload, 1)) (hp : pc + 1 = pc') (k : own_G p.tables e below P T (mkF m pc' Ls ((.long v) :: rest))) : own_G p.tables e below P T (mkF m pc Ls (.int j :: .ref a :: rest)) := by
  subst hp; exact own_go (X.laload hx (j := j) (v := (.long v)) (by rw [eT]; exact A.1) (State.isArrayOf_alike hZ.alike A.2.1) A.2.2 hj hv (g := mkF m pc Ls (.int j :: .ref a :: rest)) rfl rfl hd) k
theorem own_baload (X : Stand p l e R s m args below meth c T locs cells slots) (hx : p.tables.exec = Jvm.exec) {pc pc' : Nat} {Ls : Array Slot} (hZ : Z.Warmed39 s.vm) {a : Addr} {cl : Cell} {j : Int32} {v : Int32} {rest : List Value} (eT : T.heap = h) (A : Arr Z h a cl .byte) (hj : ¬ (j < 0 ∨ cl.slots.size ≤ j.toNatClampNeg)) (hv : cl.slots[j.toNatClampNeg]? = some (.int v)) (hd : decode c.code pc = .ok (.baload, 1)) (hp : pc + 1 = pc') (k : own_G p.tables e below P T (mkF m pc' Ls ((.int v) :: rest))) : own_G p.tables e below P T (mkF m pc Ls (.int j :: .ref a :: rest)) := by
  subst hp; exact own_go (X.baloadBytes hx (j := j) (v := (.int v)) (by rw [eT]; exact A.1) (State.isArrayOf_alike hZ.alike A.2.1) A.2.2 hj hv (g := mkF m pc Ls (.int j :: .ref a :: rest)) rfl rfl hd) k
theorem own_caload (X : Stand p l e R s m args below meth c T locs cells slots) (hx : p.tables.exec = Jvm.exec) {pc pc' : Nat} {Ls : Array Slot} (hZ : Z.Warmed39 s.vm) {a : Addr} {cl : Cell} {j : Int32} {v : Int32} {rest : List Value} (eT : T.heap = h) (A : Arr Z h a cl .char) (hj : ¬ (j < 0 ∨ cl.slots.size ≤ j.toNatClampNeg)) (hv : cl.slots[j.toNatClampNeg]? = some (.int v)) (hd : decode c.code pc = .ok (.caload, 1)) (hp : pc + 1 = pc') (k : own_G p.tables e below P T (mkF m pc' Ls ((.int v) :: rest))) : own_G p.tables e below P T (mkF m pc Ls (.int j :: .ref a :: rest)) := by
  subst hp; exact own_go (X.caload hx (j := j) (v := (.int v)) (by rw [eT]; exact A.1) (State.isArrayOf_alike hZ.alike A.2.1) A.2.2 hj hv (g := mkF m pc Ls (.int j :: .ref a :: rest)) rfl rfl hd) k
theorem own_aaload (X : Stand p l e R s m args below meth c T locs cells slots) (hx : p.tables.exec = Jvm.exec) {pc pc' : Nat} {Ls : Array Slot} (hZ : Z.Warmed39 s.vm) {a : Addr} {cl : Cell} {ty : FieldType} {j : Int32} {v : Value} {rest : List Value} (eT : T.heap = h) (A : Arr Z h a cl ty) (hty : ty.isReference = true) (hj : ¬ (j < 0 ∨ cl.slots.size ≤ j.toNatClampNeg)) (hv : cl.slots[j.toNatClampNeg]? = some v) (hd : decode c.code pc = .ok (.aaload, 1)) (hp : pc + 1 = pc') (k : own_G p.tables e below P T (mkF m pc' Ls (v :: rest))) : own_G p.tables e below P T (mkF m pc Ls (.int j :: .ref a :: rest)) := by
  subst hp; exact own_go (X.aaload hx (j := j) (v := v) (by rw [eT]; exact A.1) (State.isArrayOf_alike hZ.alike A.2.1) hty A.2.2 hj hv (g := mkF m pc Ls (.int j :: .ref a :: rest)) rfl rfl hd) k
theorem own_stI (X : Stand p l e R s m args below meth c T locs cells slots) (hx : p.tables.exec = Jvm.exec) {pc pc' : Nat} {Ls : Array Slot} (hZ : Z.Warmed39 s.vm) {a : Addr} {cl : Cell} {j : Int32} {x : Int32} {rest : List Value} (eT : T.heap = h) (A : Arr Z h a cl .int) (hj : ¬ (j < 0 ∨ cl.slots.size ≤ j.toNatClampNeg)) (hd : decode c.code pc = .ok (.iastore, 1)) (hp : pc + 1 = pc') (k : ∀ T' h', Stand p l e R s m args below meth c T' (locs ++ [⟨a, j.toNatClampNeg⟩]) cells slots → T'.heap = h' → Wr h h' a j.toNatClampNeg (.int x) → own_G p.tables e below P T' (mkF m pc' Ls rest)) : own_G p.tables e below P T (mkF m pc Ls (.int x :: .int j :: .ref a :: rest)) := by
  subst hp; obtain ⟨T', h', X', e', W', st⟩ := stI X hx hZ eT A (j := j) hj (g := mkF m pc Ls (.int x :: .int j :: .ref a :: rest)) rfl rfl hd; exact own_go st (k T' h' X' e' W')
theorem own_stJ (X : Stand p l e R s m args below meth c T locs cells slots) (hx : p.tables.exec = Jvm.exec) {pc pc' : Nat} {Ls : Array Slot} (hZ : Z.Warmed39 s.vm) {a : Addr} {cl : Cell} {j : Int32} {x : Int64} {rest : List Value} (eT : T.heap = h) (A : Arr Z h a cl .long) (hj : ¬ (j < 0 ∨ cl.slots.size ≤ j.toNatClampNeg)) (hd : decode c.code pc = .ok (.lastore, 1)) (hp : pc + 1 = pc') (k : ∀ T' h', Stand p l e R s m args below meth c T' (locs ++ [⟨a, j.toNatClampNeg⟩]) cells slots → T'.heap = h' → Wr h h' a j.toNatClampNeg (.long x) → own_G p.tables e below P T' (mkF m pc' Ls rest)) : own_G p.tables e below P T (mkF m pc Ls (.long x :: .int j :: .ref a :: rest)) := by
  subst hp; obtain ⟨T', h', X', e', W', st⟩ := stJ X hx hZ eT A (j := j) hj (g := mkF m pc Ls (.long x :: .int j :: .ref a :: rest)) rfl rfl hd; exact own_go st (k T' h' X' e' W')
theorem own_stB (X : Stand p l e R s m args below meth c T locs cells slots) (hx : p.tables.exec = Jvm.exec) {pc pc' : Nat} {Ls : Array Slot} (hZ : Z.Warmed39 s.vm) {a : Addr} {cl : Cell} {j : Int32} {x : Int32} {rest : List Value} (eT : T.heap = h) (A : Arr Z h a cl .byte) (hj : ¬ (j < 0 ∨ cl.slots.size ≤ j.toNatClampNeg)) (hd : decode c.code pc = .ok (.bastore, 1)) (hp : pc + 1 = pc') (k : ∀ T' h', Stand p l e R s m args below meth c T' (locs ++ [⟨a, j.toNatClampNeg⟩]) cells slots → T'.heap = h' → Wr h h' a j.toNatClampNeg (.int (nar .byte x)) → own_G p.tables e below P T' (mkF m pc' Ls rest)) : own_G p.tables e below P T (mkF m pc Ls (.int x :: .int j :: .ref a :: rest)) := by
  subst hp; obtain ⟨T', h', X', e', W', st⟩ := stB X hx hZ eT A (j := j) hj (g := mkF m pc Ls (.int x :: .int j :: .ref a :: rest)) rfl rfl hd; exact own_go st (k T' h' X' e' W')
theorem own_stC (X : Stand p l e R s m args below meth c T locs cells slots) (hx : p.tables.exec = Jvm.exec) {pc pc' : Nat} {Ls : Array Slot} (hZ : Z.Warmed39 s.vm) {a : Addr} {cl : Cell} {j : Int32} {x : Int32} {rest : List Value} (eT : T.heap = h) (A : Arr Z h a cl .char) (hj : ¬ (j < 0 ∨ cl.slots.size ≤ j.toNatClampNeg)) (hd : decode c.code pc = .ok (.castore, 1)) (hp : pc + 1 = pc') (k : ∀ T' h', Stand p l e R s m args below meth c T' (locs ++ [⟨a, j.toNatClampNeg⟩]) cells slots → T'.heap = h' → Wr h h' a j.toNatClampNeg (.int (nar .char x)) → own_G p.tables e below P T' (mkF m pc' Ls rest)) : own_G p.tables e below P T (mkF m pc Ls (.int x :: .int j :: .ref a :: rest)) := by
  subst hp; obtain ⟨T', h', X', e', W', st⟩ := stC X hx hZ eT A (j := j) hj (g := mkF m pc Ls (.int x :: .int j :: .ref a :: rest)) rfl rfl hd; exact own_go st (k T' h' X' e' W')
theorem own_stR (X : Stand p l e R s m args below meth c T locs cells slots) (hx : p.tables.exec = Jvm.exec) {pc pc' : Nat} {Ls : Array Slot} (hZ : Z.Warmed39 s.vm) {a : Addr} {cl : Cell} {j : Int32} {x : Value} {ty : FieldType} {rest : List Value} (eT : T.heap = h) (A : Arr Z h a cl ty) (hj : ¬ (j < 0 ∨ cl.slots.size ≤ j.toNatClampNeg)) (hty : ty.isReference = true) (F : Sto Z h a x) (hd : decode c.code pc = .ok (.aastore, 1)) (hp : pc + 1 = pc') (k : ∀ T' h', Stand p l e R s m args below meth c T' (locs ++ [⟨a, j.toNatClampNeg⟩]) cells slots → T'.heap = h' → Wr h h' a j.toNatClampNeg x → own_G p.tables e below P T' (mkF m pc' Ls rest)) : own_G p.tables e below P T (mkF m pc Ls (x :: .int j :: .ref a :: rest)) := by
  subst hp; obtain ⟨T', h', X', e', W', st⟩ := stR X hx hZ eT A (j := j) hj hty F (g := mkF m pc Ls (x :: .int j :: .ref a :: rest)) rfl rfl hd; exact own_go st (k T' h' X' e' W')
theorem own_putF (X : Stand p l e R s m args below meth c T locs cells slots) (hx : p.tables.exec = Jvm.exec) {pc pc' : Nat} {Ls : Array Slot} (hZ : Z.Warmed39 s.vm) {own R0 O n d host C : String} {idx kk : Nat} {ty : FieldType} {a : Addr} {v old : Value} {rest : List Value} (hown : s.vm.findClass own = some m.cls) (w : (Cond.fieldLink own idx R0 n d).before a0 Z = true ∨ (Cond.fieldLinkNest own idx R0 n d host).before a0 Z = true) (via : Via Z R0 O n d) (eT : T.heap = h) (F : Fld Z h a O n d old) (E : Exa Z h a C) (L : (Cond.lays C O n d).before a0 Z = true ∨ ((Cond.laysFinal C O n d).before a0 Z = true ∧ own = O ∧ meth.name = "<init>")) (wi : (Cond.instantiable C kk).before a0 Z = true) (hty : parseFieldDescriptor d = some ty) (hn : narrow ty v = v) (hf : fits ty v = true) (hd : decode c.code pc = .ok (.putfield idx, 3)) (hp : pc + 3 = pc') (k : ∀ T' h', Stand p l e R s m args below meth c T' (locs ++ [⟨a, Jvm.RoadKit.slotOf Z O n d⟩]) cells slots → T'.heap = h' → Wr h h' a (Jvm.RoadKit.slotOf Z O n d) v → own_G p.tables e below P T' (mkF m pc' Ls rest)) : own_G p.tables e below P T (mkF m pc Ls (v :: .ref a :: rest)) := by
  subst hp; obtain ⟨T', h', X', e', W', st⟩ := putF X hx hZ hown w via eT F E L wi hty hn hf (g := mkF m pc Ls (v :: .ref a :: rest)) rfl rfl hd; exact own_go st (k T' h' X' e' W')
theorem own_putFN (X : Stand p l e R s m args below meth c T locs cells slots) (hx : p.tables.exec = Jvm.exec) {pc pc' : Nat} {Ls : Array Slot} (hZ : Z.Warmed39 s.vm) {own R0 O n d C : String} {idx kk : Nat} {ty : FieldType} {a : Addr} {v old : Value} (v' : Value) {rest : List Value} (hown : s.vm.findClass own = some m.cls) (w : (Cond.fieldLink own idx R0 n d).before a0 Z = true) (via : Via Z R0 O n d) (eT : T.heap = h) (F : Fld Z h a O n d old) (E : Exa Z h a C) (L : (Cond.lays C O n d).before a0 Z = true ∨ ((Cond.laysFinal C O n d).before a0 Z = true ∧ own = O ∧ meth.name = "<init>")) (wi : (Cond.instantiable C kk).before a0 Z = true) (hty : parseFieldDescriptor d = some ty) (hn : narrow ty v = v') (hf : fits ty v' = true) (hd : decode c.code pc = .ok (.putfield idx, 3)) (hp : pc + 3 = pc') (k : ∀ T' h', Stand p l e R s m args below meth c T' (locs ++ [⟨a, Jvm.RoadKit.slotOf Z O n d⟩]) cells slots → T'.heap = h' → Wr h h' a (Jvm.RoadKit.slotOf Z O n d) v' → own_G p.tables e below P T' (mkF m pc' Ls rest)) : own_G p.tables e below P T (mkF m pc Ls (v :: .ref a :: rest)) := by
  subst hp; obtain ⟨T', h', X', e', W', st⟩ := putFN X hx hZ hown w via eT F E L wi hty hn hf (g := mkF m pc Ls (v :: .ref a :: rest)) rfl rfl hd; exact own_go st (k T' h' X' e' W')
theorem own_new (X : Stand p l e R s m args below meth c T locs cells slots) (hx : p.tables.exec = Jvm.exec) {pc pc' : Nat} {Ls : Array Slot} (hZ : Z.Warmed39 s.vm) {own C : String} {idx n : Nat} {st : List Value} (hown : s.vm.findClass own = some m.cls) (w : (Cond.classLink own idx C).before a0 Z = true) (wi : (Cond.instantiable C n).before a0 Z = true) (wz : (Cond.initialized C).before a0 Z = true) (eT : T.heap = h) (hd : decode c.code pc = .ok (.new idx, 3)) (hc : cells + 1 ≤ R.cells) (hl : slots + n ≤ R.slots) (hp : pc + 3 = pc') (k : ∀ T' h' b, b = h.size → Stand p l e R s m args below meth c T' locs (cells + 1) (slots + n) → T'.heap = h' → Ext h h' → Exa Z h' b C → (∀ {O nm d : String} {ty : FieldType}, Laid Z a0 C O nm d → parseFieldDescriptor d = some ty → Fld Z h' b O nm d (defaultValue ty)) → own_G p.tables e below P T' (mkF m pc' Ls (.ref b :: st))) : own_G p.tables e below P T (mkF m pc Ls st) := by
  subst hp; obtain ⟨T', h', X', e', E', A', D', -, stp⟩ := newO X hx hZ hown w wi wz eT (g := mkF m pc Ls st) rfl hd hc hl; exact own_go stp (k T' h' _ rfl X' e' E' A' D')
theorem own_newP (X : Stand p l e R s m args below meth c T locs cells slots) (hx : p.tables.exec = Jvm.exec) {pc pc' : Nat} {Ls : Array Slot} (hZ : Z.Warmed39 s.vm) {aty : ArrayType} {z : Int32} {rest : List Value} (w : (Cond.arrayClass (newarray.typeOf aty)).before a0 Z = true) (eT : T.heap = h) (hd : decode c.code pc = .ok (.newarray aty, 2)) (hn : ¬ z < 0) (cap : Nat) (hcap : z.toNatClampNeg ≤ cap) (hb : cap * 8 ≤ 536870912) (hc : cells + 1 ≤ R.cells) (hl : slots + cap ≤ R.slots) (hp : pc + 2 = pc') (k : ∀ T' h' cA b, b = h.size → Stand p l e R s m args below meth c T' locs (cells + 1) (slots + cap) → T'.heap = h' → Ext h h' → Arr Z h' b (newA cA (newarray.typeOf aty) z) (newarray.typeOf aty) → own_G p.tables e below P T' (mkF m pc' Ls (.ref b :: rest))) : own_G p.tables e below P T (mkF m pc Ls (.int z :: rest)) := by
  subst hp; obtain ⟨T', h', cA, X', e', E', A', stp⟩ := newP X hx hZ w eT (g := mkF m pc Ls (.int z :: rest)) rfl hd rfl hn hcap hb hc hl; exact own_go stp (k T' h' cA _ rfl X' e' E' A')
theorem own_newR (X : Stand p l e R s m args below meth c T locs cells slots) (hx : p.tables.exec = Jvm.exec) {pc pc' : Nat} {Ls : Array Slot} (hZ : Z.Warmed39 s.vm) {own C : String} {idx : Nat} {z : Int32} {rest : List Value} (hown : s.vm.findClass own = some m.cls) (w1 : (Cond.classLink own idx C).before a0 Z = true) (w2 : (Cond.arrayOver (.object C)).before a0 Z = true) (eT : T.heap = h) (hd : decode c.code pc = .ok (.anewarray idx, 3)) (hn : ¬ z < 0) (cap : Nat) (hcap : z.toNatClampNeg ≤ cap) (hb : cap * 8 ≤ 536870912) (hc : cells + 1 ≤ R.cells) (hl : slots + cap ≤ R.slots) (hp : pc + 3 = pc') (k : ∀ T' h' cA b, b = h.size → Stand p l e R s m args below meth c T' locs (cells + 1) (slots + cap) → T'.heap = h' → Ext h h' → Arr Z h' b (newA cA (.object C) z) (.object C) → Ovr Z cA C → own_G p.tables e below P T' (mkF m pc' Ls (.ref b :: rest))) : own_G p.tables e below P T (mkF m pc Ls (.int z :: rest)) := by
  subst hp; obtain ⟨T', h', cA, X', e', E', A', O', stp⟩ := newR X hx hZ hown w1 w2 eT (g := mkF m pc Ls (.int z :: rest)) rfl hd rfl hn hcap hb hc hl; exact own_go stp (k T' h' cA _ rfl X' e' E' A' O')
theorem own_initO (X : Stand p l e R s m args below meth c T locs cells slots) (hx : p.tables.exec = Jvm.exec) {pc pc' : Nat} {Ls : Array Slot} (hZ : Z.Warmed39 s.vm) {own : String} {idx : Nat} {a : Addr} {rest : List Value} (hown : s.vm.findClass own = some m.cls) (w1 : (Cond.methodLink own idx Lib.objectInit).before a0 Z = true) (w2 : (Cond.instanceMethod Lib.objectInit).before a0 Z = true) (w3 : (Cond.code Lib.objectInit ⟨#[0xb1]⟩ 1 none).before a0 Z = true) (eT : T.heap = h) (hsz : Ls.size = c.maxLocals) (hd : decode c.code pc = .ok (.invokespecial idx, 3)) (hf : 1 ≤ R.frames) (W : Nat) (hW : 2 * 0 + (rest.map fun v => v.category).sum ≤ W) (hl : W + 12 ≤ R.locals) (hp : pc + 3 = pc') (k : ∀ T', Stand p l e R s m args below meth c T' locs cells slots → T'.heap = h → own_G p.tables e below P T' (mkF m pc' Ls rest)) : own_G p.tables e below P T (mkF m pc Ls (.ref a :: rest)) := by
  subst hp; obtain ⟨T', X', e', st⟩ := initO X hx hZ hown w1 w2 w3 eT (g := mkF m pc Ls (.ref a :: rest)) rfl hsz rfl hd hf hW hl; exact own_go st (k T' X' e')
theorem own_callS (X : Stand p l e R s m args below meth c T locs cells slots) (hx : p.tables.exec = Jvm.exec) {pc pc' : Nat} {Ls : Array Slot} (hZ : Z.Warmed39 s.vm) {own : String} {idx : Nat} {y : MethodName} {bytes : ByteArray} {maxL : Nat} {ret : Option FieldType} {rm : Room} {as' : Array Value} {Q : Option Value → Heap → List Loc → Prop} (hown : s.vm.findClass own = some m.cls) (w1 : (Cond.methodLink own idx y).before a0 Z = true) (w2 : (Cond.static y).before a0 Z = true) (w3 : (Cond.initialized y.cls).before a0 Z = true) (w4 : (Cond.code y bytes maxL ret).before a0 Z = true) (hy : y.cls ≠ "java/lang/invoke/MethodHandle" ∧ y.cls ≠ "java/lang/invoke/VarHandle") (hM : MetFree l y (head1 [Cond.code y bytes maxL ret] rm) (fun a U => a = as' ∧ Z.Warmed39 U.vm ∧ U.heap = h) (fun _ _ _ _ _ => True) (fun _ U o U' => ∃ v L, o = .returned v ∧ Q v U'.heap L ∧ FrameEnd U o U' L rm.cells rm.slots)) (eT : T.heap = h) (W : Nat) (hf : rm.frames + 1 ≤ R.frames) (hl : W + (maxL + 11) + rm.locals ≤ R.locals) (hc : cells + rm.cells ≤ R.cells) (hsl : slots + rm.slots ≤ R.slots) {st : List Value} (argsL rest : List Value) (hsz : Ls.size = c.maxLocals) (hlen : ∀ sig, parseMethodDescriptor y.desc = some sig → argsL.length = sig.parameters.length) (has : argsL.toArray = as') (hst : st = argsL.reverse ++ rest) (hW : 2 * 0 + (rest.map fun v => v.category).sum ≤ W) (hd : decode c.code pc = .ok (.invokestatic idx, 3)) (hp : pc + 3 = pc') (k : ∀ v T' L, Stand p l e R s m args below meth c T' (locs ++ L) (cells + rm.cells) (slots + rm.slots) → Q v T'.heap L → own_G p.tables e below P T' (mkF m pc' Ls (v.toList ++ rest))) : own_G p.tables e below P T (mkF m pc Ls st) := by
  subst hp
  obtain ⟨v, vm, ⟨T', L', k', n'⟩, -, X', ⟨L, hQ, l', y', z'⟩, stp⟩ := Jvm.LawKit.callS X hx (y := y) hown (mvT hZ w1) (mvT hZ w2) (mvT hZ w3) (mvT hZ w4) hy (backOf (W := W) hM hZ w4 w3 hf hl) (g := mkF m pc Ls st) rfl hsz (argsL := argsL) (rest := rest) hlen hst hW hd (fun _ _ => ⟨has, eT, hc, hsl⟩)
  dsimp only [Pt.U, Pt.locs, Pt.cells, Pt.slots] at X' l' y' z' stp hQ
  subst l' y' z'
  exact own_go stp (k v T' L X' hQ)
theorem own_callV (X : Stand p l e R s m args below meth c T locs cells slots) (hx : p.tables.exec = Jvm.exec) {pc pc' : Nat} {Ls : Array Slot} (hZ : Z.Warmed39 s.vm) {own C : String} {idx : Nat} {y : MethodName} {bytes : ByteArray} {maxL : Nat} {ret : Option FieldType} {rm : Room} {as' : Array Value} {Q : Option Value → Heap → List Loc → Prop} (hown : s.vm.findClass own = some m.cls) (w1 : (Cond.methodLink own idx y).before a0 Z = true) (w2 : (Cond.instanceMethod y).before a0 Z = true) (w3 : (Cond.selects C y y).before a0 Z = true) (w4 : (Cond.code y bytes maxL ret).before a0 Z = true) (w5 : (Cond.initialized y.cls).before a0 Z = true) (hy : y.cls ≠ "java/lang/invoke/MethodHandle" ∧ y.cls ≠ "java/lang/invoke/VarHandle") (hM : MetFree l y (head1 [Cond.code y bytes maxL ret] rm) (fun a U => a = as' ∧ Z.Warmed39 U.vm ∧ U.heap = h) (fun _ _ _ _ _ => True) (fun _ U o U' => ∃ v L, o = .returned v ∧ Q v U'.heap L ∧ FrameEnd U o U' L rm.cells rm.slots)) (eT : T.heap = h) {b : Addr} (E : Exa Z h b C) (W : Nat) (hf : rm.frames + 1 ≤ R.frames) (hl : W + (maxL + 11) + rm.locals ≤ R.locals) (hc : cells + rm.cells ≤ R.cells) (hsl : slots + rm.slots ≤ R.slots) {st : List Value} (argsL rest : List Value) (hsz : Ls.size = c.maxLocals) (hlen : ∀ sig, parseMethodDescriptor y.desc = some sig → argsL.length = sig.parameters.length) (has : (Value.ref b :: argsL).toArray = as') (hst : st = argsL.reverse ++ .ref b :: rest) (hW : 2 * 0 + (rest.map fun v => v.category).sum ≤ W) (hd : decode c.code pc = .ok (.invokevirtual idx, 3)) (hp : pc + 3 = pc') (k : ∀ v T' L, Stand p l e R s m args below meth c T' (locs ++ L) (cells + rm.cells) (slots + rm.slots) → Q v T'.heap L → own_G p.tables e below P T' (mkF m pc' Ls (v.toList ++ rest))) : own_G p.tables e below P T (mkF m pc Ls st) := by
  subst hp
  obtain ⟨cell, kc, q1, q2, q3, q4, -⟩ := E
  obtain ⟨v, vm, ⟨T', L', k', n'⟩, -, X', ⟨L, hQ, l', y', z'⟩, stp⟩ := Jvm.LawKit.callV X hx (y := y) (C := C) hown (mvT hZ w1) (mvT hZ w2) (mvT hZ w3) (mvT hZ w4) hy (backOf (W := W) hM hZ w4 w5 hf hl) (b := b) (cellB := cell) (by rw [eT]; exact q1) q4 (by rw [hZ.alike.findClass]; exact q2) (g := mkF m pc Ls st) rfl hsz (argsL := argsL) (rest := rest) hlen hst hW hd (fun _ _ => ⟨has, eT, hc, hsl⟩)
  dsimp only [Pt.U, Pt.locs, Pt.cells, Pt.slots] at X' l' y' z' stp hQ
  subst l' y' z'
  exact own_go stp (k v T' L X' hQ)
theorem own_callI (X : Stand p l e R s m args below meth c T locs cells slots) (hx : p.tables.exec = Jvm.exec) {pc pc' : Nat} {Ls : Array Slot} (hZ : Z.Warmed39 s.vm) {own : String} {idx : Nat} {y : MethodName} {bytes : ByteArray} {maxL : Nat} {rm : Room} {as' : Array Value} {Q : Option Value → Heap → List Loc → Prop} (hy1 : y.name = "<init>") (hown : s.vm.findClass own = some m.cls) (w1 : (Cond.methodLink own idx y).before a0 Z = true) (w2 : (Cond.instanceMethod y).before a0 Z = true) (w4 : (Cond.code y bytes maxL none).before a0 Z = true) (w5 : (Cond.initialized y.cls).before a0 Z = true) (hy : y.cls ≠ "java/lang/invoke/MethodHandle" ∧ y.cls ≠ "java/lang/invoke/VarHandle") (hM : MetFree l y (head1 [Cond.code y bytes maxL none] rm) (fun a U => a = as' ∧ Z.Warmed39 U.vm ∧ U.heap = h) (fun _ _ _ _ _ => True) (fun _ U o U' => ∃ v L, o = .returned v ∧ Q v U'.heap L ∧ FrameEnd U o U' L rm.cells rm.slots)) (eT : T.heap = h) {b : Addr} (W : Nat) (hf : rm.frames + 1 ≤ R.frames) (hl : W + (maxL + 11) + rm.locals ≤ R.locals) (hc : cells + rm.cells ≤ R.cells) (hsl : slots + rm.slots ≤ R.slots) {st : List Value} (argsL rest : List Value) (hsz : Ls.size = c.maxLocals) (hlen : ∀ sig, parseMethodDescriptor y.desc = some sig → argsL.length = sig.parameters.length) (has : (Value.ref b :: argsL).toArray = as') (hst : st = argsL.reverse ++ .ref b :: rest) (hW : 2 * 0 + (rest.map fun v => v.category).sum ≤ W) (hd : decode c.code pc = .ok (.invokespecial idx, 3)) (hp : pc + 3 = pc') (k : ∀ v T' L, Stand p l e R s m args below meth c T' (locs ++ L) (cells + rm.cells) (slots + rm.slots) → Q v T'.heap L → own_G p.tables e below P T' (mkF m pc' Ls (v.toList ++ rest))) : own_G p.tables e below P T (mkF m pc Ls st) := by
  subst hp
  obtain ⟨v, vm, ⟨T', L', k', n'⟩, -, X', ⟨L, hQ, l', y', z'⟩, stp⟩ := Jvm.LawKit.callI X hx (y := y) hown hy1 (mvT hZ w1) (mvT hZ w2) (mvT hZ w4) hy (backOf (W := W) hM hZ w4 w5 hf hl) (g := mkF m pc Ls st) rfl hsz (a := b) (argsL := argsL) (rest := rest) hlen hst hW hd (fun _ _ => ⟨has, eT, hc, hsl⟩)
  dsimp only [Pt.U, Pt.locs, Pt.cells, Pt.slots] at X' l' y' z' stp hQ
  subst l' y' z'
  exact own_go stp (k v T' L X' hQ)
theorem own_fldI {u : Term} {C n d : String} {x : Addr} {z : Int32} (ht : u.eval args s none [] s = some (.ref x)) (hq : (Jvm.Cond.eq (.field u C n d) (.int z)).value args s none s [] = some true) : Fld s s.heap x C n d (.int z) :=
  Fld.start ((fld_at ht).symm.trans (Cond.eq_int (Cond.before_iff.mpr hq) rfl))
theorem own_fldR {u t : Term} {C n d : String} {x y : Addr} (ht : u.eval args s none [] s = some (.ref x)) (hu : t.eval args s none [] s = some (.ref y)) (hq : (Jvm.Cond.eq (.field u C n d) t).value args s none s [] = some true) : Fld s s.heap x C n d (.ref y) :=
  Fld.start ((fld_at ht).symm.trans (Cond.eq_refs (Cond.before_iff.mpr hq) hu rfl))
theorem own_none {u : Term} {x : Addr} {cl : Cell} (A : Arr s s.heap x cl .int) (ht : u.eval args s none [] s = some (.ref x)) (hq : (Jvm.Cond.eq (.length u) (.int 0)).value args s none s [] = some true) : Arv s s.heap x cl.cls .int (0 : Int32) [] (.int (0 : Int32)) := by
  have e1 := Cond.eq_int (Cond.before_iff.mpr hq) (n := 0) rfl
  obtain ⟨sd, SA, hev, harrAt, -⟩ := Term.length_spec e1
  have h31 := SBG.length_lt hev harrAt e1
  cases ht.symm.trans hev
  cases (Arr.fin (Vm.Alike.refl _) A).symm.trans harrAt
  have e2 := len_f ht harrAt h31
  have e3 : cl.slots.size.toInt32 = (0 : Int32) := by simpa using Option.some.inj (e2.symm.trans e1)
  have e4 : cl.slots.size = 0 := by
    have e5 := congrArg Int32.toInt e3
    rw [len_toInt h31] at e5
    have e6 : ((0 : Int32)).toInt = 0 := by decide
    omega
  exact ⟨cl, A, rfl, e4, by decide, fun k hk => by omega, fun i hi => by omega⟩
end OwnKit
theorem W3 {a0 : Array Value} {Z : State} (hw : ∀ d ∈ tables_1, d.before a0 Z = true) : (Jvm.Cond.initialized "com/example/office_to_office/officetooffice/segnatura/Anomalia").before a0 Z = true := hw _ (List.mem_of_getElem? (i := 3) rfl)
theorem W4 {a0 : Array Value} {Z : State} (hw : ∀ d ∈ tables_1, d.before a0 Z = true) : (Jvm.Cond.laysStatic "com/example/office_to_office/officetooffice/segnatura/Anomalia" "IRRICEVIBILE" "Lcom/example/office_to_office/officetooffice/segnatura/Anomalia;").before a0 Z = true := hw _ (List.mem_of_getElem? (i := 4) rfl)
theorem W7 {a0 : Array Value} {Z : State} (hw : ∀ d ∈ tables_1, d.before a0 Z = true) : (Jvm.Cond.laysStatic "com/example/office_to_office/officetooffice/segnatura/Anomalia" "VALIDAZIONE_FIRMA" "Lcom/example/office_to_office/officetooffice/segnatura/Anomalia;").before a0 Z = true := hw _ (List.mem_of_getElem? (i := 7) rfl)
theorem W9 {a0 : Array Value} {Z : State} (hw : ∀ d ∈ tables_1, d.before a0 Z = true) : (Jvm.Cond.laysStatic "com/example/office_to_office/officetooffice/segnatura/Anomalia" "ANOMALIA_IMPRONTE" "Lcom/example/office_to_office/officetooffice/segnatura/Anomalia;").before a0 Z = true := hw _ (List.mem_of_getElem? (i := 9) rfl)
theorem W11 {a0 : Array Value} {Z : State} (hw : ∀ d ∈ tables_1, d.before a0 Z = true) : (Jvm.Cond.laysStatic "com/example/office_to_office/officetooffice/segnatura/Anomalia" "DOCUMENTI_NON_LEGGIBILI" "Lcom/example/office_to_office/officetooffice/segnatura/Anomalia;").before a0 Z = true := hw _ (List.mem_of_getElem? (i := 11) rfl)
theorem W13 {a0 : Array Value} {Z : State} (hw : ∀ d ∈ tables_1, d.before a0 Z = true) : (Jvm.Cond.laysStatic "com/example/office_to_office/officetooffice/segnatura/Anomalia" "FIRMA_DOCUMENTI" "Lcom/example/office_to_office/officetooffice/segnatura/Anomalia;").before a0 Z = true := hw _ (List.mem_of_getElem? (i := 13) rfl)
theorem W15 {a0 : Array Value} {Z : State} (hw : ∀ d ∈ tables_1, d.before a0 Z = true) : (Jvm.Cond.laysStatic "com/example/office_to_office/officetooffice/segnatura/Anomalia" "MARCA_DOCUMENTI" "Lcom/example/office_to_office/officetooffice/segnatura/Anomalia;").before a0 Z = true := hw _ (List.mem_of_getElem? (i := 15) rfl)
theorem W17 {a0 : Array Value} {Z : State} (hw : ∀ d ∈ tables_1, d.before a0 Z = true) : (Jvm.Cond.laysStatic "com/example/office_to_office/officetooffice/segnatura/Anomalia" "SIGILLO_DOCUMENTI" "Lcom/example/office_to_office/officetooffice/segnatura/Anomalia;").before a0 Z = true := hw _ (List.mem_of_getElem? (i := 17) rfl)
theorem W19 {a0 : Array Value} {Z : State} (hw : ∀ d ∈ tables_1, d.before a0 Z = true) : (Jvm.Cond.laysStatic "com/example/office_to_office/officetooffice/segnatura/Anomalia" "IRRICEVIBILITA" "Lcom/example/office_to_office/officetooffice/segnatura/Anomalia;").before a0 Z = true := hw _ (List.mem_of_getElem? (i := 19) rfl)
theorem W21 {a0 : Array Value} {Z : State} (hw : ∀ d ∈ tables_1, d.before a0 Z = true) : (Jvm.Cond.laysStatic "com/example/office_to_office/officetooffice/segnatura/Anomalia" "IDENTIFICATORE_NON_TROVATO" "Lcom/example/office_to_office/officetooffice/segnatura/Anomalia;").before a0 Z = true := hw _ (List.mem_of_getElem? (i := 21) rfl)
theorem W30 {a0 : Array Value} {Z : State} (hw : ∀ d ∈ tables_1, d.before a0 Z = true) : (Jvm.Cond.initialized "com/example/office_to_office/officetooffice/segnatura/Anomalia$Carrier").before a0 Z = true := hw _ (List.mem_of_getElem? (i := 30) rfl)
theorem W31 {a0 : Array Value} {Z : State} (hw : ∀ d ∈ tables_1, d.before a0 Z = true) : (Jvm.Cond.laysStatic "com/example/office_to_office/officetooffice/segnatura/Anomalia$Carrier" "CONFERMA" "Lcom/example/office_to_office/officetooffice/segnatura/Anomalia$Carrier;").before a0 Z = true := hw _ (List.mem_of_getElem? (i := 31) rfl)
theorem W33 {a0 : Array Value} {Z : State} (hw : ∀ d ∈ tables_1, d.before a0 Z = true) : (Jvm.Cond.laysStatic "com/example/office_to_office/officetooffice/segnatura/Anomalia$Carrier" "INOLTRO" "Lcom/example/office_to_office/officetooffice/segnatura/Anomalia$Carrier;").before a0 Z = true := hw _ (List.mem_of_getElem? (i := 33) rfl)
theorem W34 {a0 : Array Value} {Z : State} (hw : ∀ d ∈ tables_1, d.before a0 Z = true) : (Jvm.Cond.laysStatic "com/example/office_to_office/officetooffice/segnatura/Anomalia$Carrier" "ANNULMENT" "Lcom/example/office_to_office/officetooffice/segnatura/Anomalia$Carrier;").before a0 Z = true := hw _ (List.mem_of_getElem? (i := 34) rfl)
theorem own_t32_0 : (0 : Int32).toInt = 0 := by decide
theorem own_t32_1 : (1 : Int32).toInt = 1 := by decide
theorem own_t32_2 : (2 : Int32).toInt = 2 := by decide
theorem own_t32_3 : (3 : Int32).toInt = 3 := by decide
theorem own_t32_4 : (4 : Int32).toInt = 4 := by decide
theorem own_t32_5 : (5 : Int32).toInt = 5 := by decide
theorem own_t32_6 : (6 : Int32).toInt = 6 := by decide
theorem own_t32_7 : (7 : Int32).toInt = 7 := by decide
theorem own_t32_8 : (8 : Int32).toInt = 8 := by decide
theorem own_t32_9 : (9 : Int32).toInt = 9 := by decide
theorem d1_0 : decode prog_20_method_6_code 0 = .ok (.aload_n 0, 1) := by decide +kernel
theorem d1_1 : decode prog_20_method_6_code 1 = .ok (.getfield 54, 3) := by decide +kernel
theorem d1_4 : decode prog_20_method_6_code 4 = .ok (.getstatic 63, 3) := by decide +kernel
theorem d1_7 : decode prog_20_method_6_code 7 = .ok (.if_acmp .ne 7, 3) := by decide +kernel
theorem d1_10 : decode prog_20_method_6_code 10 = .ok (.iconst 1, 1) := by decide +kernel
theorem d1_11 : decode prog_20_method_6_code 11 = .ok (.goto 4, 3) := by decide +kernel
theorem d1_14 : decode prog_20_method_6_code 14 = .ok (.iconst 0, 1) := by decide +kernel
theorem d1_15 : decode prog_20_method_6_code 15 = .ok (.ireturn, 1) := by decide +kernel
def QinConferma (c r_CONFERMA : Addr) (h0 : Heap) (n0 : Nat) (v : Option Value) (h : Heap) (L : List Loc) : Prop := v = some (.int (if c = r_CONFERMA then 1 else 0)) ∧ Fr n0 L ∧ h = h0
theorem ef_rm_inConferma (m : MethodId) (x0 : Addr) : entryFrame m #[(.ref x0)] 1 = mkF m 0 #[.val (.ref x0)] [] := by first | (simp [entryFrame, mkF, argsToLocals, Value.category, maxLocals]; done) | rfl
theorem pf_0 : plainFor (⟨"com/example/office_to_office/officetooffice/segnatura/Anomalia", "inConferma", "()Z"⟩ : MethodName) = true := by apply plainFor_of_name; first | (simp [plainName, overriddenIn]; done) | decide +kernel
theorem W28 {a0 : Array Value} {Z : State} (hw : ∀ d ∈ tables_1, d.before a0 Z = true) : (Jvm.Cond.fieldLink "com/example/office_to_office/officetooffice/segnatura/Anomalia" (54 : Nat) "com/example/office_to_office/officetooffice/segnatura/Anomalia" "carrier" "Lcom/example/office_to_office/officetooffice/segnatura/Anomalia$Carrier;").before a0 Z = true := hw _ (List.mem_of_getElem? (i := 28) rfl)
theorem W32 {a0 : Array Value} {Z : State} (hw : ∀ d ∈ tables_1, d.before a0 Z = true) : (Jvm.Cond.fieldLink "com/example/office_to_office/officetooffice/segnatura/Anomalia" (63 : Nat) "com/example/office_to_office/officetooffice/segnatura/Anomalia$Carrier" "CONFERMA" "Lcom/example/office_to_office/officetooffice/segnatura/Anomalia$Carrier;").before a0 Z = true := hw _ (List.mem_of_getElem? (i := 32) rfl)
set_option maxRecDepth 65536 in
set_option maxHeartbeats 40000000 in
theorem rm_inConferma (l : Launch) (Z : State) (a0 : Array Value) (hw : ∀ d ∈ tables_1, d.before a0 Z = true) (ws : List Jvm.Cond) (a cc r_CONFERMA : Addr) (h0 : Heap) (n0 : Nat) (Z0 : n0 ≤ h0.size) (F_a : Fld Z h0 a "com/example/office_to_office/officetooffice/segnatura/Anomalia" "carrier" "Lcom/example/office_to_office/officetooffice/segnatura/Anomalia$Carrier;" (.ref cc)) (S_r_CONFERMA : Sta Z h0 "com/example/office_to_office/officetooffice/segnatura/Anomalia$Carrier" "CONFERMA" "Lcom/example/office_to_office/officetooffice/segnatura/Anomalia$Carrier;" (.ref r_CONFERMA)) :
    MetFree l (⟨"com/example/office_to_office/officetooffice/segnatura/Anomalia", "inConferma", "()Z"⟩ : MethodName) (head1 (Jvm.Cond.code (⟨"com/example/office_to_office/officetooffice/segnatura/Anomalia", "inConferma", "()Z"⟩ : MethodName) prog_20_method_6_code 1 (some .boolean) :: ws) ({ frames := 0, cells := 0, slots := 0, locals := 0 } : Room)) (fun aa U => aa = #[(.ref a)] ∧ Z.Warmed39 U.vm ∧ U.heap = h0) (fun _ _ _ _ _ => True) (fun _ U o U' => ∃ v L, o = .returned v ∧ QinConferma cc r_CONFERMA h0 n0 v U'.heap L ∧ FrameEnd U o U' L (({ frames := 0, cells := 0, slots := 0, locals := 0 } : Room).cells) (({ frames := 0, cells := 0, slots := 0, locals := 0 } : Room).slots)) := by
  refine own_body pf_0 ?_
  intro p e s m below meth c s₁ hx hby hml hown hnm hlk hret hZ X0 e0
  have N0 : Fr n0 [] := Fr.nil n0
  refine own_go (f' := (mkF m 0 #[.val (.ref a)] [])) (fun t k => castTop (ef_rm_inConferma m a) k) ?_
  refine own_aloadN X0 hx (pc' := 1) (hb hby d1_0) rfl rfl rfl ?_
  refine own_getF X0 hx (pc' := 4) hZ hown (host := "") (Or.inl (W28 hw)) Via.refl e0 F_a (hb hby d1_1) rfl (fun T1 X1 e1 => ?_)
  refine own_getS X1 hx (pc' := 7) hZ hown (host := "") (Or.inl (W32 hw)) Via.refl e1 S_r_CONFERMA (hb hby d1_4) rfl (fun T2 X2 e2 => ?_)
  by_cases hc7_3 : cc = r_CONFERMA
  · skip
    refine own_acmp X2 hx (pc' := 10) true (hb hby d1_7) rfl rfl (decide_eq_true (congrArg Value.ref hc7_3)) (by decide) (by decide) ?_
    refine own_iconst X2 hx (pc' := 11) (1 : Int32) (hb hby d1_10) rfl rfl ?_
    refine own_goto X2 hx (pc' := 15) (hb hby d1_11) (by decide) (by decide) ?_
    refine own_retN X2 hx hlk hret (by simp) (hb hby d1_15) (by decide) (by decide) ?_
    exact ⟨by simp [nar, hc7_3], N0, e2⟩
  · skip
    refine own_acmp X2 hx (pc' := 14) false (hb hby d1_7) rfl rfl (decide_eq_false fun q => hc7_3 (Value.ref.inj q)) (by decide) (by decide) ?_
    refine own_iconst X2 hx (pc' := 15) (0 : Int32) (hb hby d1_14) rfl rfl ?_
    refine own_retN X2 hx hlk hret (by simp) (hb hby d1_15) (by decide) (by decide) ?_
    exact ⟨by simp [nar, hc7_3], N0, e2⟩

def Q0 (n0 : Nat) (v : Option Value) (h : Heap) (L : List Loc) : Prop := v = some (.int 1) ∧ Fr n0 L
theorem ef_rm0 (m : MethodId) (x0 : Int32) : entryFrame m #[(.int x0)] maxLocals = mkF m 0 #[.val (.int x0), .unset, .unset, .unset] [] := by first | (simp [entryFrame, mkF, argsToLocals, Value.category, maxLocals]; done) | rfl
theorem pf_1 : plainFor (⟨"com/example/office_to_office/officetooffice/segnatura/AnomaliaInConfermaPinLaw", "law", "(I)Z"⟩ : MethodName) = true := by apply plainFor_of_name; first | (simp [plainName, overriddenIn]; done) | decide +kernel
theorem W1 {a0 : Array Value} {Z : State} (hw : ∀ d ∈ tables_1, d.before a0 Z = true) : (Jvm.Cond.arrayOver (Jvm.ClassFile.FieldType.object "com/example/office_to_office/officetooffice/segnatura/Anomalia")).before a0 Z = true := hw _ (List.mem_of_getElem? (i := 1) rfl)
theorem W0 {a0 : Array Value} {Z : State} (hw : ∀ d ∈ tables_1, d.before a0 Z = true) : (Jvm.Cond.classLink "com/example/office_to_office/officetooffice/segnatura/AnomaliaInConfermaPinLaw" (7 : Nat) "com/example/office_to_office/officetooffice/segnatura/Anomalia").before a0 Z = true := hw _ (List.mem_of_getElem? (i := 0) rfl)
theorem W2 {a0 : Array Value} {Z : State} (hw : ∀ d ∈ tables_1, d.before a0 Z = true) : (Jvm.Cond.fieldLink "com/example/office_to_office/officetooffice/segnatura/AnomaliaInConfermaPinLaw" (9 : Nat) "com/example/office_to_office/officetooffice/segnatura/Anomalia" "IRRICEVIBILE" "Lcom/example/office_to_office/officetooffice/segnatura/Anomalia;").before a0 Z = true := hw _ (List.mem_of_getElem? (i := 2) rfl)
theorem W6 {a0 : Array Value} {Z : State} (hw : ∀ d ∈ tables_1, d.before a0 Z = true) : (Jvm.Cond.fieldLink "com/example/office_to_office/officetooffice/segnatura/AnomaliaInConfermaPinLaw" (13 : Nat) "com/example/office_to_office/officetooffice/segnatura/Anomalia" "VALIDAZIONE_FIRMA" "Lcom/example/office_to_office/officetooffice/segnatura/Anomalia;").before a0 Z = true := hw _ (List.mem_of_getElem? (i := 6) rfl)
theorem W8 {a0 : Array Value} {Z : State} (hw : ∀ d ∈ tables_1, d.before a0 Z = true) : (Jvm.Cond.fieldLink "com/example/office_to_office/officetooffice/segnatura/AnomaliaInConfermaPinLaw" (16 : Nat) "com/example/office_to_office/officetooffice/segnatura/Anomalia" "ANOMALIA_IMPRONTE" "Lcom/example/office_to_office/officetooffice/segnatura/Anomalia;").before a0 Z = true := hw _ (List.mem_of_getElem? (i := 8) rfl)
theorem W10 {a0 : Array Value} {Z : State} (hw : ∀ d ∈ tables_1, d.before a0 Z = true) : (Jvm.Cond.fieldLink "com/example/office_to_office/officetooffice/segnatura/AnomaliaInConfermaPinLaw" (19 : Nat) "com/example/office_to_office/officetooffice/segnatura/Anomalia" "DOCUMENTI_NON_LEGGIBILI" "Lcom/example/office_to_office/officetooffice/segnatura/Anomalia;").before a0 Z = true := hw _ (List.mem_of_getElem? (i := 10) rfl)
theorem W12 {a0 : Array Value} {Z : State} (hw : ∀ d ∈ tables_1, d.before a0 Z = true) : (Jvm.Cond.fieldLink "com/example/office_to_office/officetooffice/segnatura/AnomaliaInConfermaPinLaw" (22 : Nat) "com/example/office_to_office/officetooffice/segnatura/Anomalia" "FIRMA_DOCUMENTI" "Lcom/example/office_to_office/officetooffice/segnatura/Anomalia;").before a0 Z = true := hw _ (List.mem_of_getElem? (i := 12) rfl)
theorem W14 {a0 : Array Value} {Z : State} (hw : ∀ d ∈ tables_1, d.before a0 Z = true) : (Jvm.Cond.fieldLink "com/example/office_to_office/officetooffice/segnatura/AnomaliaInConfermaPinLaw" (25 : Nat) "com/example/office_to_office/officetooffice/segnatura/Anomalia" "MARCA_DOCUMENTI" "Lcom/example/office_to_office/officetooffice/segnatura/Anomalia;").before a0 Z = true := hw _ (List.mem_of_getElem? (i := 14) rfl)
theorem W16 {a0 : Array Value} {Z : State} (hw : ∀ d ∈ tables_1, d.before a0 Z = true) : (Jvm.Cond.fieldLink "com/example/office_to_office/officetooffice/segnatura/AnomaliaInConfermaPinLaw" (28 : Nat) "com/example/office_to_office/officetooffice/segnatura/Anomalia" "SIGILLO_DOCUMENTI" "Lcom/example/office_to_office/officetooffice/segnatura/Anomalia;").before a0 Z = true := hw _ (List.mem_of_getElem? (i := 16) rfl)
theorem W18 {a0 : Array Value} {Z : State} (hw : ∀ d ∈ tables_1, d.before a0 Z = true) : (Jvm.Cond.fieldLink "com/example/office_to_office/officetooffice/segnatura/AnomaliaInConfermaPinLaw" (31 : Nat) "com/example/office_to_office/officetooffice/segnatura/Anomalia" "IRRICEVIBILITA" "Lcom/example/office_to_office/officetooffice/segnatura/Anomalia;").before a0 Z = true := hw _ (List.mem_of_getElem? (i := 18) rfl)
theorem W20 {a0 : Array Value} {Z : State} (hw : ∀ d ∈ tables_1, d.before a0 Z = true) : (Jvm.Cond.fieldLink "com/example/office_to_office/officetooffice/segnatura/AnomaliaInConfermaPinLaw" (34 : Nat) "com/example/office_to_office/officetooffice/segnatura/Anomalia" "IDENTIFICATORE_NON_TROVATO" "Lcom/example/office_to_office/officetooffice/segnatura/Anomalia;").before a0 Z = true := hw _ (List.mem_of_getElem? (i := 20) rfl)
theorem W22 {a0 : Array Value} {Z : State} (hw : ∀ d ∈ tables_1, d.before a0 Z = true) : (Jvm.Cond.constant "com/example/office_to_office/officetooffice/segnatura/AnomaliaInConfermaPinLaw" (37 : Nat) (2147483647 : Int32)).before a0 Z = true := hw _ (List.mem_of_getElem? (i := 22) rfl)
theorem W27 {a0 : Array Value} {Z : State} (hw : ∀ d ∈ tables_1, d.before a0 Z = true) : (Jvm.Cond.code ({ cls := "com/example/office_to_office/officetooffice/segnatura/Anomalia", name := "inConferma", desc := "()Z" } : Jvm.MethodName) prog_20_method_6_code (1 : Nat) (Option.some Jvm.ClassFile.FieldType.boolean)).before a0 Z = true := hw _ (List.mem_of_getElem? (i := 27) rfl)
theorem pd_0 : parseMethodDescriptor "()Z" = some ⟨[], some .boolean⟩ := by decide +kernel
theorem W23 {a0 : Array Value} {Z : State} (hw : ∀ d ∈ tables_1, d.before a0 Z = true) : (Jvm.Cond.methodLink "com/example/office_to_office/officetooffice/segnatura/AnomaliaInConfermaPinLaw" (38 : Nat) ({ cls := "com/example/office_to_office/officetooffice/segnatura/Anomalia", name := "inConferma", desc := "()Z" } : Jvm.MethodName)).before a0 Z = true := hw _ (List.mem_of_getElem? (i := 23) rfl)
theorem W25 {a0 : Array Value} {Z : State} (hw : ∀ d ∈ tables_1, d.before a0 Z = true) : (Jvm.Cond.instanceMethod ({ cls := "com/example/office_to_office/officetooffice/segnatura/Anomalia", name := "inConferma", desc := "()Z" } : Jvm.MethodName)).before a0 Z = true := hw _ (List.mem_of_getElem? (i := 25) rfl)
theorem W26 {a0 : Array Value} {Z : State} (hw : ∀ d ∈ tables_1, d.before a0 Z = true) : (Jvm.Cond.selects "com/example/office_to_office/officetooffice/segnatura/Anomalia" ({ cls := "com/example/office_to_office/officetooffice/segnatura/Anomalia", name := "inConferma", desc := "()Z" } : Jvm.MethodName) ({ cls := "com/example/office_to_office/officetooffice/segnatura/Anomalia", name := "inConferma", desc := "()Z" } : Jvm.MethodName)).before a0 Z = true := hw _ (List.mem_of_getElem? (i := 26) rfl)
set_option maxRecDepth 65536 in
set_option maxHeartbeats 40000000 in
theorem rm0 (l : Launch) (Z : State) (a0 : Array Value) (hw : ∀ d ∈ tables_1, d.before a0 Z = true) (ws : List Jvm.Cond) (p0 : Int32) (r_IRRICEVIBILE r_VALIDAZIONE_FIRMA r_ANOMALIA_IMPRONTE r_DOCUMENTI_NON_LEGGIBILI r_FIRMA_DOCUMENTI r_MARCA_DOCUMENTI r_SIGILLO_DOCUMENTI r_IRRICEVIBILITA r_IDENTIFICATORE_NON_TROVATO r_CONFERMA r_INOLTRO r_ANNULMENT : Addr) (h0 : Heap) (n0 : Nat) (Z0 : n0 ≤ h0.size) (S_r_IRRICEVIBILE : Sta Z h0 "com/example/office_to_office/officetooffice/segnatura/Anomalia" "IRRICEVIBILE" "Lcom/example/office_to_office/officetooffice/segnatura/Anomalia;" (.ref r_IRRICEVIBILE)) (E_r_IRRICEVIBILE : Exa Z h0 r_IRRICEVIBILE "com/example/office_to_office/officetooffice/segnatura/Anomalia") (S_r_VALIDAZIONE_FIRMA : Sta Z h0 "com/example/office_to_office/officetooffice/segnatura/Anomalia" "VALIDAZIONE_FIRMA" "Lcom/example/office_to_office/officetooffice/segnatura/Anomalia;" (.ref r_VALIDAZIONE_FIRMA)) (E_r_VALIDAZIONE_FIRMA : Exa Z h0 r_VALIDAZIONE_FIRMA "com/example/office_to_office/officetooffice/segnatura/Anomalia") (S_r_ANOMALIA_IMPRONTE : Sta Z h0 "com/example/office_to_office/officetooffice/segnatura/Anomalia" "ANOMALIA_IMPRONTE" "Lcom/example/office_to_office/officetooffice/segnatura/Anomalia;" (.ref r_ANOMALIA_IMPRONTE)) (E_r_ANOMALIA_IMPRONTE : Exa Z h0 r_ANOMALIA_IMPRONTE "com/example/office_to_office/officetooffice/segnatura/Anomalia") (S_r_DOCUMENTI_NON_LEGGIBILI : Sta Z h0 "com/example/office_to_office/officetooffice/segnatura/Anomalia" "DOCUMENTI_NON_LEGGIBILI" "Lcom/example/office_to_office/officetooffice/segnatura/Anomalia;" (.ref r_DOCUMENTI_NON_LEGGIBILI)) (E_r_DOCUMENTI_NON_LEGGIBILI : Exa Z h0 r_DOCUMENTI_NON_LEGGIBILI "com/example/office_to_office/officetooffice/segnatura/Anomalia") (S_r_FIRMA_DOCUMENTI : Sta Z h0 "com/example/office_to_office/officetooffice/segnatura/Anomalia" "FIRMA_DOCUMENTI" "Lcom/example/office_to_office/officetooffice/segnatura/Anomalia;" (.ref r_FIRMA_DOCUMENTI)) (E_r_FIRMA_DOCUMENTI : Exa Z h0 r_FIRMA_DOCUMENTI "com/example/office_to_office/officetooffice/segnatura/Anomalia") (S_r_MARCA_DOCUMENTI : Sta Z h0 "com/example/office_to_office/officetooffice/segnatura/Anomalia" "MARCA_DOCUMENTI" "Lcom/example/office_to_office/officetooffice/segnatura/Anomalia;" (.ref r_MARCA_DOCUMENTI)) (E_r_MARCA_DOCUMENTI : Exa Z h0 r_MARCA_DOCUMENTI "com/example/office_to_office/officetooffice/segnatura/Anomalia") (S_r_SIGILLO_DOCUMENTI : Sta Z h0 "com/example/office_to_office/officetooffice/segnatura/Anomalia" "SIGILLO_DOCUMENTI" "Lcom/example/office_to_office/officetooffice/segnatura/Anomalia;" (.ref r_SIGILLO_DOCUMENTI)) (E_r_SIGILLO_DOCUMENTI : Exa Z h0 r_SIGILLO_DOCUMENTI "com/example/office_to_office/officetooffice/segnatura/Anomalia") (S_r_IRRICEVIBILITA : Sta Z h0 "com/example/office_to_office/officetooffice/segnatura/Anomalia" "IRRICEVIBILITA" "Lcom/example/office_to_office/officetooffice/segnatura/Anomalia;" (.ref r_IRRICEVIBILITA)) (E_r_IRRICEVIBILITA : Exa Z h0 r_IRRICEVIBILITA "com/example/office_to_office/officetooffice/segnatura/Anomalia") (S_r_IDENTIFICATORE_NON_TROVATO : Sta Z h0 "com/example/office_to_office/officetooffice/segnatura/Anomalia" "IDENTIFICATORE_NON_TROVATO" "Lcom/example/office_to_office/officetooffice/segnatura/Anomalia;" (.ref r_IDENTIFICATORE_NON_TROVATO)) (E_r_IDENTIFICATORE_NON_TROVATO : Exa Z h0 r_IDENTIFICATORE_NON_TROVATO "com/example/office_to_office/officetooffice/segnatura/Anomalia") (S_r_CONFERMA : Sta Z h0 "com/example/office_to_office/officetooffice/segnatura/Anomalia$Carrier" "CONFERMA" "Lcom/example/office_to_office/officetooffice/segnatura/Anomalia$Carrier;" (.ref r_CONFERMA)) (E_r_CONFERMA : Exa Z h0 r_CONFERMA "com/example/office_to_office/officetooffice/segnatura/Anomalia$Carrier") (F_r_IRRICEVIBILE_carrier : Fld Z h0 r_IRRICEVIBILE "com/example/office_to_office/officetooffice/segnatura/Anomalia" "carrier" "Lcom/example/office_to_office/officetooffice/segnatura/Anomalia$Carrier;" (.ref r_CONFERMA)) (F_r_DOCUMENTI_NON_LEGGIBILI_carrier : Fld Z h0 r_DOCUMENTI_NON_LEGGIBILI "com/example/office_to_office/officetooffice/segnatura/Anomalia" "carrier" "Lcom/example/office_to_office/officetooffice/segnatura/Anomalia$Carrier;" (.ref r_CONFERMA)) (S_r_INOLTRO : Sta Z h0 "com/example/office_to_office/officetooffice/segnatura/Anomalia$Carrier" "INOLTRO" "Lcom/example/office_to_office/officetooffice/segnatura/Anomalia$Carrier;" (.ref r_INOLTRO)) (E_r_INOLTRO : Exa Z h0 r_INOLTRO "com/example/office_to_office/officetooffice/segnatura/Anomalia$Carrier") (F_r_ANOMALIA_IMPRONTE_carrier : Fld Z h0 r_ANOMALIA_IMPRONTE "com/example/office_to_office/officetooffice/segnatura/Anomalia" "carrier" "Lcom/example/office_to_office/officetooffice/segnatura/Anomalia$Carrier;" (.ref r_INOLTRO)) (F_r_INOLTRO_ordinal : Fld Z h0 r_INOLTRO "java/lang/Enum" "ordinal" "I" (.int (0 : Int32))) (F_r_CONFERMA_ordinal : Fld Z h0 r_CONFERMA "java/lang/Enum" "ordinal" "I" (.int (1 : Int32))) (F_r_VALIDAZIONE_FIRMA_carrier : Fld Z h0 r_VALIDAZIONE_FIRMA "com/example/office_to_office/officetooffice/segnatura/Anomalia" "carrier" "Lcom/example/office_to_office/officetooffice/segnatura/Anomalia$Carrier;" (.ref r_INOLTRO)) (S_r_ANNULMENT : Sta Z h0 "com/example/office_to_office/officetooffice/segnatura/Anomalia$Carrier" "ANNULMENT" "Lcom/example/office_to_office/officetooffice/segnatura/Anomalia$Carrier;" (.ref r_ANNULMENT)) (E_r_ANNULMENT : Exa Z h0 r_ANNULMENT "com/example/office_to_office/officetooffice/segnatura/Anomalia$Carrier") (F_r_IRRICEVIBILITA_carrier : Fld Z h0 r_IRRICEVIBILITA "com/example/office_to_office/officetooffice/segnatura/Anomalia" "carrier" "Lcom/example/office_to_office/officetooffice/segnatura/Anomalia$Carrier;" (.ref r_ANNULMENT)) (F_r_ANNULMENT_ordinal : Fld Z h0 r_ANNULMENT "java/lang/Enum" "ordinal" "I" (.int (2 : Int32))) (F_r_FIRMA_DOCUMENTI_carrier : Fld Z h0 r_FIRMA_DOCUMENTI "com/example/office_to_office/officetooffice/segnatura/Anomalia" "carrier" "Lcom/example/office_to_office/officetooffice/segnatura/Anomalia$Carrier;" (.ref r_CONFERMA)) (F_r_IDENTIFICATORE_NON_TROVATO_carrier : Fld Z h0 r_IDENTIFICATORE_NON_TROVATO "com/example/office_to_office/officetooffice/segnatura/Anomalia" "carrier" "Lcom/example/office_to_office/officetooffice/segnatura/Anomalia$Carrier;" (.ref r_ANNULMENT)) (F_r_SIGILLO_DOCUMENTI_carrier : Fld Z h0 r_SIGILLO_DOCUMENTI "com/example/office_to_office/officetooffice/segnatura/Anomalia" "carrier" "Lcom/example/office_to_office/officetooffice/segnatura/Anomalia$Carrier;" (.ref r_CONFERMA)) (F_r_MARCA_DOCUMENTI_carrier : Fld Z h0 r_MARCA_DOCUMENTI "com/example/office_to_office/officetooffice/segnatura/Anomalia" "carrier" "Lcom/example/office_to_office/officetooffice/segnatura/Anomalia$Carrier;" (.ref r_CONFERMA)) :
    MetFree l x (head1 (Jvm.Cond.code x code maxLocals ret :: ws) room_1) (fun aa U => aa = #[(.int p0)] ∧ Z.Warmed39 U.vm ∧ U.heap = h0) (fun _ _ _ _ _ => True) (fun _ U o U' => ∃ v L, o = .returned v ∧ Q0 n0 v U'.heap L ∧ FrameEnd U o U' L 16 128) := by
  refine own_body pf_1 ?_
  intro p e s m below meth c s₁ hx hby hml hown hnm hlk hret hZ X0 e0
  have N0 : Fr n0 [] := Fr.nil n0
  refine own_go (f' := (mkF m 0 #[.val (.int p0), .unset, .unset, .unset] [])) (fun t k => castTop (ef_rm0 m p0) k) ?_
  have ne_r_CONFERMA_r_INOLTRO : r_CONFERMA ≠ r_INOLTRO := Fld.ne F_r_CONFERMA_ordinal F_r_INOLTRO_ordinal (by simp)
  have ne_r_ANNULMENT_r_CONFERMA : r_ANNULMENT ≠ r_CONFERMA := Fld.ne F_r_ANNULMENT_ordinal F_r_CONFERMA_ordinal (by simp)
  have ne_r_ANNULMENT_r_INOLTRO : r_ANNULMENT ≠ r_INOLTRO := Fld.ne F_r_ANNULMENT_ordinal F_r_INOLTRO_ordinal (by simp)
  refine own_bipush X0 hx (pc' := 2) (9 : Int32) (hb hby at_0) rfl rfl ?_
  refine own_newR X0 hx (pc' := 5) hZ hown (W0 hw) (W1 hw) e0 (hb hby at_2) (by decide) 9 (by decide) (by decide) (by decide) (by decide) rfl (fun T1 h1 k1 b1 g1 X1 e1 E1 A1 O1 => ?_)
  have ne_r_IRRICEVIBILE_b1_2 : r_IRRICEVIBILE ≠ b1 := Nat.ne_of_lt (Nat.lt_of_lt_of_le E_r_IRRICEVIBILE.lt (Nat.le_of_eq g1.symm))
  have ne_r_VALIDAZIONE_FIRMA_b1_3 : r_VALIDAZIONE_FIRMA ≠ b1 := Nat.ne_of_lt (Nat.lt_of_lt_of_le E_r_VALIDAZIONE_FIRMA.lt (Nat.le_of_eq g1.symm))
  have ne_r_ANOMALIA_IMPRONTE_b1_4 : r_ANOMALIA_IMPRONTE ≠ b1 := Nat.ne_of_lt (Nat.lt_of_lt_of_le E_r_ANOMALIA_IMPRONTE.lt (Nat.le_of_eq g1.symm))
  have ne_r_DOCUMENTI_NON_LEGGIBILI_b1_5 : r_DOCUMENTI_NON_LEGGIBILI ≠ b1 := Nat.ne_of_lt (Nat.lt_of_lt_of_le E_r_DOCUMENTI_NON_LEGGIBILI.lt (Nat.le_of_eq g1.symm))
  have ne_r_FIRMA_DOCUMENTI_b1_6 : r_FIRMA_DOCUMENTI ≠ b1 := Nat.ne_of_lt (Nat.lt_of_lt_of_le E_r_FIRMA_DOCUMENTI.lt (Nat.le_of_eq g1.symm))
  have ne_r_MARCA_DOCUMENTI_b1_7 : r_MARCA_DOCUMENTI ≠ b1 := Nat.ne_of_lt (Nat.lt_of_lt_of_le E_r_MARCA_DOCUMENTI.lt (Nat.le_of_eq g1.symm))
  have ne_r_SIGILLO_DOCUMENTI_b1_8 : r_SIGILLO_DOCUMENTI ≠ b1 := Nat.ne_of_lt (Nat.lt_of_lt_of_le E_r_SIGILLO_DOCUMENTI.lt (Nat.le_of_eq g1.symm))
  have ne_r_IRRICEVIBILITA_b1_9 : r_IRRICEVIBILITA ≠ b1 := Nat.ne_of_lt (Nat.lt_of_lt_of_le E_r_IRRICEVIBILITA.lt (Nat.le_of_eq g1.symm))
  have ne_r_IDENTIFICATORE_NON_TROVATO_b1_10 : r_IDENTIFICATORE_NON_TROVATO ≠ b1 := Nat.ne_of_lt (Nat.lt_of_lt_of_le E_r_IDENTIFICATORE_NON_TROVATO.lt (Nat.le_of_eq g1.symm))
  have ge_b1 : n0 ≤ b1 := Nat.le_trans Z0 (Nat.le_of_eq g1.symm)
  have Z11 : n0 ≤ h1.size := Nat.le_trans Z0 E1.1
  have F12 := (Sta.ext E1 S_r_IRRICEVIBILE)
  have F13 := (Exa.ext E1 E_r_IRRICEVIBILE)
  have F14 := (Sta.ext E1 S_r_VALIDAZIONE_FIRMA)
  have F15 := (Exa.ext E1 E_r_VALIDAZIONE_FIRMA)
  have F16 := (Sta.ext E1 S_r_ANOMALIA_IMPRONTE)
  have F17 := (Exa.ext E1 E_r_ANOMALIA_IMPRONTE)
  have F18 := (Sta.ext E1 S_r_DOCUMENTI_NON_LEGGIBILI)
  have F19 := (Exa.ext E1 E_r_DOCUMENTI_NON_LEGGIBILI)
  have F20 := (Sta.ext E1 S_r_FIRMA_DOCUMENTI)
  have F21 := (Exa.ext E1 E_r_FIRMA_DOCUMENTI)
  have F22 := (Sta.ext E1 S_r_MARCA_DOCUMENTI)
  have F23 := (Exa.ext E1 E_r_MARCA_DOCUMENTI)
  have F24 := (Sta.ext E1 S_r_SIGILLO_DOCUMENTI)
  have F25 := (Exa.ext E1 E_r_SIGILLO_DOCUMENTI)
  have F26 := (Sta.ext E1 S_r_IRRICEVIBILITA)
  have F27 := (Exa.ext E1 E_r_IRRICEVIBILITA)
  have F28 := (Sta.ext E1 S_r_IDENTIFICATORE_NON_TROVATO)
  have F29 := (Exa.ext E1 E_r_IDENTIFICATORE_NON_TROVATO)
  have F30 := (Sta.ext E1 S_r_CONFERMA)
  have F31 := (Fld.ext E1 F_r_IRRICEVIBILE_carrier)
  have F32 := (Fld.ext E1 F_r_DOCUMENTI_NON_LEGGIBILI_carrier)
  have F33 := (Sta.ext E1 S_r_INOLTRO)
  have F34 := (Fld.ext E1 F_r_ANOMALIA_IMPRONTE_carrier)
  have F35 := (Fld.ext E1 F_r_VALIDAZIONE_FIRMA_carrier)
  have F36 := (Sta.ext E1 S_r_ANNULMENT)
  have F37 := (Fld.ext E1 F_r_IRRICEVIBILITA_carrier)
  have F38 := (Fld.ext E1 F_r_FIRMA_DOCUMENTI_carrier)
  have F39 := (Fld.ext E1 F_r_IDENTIFICATORE_NON_TROVATO_carrier)
  have F40 := (Fld.ext E1 F_r_SIGILLO_DOCUMENTI_carrier)
  have F41 := (Fld.ext E1 F_r_MARCA_DOCUMENTI_carrier)
  have V42 : Arv Z h1 b1 k1 (.object "com/example/office_to_office/officetooffice/segnatura/Anomalia") (9 : Int32) [.null, .null, .null, .null, .null, .null, .null, .null, .null] .null := (Arv.new A1 (by decide)).pad (pad_rep [] .null 9)
  refine own_dup X1 hx (pc' := 6) (hb hby at_5) rfl rfl ?_
  refine own_iconst X1 hx (pc' := 7) (0 : Int32) (hb hby at_6) rfl rfl ?_
  refine own_getS X1 hx (pc' := 10) hZ hown (host := "") (Or.inl (W2 hw)) Via.refl e1 F12 (hb hby at_7) rfl (fun T43 X43 e43 => ?_)
  obtain ⟨cl44, Ar44, q44, S44, M44, H44, G44⟩ := V42
  refine own_stR X43 hx (pc' := 11) hZ e43 Ar44 (inb_of S44 ⟨by decide, by decide⟩) rfl (Sto.ofV Ar44 q44 O1 (Ins.self F13)) (hb hby at_10) rfl (fun T45 h45 X45 e45 W45 => ?_)
  have N46 := Fr.snoc X45 N0 ge_b1
  have Z47 : n0 ≤ h45.size := Nat.le_trans Z11 (Nat.le_of_eq (Wr.size W45).symm)
  have F48 := (Sta.wr W45 F12)
  have F49 := (Exa.wr W45 F13)
  have F50 := (Sta.wr W45 F14)
  have F51 := (Exa.wr W45 F15)
  have F52 := (Sta.wr W45 F16)
  have F53 := (Exa.wr W45 F17)
  have F54 := (Sta.wr W45 F18)
  have F55 := (Exa.wr W45 F19)
  have F56 := (Sta.wr W45 F20)
  have F57 := (Exa.wr W45 F21)
  have F58 := (Sta.wr W45 F22)
  have F59 := (Exa.wr W45 F23)
  have F60 := (Sta.wr W45 F24)
  have F61 := (Exa.wr W45 F25)
  have F62 := (Sta.wr W45 F26)
  have F63 := (Exa.wr W45 F27)
  have F64 := (Sta.wr W45 F28)
  have F65 := (Exa.wr W45 F29)
  have F66 := (Sta.wr W45 F30)
  have F67 := (Fld.other W45 F31 (Or.inl ne_r_IRRICEVIBILE_b1_2))
  have F68 := (Fld.other W45 F32 (Or.inl ne_r_DOCUMENTI_NON_LEGGIBILI_b1_5))
  have F69 := (Sta.wr W45 F33)
  have F70 := (Fld.other W45 F34 (Or.inl ne_r_ANOMALIA_IMPRONTE_b1_4))
  have F71 := (Fld.other W45 F35 (Or.inl ne_r_VALIDAZIONE_FIRMA_b1_3))
  have F72 := (Sta.wr W45 F36)
  have F73 := (Fld.other W45 F37 (Or.inl ne_r_IRRICEVIBILITA_b1_9))
  have F74 := (Fld.other W45 F38 (Or.inl ne_r_FIRMA_DOCUMENTI_b1_6))
  have F75 := (Fld.other W45 F39 (Or.inl ne_r_IDENTIFICATORE_NON_TROVATO_b1_10))
  have F76 := (Fld.other W45 F40 (Or.inl ne_r_SIGILLO_DOCUMENTI_b1_8))
  have F77 := (Fld.other W45 F41 (Or.inl ne_r_MARCA_DOCUMENTI_b1_7))
  have F78 : Arv Z h45 b1 k1 (.object "com/example/office_to_office/officetooffice/segnatura/Anomalia") (9 : Int32) [(.ref r_IRRICEVIBILE), .null, .null, .null, .null, .null, .null, .null, .null] .null := (Arv.set Ar44 q44 S44 M44 H44 G44 rfl W45 0 rfl (Nat.le_of_ble_eq_true rfl))
  refine own_dup X45 hx (pc' := 12) (hb hby at_11) rfl rfl ?_
  refine own_iconst X45 hx (pc' := 13) (1 : Int32) (hb hby at_12) rfl rfl ?_
  refine own_getS X45 hx (pc' := 16) hZ hown (host := "") (Or.inl (W6 hw)) Via.refl e45 F50 (hb hby at_13) rfl (fun T79 X79 e79 => ?_)
  obtain ⟨cl80, Ar80, q80, S80, M80, H80, G80⟩ := F78
  refine own_stR X79 hx (pc' := 17) hZ e79 Ar80 (inb_of S80 ⟨by decide, by decide⟩) rfl (Sto.ofV Ar80 q80 O1 (Ins.self F51)) (hb hby at_16) rfl (fun T81 h81 X81 e81 W81 => ?_)
  have N82 := Fr.snoc X81 N46 ge_b1
  have Z83 : n0 ≤ h81.size := Nat.le_trans Z47 (Nat.le_of_eq (Wr.size W81).symm)
  have F84 := (Sta.wr W81 F48)
  have F85 := (Exa.wr W81 F49)
  have F86 := (Sta.wr W81 F50)
  have F87 := (Exa.wr W81 F51)
  have F88 := (Sta.wr W81 F52)
  have F89 := (Exa.wr W81 F53)
  have F90 := (Sta.wr W81 F54)
  have F91 := (Exa.wr W81 F55)
  have F92 := (Sta.wr W81 F56)
  have F93 := (Exa.wr W81 F57)
  have F94 := (Sta.wr W81 F58)
  have F95 := (Exa.wr W81 F59)
  have F96 := (Sta.wr W81 F60)
  have F97 := (Exa.wr W81 F61)
  have F98 := (Sta.wr W81 F62)
  have F99 := (Exa.wr W81 F63)
  have F100 := (Sta.wr W81 F64)
  have F101 := (Exa.wr W81 F65)
  have F102 := (Sta.wr W81 F66)
  have F103 := (Fld.other W81 F67 (Or.inl ne_r_IRRICEVIBILE_b1_2))
  have F104 := (Fld.other W81 F68 (Or.inl ne_r_DOCUMENTI_NON_LEGGIBILI_b1_5))
  have F105 := (Sta.wr W81 F69)
  have F106 := (Fld.other W81 F70 (Or.inl ne_r_ANOMALIA_IMPRONTE_b1_4))
  have F107 := (Fld.other W81 F71 (Or.inl ne_r_VALIDAZIONE_FIRMA_b1_3))
  have F108 := (Sta.wr W81 F72)
  have F109 := (Fld.other W81 F73 (Or.inl ne_r_IRRICEVIBILITA_b1_9))
  have F110 := (Fld.other W81 F74 (Or.inl ne_r_FIRMA_DOCUMENTI_b1_6))
  have F111 := (Fld.other W81 F75 (Or.inl ne_r_IDENTIFICATORE_NON_TROVATO_b1_10))
  have F112 := (Fld.other W81 F76 (Or.inl ne_r_SIGILLO_DOCUMENTI_b1_8))
  have F113 := (Fld.other W81 F77 (Or.inl ne_r_MARCA_DOCUMENTI_b1_7))
  have F114 : Arv Z h81 b1 k1 (.object "com/example/office_to_office/officetooffice/segnatura/Anomalia") (9 : Int32) [(.ref r_IRRICEVIBILE), (.ref r_VALIDAZIONE_FIRMA), .null, .null, .null, .null, .null, .null, .null] .null := (Arv.set Ar80 q80 S80 M80 H80 G80 rfl W81 1 rfl (Nat.le_of_ble_eq_true rfl))
  refine own_dup X81 hx (pc' := 18) (hb hby at_17) rfl rfl ?_
  refine own_iconst X81 hx (pc' := 19) (2 : Int32) (hb hby at_18) rfl rfl ?_
  refine own_getS X81 hx (pc' := 22) hZ hown (host := "") (Or.inl (W8 hw)) Via.refl e81 F88 (hb hby at_19) rfl (fun T115 X115 e115 => ?_)
  obtain ⟨cl116, Ar116, q116, S116, M116, H116, G116⟩ := F114
  refine own_stR X115 hx (pc' := 23) hZ e115 Ar116 (inb_of S116 ⟨by decide, by decide⟩) rfl (Sto.ofV Ar116 q116 O1 (Ins.self F89)) (hb hby at_22) rfl (fun T117 h117 X117 e117 W117 => ?_)
  have N118 := Fr.snoc X117 N82 ge_b1
  have Z119 : n0 ≤ h117.size := Nat.le_trans Z83 (Nat.le_of_eq (Wr.size W117).symm)
  have F120 := (Sta.wr W117 F84)
  have F121 := (Exa.wr W117 F85)
  have F122 := (Sta.wr W117 F86)
  have F123 := (Exa.wr W117 F87)
  have F124 := (Sta.wr W117 F88)
  have F125 := (Exa.wr W117 F89)
  have F126 := (Sta.wr W117 F90)
  have F127 := (Exa.wr W117 F91)
  have F128 := (Sta.wr W117 F92)
  have F129 := (Exa.wr W117 F93)
  have F130 := (Sta.wr W117 F94)
  have F131 := (Exa.wr W117 F95)
  have F132 := (Sta.wr W117 F96)
  have F133 := (Exa.wr W117 F97)
  have F134 := (Sta.wr W117 F98)
  have F135 := (Exa.wr W117 F99)
  have F136 := (Sta.wr W117 F100)
  have F137 := (Exa.wr W117 F101)
  have F138 := (Sta.wr W117 F102)
  have F139 := (Fld.other W117 F103 (Or.inl ne_r_IRRICEVIBILE_b1_2))
  have F140 := (Fld.other W117 F104 (Or.inl ne_r_DOCUMENTI_NON_LEGGIBILI_b1_5))
  have F141 := (Sta.wr W117 F105)
  have F142 := (Fld.other W117 F106 (Or.inl ne_r_ANOMALIA_IMPRONTE_b1_4))
  have F143 := (Fld.other W117 F107 (Or.inl ne_r_VALIDAZIONE_FIRMA_b1_3))
  have F144 := (Sta.wr W117 F108)
  have F145 := (Fld.other W117 F109 (Or.inl ne_r_IRRICEVIBILITA_b1_9))
  have F146 := (Fld.other W117 F110 (Or.inl ne_r_FIRMA_DOCUMENTI_b1_6))
  have F147 := (Fld.other W117 F111 (Or.inl ne_r_IDENTIFICATORE_NON_TROVATO_b1_10))
  have F148 := (Fld.other W117 F112 (Or.inl ne_r_SIGILLO_DOCUMENTI_b1_8))
  have F149 := (Fld.other W117 F113 (Or.inl ne_r_MARCA_DOCUMENTI_b1_7))
  have F150 : Arv Z h117 b1 k1 (.object "com/example/office_to_office/officetooffice/segnatura/Anomalia") (9 : Int32) [(.ref r_IRRICEVIBILE), (.ref r_VALIDAZIONE_FIRMA), (.ref r_ANOMALIA_IMPRONTE), .null, .null, .null, .null, .null, .null] .null := (Arv.set Ar116 q116 S116 M116 H116 G116 rfl W117 2 rfl (Nat.le_of_ble_eq_true rfl))
  refine own_dup X117 hx (pc' := 24) (hb hby at_23) rfl rfl ?_
  refine own_iconst X117 hx (pc' := 25) (3 : Int32) (hb hby at_24) rfl rfl ?_
  refine own_getS X117 hx (pc' := 28) hZ hown (host := "") (Or.inl (W10 hw)) Via.refl e117 F126 (hb hby at_25) rfl (fun T151 X151 e151 => ?_)
  obtain ⟨cl152, Ar152, q152, S152, M152, H152, G152⟩ := F150
  refine own_stR X151 hx (pc' := 29) hZ e151 Ar152 (inb_of S152 ⟨by decide, by decide⟩) rfl (Sto.ofV Ar152 q152 O1 (Ins.self F127)) (hb hby at_28) rfl (fun T153 h153 X153 e153 W153 => ?_)
  have N154 := Fr.snoc X153 N118 ge_b1
  have Z155 : n0 ≤ h153.size := Nat.le_trans Z119 (Nat.le_of_eq (Wr.size W153).symm)
  have F156 := (Sta.wr W153 F120)
  have F157 := (Exa.wr W153 F121)
  have F158 := (Sta.wr W153 F122)
  have F159 := (Exa.wr W153 F123)
  have F160 := (Sta.wr W153 F124)
  have F161 := (Exa.wr W153 F125)
  have F162 := (Sta.wr W153 F126)
  have F163 := (Exa.wr W153 F127)
  have F164 := (Sta.wr W153 F128)
  have F165 := (Exa.wr W153 F129)
  have F166 := (Sta.wr W153 F130)
  have F167 := (Exa.wr W153 F131)
  have F168 := (Sta.wr W153 F132)
  have F169 := (Exa.wr W153 F133)
  have F170 := (Sta.wr W153 F134)
  have F171 := (Exa.wr W153 F135)
  have F172 := (Sta.wr W153 F136)
  have F173 := (Exa.wr W153 F137)
  have F174 := (Sta.wr W153 F138)
  have F175 := (Fld.other W153 F139 (Or.inl ne_r_IRRICEVIBILE_b1_2))
  have F176 := (Fld.other W153 F140 (Or.inl ne_r_DOCUMENTI_NON_LEGGIBILI_b1_5))
  have F177 := (Sta.wr W153 F141)
  have F178 := (Fld.other W153 F142 (Or.inl ne_r_ANOMALIA_IMPRONTE_b1_4))
  have F179 := (Fld.other W153 F143 (Or.inl ne_r_VALIDAZIONE_FIRMA_b1_3))
  have F180 := (Sta.wr W153 F144)
  have F181 := (Fld.other W153 F145 (Or.inl ne_r_IRRICEVIBILITA_b1_9))
  have F182 := (Fld.other W153 F146 (Or.inl ne_r_FIRMA_DOCUMENTI_b1_6))
  have F183 := (Fld.other W153 F147 (Or.inl ne_r_IDENTIFICATORE_NON_TROVATO_b1_10))
  have F184 := (Fld.other W153 F148 (Or.inl ne_r_SIGILLO_DOCUMENTI_b1_8))
  have F185 := (Fld.other W153 F149 (Or.inl ne_r_MARCA_DOCUMENTI_b1_7))
  have F186 : Arv Z h153 b1 k1 (.object "com/example/office_to_office/officetooffice/segnatura/Anomalia") (9 : Int32) [(.ref r_IRRICEVIBILE), (.ref r_VALIDAZIONE_FIRMA), (.ref r_ANOMALIA_IMPRONTE), (.ref r_DOCUMENTI_NON_LEGGIBILI), .null, .null, .null, .null, .null] .null := (Arv.set Ar152 q152 S152 M152 H152 G152 rfl W153 3 rfl (Nat.le_of_ble_eq_true rfl))
  refine own_dup X153 hx (pc' := 30) (hb hby at_29) rfl rfl ?_
  refine own_iconst X153 hx (pc' := 31) (4 : Int32) (hb hby at_30) rfl rfl ?_
  refine own_getS X153 hx (pc' := 34) hZ hown (host := "") (Or.inl (W12 hw)) Via.refl e153 F164 (hb hby at_31) rfl (fun T187 X187 e187 => ?_)
  obtain ⟨cl188, Ar188, q188, S188, M188, H188, G188⟩ := F186
  refine own_stR X187 hx (pc' := 35) hZ e187 Ar188 (inb_of S188 ⟨by decide, by decide⟩) rfl (Sto.ofV Ar188 q188 O1 (Ins.self F165)) (hb hby at_34) rfl (fun T189 h189 X189 e189 W189 => ?_)
  have N190 := Fr.snoc X189 N154 ge_b1
  have Z191 : n0 ≤ h189.size := Nat.le_trans Z155 (Nat.le_of_eq (Wr.size W189).symm)
  have F192 := (Sta.wr W189 F156)
  have F193 := (Exa.wr W189 F157)
  have F194 := (Sta.wr W189 F158)
  have F195 := (Exa.wr W189 F159)
  have F196 := (Sta.wr W189 F160)
  have F197 := (Exa.wr W189 F161)
  have F198 := (Sta.wr W189 F162)
  have F199 := (Exa.wr W189 F163)
  have F200 := (Sta.wr W189 F164)
  have F201 := (Exa.wr W189 F165)
  have F202 := (Sta.wr W189 F166)
  have F203 := (Exa.wr W189 F167)
  have F204 := (Sta.wr W189 F168)
  have F205 := (Exa.wr W189 F169)
  have F206 := (Sta.wr W189 F170)
  have F207 := (Exa.wr W189 F171)
  have F208 := (Sta.wr W189 F172)
  have F209 := (Exa.wr W189 F173)
  have F210 := (Sta.wr W189 F174)
  have F211 := (Fld.other W189 F175 (Or.inl ne_r_IRRICEVIBILE_b1_2))
  have F212 := (Fld.other W189 F176 (Or.inl ne_r_DOCUMENTI_NON_LEGGIBILI_b1_5))
  have F213 := (Sta.wr W189 F177)
  have F214 := (Fld.other W189 F178 (Or.inl ne_r_ANOMALIA_IMPRONTE_b1_4))
  have F215 := (Fld.other W189 F179 (Or.inl ne_r_VALIDAZIONE_FIRMA_b1_3))
  have F216 := (Sta.wr W189 F180)
  have F217 := (Fld.other W189 F181 (Or.inl ne_r_IRRICEVIBILITA_b1_9))
  have F218 := (Fld.other W189 F182 (Or.inl ne_r_FIRMA_DOCUMENTI_b1_6))
  have F219 := (Fld.other W189 F183 (Or.inl ne_r_IDENTIFICATORE_NON_TROVATO_b1_10))
  have F220 := (Fld.other W189 F184 (Or.inl ne_r_SIGILLO_DOCUMENTI_b1_8))
  have F221 := (Fld.other W189 F185 (Or.inl ne_r_MARCA_DOCUMENTI_b1_7))
  have F222 : Arv Z h189 b1 k1 (.object "com/example/office_to_office/officetooffice/segnatura/Anomalia") (9 : Int32) [(.ref r_IRRICEVIBILE), (.ref r_VALIDAZIONE_FIRMA), (.ref r_ANOMALIA_IMPRONTE), (.ref r_DOCUMENTI_NON_LEGGIBILI), (.ref r_FIRMA_DOCUMENTI), .null, .null, .null, .null] .null := (Arv.set Ar188 q188 S188 M188 H188 G188 rfl W189 4 rfl (Nat.le_of_ble_eq_true rfl))
  refine own_dup X189 hx (pc' := 36) (hb hby at_35) rfl rfl ?_
  refine own_iconst X189 hx (pc' := 37) (5 : Int32) (hb hby at_36) rfl rfl ?_
  refine own_getS X189 hx (pc' := 40) hZ hown (host := "") (Or.inl (W14 hw)) Via.refl e189 F202 (hb hby at_37) rfl (fun T223 X223 e223 => ?_)
  obtain ⟨cl224, Ar224, q224, S224, M224, H224, G224⟩ := F222
  refine own_stR X223 hx (pc' := 41) hZ e223 Ar224 (inb_of S224 ⟨by decide, by decide⟩) rfl (Sto.ofV Ar224 q224 O1 (Ins.self F203)) (hb hby at_40) rfl (fun T225 h225 X225 e225 W225 => ?_)
  have N226 := Fr.snoc X225 N190 ge_b1
  have Z227 : n0 ≤ h225.size := Nat.le_trans Z191 (Nat.le_of_eq (Wr.size W225).symm)
  have F228 := (Sta.wr W225 F192)
  have F229 := (Exa.wr W225 F193)
  have F230 := (Sta.wr W225 F194)
  have F231 := (Exa.wr W225 F195)
  have F232 := (Sta.wr W225 F196)
  have F233 := (Exa.wr W225 F197)
  have F234 := (Sta.wr W225 F198)
  have F235 := (Exa.wr W225 F199)
  have F236 := (Sta.wr W225 F200)
  have F237 := (Exa.wr W225 F201)
  have F238 := (Sta.wr W225 F202)
  have F239 := (Exa.wr W225 F203)
  have F240 := (Sta.wr W225 F204)
  have F241 := (Exa.wr W225 F205)
  have F242 := (Sta.wr W225 F206)
  have F243 := (Exa.wr W225 F207)
  have F244 := (Sta.wr W225 F208)
  have F245 := (Exa.wr W225 F209)
  have F246 := (Sta.wr W225 F210)
  have F247 := (Fld.other W225 F211 (Or.inl ne_r_IRRICEVIBILE_b1_2))
  have F248 := (Fld.other W225 F212 (Or.inl ne_r_DOCUMENTI_NON_LEGGIBILI_b1_5))
  have F249 := (Sta.wr W225 F213)
  have F250 := (Fld.other W225 F214 (Or.inl ne_r_ANOMALIA_IMPRONTE_b1_4))
  have F251 := (Fld.other W225 F215 (Or.inl ne_r_VALIDAZIONE_FIRMA_b1_3))
  have F252 := (Sta.wr W225 F216)
  have F253 := (Fld.other W225 F217 (Or.inl ne_r_IRRICEVIBILITA_b1_9))
  have F254 := (Fld.other W225 F218 (Or.inl ne_r_FIRMA_DOCUMENTI_b1_6))
  have F255 := (Fld.other W225 F219 (Or.inl ne_r_IDENTIFICATORE_NON_TROVATO_b1_10))
  have F256 := (Fld.other W225 F220 (Or.inl ne_r_SIGILLO_DOCUMENTI_b1_8))
  have F257 := (Fld.other W225 F221 (Or.inl ne_r_MARCA_DOCUMENTI_b1_7))
  have F258 : Arv Z h225 b1 k1 (.object "com/example/office_to_office/officetooffice/segnatura/Anomalia") (9 : Int32) [(.ref r_IRRICEVIBILE), (.ref r_VALIDAZIONE_FIRMA), (.ref r_ANOMALIA_IMPRONTE), (.ref r_DOCUMENTI_NON_LEGGIBILI), (.ref r_FIRMA_DOCUMENTI), (.ref r_MARCA_DOCUMENTI), .null, .null, .null] .null := (Arv.set Ar224 q224 S224 M224 H224 G224 rfl W225 5 rfl (Nat.le_of_ble_eq_true rfl))
  refine own_dup X225 hx (pc' := 42) (hb hby at_41) rfl rfl ?_
  refine own_bipush X225 hx (pc' := 44) (6 : Int32) (hb hby at_42) rfl rfl ?_
  refine own_getS X225 hx (pc' := 47) hZ hown (host := "") (Or.inl (W16 hw)) Via.refl e225 F240 (hb hby at_44) rfl (fun T259 X259 e259 => ?_)
  obtain ⟨cl260, Ar260, q260, S260, M260, H260, G260⟩ := F258
  refine own_stR X259 hx (pc' := 48) hZ e259 Ar260 (inb_of S260 ⟨by decide, by decide⟩) rfl (Sto.ofV Ar260 q260 O1 (Ins.self F241)) (hb hby at_47) rfl (fun T261 h261 X261 e261 W261 => ?_)
  have N262 := Fr.snoc X261 N226 ge_b1
  have Z263 : n0 ≤ h261.size := Nat.le_trans Z227 (Nat.le_of_eq (Wr.size W261).symm)
  have F264 := (Sta.wr W261 F228)
  have F265 := (Exa.wr W261 F229)
  have F266 := (Sta.wr W261 F230)
  have F267 := (Exa.wr W261 F231)
  have F268 := (Sta.wr W261 F232)
  have F269 := (Exa.wr W261 F233)
  have F270 := (Sta.wr W261 F234)
  have F271 := (Exa.wr W261 F235)
  have F272 := (Sta.wr W261 F236)
  have F273 := (Exa.wr W261 F237)
  have F274 := (Sta.wr W261 F238)
  have F275 := (Exa.wr W261 F239)
  have F276 := (Sta.wr W261 F240)
  have F277 := (Exa.wr W261 F241)
  have F278 := (Sta.wr W261 F242)
  have F279 := (Exa.wr W261 F243)
  have F280 := (Sta.wr W261 F244)
  have F281 := (Exa.wr W261 F245)
  have F282 := (Sta.wr W261 F246)
  have F283 := (Fld.other W261 F247 (Or.inl ne_r_IRRICEVIBILE_b1_2))
  have F284 := (Fld.other W261 F248 (Or.inl ne_r_DOCUMENTI_NON_LEGGIBILI_b1_5))
  have F285 := (Sta.wr W261 F249)
  have F286 := (Fld.other W261 F250 (Or.inl ne_r_ANOMALIA_IMPRONTE_b1_4))
  have F287 := (Fld.other W261 F251 (Or.inl ne_r_VALIDAZIONE_FIRMA_b1_3))
  have F288 := (Sta.wr W261 F252)
  have F289 := (Fld.other W261 F253 (Or.inl ne_r_IRRICEVIBILITA_b1_9))
  have F290 := (Fld.other W261 F254 (Or.inl ne_r_FIRMA_DOCUMENTI_b1_6))
  have F291 := (Fld.other W261 F255 (Or.inl ne_r_IDENTIFICATORE_NON_TROVATO_b1_10))
  have F292 := (Fld.other W261 F256 (Or.inl ne_r_SIGILLO_DOCUMENTI_b1_8))
  have F293 := (Fld.other W261 F257 (Or.inl ne_r_MARCA_DOCUMENTI_b1_7))
  have F294 : Arv Z h261 b1 k1 (.object "com/example/office_to_office/officetooffice/segnatura/Anomalia") (9 : Int32) [(.ref r_IRRICEVIBILE), (.ref r_VALIDAZIONE_FIRMA), (.ref r_ANOMALIA_IMPRONTE), (.ref r_DOCUMENTI_NON_LEGGIBILI), (.ref r_FIRMA_DOCUMENTI), (.ref r_MARCA_DOCUMENTI), (.ref r_SIGILLO_DOCUMENTI), .null, .null] .null := (Arv.set Ar260 q260 S260 M260 H260 G260 rfl W261 6 rfl (Nat.le_of_ble_eq_true rfl))
  refine own_dup X261 hx (pc' := 49) (hb hby at_48) rfl rfl ?_
  refine own_bipush X261 hx (pc' := 51) (7 : Int32) (hb hby at_49) rfl rfl ?_
  refine own_getS X261 hx (pc' := 54) hZ hown (host := "") (Or.inl (W18 hw)) Via.refl e261 F278 (hb hby at_51) rfl (fun T295 X295 e295 => ?_)
  obtain ⟨cl296, Ar296, q296, S296, M296, H296, G296⟩ := F294
  refine own_stR X295 hx (pc' := 55) hZ e295 Ar296 (inb_of S296 ⟨by decide, by decide⟩) rfl (Sto.ofV Ar296 q296 O1 (Ins.self F279)) (hb hby at_54) rfl (fun T297 h297 X297 e297 W297 => ?_)
  have N298 := Fr.snoc X297 N262 ge_b1
  have Z299 : n0 ≤ h297.size := Nat.le_trans Z263 (Nat.le_of_eq (Wr.size W297).symm)
  have F300 := (Sta.wr W297 F264)
  have F301 := (Exa.wr W297 F265)
  have F302 := (Sta.wr W297 F266)
  have F303 := (Exa.wr W297 F267)
  have F304 := (Sta.wr W297 F268)
  have F305 := (Exa.wr W297 F269)
  have F306 := (Sta.wr W297 F270)
  have F307 := (Exa.wr W297 F271)
  have F308 := (Sta.wr W297 F272)
  have F309 := (Exa.wr W297 F273)
  have F310 := (Sta.wr W297 F274)
  have F311 := (Exa.wr W297 F275)
  have F312 := (Sta.wr W297 F276)
  have F313 := (Exa.wr W297 F277)
  have F314 := (Sta.wr W297 F278)
  have F315 := (Exa.wr W297 F279)
  have F316 := (Sta.wr W297 F280)
  have F317 := (Exa.wr W297 F281)
  have F318 := (Sta.wr W297 F282)
  have F319 := (Fld.other W297 F283 (Or.inl ne_r_IRRICEVIBILE_b1_2))
  have F320 := (Fld.other W297 F284 (Or.inl ne_r_DOCUMENTI_NON_LEGGIBILI_b1_5))
  have F321 := (Sta.wr W297 F285)
  have F322 := (Fld.other W297 F286 (Or.inl ne_r_ANOMALIA_IMPRONTE_b1_4))
  have F323 := (Fld.other W297 F287 (Or.inl ne_r_VALIDAZIONE_FIRMA_b1_3))
  have F324 := (Sta.wr W297 F288)
  have F325 := (Fld.other W297 F289 (Or.inl ne_r_IRRICEVIBILITA_b1_9))
  have F326 := (Fld.other W297 F290 (Or.inl ne_r_FIRMA_DOCUMENTI_b1_6))
  have F327 := (Fld.other W297 F291 (Or.inl ne_r_IDENTIFICATORE_NON_TROVATO_b1_10))
  have F328 := (Fld.other W297 F292 (Or.inl ne_r_SIGILLO_DOCUMENTI_b1_8))
  have F329 := (Fld.other W297 F293 (Or.inl ne_r_MARCA_DOCUMENTI_b1_7))
  have F330 : Arv Z h297 b1 k1 (.object "com/example/office_to_office/officetooffice/segnatura/Anomalia") (9 : Int32) [(.ref r_IRRICEVIBILE), (.ref r_VALIDAZIONE_FIRMA), (.ref r_ANOMALIA_IMPRONTE), (.ref r_DOCUMENTI_NON_LEGGIBILI), (.ref r_FIRMA_DOCUMENTI), (.ref r_MARCA_DOCUMENTI), (.ref r_SIGILLO_DOCUMENTI), (.ref r_IRRICEVIBILITA), .null] .null := (Arv.set Ar296 q296 S296 M296 H296 G296 rfl W297 7 rfl (Nat.le_of_ble_eq_true rfl))
  refine own_dup X297 hx (pc' := 56) (hb hby at_55) rfl rfl ?_
  refine own_bipush X297 hx (pc' := 58) (8 : Int32) (hb hby at_56) rfl rfl ?_
  refine own_getS X297 hx (pc' := 61) hZ hown (host := "") (Or.inl (W20 hw)) Via.refl e297 F316 (hb hby at_58) rfl (fun T331 X331 e331 => ?_)
  obtain ⟨cl332, Ar332, q332, S332, M332, H332, G332⟩ := F330
  refine own_stR X331 hx (pc' := 62) hZ e331 Ar332 (inb_of S332 ⟨by decide, by decide⟩) rfl (Sto.ofV Ar332 q332 O1 (Ins.self F317)) (hb hby at_61) rfl (fun T333 h333 X333 e333 W333 => ?_)
  have N334 := Fr.snoc X333 N298 ge_b1
  have Z335 : n0 ≤ h333.size := Nat.le_trans Z299 (Nat.le_of_eq (Wr.size W333).symm)
  have F336 := (Sta.wr W333 F300)
  have F337 := (Exa.wr W333 F301)
  have F338 := (Sta.wr W333 F302)
  have F339 := (Exa.wr W333 F303)
  have F340 := (Sta.wr W333 F304)
  have F341 := (Exa.wr W333 F305)
  have F342 := (Sta.wr W333 F306)
  have F343 := (Exa.wr W333 F307)
  have F344 := (Sta.wr W333 F308)
  have F345 := (Exa.wr W333 F309)
  have F346 := (Sta.wr W333 F310)
  have F347 := (Exa.wr W333 F311)
  have F348 := (Sta.wr W333 F312)
  have F349 := (Exa.wr W333 F313)
  have F350 := (Sta.wr W333 F314)
  have F351 := (Exa.wr W333 F315)
  have F352 := (Sta.wr W333 F316)
  have F353 := (Exa.wr W333 F317)
  have F354 := (Sta.wr W333 F318)
  have F355 := (Fld.other W333 F319 (Or.inl ne_r_IRRICEVIBILE_b1_2))
  have F356 := (Fld.other W333 F320 (Or.inl ne_r_DOCUMENTI_NON_LEGGIBILI_b1_5))
  have F357 := (Sta.wr W333 F321)
  have F358 := (Fld.other W333 F322 (Or.inl ne_r_ANOMALIA_IMPRONTE_b1_4))
  have F359 := (Fld.other W333 F323 (Or.inl ne_r_VALIDAZIONE_FIRMA_b1_3))
  have F360 := (Sta.wr W333 F324)
  have F361 := (Fld.other W333 F325 (Or.inl ne_r_IRRICEVIBILITA_b1_9))
  have F362 := (Fld.other W333 F326 (Or.inl ne_r_FIRMA_DOCUMENTI_b1_6))
  have F363 := (Fld.other W333 F327 (Or.inl ne_r_IDENTIFICATORE_NON_TROVATO_b1_10))
  have F364 := (Fld.other W333 F328 (Or.inl ne_r_SIGILLO_DOCUMENTI_b1_8))
  have F365 := (Fld.other W333 F329 (Or.inl ne_r_MARCA_DOCUMENTI_b1_7))
  have F366 : Arv Z h333 b1 k1 (.object "com/example/office_to_office/officetooffice/segnatura/Anomalia") (9 : Int32) [(.ref r_IRRICEVIBILE), (.ref r_VALIDAZIONE_FIRMA), (.ref r_ANOMALIA_IMPRONTE), (.ref r_DOCUMENTI_NON_LEGGIBILI), (.ref r_FIRMA_DOCUMENTI), (.ref r_MARCA_DOCUMENTI), (.ref r_SIGILLO_DOCUMENTI), (.ref r_IRRICEVIBILITA), (.ref r_IDENTIFICATORE_NON_TROVATO)] .null := (Arv.set Ar332 q332 S332 M332 H332 G332 rfl W333 8 rfl (Nat.le_of_ble_eq_true rfl))
  refine own_astoreN X333 hx (pc' := 63) (Ls' := #[.val (.int p0), .val (.ref b1), .unset, .unset]) (hb hby at_62) rfl rfl rfl ?_
  refine own_iloadN X333 hx (pc' := 64) (hb hby at_63) rfl rfl ?_
  refine own_ldcI X333 hx (pc' := 66) hZ hown (W22 hw) (hb hby at_64) rfl ?_
  refine own_iand X333 hx (pc' := 67) (hb hby at_66) rfl rfl ?_
  refine own_bipush X333 hx (pc' := 69) (9 : Int32) (hb hby at_67) rfl rfl ?_
  refine own_irem X333 hx (pc' := 70) (hb hby at_69) (by decide) rfl ?_
  refine own_istoreN X333 hx (pc' := 71) (Ls' := #[.val (.int p0), .val (.ref b1), .val (.int ((p0 &&& (2147483647 : Int32)) % (9 : Int32))), .unset]) (hb hby at_70) rfl rfl ?_
  have hk : ((p0 &&& (2147483647 : Int32)) % (9 : Int32)) = (0 : Int32) ∨ ((p0 &&& (2147483647 : Int32)) % (9 : Int32)) = (1 : Int32) ∨ ((p0 &&& (2147483647 : Int32)) % (9 : Int32)) = (2 : Int32) ∨ ((p0 &&& (2147483647 : Int32)) % (9 : Int32)) = (3 : Int32) ∨ ((p0 &&& (2147483647 : Int32)) % (9 : Int32)) = (4 : Int32) ∨ ((p0 &&& (2147483647 : Int32)) % (9 : Int32)) = (5 : Int32) ∨ ((p0 &&& (2147483647 : Int32)) % (9 : Int32)) = (6 : Int32) ∨ ((p0 &&& (2147483647 : Int32)) % (9 : Int32)) = (7 : Int32) ∨ ((p0 &&& (2147483647 : Int32)) % (9 : Int32)) = (8 : Int32) := by
    have q1 := c_mask p0 (2147483647 : Int32) 31 (by decide) (by decide)
    have q2 := (c_irem (p0 &&& (2147483647 : Int32)) (9 : Int32) 9 (by decide)).1 (by omega)
    simp only [← Int32.toInt_inj, own_t32_0, own_t32_1, own_t32_2, own_t32_3, own_t32_4, own_t32_5, own_t32_6, own_t32_7, own_t32_8, own_t32_9]
    omega
  rcases hk with hk | hk | hk | hk | hk | hk | hk | hk | hk
  · rw [hk]
    refine own_iloadN X333 hx (pc' := 72) (hb hby at_71) rfl rfl ?_
    refine own_ifYes X333 hx (pc' := 86) (hb hby at_72) (teq (by decide : (0 : Int32) = (0 : Int32))).1 (by decide) (by decide) ?_
    refine own_iconst X333 hx (pc' := 87) (1 : Int32) (hb hby at_86) rfl rfl ?_
    refine own_goto X333 hx (pc' := 91) (hb hby at_87) (by decide) (by decide) ?_
    refine own_istoreN X333 hx (pc' := 92) (Ls' := #[.val (.int p0), .val (.ref b1), .val (.int (0 : Int32)), .val (.int (1 : Int32))]) (hb hby at_91) rfl rfl ?_
    refine own_aloadN X333 hx (pc' := 93) (hb hby at_92) rfl rfl rfl ?_
    refine own_iloadN X333 hx (pc' := 94) (hb hby at_93) rfl rfl ?_
    obtain ⟨cl367, Ar367, q367, S367, M367, H367, G367⟩ := F366
    refine own_aaload X333 hx (pc' := 95) hZ (v := (.ref r_IRRICEVIBILE)) e333 Ar367 rfl (inb_of S367 ⟨by decide, by decide⟩) (Has.at H367 (inb_of S367 ⟨by decide, by decide⟩) rfl) (hb hby at_94) rfl ?_
    refine own_callV X333 hx (pc' := 98) hZ hown (W23 hw) (W25 hw) (W26 hw) (W27 hw) (W3 hw) (by decide) (rm_inConferma l Z a0 hw [] r_IRRICEVIBILE r_CONFERMA r_CONFERMA h333 n0 Z335 F355 F354) e333 F337 0 (by decide) (by decide) (by decide) (by decide) [] [] (by rw [hml]; rfl) (lenOf pd_0 rfl) rfl rfl (Nat.le_of_eq rfl) (hb hby at_95) rfl (fun v368 T368 L368 X368 hQ368 => ?_)
    obtain ⟨hv368, Nq368, e368⟩ := hQ368
    have N369 := Fr.app N334 Nq368
    rw [if_pos rfl] at hv368
    subst hv368
    show own_G p.tables e below _ T368 (mkF m 98 #[.val (.int p0), .val (.ref b1), .val (.int (0 : Int32)), .val (.int (1 : Int32))] [(.int (1 : Int32))])
    refine own_iloadN X368 hx (pc' := 99) (hb hby at_98) rfl rfl ?_
    refine own_icmpNo X368 hx (pc' := 102) (hb hby at_99) (teq (by decide : (1 : Int32) = (1 : Int32))).2 rfl ?_
    refine own_iconst X368 hx (pc' := 103) (1 : Int32) (hb hby at_102) rfl rfl ?_
    refine own_goto X368 hx (pc' := 107) (hb hby at_103) (by decide) (by decide) ?_
    refine own_retN X368 hx hlk hret (by simp) (hb hby at_107) (by decide) (by decide) ?_
    exact ⟨rfl, N369⟩
  · rw [hk]
    refine own_iloadN X333 hx (pc' := 72) (hb hby at_71) rfl rfl ?_
    refine own_ifNo X333 hx (pc' := 75) (hb hby at_72) (feq (by decide : ¬ ((1 : Int32) = (0 : Int32)))).1 rfl ?_
    refine own_iloadN X333 hx (pc' := 76) (hb hby at_75) rfl rfl ?_
    refine own_iconst X333 hx (pc' := 77) (3 : Int32) (hb hby at_76) rfl rfl ?_
    refine own_icmpYes X333 hx (pc' := 90) (hb hby at_77) (tlt (by decide : (1 : Int32) < (3 : Int32))).1 (by decide) (by decide) ?_
    refine own_iconst X333 hx (pc' := 91) (0 : Int32) (hb hby at_90) rfl rfl ?_
    refine own_istoreN X333 hx (pc' := 92) (Ls' := #[.val (.int p0), .val (.ref b1), .val (.int (1 : Int32)), .val (.int (0 : Int32))]) (hb hby at_91) rfl rfl ?_
    refine own_aloadN X333 hx (pc' := 93) (hb hby at_92) rfl rfl rfl ?_
    refine own_iloadN X333 hx (pc' := 94) (hb hby at_93) rfl rfl ?_
    obtain ⟨cl370, Ar370, q370, S370, M370, H370, G370⟩ := F366
    refine own_aaload X333 hx (pc' := 95) hZ (v := (.ref r_VALIDAZIONE_FIRMA)) e333 Ar370 rfl (inb_of S370 ⟨by decide, by decide⟩) (Has.at H370 (inb_of S370 ⟨by decide, by decide⟩) rfl) (hb hby at_94) rfl ?_
    refine own_callV X333 hx (pc' := 98) hZ hown (W23 hw) (W25 hw) (W26 hw) (W27 hw) (W3 hw) (by decide) (rm_inConferma l Z a0 hw [] r_VALIDAZIONE_FIRMA r_INOLTRO r_CONFERMA h333 n0 Z335 F359 F354) e333 F339 0 (by decide) (by decide) (by decide) (by decide) [] [] (by rw [hml]; rfl) (lenOf pd_0 rfl) rfl rfl (Nat.le_of_eq rfl) (hb hby at_95) rfl (fun v371 T371 L371 X371 hQ371 => ?_)
    obtain ⟨hv371, Nq371, e371⟩ := hQ371
    have N372 := Fr.app N334 Nq371
    rw [if_neg (Ne.symm ne_r_CONFERMA_r_INOLTRO)] at hv371
    subst hv371
    show own_G p.tables e below _ T371 (mkF m 98 #[.val (.int p0), .val (.ref b1), .val (.int (1 : Int32)), .val (.int (0 : Int32))] [(.int (0 : Int32))])
    refine own_iloadN X371 hx (pc' := 99) (hb hby at_98) rfl rfl ?_
    refine own_icmpNo X371 hx (pc' := 102) (hb hby at_99) (teq (by decide : (0 : Int32) = (0 : Int32))).2 rfl ?_
    refine own_iconst X371 hx (pc' := 103) (1 : Int32) (hb hby at_102) rfl rfl ?_
    refine own_goto X371 hx (pc' := 107) (hb hby at_103) (by decide) (by decide) ?_
    refine own_retN X371 hx hlk hret (by simp) (hb hby at_107) (by decide) (by decide) ?_
    exact ⟨rfl, N372⟩
  · rw [hk]
    refine own_iloadN X333 hx (pc' := 72) (hb hby at_71) rfl rfl ?_
    refine own_ifNo X333 hx (pc' := 75) (hb hby at_72) (feq (by decide : ¬ ((2 : Int32) = (0 : Int32)))).1 rfl ?_
    refine own_iloadN X333 hx (pc' := 76) (hb hby at_75) rfl rfl ?_
    refine own_iconst X333 hx (pc' := 77) (3 : Int32) (hb hby at_76) rfl rfl ?_
    refine own_icmpYes X333 hx (pc' := 90) (hb hby at_77) (tlt (by decide : (2 : Int32) < (3 : Int32))).1 (by decide) (by decide) ?_
    refine own_iconst X333 hx (pc' := 91) (0 : Int32) (hb hby at_90) rfl rfl ?_
    refine own_istoreN X333 hx (pc' := 92) (Ls' := #[.val (.int p0), .val (.ref b1), .val (.int (2 : Int32)), .val (.int (0 : Int32))]) (hb hby at_91) rfl rfl ?_
    refine own_aloadN X333 hx (pc' := 93) (hb hby at_92) rfl rfl rfl ?_
    refine own_iloadN X333 hx (pc' := 94) (hb hby at_93) rfl rfl ?_
    obtain ⟨cl373, Ar373, q373, S373, M373, H373, G373⟩ := F366
    refine own_aaload X333 hx (pc' := 95) hZ (v := (.ref r_ANOMALIA_IMPRONTE)) e333 Ar373 rfl (inb_of S373 ⟨by decide, by decide⟩) (Has.at H373 (inb_of S373 ⟨by decide, by decide⟩) rfl) (hb hby at_94) rfl ?_
    refine own_callV X333 hx (pc' := 98) hZ hown (W23 hw) (W25 hw) (W26 hw) (W27 hw) (W3 hw) (by decide) (rm_inConferma l Z a0 hw [] r_ANOMALIA_IMPRONTE r_INOLTRO r_CONFERMA h333 n0 Z335 F358 F354) e333 F341 0 (by decide) (by decide) (by decide) (by decide) [] [] (by rw [hml]; rfl) (lenOf pd_0 rfl) rfl rfl (Nat.le_of_eq rfl) (hb hby at_95) rfl (fun v374 T374 L374 X374 hQ374 => ?_)
    obtain ⟨hv374, Nq374, e374⟩ := hQ374
    have N375 := Fr.app N334 Nq374
    rw [if_neg (Ne.symm ne_r_CONFERMA_r_INOLTRO)] at hv374
    subst hv374
    show own_G p.tables e below _ T374 (mkF m 98 #[.val (.int p0), .val (.ref b1), .val (.int (2 : Int32)), .val (.int (0 : Int32))] [(.int (0 : Int32))])
    refine own_iloadN X374 hx (pc' := 99) (hb hby at_98) rfl rfl ?_
    refine own_icmpNo X374 hx (pc' := 102) (hb hby at_99) (teq (by decide : (0 : Int32) = (0 : Int32))).2 rfl ?_
    refine own_iconst X374 hx (pc' := 103) (1 : Int32) (hb hby at_102) rfl rfl ?_
    refine own_goto X374 hx (pc' := 107) (hb hby at_103) (by decide) (by decide) ?_
    refine own_retN X374 hx hlk hret (by simp) (hb hby at_107) (by decide) (by decide) ?_
    exact ⟨rfl, N375⟩
  · rw [hk]
    refine own_iloadN X333 hx (pc' := 72) (hb hby at_71) rfl rfl ?_
    refine own_ifNo X333 hx (pc' := 75) (hb hby at_72) (feq (by decide : ¬ ((3 : Int32) = (0 : Int32)))).1 rfl ?_
    refine own_iloadN X333 hx (pc' := 76) (hb hby at_75) rfl rfl ?_
    refine own_iconst X333 hx (pc' := 77) (3 : Int32) (hb hby at_76) rfl rfl ?_
    refine own_icmpNo X333 hx (pc' := 80) (hb hby at_77) (flt (by decide : ¬ ((3 : Int32) < (3 : Int32)))).1 rfl ?_
    refine own_iloadN X333 hx (pc' := 81) (hb hby at_80) rfl rfl ?_
    refine own_bipush X333 hx (pc' := 83) (6 : Int32) (hb hby at_81) rfl rfl ?_
    refine own_icmpNo X333 hx (pc' := 86) (hb hby at_83) (flt (by decide : ¬ ((6 : Int32) < (3 : Int32)))).2.2.1 rfl ?_
    refine own_iconst X333 hx (pc' := 87) (1 : Int32) (hb hby at_86) rfl rfl ?_
    refine own_goto X333 hx (pc' := 91) (hb hby at_87) (by decide) (by decide) ?_
    refine own_istoreN X333 hx (pc' := 92) (Ls' := #[.val (.int p0), .val (.ref b1), .val (.int (3 : Int32)), .val (.int (1 : Int32))]) (hb hby at_91) rfl rfl ?_
    refine own_aloadN X333 hx (pc' := 93) (hb hby at_92) rfl rfl rfl ?_
    refine own_iloadN X333 hx (pc' := 94) (hb hby at_93) rfl rfl ?_
    obtain ⟨cl376, Ar376, q376, S376, M376, H376, G376⟩ := F366
    refine own_aaload X333 hx (pc' := 95) hZ (v := (.ref r_DOCUMENTI_NON_LEGGIBILI)) e333 Ar376 rfl (inb_of S376 ⟨by decide, by decide⟩) (Has.at H376 (inb_of S376 ⟨by decide, by decide⟩) rfl) (hb hby at_94) rfl ?_
    refine own_callV X333 hx (pc' := 98) hZ hown (W23 hw) (W25 hw) (W26 hw) (W27 hw) (W3 hw) (by decide) (rm_inConferma l Z a0 hw [] r_DOCUMENTI_NON_LEGGIBILI r_CONFERMA r_CONFERMA h333 n0 Z335 F356 F354) e333 F343 0 (by decide) (by decide) (by decide) (by decide) [] [] (by rw [hml]; rfl) (lenOf pd_0 rfl) rfl rfl (Nat.le_of_eq rfl) (hb hby at_95) rfl (fun v377 T377 L377 X377 hQ377 => ?_)
    obtain ⟨hv377, Nq377, e377⟩ := hQ377
    have N378 := Fr.app N334 Nq377
    rw [if_pos rfl] at hv377
    subst hv377
    show own_G p.tables e below _ T377 (mkF m 98 #[.val (.int p0), .val (.ref b1), .val (.int (3 : Int32)), .val (.int (1 : Int32))] [(.int (1 : Int32))])
    refine own_iloadN X377 hx (pc' := 99) (hb hby at_98) rfl rfl ?_
    refine own_icmpNo X377 hx (pc' := 102) (hb hby at_99) (teq (by decide : (1 : Int32) = (1 : Int32))).2 rfl ?_
    refine own_iconst X377 hx (pc' := 103) (1 : Int32) (hb hby at_102) rfl rfl ?_
    refine own_goto X377 hx (pc' := 107) (hb hby at_103) (by decide) (by decide) ?_
    refine own_retN X377 hx hlk hret (by simp) (hb hby at_107) (by decide) (by decide) ?_
    exact ⟨rfl, N378⟩
  · rw [hk]
    refine own_iloadN X333 hx (pc' := 72) (hb hby at_71) rfl rfl ?_
    refine own_ifNo X333 hx (pc' := 75) (hb hby at_72) (feq (by decide : ¬ ((4 : Int32) = (0 : Int32)))).1 rfl ?_
    refine own_iloadN X333 hx (pc' := 76) (hb hby at_75) rfl rfl ?_
    refine own_iconst X333 hx (pc' := 77) (3 : Int32) (hb hby at_76) rfl rfl ?_
    refine own_icmpNo X333 hx (pc' := 80) (hb hby at_77) (flt (by decide : ¬ ((4 : Int32) < (3 : Int32)))).1 rfl ?_
    refine own_iloadN X333 hx (pc' := 81) (hb hby at_80) rfl rfl ?_
    refine own_bipush X333 hx (pc' := 83) (6 : Int32) (hb hby at_81) rfl rfl ?_
    refine own_icmpNo X333 hx (pc' := 86) (hb hby at_83) (flt (by decide : ¬ ((6 : Int32) < (4 : Int32)))).2.2.1 rfl ?_
    refine own_iconst X333 hx (pc' := 87) (1 : Int32) (hb hby at_86) rfl rfl ?_
    refine own_goto X333 hx (pc' := 91) (hb hby at_87) (by decide) (by decide) ?_
    refine own_istoreN X333 hx (pc' := 92) (Ls' := #[.val (.int p0), .val (.ref b1), .val (.int (4 : Int32)), .val (.int (1 : Int32))]) (hb hby at_91) rfl rfl ?_
    refine own_aloadN X333 hx (pc' := 93) (hb hby at_92) rfl rfl rfl ?_
    refine own_iloadN X333 hx (pc' := 94) (hb hby at_93) rfl rfl ?_
    obtain ⟨cl379, Ar379, q379, S379, M379, H379, G379⟩ := F366
    refine own_aaload X333 hx (pc' := 95) hZ (v := (.ref r_FIRMA_DOCUMENTI)) e333 Ar379 rfl (inb_of S379 ⟨by decide, by decide⟩) (Has.at H379 (inb_of S379 ⟨by decide, by decide⟩) rfl) (hb hby at_94) rfl ?_
    refine own_callV X333 hx (pc' := 98) hZ hown (W23 hw) (W25 hw) (W26 hw) (W27 hw) (W3 hw) (by decide) (rm_inConferma l Z a0 hw [] r_FIRMA_DOCUMENTI r_CONFERMA r_CONFERMA h333 n0 Z335 F362 F354) e333 F345 0 (by decide) (by decide) (by decide) (by decide) [] [] (by rw [hml]; rfl) (lenOf pd_0 rfl) rfl rfl (Nat.le_of_eq rfl) (hb hby at_95) rfl (fun v380 T380 L380 X380 hQ380 => ?_)
    obtain ⟨hv380, Nq380, e380⟩ := hQ380
    have N381 := Fr.app N334 Nq380
    rw [if_pos rfl] at hv380
    subst hv380
    show own_G p.tables e below _ T380 (mkF m 98 #[.val (.int p0), .val (.ref b1), .val (.int (4 : Int32)), .val (.int (1 : Int32))] [(.int (1 : Int32))])
    refine own_iloadN X380 hx (pc' := 99) (hb hby at_98) rfl rfl ?_
    refine own_icmpNo X380 hx (pc' := 102) (hb hby at_99) (teq (by decide : (1 : Int32) = (1 : Int32))).2 rfl ?_
    refine own_iconst X380 hx (pc' := 103) (1 : Int32) (hb hby at_102) rfl rfl ?_
    refine own_goto X380 hx (pc' := 107) (hb hby at_103) (by decide) (by decide) ?_
    refine own_retN X380 hx hlk hret (by simp) (hb hby at_107) (by decide) (by decide) ?_
    exact ⟨rfl, N381⟩
  · rw [hk]
    refine own_iloadN X333 hx (pc' := 72) (hb hby at_71) rfl rfl ?_
    refine own_ifNo X333 hx (pc' := 75) (hb hby at_72) (feq (by decide : ¬ ((5 : Int32) = (0 : Int32)))).1 rfl ?_
    refine own_iloadN X333 hx (pc' := 76) (hb hby at_75) rfl rfl ?_
    refine own_iconst X333 hx (pc' := 77) (3 : Int32) (hb hby at_76) rfl rfl ?_
    refine own_icmpNo X333 hx (pc' := 80) (hb hby at_77) (flt (by decide : ¬ ((5 : Int32) < (3 : Int32)))).1 rfl ?_
    refine own_iloadN X333 hx (pc' := 81) (hb hby at_80) rfl rfl ?_
    refine own_bipush X333 hx (pc' := 83) (6 : Int32) (hb hby at_81) rfl rfl ?_
    refine own_icmpNo X333 hx (pc' := 86) (hb hby at_83) (flt (by decide : ¬ ((6 : Int32) < (5 : Int32)))).2.2.1 rfl ?_
    refine own_iconst X333 hx (pc' := 87) (1 : Int32) (hb hby at_86) rfl rfl ?_
    refine own_goto X333 hx (pc' := 91) (hb hby at_87) (by decide) (by decide) ?_
    refine own_istoreN X333 hx (pc' := 92) (Ls' := #[.val (.int p0), .val (.ref b1), .val (.int (5 : Int32)), .val (.int (1 : Int32))]) (hb hby at_91) rfl rfl ?_
    refine own_aloadN X333 hx (pc' := 93) (hb hby at_92) rfl rfl rfl ?_
    refine own_iloadN X333 hx (pc' := 94) (hb hby at_93) rfl rfl ?_
    obtain ⟨cl382, Ar382, q382, S382, M382, H382, G382⟩ := F366
    refine own_aaload X333 hx (pc' := 95) hZ (v := (.ref r_MARCA_DOCUMENTI)) e333 Ar382 rfl (inb_of S382 ⟨by decide, by decide⟩) (Has.at H382 (inb_of S382 ⟨by decide, by decide⟩) rfl) (hb hby at_94) rfl ?_
    refine own_callV X333 hx (pc' := 98) hZ hown (W23 hw) (W25 hw) (W26 hw) (W27 hw) (W3 hw) (by decide) (rm_inConferma l Z a0 hw [] r_MARCA_DOCUMENTI r_CONFERMA r_CONFERMA h333 n0 Z335 F365 F354) e333 F347 0 (by decide) (by decide) (by decide) (by decide) [] [] (by rw [hml]; rfl) (lenOf pd_0 rfl) rfl rfl (Nat.le_of_eq rfl) (hb hby at_95) rfl (fun v383 T383 L383 X383 hQ383 => ?_)
    obtain ⟨hv383, Nq383, e383⟩ := hQ383
    have N384 := Fr.app N334 Nq383
    rw [if_pos rfl] at hv383
    subst hv383
    show own_G p.tables e below _ T383 (mkF m 98 #[.val (.int p0), .val (.ref b1), .val (.int (5 : Int32)), .val (.int (1 : Int32))] [(.int (1 : Int32))])
    refine own_iloadN X383 hx (pc' := 99) (hb hby at_98) rfl rfl ?_
    refine own_icmpNo X383 hx (pc' := 102) (hb hby at_99) (teq (by decide : (1 : Int32) = (1 : Int32))).2 rfl ?_
    refine own_iconst X383 hx (pc' := 103) (1 : Int32) (hb hby at_102) rfl rfl ?_
    refine own_goto X383 hx (pc' := 107) (hb hby at_103) (by decide) (by decide) ?_
    refine own_retN X383 hx hlk hret (by simp) (hb hby at_107) (by decide) (by decide) ?_
    exact ⟨rfl, N384⟩
  · rw [hk]
    refine own_iloadN X333 hx (pc' := 72) (hb hby at_71) rfl rfl ?_
    refine own_ifNo X333 hx (pc' := 75) (hb hby at_72) (feq (by decide : ¬ ((6 : Int32) = (0 : Int32)))).1 rfl ?_
    refine own_iloadN X333 hx (pc' := 76) (hb hby at_75) rfl rfl ?_
    refine own_iconst X333 hx (pc' := 77) (3 : Int32) (hb hby at_76) rfl rfl ?_
    refine own_icmpNo X333 hx (pc' := 80) (hb hby at_77) (flt (by decide : ¬ ((6 : Int32) < (3 : Int32)))).1 rfl ?_
    refine own_iloadN X333 hx (pc' := 81) (hb hby at_80) rfl rfl ?_
    refine own_bipush X333 hx (pc' := 83) (6 : Int32) (hb hby at_81) rfl rfl ?_
    refine own_icmpNo X333 hx (pc' := 86) (hb hby at_83) (flt (by decide : ¬ ((6 : Int32) < (6 : Int32)))).2.2.1 rfl ?_
    refine own_iconst X333 hx (pc' := 87) (1 : Int32) (hb hby at_86) rfl rfl ?_
    refine own_goto X333 hx (pc' := 91) (hb hby at_87) (by decide) (by decide) ?_
    refine own_istoreN X333 hx (pc' := 92) (Ls' := #[.val (.int p0), .val (.ref b1), .val (.int (6 : Int32)), .val (.int (1 : Int32))]) (hb hby at_91) rfl rfl ?_
    refine own_aloadN X333 hx (pc' := 93) (hb hby at_92) rfl rfl rfl ?_
    refine own_iloadN X333 hx (pc' := 94) (hb hby at_93) rfl rfl ?_
    obtain ⟨cl385, Ar385, q385, S385, M385, H385, G385⟩ := F366
    refine own_aaload X333 hx (pc' := 95) hZ (v := (.ref r_SIGILLO_DOCUMENTI)) e333 Ar385 rfl (inb_of S385 ⟨by decide, by decide⟩) (Has.at H385 (inb_of S385 ⟨by decide, by decide⟩) rfl) (hb hby at_94) rfl ?_
    refine own_callV X333 hx (pc' := 98) hZ hown (W23 hw) (W25 hw) (W26 hw) (W27 hw) (W3 hw) (by decide) (rm_inConferma l Z a0 hw [] r_SIGILLO_DOCUMENTI r_CONFERMA r_CONFERMA h333 n0 Z335 F364 F354) e333 F349 0 (by decide) (by decide) (by decide) (by decide) [] [] (by rw [hml]; rfl) (lenOf pd_0 rfl) rfl rfl (Nat.le_of_eq rfl) (hb hby at_95) rfl (fun v386 T386 L386 X386 hQ386 => ?_)
    obtain ⟨hv386, Nq386, e386⟩ := hQ386
    have N387 := Fr.app N334 Nq386
    rw [if_pos rfl] at hv386
    subst hv386
    show own_G p.tables e below _ T386 (mkF m 98 #[.val (.int p0), .val (.ref b1), .val (.int (6 : Int32)), .val (.int (1 : Int32))] [(.int (1 : Int32))])
    refine own_iloadN X386 hx (pc' := 99) (hb hby at_98) rfl rfl ?_
    refine own_icmpNo X386 hx (pc' := 102) (hb hby at_99) (teq (by decide : (1 : Int32) = (1 : Int32))).2 rfl ?_
    refine own_iconst X386 hx (pc' := 103) (1 : Int32) (hb hby at_102) rfl rfl ?_
    refine own_goto X386 hx (pc' := 107) (hb hby at_103) (by decide) (by decide) ?_
    refine own_retN X386 hx hlk hret (by simp) (hb hby at_107) (by decide) (by decide) ?_
    exact ⟨rfl, N387⟩
  · rw [hk]
    refine own_iloadN X333 hx (pc' := 72) (hb hby at_71) rfl rfl ?_
    refine own_ifNo X333 hx (pc' := 75) (hb hby at_72) (feq (by decide : ¬ ((7 : Int32) = (0 : Int32)))).1 rfl ?_
    refine own_iloadN X333 hx (pc' := 76) (hb hby at_75) rfl rfl ?_
    refine own_iconst X333 hx (pc' := 77) (3 : Int32) (hb hby at_76) rfl rfl ?_
    refine own_icmpNo X333 hx (pc' := 80) (hb hby at_77) (flt (by decide : ¬ ((7 : Int32) < (3 : Int32)))).1 rfl ?_
    refine own_iloadN X333 hx (pc' := 81) (hb hby at_80) rfl rfl ?_
    refine own_bipush X333 hx (pc' := 83) (6 : Int32) (hb hby at_81) rfl rfl ?_
    refine own_icmpYes X333 hx (pc' := 90) (hb hby at_83) (tlt (by decide : (6 : Int32) < (7 : Int32))).2.2.1 (by decide) (by decide) ?_
    refine own_iconst X333 hx (pc' := 91) (0 : Int32) (hb hby at_90) rfl rfl ?_
    refine own_istoreN X333 hx (pc' := 92) (Ls' := #[.val (.int p0), .val (.ref b1), .val (.int (7 : Int32)), .val (.int (0 : Int32))]) (hb hby at_91) rfl rfl ?_
    refine own_aloadN X333 hx (pc' := 93) (hb hby at_92) rfl rfl rfl ?_
    refine own_iloadN X333 hx (pc' := 94) (hb hby at_93) rfl rfl ?_
    obtain ⟨cl388, Ar388, q388, S388, M388, H388, G388⟩ := F366
    refine own_aaload X333 hx (pc' := 95) hZ (v := (.ref r_IRRICEVIBILITA)) e333 Ar388 rfl (inb_of S388 ⟨by decide, by decide⟩) (Has.at H388 (inb_of S388 ⟨by decide, by decide⟩) rfl) (hb hby at_94) rfl ?_
    refine own_callV X333 hx (pc' := 98) hZ hown (W23 hw) (W25 hw) (W26 hw) (W27 hw) (W3 hw) (by decide) (rm_inConferma l Z a0 hw [] r_IRRICEVIBILITA r_ANNULMENT r_CONFERMA h333 n0 Z335 F361 F354) e333 F351 0 (by decide) (by decide) (by decide) (by decide) [] [] (by rw [hml]; rfl) (lenOf pd_0 rfl) rfl rfl (Nat.le_of_eq rfl) (hb hby at_95) rfl (fun v389 T389 L389 X389 hQ389 => ?_)
    obtain ⟨hv389, Nq389, e389⟩ := hQ389
    have N390 := Fr.app N334 Nq389
    rw [if_neg ne_r_ANNULMENT_r_CONFERMA] at hv389
    subst hv389
    show own_G p.tables e below _ T389 (mkF m 98 #[.val (.int p0), .val (.ref b1), .val (.int (7 : Int32)), .val (.int (0 : Int32))] [(.int (0 : Int32))])
    refine own_iloadN X389 hx (pc' := 99) (hb hby at_98) rfl rfl ?_
    refine own_icmpNo X389 hx (pc' := 102) (hb hby at_99) (teq (by decide : (0 : Int32) = (0 : Int32))).2 rfl ?_
    refine own_iconst X389 hx (pc' := 103) (1 : Int32) (hb hby at_102) rfl rfl ?_
    refine own_goto X389 hx (pc' := 107) (hb hby at_103) (by decide) (by decide) ?_
    refine own_retN X389 hx hlk hret (by simp) (hb hby at_107) (by decide) (by decide) ?_
    exact ⟨rfl, N390⟩
  · rw [hk]
    refine own_iloadN X333 hx (pc' := 72) (hb hby at_71) rfl rfl ?_
    refine own_ifNo X333 hx (pc' := 75) (hb hby at_72) (feq (by decide : ¬ ((8 : Int32) = (0 : Int32)))).1 rfl ?_
    refine own_iloadN X333 hx (pc' := 76) (hb hby at_75) rfl rfl ?_
    refine own_iconst X333 hx (pc' := 77) (3 : Int32) (hb hby at_76) rfl rfl ?_
    refine own_icmpNo X333 hx (pc' := 80) (hb hby at_77) (flt (by decide : ¬ ((8 : Int32) < (3 : Int32)))).1 rfl ?_
    refine own_iloadN X333 hx (pc' := 81) (hb hby at_80) rfl rfl ?_
    refine own_bipush X333 hx (pc' := 83) (6 : Int32) (hb hby at_81) rfl rfl ?_
    refine own_icmpYes X333 hx (pc' := 90) (hb hby at_83) (tlt (by decide : (6 : Int32) < (8 : Int32))).2.2.1 (by decide) (by decide) ?_
    refine own_iconst X333 hx (pc' := 91) (0 : Int32) (hb hby at_90) rfl rfl ?_
    refine own_istoreN X333 hx (pc' := 92) (Ls' := #[.val (.int p0), .val (.ref b1), .val (.int (8 : Int32)), .val (.int (0 : Int32))]) (hb hby at_91) rfl rfl ?_
    refine own_aloadN X333 hx (pc' := 93) (hb hby at_92) rfl rfl rfl ?_
    refine own_iloadN X333 hx (pc' := 94) (hb hby at_93) rfl rfl ?_
    obtain ⟨cl391, Ar391, q391, S391, M391, H391, G391⟩ := F366
    refine own_aaload X333 hx (pc' := 95) hZ (v := (.ref r_IDENTIFICATORE_NON_TROVATO)) e333 Ar391 rfl (inb_of S391 ⟨by decide, by decide⟩) (Has.at H391 (inb_of S391 ⟨by decide, by decide⟩) rfl) (hb hby at_94) rfl ?_
    refine own_callV X333 hx (pc' := 98) hZ hown (W23 hw) (W25 hw) (W26 hw) (W27 hw) (W3 hw) (by decide) (rm_inConferma l Z a0 hw [] r_IDENTIFICATORE_NON_TROVATO r_ANNULMENT r_CONFERMA h333 n0 Z335 F363 F354) e333 F353 0 (by decide) (by decide) (by decide) (by decide) [] [] (by rw [hml]; rfl) (lenOf pd_0 rfl) rfl rfl (Nat.le_of_eq rfl) (hb hby at_95) rfl (fun v392 T392 L392 X392 hQ392 => ?_)
    obtain ⟨hv392, Nq392, e392⟩ := hQ392
    have N393 := Fr.app N334 Nq392
    rw [if_neg ne_r_ANNULMENT_r_CONFERMA] at hv392
    subst hv392
    show own_G p.tables e below _ T392 (mkF m 98 #[.val (.int p0), .val (.ref b1), .val (.int (8 : Int32)), .val (.int (0 : Int32))] [(.int (0 : Int32))])
    refine own_iloadN X392 hx (pc' := 99) (hb hby at_98) rfl rfl ?_
    refine own_icmpNo X392 hx (pc' := 102) (hb hby at_99) (teq (by decide : (0 : Int32) = (0 : Int32))).2 rfl ?_
    refine own_iconst X392 hx (pc' := 103) (1 : Int32) (hb hby at_102) rfl rfl ?_
    refine own_goto X392 hx (pc' := 107) (hb hby at_103) (by decide) (by decide) ?_
    refine own_retN X392 hx hlk hret (by simp) (hb hby at_107) (by decide) (by decide) ?_
    exact ⟨rfl, N393⟩

set_option maxRecDepth 65536 in
set_option maxHeartbeats 40000000 in
theorem comes_1 {Post : Tables → Env → Array Value → State → Outcome → State → Prop} (hpost : ∀ tb e args s v u, (limb_1_1.after args s (.returned v) u = true ∧ limb_1_2.after args s (.returned v) u = true ∧ True) → FrameEnd s (.returned v) u (Jvm.fieldLocs frame_1_writes args s ++ Jvm.arrayLocs frame_1_arrays args s ++ Jvm.staticLocs frame_1_statics s) 16 128 → Post tb e args s (.returned v) u) :
    ArmFor flags0 classFile x code maxLocals ret World_1 tables_1 room_1 Calls_1 rest_1 Pre_1 Post := by
  intro l hfl _ _ p e ha hc hk s m args below hf hA hF happ hP
  obtain ⟨hcalls, hrest, hpre⟩ := hP
  obtain ⟨-, -, -, hnamed, -, -, -, hat⟩ := (Spec.applies_iff hf).mp happ
  obtain ⟨hg, hn⟩ := and_e (Cond.before_iff.mp (show (Jvm.Cond.and given_1 narrow_1).before args s = true from hpre))
  obtain ⟨hcnt, hg0⟩ := and_e hg
  obtain ⟨w0, rfl⟩ : ∃ w0 : Value, args = #[w0] := by
    have hs : args.size = 1 := by simpa [Cond.value, given_1] using hcnt
    obtain ⟨L⟩ := args
    match L, hs with
    | [w0], _ => exact ⟨w0, rfl⟩
  have hw := fun d (hd : d ∈ tables_1) => atoms_spec (ws := Jvm.Cond.code x code maxLocals ret :: tables_1) hat d (List.mem_cons_of_mem _ hd)
  have hfit : Fit s := fun {y c} hc i hi => by
    obtain ⟨ha, rfl⟩ := Array.getElem?_eq_some_iff.mp hc
    have q := List.all_eq_true.mp ((Array.all_eq_true_iff_forall_mem.mp hF) _ (Array.getElem_mem ha)) i (List.mem_range.mpr hi)
    simpa [Array.getElem?_eq_getElem hi] using q
  obtain ⟨i0, ei0⟩ := is_v hg0
  obtain rfl : w0 = (.int i0) := Option.some.inj ei0
  obtain ⟨m0, hn0⟩ := and_e hn
  obtain ⟨r_IRRICEVIBILE, ev_r_IRRICEVIBILE⟩ := exa_v m0
  have S_r_IRRICEVIBILE : Sta s s.heap "com/example/office_to_office/officetooffice/segnatura/Anomalia" "IRRICEVIBILE" "Lcom/example/office_to_office/officetooffice/segnatura/Anomalia;" (.ref r_IRRICEVIBILE) := Sta.start ev_r_IRRICEVIBILE (Or.inr ⟨(W3 hw), (W4 hw)⟩)
  have E_r_IRRICEVIBILE : Exa s s.heap r_IRRICEVIBILE "com/example/office_to_office/officetooffice/segnatura/Anomalia" := Exa.start ev_r_IRRICEVIBILE m0
  obtain ⟨m1, hn1⟩ := and_e hn0
  obtain ⟨r_VALIDAZIONE_FIRMA, ev_r_VALIDAZIONE_FIRMA⟩ := exa_v m1
  have S_r_VALIDAZIONE_FIRMA : Sta s s.heap "com/example/office_to_office/officetooffice/segnatura/Anomalia" "VALIDAZIONE_FIRMA" "Lcom/example/office_to_office/officetooffice/segnatura/Anomalia;" (.ref r_VALIDAZIONE_FIRMA) := Sta.start ev_r_VALIDAZIONE_FIRMA (Or.inr ⟨(W3 hw), (W7 hw)⟩)
  have E_r_VALIDAZIONE_FIRMA : Exa s s.heap r_VALIDAZIONE_FIRMA "com/example/office_to_office/officetooffice/segnatura/Anomalia" := Exa.start ev_r_VALIDAZIONE_FIRMA m1
  obtain ⟨m2, hn2⟩ := and_e hn1
  obtain ⟨r_ANOMALIA_IMPRONTE, ev_r_ANOMALIA_IMPRONTE⟩ := exa_v m2
  have S_r_ANOMALIA_IMPRONTE : Sta s s.heap "com/example/office_to_office/officetooffice/segnatura/Anomalia" "ANOMALIA_IMPRONTE" "Lcom/example/office_to_office/officetooffice/segnatura/Anomalia;" (.ref r_ANOMALIA_IMPRONTE) := Sta.start ev_r_ANOMALIA_IMPRONTE (Or.inr ⟨(W3 hw), (W9 hw)⟩)
  have E_r_ANOMALIA_IMPRONTE : Exa s s.heap r_ANOMALIA_IMPRONTE "com/example/office_to_office/officetooffice/segnatura/Anomalia" := Exa.start ev_r_ANOMALIA_IMPRONTE m2
  obtain ⟨m3, hn3⟩ := and_e hn2
  obtain ⟨r_DOCUMENTI_NON_LEGGIBILI, ev_r_DOCUMENTI_NON_LEGGIBILI⟩ := exa_v m3
  have S_r_DOCUMENTI_NON_LEGGIBILI : Sta s s.heap "com/example/office_to_office/officetooffice/segnatura/Anomalia" "DOCUMENTI_NON_LEGGIBILI" "Lcom/example/office_to_office/officetooffice/segnatura/Anomalia;" (.ref r_DOCUMENTI_NON_LEGGIBILI) := Sta.start ev_r_DOCUMENTI_NON_LEGGIBILI (Or.inr ⟨(W3 hw), (W11 hw)⟩)
  have E_r_DOCUMENTI_NON_LEGGIBILI : Exa s s.heap r_DOCUMENTI_NON_LEGGIBILI "com/example/office_to_office/officetooffice/segnatura/Anomalia" := Exa.start ev_r_DOCUMENTI_NON_LEGGIBILI m3
  obtain ⟨m4, hn4⟩ := and_e hn3
  obtain ⟨r_FIRMA_DOCUMENTI, ev_r_FIRMA_DOCUMENTI⟩ := exa_v m4
  have S_r_FIRMA_DOCUMENTI : Sta s s.heap "com/example/office_to_office/officetooffice/segnatura/Anomalia" "FIRMA_DOCUMENTI" "Lcom/example/office_to_office/officetooffice/segnatura/Anomalia;" (.ref r_FIRMA_DOCUMENTI) := Sta.start ev_r_FIRMA_DOCUMENTI (Or.inr ⟨(W3 hw), (W13 hw)⟩)
  have E_r_FIRMA_DOCUMENTI : Exa s s.heap r_FIRMA_DOCUMENTI "com/example/office_to_office/officetooffice/segnatura/Anomalia" := Exa.start ev_r_FIRMA_DOCUMENTI m4
  obtain ⟨m5, hn5⟩ := and_e hn4
  obtain ⟨r_MARCA_DOCUMENTI, ev_r_MARCA_DOCUMENTI⟩ := exa_v m5
  have S_r_MARCA_DOCUMENTI : Sta s s.heap "com/example/office_to_office/officetooffice/segnatura/Anomalia" "MARCA_DOCUMENTI" "Lcom/example/office_to_office/officetooffice/segnatura/Anomalia;" (.ref r_MARCA_DOCUMENTI) := Sta.start ev_r_MARCA_DOCUMENTI (Or.inr ⟨(W3 hw), (W15 hw)⟩)
  have E_r_MARCA_DOCUMENTI : Exa s s.heap r_MARCA_DOCUMENTI "com/example/office_to_office/officetooffice/segnatura/Anomalia" := Exa.start ev_r_MARCA_DOCUMENTI m5
  obtain ⟨m6, hn6⟩ := and_e hn5
  obtain ⟨r_SIGILLO_DOCUMENTI, ev_r_SIGILLO_DOCUMENTI⟩ := exa_v m6
  have S_r_SIGILLO_DOCUMENTI : Sta s s.heap "com/example/office_to_office/officetooffice/segnatura/Anomalia" "SIGILLO_DOCUMENTI" "Lcom/example/office_to_office/officetooffice/segnatura/Anomalia;" (.ref r_SIGILLO_DOCUMENTI) := Sta.start ev_r_SIGILLO_DOCUMENTI (Or.inr ⟨(W3 hw), (W17 hw)⟩)
  have E_r_SIGILLO_DOCUMENTI : Exa s s.heap r_SIGILLO_DOCUMENTI "com/example/office_to_office/officetooffice/segnatura/Anomalia" := Exa.start ev_r_SIGILLO_DOCUMENTI m6
  obtain ⟨m7, hn7⟩ := and_e hn6
  obtain ⟨r_IRRICEVIBILITA, ev_r_IRRICEVIBILITA⟩ := exa_v m7
  have S_r_IRRICEVIBILITA : Sta s s.heap "com/example/office_to_office/officetooffice/segnatura/Anomalia" "IRRICEVIBILITA" "Lcom/example/office_to_office/officetooffice/segnatura/Anomalia;" (.ref r_IRRICEVIBILITA) := Sta.start ev_r_IRRICEVIBILITA (Or.inr ⟨(W3 hw), (W19 hw)⟩)
  have E_r_IRRICEVIBILITA : Exa s s.heap r_IRRICEVIBILITA "com/example/office_to_office/officetooffice/segnatura/Anomalia" := Exa.start ev_r_IRRICEVIBILITA m7
  obtain ⟨m8, hn8⟩ := and_e hn7
  obtain ⟨r_IDENTIFICATORE_NON_TROVATO, ev_r_IDENTIFICATORE_NON_TROVATO⟩ := exa_v m8
  have S_r_IDENTIFICATORE_NON_TROVATO : Sta s s.heap "com/example/office_to_office/officetooffice/segnatura/Anomalia" "IDENTIFICATORE_NON_TROVATO" "Lcom/example/office_to_office/officetooffice/segnatura/Anomalia;" (.ref r_IDENTIFICATORE_NON_TROVATO) := Sta.start ev_r_IDENTIFICATORE_NON_TROVATO (Or.inr ⟨(W3 hw), (W21 hw)⟩)
  have E_r_IDENTIFICATORE_NON_TROVATO : Exa s s.heap r_IDENTIFICATORE_NON_TROVATO "com/example/office_to_office/officetooffice/segnatura/Anomalia" := Exa.start ev_r_IDENTIFICATORE_NON_TROVATO m8
  obtain ⟨m9, hn9⟩ := and_e hn8
  obtain ⟨r_CONFERMA, ev_r_CONFERMA⟩ := exa_v m9
  have S_r_CONFERMA : Sta s s.heap "com/example/office_to_office/officetooffice/segnatura/Anomalia$Carrier" "CONFERMA" "Lcom/example/office_to_office/officetooffice/segnatura/Anomalia$Carrier;" (.ref r_CONFERMA) := Sta.start ev_r_CONFERMA (Or.inr ⟨(W30 hw), (W31 hw)⟩)
  have E_r_CONFERMA : Exa s s.heap r_CONFERMA "com/example/office_to_office/officetooffice/segnatura/Anomalia$Carrier" := Exa.start ev_r_CONFERMA m9
  obtain ⟨m10, hn10⟩ := and_e hn9
  have F_r_IRRICEVIBILE_carrier : Fld s s.heap r_IRRICEVIBILE "com/example/office_to_office/officetooffice/segnatura/Anomalia" "carrier" "Lcom/example/office_to_office/officetooffice/segnatura/Anomalia$Carrier;" (.ref r_CONFERMA) := own_fldR ev_r_IRRICEVIBILE ev_r_CONFERMA m10
  obtain ⟨m11, hn11⟩ := and_e hn10
  have F_r_DOCUMENTI_NON_LEGGIBILI_carrier : Fld s s.heap r_DOCUMENTI_NON_LEGGIBILI "com/example/office_to_office/officetooffice/segnatura/Anomalia" "carrier" "Lcom/example/office_to_office/officetooffice/segnatura/Anomalia$Carrier;" (.ref r_CONFERMA) := own_fldR ev_r_DOCUMENTI_NON_LEGGIBILI ev_r_CONFERMA m11
  obtain ⟨m12, hn12⟩ := and_e hn11
  obtain ⟨r_INOLTRO, ev_r_INOLTRO⟩ := exa_v m12
  have S_r_INOLTRO : Sta s s.heap "com/example/office_to_office/officetooffice/segnatura/Anomalia$Carrier" "INOLTRO" "Lcom/example/office_to_office/officetooffice/segnatura/Anomalia$Carrier;" (.ref r_INOLTRO) := Sta.start ev_r_INOLTRO (Or.inr ⟨(W30 hw), (W33 hw)⟩)
  have E_r_INOLTRO : Exa s s.heap r_INOLTRO "com/example/office_to_office/officetooffice/segnatura/Anomalia$Carrier" := Exa.start ev_r_INOLTRO m12
  obtain ⟨m13, hn13⟩ := and_e hn12
  have F_r_ANOMALIA_IMPRONTE_carrier : Fld s s.heap r_ANOMALIA_IMPRONTE "com/example/office_to_office/officetooffice/segnatura/Anomalia" "carrier" "Lcom/example/office_to_office/officetooffice/segnatura/Anomalia$Carrier;" (.ref r_INOLTRO) := own_fldR ev_r_ANOMALIA_IMPRONTE ev_r_INOLTRO m13
  obtain ⟨m14, hn14⟩ := and_e hn13
  have F_r_INOLTRO_ordinal : Fld s s.heap r_INOLTRO "java/lang/Enum" "ordinal" "I" (.int (0 : Int32)) := own_fldI ev_r_INOLTRO m14
  obtain ⟨m15, hn15⟩ := and_e hn14
  have F_r_CONFERMA_ordinal : Fld s s.heap r_CONFERMA "java/lang/Enum" "ordinal" "I" (.int (1 : Int32)) := own_fldI ev_r_CONFERMA m15
  obtain ⟨m16, hn16⟩ := and_e hn15
  have F_r_VALIDAZIONE_FIRMA_carrier : Fld s s.heap r_VALIDAZIONE_FIRMA "com/example/office_to_office/officetooffice/segnatura/Anomalia" "carrier" "Lcom/example/office_to_office/officetooffice/segnatura/Anomalia$Carrier;" (.ref r_INOLTRO) := own_fldR ev_r_VALIDAZIONE_FIRMA ev_r_INOLTRO m16
  obtain ⟨m17, hn17⟩ := and_e hn16
  obtain ⟨r_ANNULMENT, ev_r_ANNULMENT⟩ := exa_v m17
  have S_r_ANNULMENT : Sta s s.heap "com/example/office_to_office/officetooffice/segnatura/Anomalia$Carrier" "ANNULMENT" "Lcom/example/office_to_office/officetooffice/segnatura/Anomalia$Carrier;" (.ref r_ANNULMENT) := Sta.start ev_r_ANNULMENT (Or.inr ⟨(W30 hw), (W34 hw)⟩)
  have E_r_ANNULMENT : Exa s s.heap r_ANNULMENT "com/example/office_to_office/officetooffice/segnatura/Anomalia$Carrier" := Exa.start ev_r_ANNULMENT m17
  obtain ⟨m18, hn18⟩ := and_e hn17
  have F_r_IRRICEVIBILITA_carrier : Fld s s.heap r_IRRICEVIBILITA "com/example/office_to_office/officetooffice/segnatura/Anomalia" "carrier" "Lcom/example/office_to_office/officetooffice/segnatura/Anomalia$Carrier;" (.ref r_ANNULMENT) := own_fldR ev_r_IRRICEVIBILITA ev_r_ANNULMENT m18
  obtain ⟨m19, hn19⟩ := and_e hn18
  have F_r_ANNULMENT_ordinal : Fld s s.heap r_ANNULMENT "java/lang/Enum" "ordinal" "I" (.int (2 : Int32)) := own_fldI ev_r_ANNULMENT m19
  obtain ⟨m20, hn20⟩ := and_e hn19
  have F_r_FIRMA_DOCUMENTI_carrier : Fld s s.heap r_FIRMA_DOCUMENTI "com/example/office_to_office/officetooffice/segnatura/Anomalia" "carrier" "Lcom/example/office_to_office/officetooffice/segnatura/Anomalia$Carrier;" (.ref r_CONFERMA) := own_fldR ev_r_FIRMA_DOCUMENTI ev_r_CONFERMA m20
  obtain ⟨m21, hn21⟩ := and_e hn20
  have F_r_IDENTIFICATORE_NON_TROVATO_carrier : Fld s s.heap r_IDENTIFICATORE_NON_TROVATO "com/example/office_to_office/officetooffice/segnatura/Anomalia" "carrier" "Lcom/example/office_to_office/officetooffice/segnatura/Anomalia$Carrier;" (.ref r_ANNULMENT) := own_fldR ev_r_IDENTIFICATORE_NON_TROVATO ev_r_ANNULMENT m21
  obtain ⟨m22, hn22⟩ := and_e hn21
  have F_r_SIGILLO_DOCUMENTI_carrier : Fld s s.heap r_SIGILLO_DOCUMENTI "com/example/office_to_office/officetooffice/segnatura/Anomalia" "carrier" "Lcom/example/office_to_office/officetooffice/segnatura/Anomalia$Carrier;" (.ref r_CONFERMA) := own_fldR ev_r_SIGILLO_DOCUMENTI ev_r_CONFERMA m22
  have F_r_MARCA_DOCUMENTI_carrier : Fld s s.heap r_MARCA_DOCUMENTI "com/example/office_to_office/officetooffice/segnatura/Anomalia" "carrier" "Lcom/example/office_to_office/officetooffice/segnatura/Anomalia$Carrier;" (.ref r_CONFERMA) := own_fldR ev_r_MARCA_DOCUMENTI ev_r_CONFERMA hn22
  obtain ⟨n, o, h1, h2, h3, _, L, rfl, ⟨rfl, N⟩, hq⟩ := rm0 l s _ hw tables_1 i0 r_IRRICEVIBILE r_VALIDAZIONE_FIRMA r_ANOMALIA_IMPRONTE r_DOCUMENTI_NON_LEGGIBILI r_FIRMA_DOCUMENTI r_MARCA_DOCUMENTI r_SIGILLO_DOCUMENTI r_IRRICEVIBILITA r_IDENTIFICATORE_NON_TROVATO r_CONFERMA r_INOLTRO r_ANNULMENT s.heap s.heap.size (Nat.le_refl _) S_r_IRRICEVIBILE E_r_IRRICEVIBILE S_r_VALIDAZIONE_FIRMA E_r_VALIDAZIONE_FIRMA S_r_ANOMALIA_IMPRONTE E_r_ANOMALIA_IMPRONTE S_r_DOCUMENTI_NON_LEGGIBILI E_r_DOCUMENTI_NON_LEGGIBILI S_r_FIRMA_DOCUMENTI E_r_FIRMA_DOCUMENTI S_r_MARCA_DOCUMENTI E_r_MARCA_DOCUMENTI S_r_SIGILLO_DOCUMENTI E_r_SIGILLO_DOCUMENTI S_r_IRRICEVIBILITA E_r_IRRICEVIBILITA S_r_IDENTIFICATORE_NON_TROVATO E_r_IDENTIFICATORE_NON_TROVATO S_r_CONFERMA E_r_CONFERMA F_r_IRRICEVIBILE_carrier F_r_DOCUMENTI_NON_LEGGIBILI_carrier S_r_INOLTRO E_r_INOLTRO F_r_ANOMALIA_IMPRONTE_carrier F_r_INOLTRO_ordinal F_r_CONFERMA_ordinal F_r_VALIDAZIONE_FIRMA_carrier S_r_ANNULMENT E_r_ANNULMENT F_r_IRRICEVIBILITA_carrier F_r_ANNULMENT_ordinal F_r_FIRMA_DOCUMENTI_carrier F_r_IDENTIFICATORE_NON_TROVATO_carrier F_r_SIGILLO_DOCUMENTI_carrier F_r_MARCA_DOCUMENTI_carrier p e ha hc hk s m _ below hf ((Spec.applies_iff_loose hf).mp happ).1 ⟨rfl, State.Warmed39.refl s, rfl⟩ trivial
  refine ⟨n, _, h1, h2, h3, hpost _ _ _ _ _ _ ⟨Cond.after_iff.mpr rfl, Cond.after_iff.mpr (eq_i res_at (Term.int_eval (1)) rfl), trivial⟩ ⟨hq.1, hq.2.1, (hq.2.2.sift fun y hy => Or.inr (N y hy)).mono (by decide) (by decide)⟩⟩
theorem main_1_1 : Claimed_1_1 := comes_1 fun _ _ _ _ _ _ h hF => ⟨h.1, hF⟩
theorem main_1_2 : Claimed_1_2 := comes_1 fun _ _ _ _ _ _ h hF => ⟨h.2.1, hF⟩
end Jvm.Pilot.@@N@@
namespace Jvm.Pilot.@@N@@
open Jvm Jvm.ClassFile Sem Op Lib Jvm.Free Jvm.Stand Jvm.Pilot.@@N@@.Jvm.D
/-! MADE BY PROGRAM (witnessworld.py) out of the Statement's table words and the real class files: 14 classes; the members and pool entries that the words name. The judged class is class 1, her method 1. -/
namespace start1
open Jvm.ClassFile
def u (s : String) : CpInfo := .utf8 (stringToUtf16 s)
/-- a pool by its gaps: so many unusable entries, then the entry; so many at the end -/
def gap : Nat → List CpInfo → List CpInfo
  | 0, r => r
  | n + 1, r => .unusable :: gap n r
def poolList (es : List (Nat × CpInfo)) (last : Nat) : List CpInfo := es.foldr (fun e r => gap e.1 (e.2 :: r)) (gap last [])
def pool (es : List (Nat × CpInfo)) (last : Nat) : Array CpInfo := ⟨poolList es last⟩
def fileOf (pool : Array CpInfo) (this : Nat) (attrs : Array Attribute := #[]) (ms : Array MethodInfo := #[]) (fl : Nat := 33) (sup : Nat := 0) (ifs : Array Nat := #[]) (fds : Array FieldInfo := #[]) : ClassFile where
  minorVersion := 0
  majorVersion := 65
  constantPool := pool
  accessFlags := fl
  thisClass := this
  superClass := sup
  interfaces := ifs
  fields := fds
  methods := ms
  attributes := attrs
def plain (name : String) (sup : Option ClassId) : Class where
  name := name
  kind := .ordinary
  loader := none
  accessFlags := 33
  super := sup
  interfaces := #[]
  cf := none
  fields := #[]
  methods := #[]
  instanceTypes := #[]
  staticTypes := #[]
  resolved := #[]
  callSites := []
  init := .initialized
  statics := none
  mirror := none

def pool0 : Array CpInfo := pool [(5, u "<init>"), (0, u "()V"), (1, .class_ 10), (1, u "java/lang/Object")] 113

def k0m0 : Method := { name := "<init>", desc := "()V", sig := { parameters := [], returnType := none }, accessFlags := 1, code := none }
/-- java/lang/Object -/
def k0 : Class := { plain "java/lang/Object" none with
  accessFlags := 33
  interfaces := #[]
  cf := some (fileOf pool0 8 #[] #[{ accessFlags := 1, nameIndex := 5, descriptorIndex := 6, attributes := #[] }] 33 0 #[] #[])
  fields := #[]
  methods := #[k0m0]
  instanceTypes := #[]
  staticTypes := #[]
  resolved := Array.replicate 124 none
  statics := none }

def pool1 : Array CpInfo := pool [(2, .class_ 4), (1, u "java/lang/Object"), (0, u "<init>"), (0, u "()V"), (0, .class_ 8), (0, u "com/example/office_to_office/officetooffice/segnatura/Anomalia"), (0, .fieldref 7 10), (0, .nameAndType 11 12), (0, u "IRRICEVIBILE"), (0, u "Lcom/example/office_to_office/officetooffice/segnatura/Anomalia;"), (0, .fieldref 7 14), (0, .nameAndType 15 12), (0, u "VALIDAZIONE_FIRMA"), (0, .fieldref 7 17), (0, .nameAndType 18 12), (0, u "ANOMALIA_IMPRONTE"), (0, .fieldref 7 20), (0, .nameAndType 21 12), (0, u "DOCUMENTI_NON_LEGGIBILI"), (0, .fieldref 7 23), (0, .nameAndType 24 12), (0, u "FIRMA_DOCUMENTI"), (0, .fieldref 7 26), (0, .nameAndType 27 12), (0, u "MARCA_DOCUMENTI"), (0, .fieldref 7 29), (0, .nameAndType 30 12), (0, u "SIGILLO_DOCUMENTI"), (0, .fieldref 7 32), (0, .nameAndType 33 12), (0, u "IRRICEVIBILITA"), (0, .fieldref 7 35), (0, .nameAndType 36 12), (0, u "IDENTIFICATORE_NON_TROVATO"), (0, .integer 2147483647), (0, .methodref 7 39), (0, .nameAndType 40 41), (0, u "inConferma"), (0, u "()Z"), (0, .class_ 43), (0, u "com/example/office_to_office/officetooffice/segnatura/AnomaliaInConfermaPinLaw"), (2, u "law"), (0, u "(I)Z")] 5

def k1m0 : Method := { name := "<init>", desc := "()V", sig := { parameters := [], returnType := none }, accessFlags := 2, code := none }
def k1c1 : Code := { maxStack := 4, maxLocals := 4, code := code, exceptionTable := #[], attributes := #[] }
def k1m1 : Method := { name := "law", desc := "(I)Z", sig := { parameters := [.int], returnType := some .boolean }, accessFlags := 9, code := some k1c1 }
/-- com/example/office_to_office/officetooffice/segnatura/AnomaliaInConfermaPinLaw -/
def k1 : Class := { plain "com/example/office_to_office/officetooffice/segnatura/AnomaliaInConfermaPinLaw" (some 0) with
  accessFlags := 49
  interfaces := #[]
  cf := some (fileOf pool1 42 #[] #[{ accessFlags := 2, nameIndex := 5, descriptorIndex := 6, attributes := #[] }, { accessFlags := 9, nameIndex := 46, descriptorIndex := 47, attributes := #[] }] 49 2 #[] #[])
  fields := #[]
  methods := #[k1m0, k1m1]
  instanceTypes := #[]
  staticTypes := #[]
  resolved := Array.replicate 53 none
  statics := none }

def pool2 : Array CpInfo := pool [(1, .class_ 2), (0, u "java/lang/constant/Constable"), (0, .class_ 4), (0, u "java/lang/Object")] 6

/-- java/lang/constant/Constable -/
def k2 : Class := { plain "java/lang/constant/Constable" (some 0) with
  accessFlags := 1537
  interfaces := #[]
  cf := some (fileOf pool2 1 #[] #[] 1537 3 #[] #[])
  fields := #[]
  methods := #[]
  instanceTypes := #[]
  staticTypes := #[]
  resolved := Array.replicate 11 none
  statics := none }

def pool3 : Array CpInfo := pool [(1, .class_ 2), (0, u "java/lang/Comparable"), (0, .class_ 4), (0, u "java/lang/Object")] 7

/-- java/lang/Comparable -/
def k3 : Class := { plain "java/lang/Comparable" (some 0) with
  accessFlags := 1537
  interfaces := #[]
  cf := some (fileOf pool3 1 #[] #[] 1537 3 #[] #[])
  fields := #[]
  methods := #[]
  instanceTypes := #[]
  staticTypes := #[]
  resolved := Array.replicate 12 none
  statics := none }

def pool4 : Array CpInfo := pool [(1, .class_ 2), (0, u "java/io/Serializable"), (0, .class_ 4), (0, u "java/lang/Object")] 2

/-- java/io/Serializable -/
def k4 : Class := { plain "java/io/Serializable" (some 0) with
  accessFlags := 1537
  interfaces := #[]
  cf := some (fileOf pool4 1 #[] #[] 1537 3 #[] #[])
  fields := #[]
  methods := #[]
  instanceTypes := #[]
  staticTypes := #[]
  resolved := Array.replicate 7 none
  statics := none }

def pool5 : Array CpInfo := pool [(2, .class_ 4), (1, u "java/lang/Enum"), (0, u "name"), (0, u "Ljava/lang/String;"), (2, u "ordinal"), (0, u "I"), (1, .class_ 14), (1, u "java/lang/Object"), (4, u "hash"), (86, .class_ 108), (1, u "java/lang/Enum$EnumDesc"), (2, .class_ 112), (0, u "java/lang/constant/Constable"), (0, .class_ 114), (0, u "java/lang/Comparable"), (0, .class_ 116), (0, u "java/io/Serializable")] 87

/-- java/lang/Enum -/
def k5 : Class := { plain "java/lang/Enum" (some 0) with
  accessFlags := 1057
  interfaces := #[2, 3, 4]
  cf := some (fileOf pool5 2 #[.nestMembers #[106]] #[] 1057 12 #[111, 113, 115] #[{ accessFlags := 18, nameIndex := 5, descriptorIndex := 6, attributes := #[] }, { accessFlags := 18, nameIndex := 9, descriptorIndex := 10, attributes := #[] }, { accessFlags := 2, nameIndex := 19, descriptorIndex := 10, attributes := #[] }])
  fields := #[{ name := "name", type := (.object "java/lang/String"), accessFlags := 18, slot := 0, constantValue := 0 }, { name := "ordinal", type := .int, accessFlags := 18, slot := 1, constantValue := 0 }, { name := "hash", type := .int, accessFlags := 2, slot := 2, constantValue := 0 }]
  methods := #[]
  instanceTypes := #[(.object "java/lang/String"), .int, .int]
  staticTypes := #[]
  resolved := Array.replicate 204 none
  statics := none }

def pool6 : Array CpInfo := pool [(1, .class_ 2), (0, u "com/example/office_to_office/officetooffice/segnatura/Anomalia"), (2, u "IRRICEVIBILE"), (0, u "Lcom/example/office_to_office/officetooffice/segnatura/Anomalia;"), (2, u "VALIDAZIONE_FIRMA"), (2, u "ANOMALIA_IMPRONTE"), (2, u "DOCUMENTI_NON_LEGGIBILI"), (2, u "FIRMA_DOCUMENTI"), (2, u "MARCA_DOCUMENTI"), (2, u "SIGILLO_DOCUMENTI"), (2, u "IRRICEVIBILITA"), (2, u "IDENTIFICATORE_NON_TROVATO"), (2, u "$VALUES"), (0, u "[Lcom/example/office_to_office/officetooffice/segnatura/Anomalia;"), (6, .class_ 43), (1, u "java/lang/Enum"), (8, u "value"), (0, u "Ljava/lang/String;"), (0, .fieldref 1 55), (0, .nameAndType 56 57), (0, u "carrier"), (0, u "Lcom/example/office_to_office/officetooffice/segnatura/Anomalia$Carrier;"), (1, .class_ 61), (1, u "com/example/office_to_office/officetooffice/segnatura/Anomalia$Carrier"), (1, .fieldref 59 64), (0, .nameAndType 65 57), (0, u "CONFERMA"), (85, u "()Z"), (1, u "inConferma")] 34

def k6c0 : Code := { maxStack := 2, maxLocals := 1, code := prog_20_method_6_code, exceptionTable := #[], attributes := #[] }
def k6m0 : Method := { name := "inConferma", desc := "()Z", sig := { parameters := [], returnType := some .boolean }, accessFlags := 1, code := some k6c0 }
/-- com/example/office_to_office/officetooffice/segnatura/Anomalia -/
def k6 : Class := { plain "com/example/office_to_office/officetooffice/segnatura/Anomalia" (some 5) with
  accessFlags := 16433
  interfaces := #[]
  cf := some (fileOf pool6 1 #[.nestMembers #[59]] #[{ accessFlags := 1, nameIndex := 153, descriptorIndex := 151, attributes := #[] }] 16433 41 #[] #[{ accessFlags := 16409, nameIndex := 5, descriptorIndex := 6, attributes := #[] }, { accessFlags := 16409, nameIndex := 9, descriptorIndex := 6, attributes := #[] }, { accessFlags := 16409, nameIndex := 12, descriptorIndex := 6, attributes := #[] }, { accessFlags := 16409, nameIndex := 15, descriptorIndex := 6, attributes := #[] }, { accessFlags := 16409, nameIndex := 18, descriptorIndex := 6, attributes := #[] }, { accessFlags := 16409, nameIndex := 21, descriptorIndex := 6, attributes := #[] }, { accessFlags := 16409, nameIndex := 24, descriptorIndex := 6, attributes := #[] }, { accessFlags := 16409, nameIndex := 27, descriptorIndex := 6, attributes := #[] }, { accessFlags := 16409, nameIndex := 30, descriptorIndex := 6, attributes := #[] }, { accessFlags := 18, nameIndex := 52, descriptorIndex := 53, attributes := #[] }, { accessFlags := 18, nameIndex := 56, descriptorIndex := 57, attributes := #[] }, { accessFlags := 4122, nameIndex := 33, descriptorIndex := 34, attributes := #[] }])
  fields := #[{ name := "IRRICEVIBILE", type := (.object "com/example/office_to_office/officetooffice/segnatura/Anomalia"), accessFlags := 16409, slot := 0, constantValue := 0 }, { name := "VALIDAZIONE_FIRMA", type := (.object "com/example/office_to_office/officetooffice/segnatura/Anomalia"), accessFlags := 16409, slot := 1, constantValue := 0 }, { name := "ANOMALIA_IMPRONTE", type := (.object "com/example/office_to_office/officetooffice/segnatura/Anomalia"), accessFlags := 16409, slot := 2, constantValue := 0 }, { name := "DOCUMENTI_NON_LEGGIBILI", type := (.object "com/example/office_to_office/officetooffice/segnatura/Anomalia"), accessFlags := 16409, slot := 3, constantValue := 0 }, { name := "FIRMA_DOCUMENTI", type := (.object "com/example/office_to_office/officetooffice/segnatura/Anomalia"), accessFlags := 16409, slot := 4, constantValue := 0 }, { name := "MARCA_DOCUMENTI", type := (.object "com/example/office_to_office/officetooffice/segnatura/Anomalia"), accessFlags := 16409, slot := 5, constantValue := 0 }, { name := "SIGILLO_DOCUMENTI", type := (.object "com/example/office_to_office/officetooffice/segnatura/Anomalia"), accessFlags := 16409, slot := 6, constantValue := 0 }, { name := "IRRICEVIBILITA", type := (.object "com/example/office_to_office/officetooffice/segnatura/Anomalia"), accessFlags := 16409, slot := 7, constantValue := 0 }, { name := "IDENTIFICATORE_NON_TROVATO", type := (.object "com/example/office_to_office/officetooffice/segnatura/Anomalia"), accessFlags := 16409, slot := 8, constantValue := 0 }, { name := "value", type := (.object "java/lang/String"), accessFlags := 18, slot := 3, constantValue := 0 }, { name := "carrier", type := (.object "com/example/office_to_office/officetooffice/segnatura/Anomalia$Carrier"), accessFlags := 18, slot := 4, constantValue := 0 }, { name := "$VALUES", type := (.array (.object "com/example/office_to_office/officetooffice/segnatura/Anomalia")), accessFlags := 4122, slot := 9, constantValue := 0 }]
  methods := #[k6m0]
  instanceTypes := #[(.object "java/lang/String"), .int, .int, (.object "java/lang/String"), (.object "com/example/office_to_office/officetooffice/segnatura/Anomalia$Carrier")]
  staticTypes := #[(.object "com/example/office_to_office/officetooffice/segnatura/Anomalia"), (.object "com/example/office_to_office/officetooffice/segnatura/Anomalia"), (.object "com/example/office_to_office/officetooffice/segnatura/Anomalia"), (.object "com/example/office_to_office/officetooffice/segnatura/Anomalia"), (.object "com/example/office_to_office/officetooffice/segnatura/Anomalia"), (.object "com/example/office_to_office/officetooffice/segnatura/Anomalia"), (.object "com/example/office_to_office/officetooffice/segnatura/Anomalia"), (.object "com/example/office_to_office/officetooffice/segnatura/Anomalia"), (.object "com/example/office_to_office/officetooffice/segnatura/Anomalia"), (.array (.object "com/example/office_to_office/officetooffice/segnatura/Anomalia"))]
  resolved := Array.replicate 188 none
  statics := some 0 }

def pool7 : Array CpInfo := pool [(1, .class_ 2), (0, u "com/example/office_to_office/officetooffice/segnatura/Anomalia$Carrier"), (2, u "INOLTRO"), (0, u "Lcom/example/office_to_office/officetooffice/segnatura/Anomalia$Carrier;"), (2, u "CONFERMA"), (2, u "ANNULMENT"), (2, u "$VALUES"), (0, u "[Lcom/example/office_to_office/officetooffice/segnatura/Anomalia$Carrier;"), (6, .class_ 25), (1, u "java/lang/Enum"), (26, .class_ 53), (0, u "com/example/office_to_office/officetooffice/segnatura/Anomalia")] 2

/-- com/example/office_to_office/officetooffice/segnatura/Anomalia$Carrier -/
def k7 : Class := { plain "com/example/office_to_office/officetooffice/segnatura/Anomalia$Carrier" (some 5) with
  accessFlags := 16432
  interfaces := #[]
  cf := some (fileOf pool7 1 #[.nestHost 52] #[] 16432 23 #[] #[{ accessFlags := 16409, nameIndex := 5, descriptorIndex := 6, attributes := #[] }, { accessFlags := 16409, nameIndex := 9, descriptorIndex := 6, attributes := #[] }, { accessFlags := 16409, nameIndex := 12, descriptorIndex := 6, attributes := #[] }, { accessFlags := 4122, nameIndex := 15, descriptorIndex := 16, attributes := #[] }])
  fields := #[{ name := "INOLTRO", type := (.object "com/example/office_to_office/officetooffice/segnatura/Anomalia$Carrier"), accessFlags := 16409, slot := 0, constantValue := 0 }, { name := "CONFERMA", type := (.object "com/example/office_to_office/officetooffice/segnatura/Anomalia$Carrier"), accessFlags := 16409, slot := 1, constantValue := 0 }, { name := "ANNULMENT", type := (.object "com/example/office_to_office/officetooffice/segnatura/Anomalia$Carrier"), accessFlags := 16409, slot := 2, constantValue := 0 }, { name := "$VALUES", type := (.array (.object "com/example/office_to_office/officetooffice/segnatura/Anomalia$Carrier")), accessFlags := 4122, slot := 3, constantValue := 0 }]
  methods := #[]
  instanceTypes := #[(.object "java/lang/String"), .int, .int]
  staticTypes := #[(.object "com/example/office_to_office/officetooffice/segnatura/Anomalia$Carrier"), (.object "com/example/office_to_office/officetooffice/segnatura/Anomalia$Carrier"), (.object "com/example/office_to_office/officetooffice/segnatura/Anomalia$Carrier"), (.array (.object "com/example/office_to_office/officetooffice/segnatura/Anomalia$Carrier"))]
  resolved := Array.replicate 56 none
  statics := some 1 }

def pool8 : Array CpInfo := pool [(1, u "java/lang/Cloneable"), (0, .class_ 1), (0, u "java/lang/Object"), (0, .class_ 3)] 3

/-- java/lang/Cloneable -/
def k8 : Class := { plain "java/lang/Cloneable" (some 0) with
  accessFlags := 1537
  interfaces := #[]
  cf := some (fileOf pool8 2 #[] #[] 1537 4 #[] #[])
  fields := #[]
  methods := #[]
  instanceTypes := #[]
  staticTypes := #[]
  resolved := Array.replicate 8 none
  statics := none }

/-- the primitive byte -/
def k9 : Class := { plain "byte" none with kind := .primitive 'B', accessFlags := 0x411 }
/-- [B -/
def k10 : Class := { plain "[B" (some 0) with kind := .array 9 .byte, interfaces := #[8, 4], accessFlags := 1041 }

/-- the primitive int -/
def k11 : Class := { plain "int" none with kind := .primitive 'I', accessFlags := 0x411 }
/-- [I -/
def k12 : Class := { plain "[I" (some 0) with kind := .array 11 .int, interfaces := #[8, 4], accessFlags := 1041 }

/-- [Lcom/example/office_to_office/officetooffice/segnatura/Anomalia; -/
def k13 : Class := { plain "[Lcom/example/office_to_office/officetooffice/segnatura/Anomalia;" (some 0) with kind := .array 6 (.object "com/example/office_to_office/officetooffice/segnatura/Anomalia"), interfaces := #[8, 4], accessFlags := 1041 }

def heap : Heap := #[{ cls := 6, slots := #[.ref 5, .ref 6, .ref 7, .ref 8, .ref 9, .ref 10, .ref 11, .ref 12, .ref 13, .null], vm := .statics 6 },
  { cls := 7, slots := #[.ref 2, .ref 3, .ref 4, .null], vm := .statics 7 },
  { cls := 7, slots := #[.null, .int 0, .int 0], vm := .none },
  { cls := 7, slots := #[.null, .int 1, .int 0], vm := .none },
  { cls := 7, slots := #[.null, .int 2, .int 0], vm := .none },
  { cls := 6, slots := #[.null, .int 0, .int 0, .null, .ref 3], vm := .none },
  { cls := 6, slots := #[.null, .int 1, .int 0, .null, .ref 2], vm := .none },
  { cls := 6, slots := #[.null, .int 2, .int 0, .null, .ref 2], vm := .none },
  { cls := 6, slots := #[.null, .int 3, .int 0, .null, .ref 3], vm := .none },
  { cls := 6, slots := #[.null, .int 4, .int 0, .null, .ref 3], vm := .none },
  { cls := 6, slots := #[.null, .int 5, .int 0, .null, .ref 3], vm := .none },
  { cls := 6, slots := #[.null, .int 6, .int 0, .null, .ref 3], vm := .none },
  { cls := 6, slots := #[.null, .int 7, .int 0, .null, .ref 4], vm := .none },
  { cls := 6, slots := #[.null, .int 8, .int 0, .null, .ref 4], vm := .none }]
def classes : Array Class := #[k0, k1, k2, k3, k4, k5, k6, k7, k8, k9, k10, k11, k12, k13]
def interned : List (Array UInt16 × Addr) := []
def slotsUsed : Nat := 68
def theMethod : MethodId := ⟨1, 1⟩
def args0 : Array Value := #[.int 5]
def aboutOver (below : List Frame) : State where
  vm := { classes := classes, interned := interned.toArray }
  heap := heap
  slotsUsed := slotsUsed
  threads := #[{ frames := .invoking theMethod args0 :: below }]
def below0 : List Frame := [.native { method := ⟨0, 0⟩, args := #[] }]
def about1 : State := aboutOver below0
def p0 : Program := .bare "" "" ""
def e0 : Env := launch0.env 0 0 0
theorem w_frames : about1.frames = Frame.invoking theMethod args0 :: below0 := rfl
set_option maxRecDepth 65536 in
theorem w_args : argsFit about1.vm theMethod args0 = true := by decide +kernel
set_option maxRecDepth 65536 in
theorem w_heap : heapFits about1 = true := by decide +kernel
set_option maxRecDepth 65536 in
theorem w_runnable : about1.curStatus? = some .runnable := by decide +kernel
set_option maxRecDepth 65536 in
theorem w_alone : about1.alone = true := by decide +kernel
set_option maxRecDepth 65536 in
theorem w_named : about1.methodNamed? x = some theMethod := by decide +kernel
set_option maxRecDepth 65536 in
theorem w_hears : about1.hears theMethod below0 = true := by decide +kernel
set_option maxRecDepth 65536 in
theorem w_ripe : about1.ripe theMethod args0 below0 = true := by decide +kernel
theorem w_running : about1.status = .running := rfl
set_option maxRecDepth 65536 in
theorem w_room : about1.hasRoom e0.platform room_1 = true :=
  launch0.hasRoom_least _ room_1 (by decide +kernel) (by decide +kernel) (by decide +kernel) (by decide +kernel) (by decide +kernel) (by decide +kernel)
theorem allAtoms_all (ts : List Jvm.Cond) (a : Array Jvm.Value) (st : Jvm.State) : (allAtoms ts).before a st = ts.all (fun c => c.before a st) := by
  induction ts with
  | nil => rfl
  | cons c t ih =>
    show (Jvm.Cond.and c (allAtoms t)).before a st = _
    rw [Jvm.Cond.before_and, ih, List.all_cons]
def words1 : List Jvm.Cond := Jvm.Cond.code x code maxLocals ret :: tables_1
/-- a 'code' word, met by the world's own term for the bytes: nothing is compared byte by byte -/
theorem code_word {y : MethodName} {bytes : ByteArray} {mx : Nat} {rt : Option FieldType} {a : Array Value} {s : State} {m : MethodId} {meth : Method} {c : Code} (h1 : s.methodNamed? y = some m) (h2 : s.vm.method? m = some meth) (h3 : meth.code = some c) (h4 : c.code = bytes)
    (h5 : (c.maxLocals == mx && c.exceptionTable.isEmpty && decide (c.maxStack ≤ mostOperands) && decide (meth.sig.returnType = rt) && !meth.locks && decide (parseMethodDescriptor y.desc = some meth.sig)) = true) : (Jvm.Cond.code y bytes mx rt).before a s = true := by
  simp only [Bool.and_eq_true, beq_iff_eq, Bool.not_eq_true', decide_eq_true_eq] at h5
  obtain ⟨⟨⟨⟨⟨g1, g2⟩, g3⟩, g4⟩, g5⟩, g6⟩ := h5
  simp [Cond.before, Cond.holds, Cond.value, h1, h2, h3, h4, g1, g2, g3, g4, g5, g6]
def isCode : Jvm.Cond → Bool
  | .code _ _ _ _ => true
  | _ => false
theorem all_split {L : List Jvm.Cond} {P : Jvm.Cond → Bool} (h1 : L.all (fun c => isCode c || P c) = true) (h2 : ∀ c ∈ L.filter isCode, P c = true) : L.all P = true := by
  refine List.all_eq_true.mpr fun c hc => ?_
  have h := List.all_eq_true.mp h1 c hc
  rcases Bool.eq_false_or_eq_true (isCode c) with hi | hi
  · exact h2 c (List.mem_filter.mpr ⟨hc, hi⟩)
  · simpa [hi] using h
set_option maxRecDepth 65536 in
theorem w_c0 : (Jvm.Cond.code x code maxLocals ret).before args0 about1 = true := code_word (m := ⟨1, 1⟩) (meth := k1m1) (c := k1c1) (by decide +kernel) rfl rfl rfl (by decide +kernel)
set_option maxRecDepth 65536 in
theorem w_c1 : (Jvm.Cond.code ({ cls := "com/example/office_to_office/officetooffice/segnatura/Anomalia", name := "inConferma", desc := "()Z" } : Jvm.MethodName) prog_20_method_6_code (1 : Nat) (Option.some Jvm.ClassFile.FieldType.boolean)).before args0 about1 = true := code_word (m := ⟨6, 0⟩) (meth := k6m0) (c := k6c0) (by decide +kernel) rfl rfl rfl (by decide +kernel)
def codes1 : List Jvm.Cond := [Jvm.Cond.code x code maxLocals ret, Jvm.Cond.code ({ cls := "com/example/office_to_office/officetooffice/segnatura/Anomalia", name := "inConferma", desc := "()Z" } : Jvm.MethodName) prog_20_method_6_code (1 : Nat) (Option.some Jvm.ClassFile.FieldType.boolean)]
set_option maxRecDepth 65536 in
theorem codes_eq : words1.filter isCode = codes1 := rfl
theorem w_codes : ∀ c ∈ words1.filter isCode, c.before args0 about1 = true := by
  rw [codes_eq]
  intro c hc
  simp only [codes1, List.mem_cons, List.not_mem_nil, or_false] at hc
  rcases hc with rfl | rfl
  · exact w_c0
  · exact w_c1
set_option maxRecDepth 65536 in
theorem w_t1 : (words1.take 24).all (fun c => isCode c || c.before args0 about1) = true := by decide +kernel
set_option maxRecDepth 65536 in
theorem w_t2 : (words1.drop 24).all (fun c => isCode c || c.before args0 about1) = true := by decide +kernel
theorem w_tables : (allAtoms (Jvm.Cond.code x code maxLocals ret :: tables_1)).before args0 about1 = true := by
  rw [allAtoms_all]
  show words1.all (fun c => c.before args0 about1) = true
  refine all_split ?_ w_codes
  rw [← List.take_append_drop 24 words1, List.all_append, w_t1, w_t2]
  rfl
set_option maxRecDepth 65536 in
theorem w_case : (Jvm.Cond.and given_1 narrow_1).before args0 about1 = true := by decide +kernel
theorem w_applies : (headSpec (Jvm.Cond.code x code maxLocals ret :: tables_1) room_1).applies x e0.platform about1 = true :=
  (Spec.applies_iff w_frames).mpr ⟨w_running, w_runnable, w_alone, w_named, w_hears, w_ripe, w_room, w_tables⟩
theorem atStart : AtStart classFile x code maxLocals ret World_1 tables_1 room_1 Calls_1 rest_1 Pre_1 launch0 p0 e0 about1 theMethod args0 below0 :=
  ⟨lists_1, trivial, launch0.admits_env _ _ _, launch0.least_env, fairChoices_fair.cas, fairChoices_fair.clock, w_frames, w_args, w_heap, w_applies, trivial, trivial, w_case⟩
end start1
theorem witness_1 : WitnessClaimed_1 := ⟨start1.p0, start1.e0, start1.about1, start1.theMethod, start1.args0, start1.below0, start1.atStart⟩
end Jvm.Pilot.@@N@@
