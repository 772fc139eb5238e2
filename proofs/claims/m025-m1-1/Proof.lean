import JvmDerived
import JvmDerived.Pilot.@@N@@Statement
import JvmDerived.Pilot.@@N@@Code
set_option linter.unusedVariables false
set_option linter.unusedSimpArgs false
namespace Jvm.Pilot.@@N@@
open Jvm Jvm.ClassFile Sem Op Lib Jvm.Free Jvm.Stand Jvm.LawKit Jvm.RoadKit Bundle Jvm.Pilot.@@N@@.Jvm.D
/-! own kit: the walk in program order: own_G says that from this frame on the run ends as promised -/
def own_G (tb : Tables) (e : Env) (below : List Frame) (P : Outcome → State → Prop) (T : State) (f : JFrame) : Prop :=
  ∃ s₂ o, Steps tb e below (T.setTop f) s₂ ∧ s₂.status = .running ∧ Ended s₂ below o ∧ P o s₂
def own_P (s : State) (Q : Option Value → Heap → List Loc → Prop) (C S : Nat) (o : Outcome) (U : State) : Prop :=
  ∃ v L, o = .returned v ∧ Q v U.heap L ∧ FrameEnd s o U L C S
theorem own_go {tb : Tables} {e : Env} {below : List Frame} {P : Outcome → State → Prop} {T T' : State} {f f' : JFrame} (st : ∀ target, Steps tb e below (T'.setTop f') target → Steps tb e below (T.setTop f) target) (k : own_G tb e below P T' f') : own_G tb e below P T f := by
  obtain ⟨s₂, o, h1, h2⟩ := k
  exact ⟨s₂, o, st _ h1, h2⟩
section OwnKit
variable {p : Program} {l : Launch} {e : Env} {R : Room} {s : State} {m : MethodId} {args : Array Value} {below : List Frame} {meth : Method} {c : Code} {T : State} {locs : List Loc} {cells slots : Nat} {Z : State} {a0 : Array Value} {h : Heap} {P : Outcome → State → Prop}
theorem own_body {y : MethodName} {bytes : ByteArray} {maxL : Nat} {ret : Option FieldType} {ws : List Jvm.Cond} {rm : Room} {as' : Array Value} {Q : Option Value → Heap → List Loc → Prop} {C S : Nat} (pn : plainFor y = true)
    (body : ∀ p e s m below meth c s₁, p.tables.exec = Jvm.exec → c.code = bytes → c.maxLocals = maxL → s.vm.findClass y.cls = some m.cls → meth.name = y.name → meth.locks = false → meth.sig.returnType = ret → Z.Warmed39 s.vm → Stand p l e rm s m as' below meth c s₁ [] 0 0 → s₁.heap = h →
      own_G p.tables e below (own_P s Q C S) s₁ (entryFrame m as' maxL)) :
    MetFree l y (head1 (Jvm.Cond.code y bytes maxL ret :: ws) rm) (fun a U => a = as' ∧ Z.Warmed39 U.vm ∧ U.heap = h) (fun _ _ _ _ _ => True) (fun _ U o U' => ∃ v L, o = .returned v ∧ Q v U'.heap L ∧ FrameEnd U o U' L C S) := by
  refine MetFree.of_bodySF (maxLocals := maxL) (ret := ret) (code := bytes) pn hisR ?_
  intro p e s m args below meth c s₁ Bd hml0 hP hK
  obtain ⟨rfl, hZ, hh⟩ := hP
  exact body p e s m below meth c s₁ Bd.exec Bd.bytes hml0 (findClass_of_methodNamed Bd.named) (name_of_methodNamed Bd.named Bd.method).1 (BodyLoose.notSynchronized Bd) Bd.returns hZ (Stand.of_body Bd) (by rw [← hh, Bd.state]; rfl)
theorem own_ret {v : Option Value} {f : JFrame} {Q : Option Value → Heap → List Loc → Prop} {C S : Nat} (X : Stand p l e R s m args below meth c T locs cells slots) (hlk : meth.locks = false) (hv : meth.sig.returnType = none → v = none)
    (st : ∀ fs, (∀ (f : JFrame) (acts : List Action), f.method = m → f.locked = none → f.entered = [] → (doReturn e (T.setTop f) acts v).1 = T.setFrames fs) → Steps p.tables e below (T.setTop f) (T.setFrames fs)) (hC : cells ≤ C) (hS : slots ≤ S) (hq : Q v T.heap locs) : own_G p.tables e below (own_P s Q C S) T f := by
  obtain ⟨fs, hr, hrun, hended, hW, hsame⟩ := X.leave (v := v) hv hlk
  exact ⟨_, _, st fs hr, hrun, hended, _, _, rfl, hq, ⟨_, rfl⟩, hW, hsame.mono hC hS⟩
theorem own_retN {Q : Option Value → Heap → List Loc → Prop} {C S : Nat} (X : Stand p l e R s m args below meth c T locs cells slots) (hx : p.tables.exec = Jvm.exec) (hlk : meth.locks = false) {t : FieldType} (hret : meth.sig.returnType = some t) (ht : t = .boolean ∨ t = .byte ∨ t = .char ∨ t = .short) {pc : Nat} {Ls : Array Slot} {z : Int32} {rest : List Value} (hd : decode c.code pc = .ok (.ireturn, 1)) (hC : cells ≤ C) (hS : slots ≤ S) (hq : Q (some (.int (nar t z))) T.heap locs) :
    own_G p.tables e below (own_P s Q C S) T (mkF m pc Ls (.int z :: rest)) :=
  own_ret X hlk (fun h => by rw [hret] at h; cases h) (fun fs hr => retN X hx hret ht hd hr) hC hS hq
theorem own_retI {Q : Option Value → Heap → List Loc → Prop} {C S : Nat} (X : Stand p l e R s m args below meth c T locs cells slots) (hx : p.tables.exec = Jvm.exec) (hlk : meth.locks = false) (hret : meth.sig.returnType = some .int) {pc : Nat} {Ls : Array Slot} {z : Int32} {rest : List Value} (hd : decode c.code pc = .ok (.ireturn, 1)) (hC : cells ≤ C) (hS : slots ≤ S) (hq : Q (some (.int z)) T.heap locs) :
    own_G p.tables e below (own_P s Q C S) T (mkF m pc Ls (.int z :: rest)) :=
  own_ret X hlk (fun h => by rw [hret] at h; cases h) (fun fs hr => retOut X hx hret rfl (Or.inl ⟨rfl, Or.inl rfl, z, rfl⟩) hd hr) hC hS hq
theorem own_retJ {Q : Option Value → Heap → List Loc → Prop} {C S : Nat} (X : Stand p l e R s m args below meth c T locs cells slots) (hx : p.tables.exec = Jvm.exec) (hlk : meth.locks = false) (hret : meth.sig.returnType = some .long) {pc : Nat} {Ls : Array Slot} {z : Int64} {rest : List Value} (hd : decode c.code pc = .ok (.lreturn, 1)) (hC : cells ≤ C) (hS : slots ≤ S) (hq : Q (some (.long z)) T.heap locs) :
    own_G p.tables e below (own_P s Q C S) T (mkF m pc Ls (.long z :: rest)) :=
  own_ret X hlk (fun h => by rw [hret] at h; cases h) (fun fs hr => retOut X hx hret rfl (Or.inr (Or.inl ⟨rfl, rfl, z, rfl⟩)) hd hr) hC hS hq
theorem own_retA {Q : Option Value → Heap → List Loc → Prop} {C S : Nat} (X : Stand p l e R s m args below meth c T locs cells slots) (hx : p.tables.exec = Jvm.exec) (hlk : meth.locks = false) {t : FieldType} (hret : meth.sig.returnType = some t) (ht : t.isReference = true) {pc : Nat} {Ls : Array Slot} {w : Value} {rest : List Value} (hw : w.isRef = true) (hn : narrow t w = w) (hd : decode c.code pc = .ok (.areturn, 1)) (hC : cells ≤ C) (hS : slots ≤ S) (hq : Q (some w) T.heap locs) :
    own_G p.tables e below (own_P s Q C S) T (mkF m pc Ls (w :: rest)) :=
  own_ret X hlk (fun h => by rw [hret] at h; cases h) (fun fs hr => retOut X hx hret hn (Or.inr (Or.inr (Or.inr (Or.inr ⟨rfl, ht, hw⟩)))) hd hr) hC hS hq
theorem own_retV {Q : Option Value → Heap → List Loc → Prop} {C S : Nat} (X : Stand p l e R s m args below meth c T locs cells slots) (hx : p.tables.exec = Jvm.exec) (hlk : meth.locks = false) (hret : meth.sig.returnType = none) {pc : Nat} {Ls : Array Slot} (hd : decode c.code pc = .ok (.return_, 1)) (hC : cells ≤ C) (hS : slots ≤ S) (hq : Q none T.heap locs) :
    own_G p.tables e below (own_P s Q C S) T (mkF m pc Ls []) :=
  own_ret X hlk (fun h => rfl) (fun fs hr => X.returnOut hx hret hd hr) hC hS hq
theorem own_iadd (X : Stand p l e R s m args below meth c T locs cells slots) (hx : p.tables.exec = Jvm.exec) {pc pc' : Nat} {Ls : Array Slot} {x y z : Int32} {rest : List Value} (hd : decode c.code pc = .ok (.iadd, 1)) (hz : x + y = z) (hp : pc + 1 = pc') (k : own_G p.tables e below P T (mkF m pc' Ls (.int z :: rest))) : own_G p.tables e below P T (mkF m pc Ls (.int y :: .int x :: rest)) := by
  subst hp; subst hz; exact own_go (fun t q => XS.iadd X.here hx rfl hd rfl q) k
theorem own_isub (X : Stand p l e R s m args below meth c T locs cells slots) (hx : p.tables.exec = Jvm.exec) {pc pc' : Nat} {Ls : Array Slot} {x y z : Int32} {rest : List Value} (hd : decode c.code pc = .ok (.isub, 1)) (hz : x - y = z) (hp : pc + 1 = pc') (k : own_G p.tables e below P T (mkF m pc' Ls (.int z :: rest))) : own_G p.tables e below P T (mkF m pc Ls (.int y :: .int x :: rest)) := by
  subst hp; subst hz; exact own_go (fun t q => XS.isub X.here hx rfl hd rfl q) k
theorem own_imul (X : Stand p l e R s m args below meth c T locs cells slots) (hx : p.tables.exec = Jvm.exec) {pc pc' : Nat} {Ls : Array Slot} {x y z : Int32} {rest : List Value} (hd : decode c.code pc = .ok (.imul, 1)) (hz : x * y = z) (hp : pc + 1 = pc') (k : own_G p.tables e below P T (mkF m pc' Ls (.int z :: rest))) : own_G p.tables e below P T (mkF m pc Ls (.int y :: .int x :: rest)) := by
  subst hp; subst hz; exact own_go (fun t q => XS.imul X.here hx rfl hd rfl q) k
theorem own_iand (X : Stand p l e R s m args below meth c T locs cells slots) (hx : p.tables.exec = Jvm.exec) {pc pc' : Nat} {Ls : Array Slot} {x y z : Int32} {rest : List Value} (hd : decode c.code pc = .ok (.iand, 1)) (hz : x &&& y = z) (hp : pc + 1 = pc') (k : own_G p.tables e below P T (mkF m pc' Ls (.int z :: rest))) : own_G p.tables e below P T (mkF m pc Ls (.int y :: .int x :: rest)) := by
  subst hp; subst hz; exact own_go (fun t q => XS.iand X.here hx rfl hd rfl q) k
theorem own_ior (X : Stand p l e R s m args below meth c T locs cells slots) (hx : p.tables.exec = Jvm.exec) {pc pc' : Nat} {Ls : Array Slot} {x y z : Int32} {rest : List Value} (hd : decode c.code pc = .ok (.ior, 1)) (hz : x ||| y = z) (hp : pc + 1 = pc') (k : own_G p.tables e below P T (mkF m pc' Ls (.int z :: rest))) : own_G p.tables e below P T (mkF m pc Ls (.int y :: .int x :: rest)) := by
  subst hp; subst hz; exact own_go (fun t q => XS.ior X.here hx rfl hd rfl q) k
theorem own_ixor (X : Stand p l e R s m args below meth c T locs cells slots) (hx : p.tables.exec = Jvm.exec) {pc pc' : Nat} {Ls : Array Slot} {x y z : Int32} {rest : List Value} (hd : decode c.code pc = .ok (.ixor, 1)) (hz : x ^^^ y = z) (hp : pc + 1 = pc') (k : own_G p.tables e below P T (mkF m pc' Ls (.int z :: rest))) : own_G p.tables e below P T (mkF m pc Ls (.int y :: .int x :: rest)) := by
  subst hp; subst hz; exact own_go (fun t q => XS.ixor X.here hx rfl hd rfl q) k
theorem own_ladd (X : Stand p l e R s m args below meth c T locs cells slots) (hx : p.tables.exec = Jvm.exec) {pc pc' : Nat} {Ls : Array Slot} {x y z : Int64} {rest : List Value} (hd : decode c.code pc = .ok (.ladd, 1)) (hz : x + y = z) (hp : pc + 1 = pc') (k : own_G p.tables e below P T (mkF m pc' Ls (.long z :: rest))) : own_G p.tables e below P T (mkF m pc Ls (.long y :: .long x :: rest)) := by
  subst hp; subst hz; exact own_go (fun t q => XS.ladd X.here hx rfl hd rfl q) k
theorem own_lsub (X : Stand p l e R s m args below meth c T locs cells slots) (hx : p.tables.exec = Jvm.exec) {pc pc' : Nat} {Ls : Array Slot} {x y z : Int64} {rest : List Value} (hd : decode c.code pc = .ok (.lsub, 1)) (hz : x - y = z) (hp : pc + 1 = pc') (k : own_G p.tables e below P T (mkF m pc' Ls (.long z :: rest))) : own_G p.tables e below P T (mkF m pc Ls (.long y :: .long x :: rest)) := by
  subst hp; subst hz; exact own_go (fun t q => XS.lsub X.here hx rfl hd rfl q) k
theorem own_lmul (X : Stand p l e R s m args below meth c T locs cells slots) (hx : p.tables.exec = Jvm.exec) {pc pc' : Nat} {Ls : Array Slot} {x y z : Int64} {rest : List Value} (hd : decode c.code pc = .ok (.lmul, 1)) (hz : x * y = z) (hp : pc + 1 = pc') (k : own_G p.tables e below P T (mkF m pc' Ls (.long z :: rest))) : own_G p.tables e below P T (mkF m pc Ls (.long y :: .long x :: rest)) := by
  subst hp; subst hz; exact own_go (fun t q => XS.lmul X.here hx rfl hd rfl q) k
theorem own_land (X : Stand p l e R s m args below meth c T locs cells slots) (hx : p.tables.exec = Jvm.exec) {pc pc' : Nat} {Ls : Array Slot} {x y z : Int64} {rest : List Value} (hd : decode c.code pc = .ok (.land, 1)) (hz : x &&& y = z) (hp : pc + 1 = pc') (k : own_G p.tables e below P T (mkF m pc' Ls (.long z :: rest))) : own_G p.tables e below P T (mkF m pc Ls (.long y :: .long x :: rest)) := by
  subst hp; subst hz; exact own_go (fun t q => XS.land X.here hx rfl hd rfl q) k
theorem own_lor (X : Stand p l e R s m args below meth c T locs cells slots) (hx : p.tables.exec = Jvm.exec) {pc pc' : Nat} {Ls : Array Slot} {x y z : Int64} {rest : List Value} (hd : decode c.code pc = .ok (.lor, 1)) (hz : x ||| y = z) (hp : pc + 1 = pc') (k : own_G p.tables e below P T (mkF m pc' Ls (.long z :: rest))) : own_G p.tables e below P T (mkF m pc Ls (.long y :: .long x :: rest)) := by
  subst hp; subst hz; exact own_go (fun t q => XS.lor X.here hx rfl hd rfl q) k
theorem own_lxor (X : Stand p l e R s m args below meth c T locs cells slots) (hx : p.tables.exec = Jvm.exec) {pc pc' : Nat} {Ls : Array Slot} {x y z : Int64} {rest : List Value} (hd : decode c.code pc = .ok (.lxor, 1)) (hz : x ^^^ y = z) (hp : pc + 1 = pc') (k : own_G p.tables e below P T (mkF m pc' Ls (.long z :: rest))) : own_G p.tables e below P T (mkF m pc Ls (.long y :: .long x :: rest)) := by
  subst hp; subst hz; exact own_go (fun t q => XS.lxor X.here hx rfl hd rfl q) k
theorem own_ishl (X : Stand p l e R s m args below meth c T locs cells slots) (hx : p.tables.exec = Jvm.exec) {pc pc' : Nat} {Ls : Array Slot} {x y : Int32} {rest : List Value} (hd : decode c.code pc = .ok (.ishl, 1)) (hp : pc + 1 = pc') (k : own_G p.tables e below P T (mkF m pc' Ls (.int (x <<< (y &&& 31)) :: rest))) : own_G p.tables e below P T (mkF m pc Ls (.int y :: .int x :: rest)) := by
  subst hp; exact own_go (fun t q => XS.ishl X.here hx rfl hd rfl q) k
theorem own_ishr (X : Stand p l e R s m args below meth c T locs cells slots) (hx : p.tables.exec = Jvm.exec) {pc pc' : Nat} {Ls : Array Slot} {x y : Int32} {rest : List Value} (hd : decode c.code pc = .ok (.ishr, 1)) (hp : pc + 1 = pc') (k : own_G p.tables e below P T (mkF m pc' Ls (.int (x >>> (y &&& 31)) :: rest))) : own_G p.tables e below P T (mkF m pc Ls (.int y :: .int x :: rest)) := by
  subst hp; exact own_go (fun t q => XS.ishr X.here hx rfl hd rfl q) k
theorem own_iushr (X : Stand p l e R s m args below meth c T locs cells slots) (hx : p.tables.exec = Jvm.exec) {pc pc' : Nat} {Ls : Array Slot} {x y : Int32} {rest : List Value} (hd : decode c.code pc = .ok (.iushr, 1)) (hp : pc + 1 = pc') (k : own_G p.tables e below P T (mkF m pc' Ls (.int ((x.toUInt32 >>> (y &&& 31).toUInt32).toInt32) :: rest))) : own_G p.tables e below P T (mkF m pc Ls (.int y :: .int x :: rest)) := by
  subst hp; exact own_go (fun t q => XS.iushr X.here hx rfl hd rfl q) k
theorem own_lshl (X : Stand p l e R s m args below meth c T locs cells slots) (hx : p.tables.exec = Jvm.exec) {pc pc' : Nat} {Ls : Array Slot} {x : Int64} {y : Int32} {rest : List Value} (hd : decode c.code pc = .ok (.lshl, 1)) (hp : pc + 1 = pc') (k : own_G p.tables e below P T (mkF m pc' Ls (.long (x <<< (y &&& 0x3f).toInt64) :: rest))) : own_G p.tables e below P T (mkF m pc Ls (.int y :: .long x :: rest)) := by
  subst hp; exact own_go (fun t q => XS.lshl X.here hx rfl hd rfl q) k
theorem own_lshr (X : Stand p l e R s m args below meth c T locs cells slots) (hx : p.tables.exec = Jvm.exec) {pc pc' : Nat} {Ls : Array Slot} {x : Int64} {y : Int32} {rest : List Value} (hd : decode c.code pc = .ok (.lshr, 1)) (hp : pc + 1 = pc') (k : own_G p.tables e below P T (mkF m pc' Ls (.long (x >>> (y &&& 0x3f).toInt64) :: rest))) : own_G p.tables e below P T (mkF m pc Ls (.int y :: .long x :: rest)) := by
  subst hp; exact own_go (fun t q => XS.lshr X.here hx rfl hd rfl q) k
theorem own_lushr (X : Stand p l e R s m args below meth c T locs cells slots) (hx : p.tables.exec = Jvm.exec) {pc pc' : Nat} {Ls : Array Slot} {x : Int64} {y : Int32} {rest : List Value} (hd : decode c.code pc = .ok (.lushr, 1)) (hp : pc + 1 = pc') (k : own_G p.tables e below P T (mkF m pc' Ls (.long ((x.toUInt64 >>> (y &&& 0x3f).toInt64.toUInt64).toInt64) :: rest))) : own_G p.tables e below P T (mkF m pc Ls (.int y :: .long x :: rest)) := by
  subst hp; exact own_go (fun t q => XS.lushr X.here hx rfl hd rfl q) k
theorem own_i2l (X : Stand p l e R s m args below meth c T locs cells slots) (hx : p.tables.exec = Jvm.exec) {pc pc' : Nat} {Ls : Array Slot} {x : Int32} {rest : List Value} (hd : decode c.code pc = .ok (.i2l, 1)) (hp : pc + 1 = pc') (k : own_G p.tables e below P T (mkF m pc' Ls (.long (x.toInt64) :: rest))) : own_G p.tables e below P T (mkF m pc Ls (.int x :: rest)) := by
  subst hp; exact own_go (fun t q => XS.i2l X.here hx rfl hd rfl q) k
theorem own_l2i (X : Stand p l e R s m args below meth c T locs cells slots) (hx : p.tables.exec = Jvm.exec) {pc pc' : Nat} {Ls : Array Slot} {x : Int64} {rest : List Value} (hd : decode c.code pc = .ok (.l2i, 1)) (hp : pc + 1 = pc') (k : own_G p.tables e below P T (mkF m pc' Ls (.int (x.toInt32) :: rest))) : own_G p.tables e below P T (mkF m pc Ls (.long x :: rest)) := by
  subst hp; exact own_go (fun t q => XS.l2i X.here hx rfl hd rfl q) k
theorem own_i2b (X : Stand p l e R s m args below meth c T locs cells slots) (hx : p.tables.exec = Jvm.exec) {pc pc' : Nat} {Ls : Array Slot} {x : Int32} {rest : List Value} (hd : decode c.code pc = .ok (.i2b, 1)) (hp : pc + 1 = pc') (k : own_G p.tables e below P T (mkF m pc' Ls (.int (x.toInt8.toInt32) :: rest))) : own_G p.tables e below P T (mkF m pc Ls (.int x :: rest)) := by
  subst hp; exact own_go (fun t q => XS.i2b X.here hx rfl hd rfl q) k
theorem own_i2s (X : Stand p l e R s m args below meth c T locs cells slots) (hx : p.tables.exec = Jvm.exec) {pc pc' : Nat} {Ls : Array Slot} {x : Int32} {rest : List Value} (hd : decode c.code pc = .ok (.i2s, 1)) (hp : pc + 1 = pc') (k : own_G p.tables e below P T (mkF m pc' Ls (.int (x.toInt16.toInt32) :: rest))) : own_G p.tables e below P T (mkF m pc Ls (.int x :: rest)) := by
  subst hp; exact own_go (fun t q => XS.i2s X.here hx rfl hd rfl q) k
theorem own_i2c (X : Stand p l e R s m args below meth c T locs cells slots) (hx : p.tables.exec = Jvm.exec) {pc pc' : Nat} {Ls : Array Slot} {x : Int32} {rest : List Value} (hd : decode c.code pc = .ok (.i2c, 1)) (hp : pc + 1 = pc') (k : own_G p.tables e below P T (mkF m pc' Ls (.int (x.toUInt32.toUInt16.toUInt32.toInt32) :: rest))) : own_G p.tables e below P T (mkF m pc Ls (.int x :: rest)) := by
  subst hp; exact own_go (fun t q => XS.i2c X.here hx rfl hd rfl q) k
theorem own_ineg (X : Stand p l e R s m args below meth c T locs cells slots) (hx : p.tables.exec = Jvm.exec) {pc pc' : Nat} {Ls : Array Slot} {x : Int32} {rest : List Value} (hd : decode c.code pc = .ok (.ineg, 1)) (hp : pc + 1 = pc') (k : own_G p.tables e below P T (mkF m pc' Ls (.int (-x) :: rest))) : own_G p.tables e below P T (mkF m pc Ls (.int x :: rest)) := by
  subst hp; exact own_go (fun t q => XS.ineg X.here hx rfl hd rfl q) k
theorem own_lneg (X : Stand p l e R s m args below meth c T locs cells slots) (hx : p.tables.exec = Jvm.exec) {pc pc' : Nat} {Ls : Array Slot} {x : Int64} {rest : List Value} (hd : decode c.code pc = .ok (.lneg, 1)) (hp : pc + 1 = pc') (k : own_G p.tables e below P T (mkF m pc' Ls (.long (-x) :: rest))) : own_G p.tables e below P T (mkF m pc Ls (.long x :: rest)) := by
  subst hp; exact own_go (fun t q => XS.lneg X.here hx rfl hd rfl q) k
theorem own_lcmp (X : Stand p l e R s m args below meth c T locs cells slots) (hx : p.tables.exec = Jvm.exec) {pc pc' : Nat} {Ls : Array Slot} {x y : Int64} {rest : List Value} (hd : decode c.code pc = .ok (.lcmp, 1)) (hp : pc + 1 = pc') (k : own_G p.tables e below P T (mkF m pc' Ls (.int (lcmpW x y) :: rest))) : own_G p.tables e below P T (mkF m pc Ls (.long y :: .long x :: rest)) := by
  subst hp; exact own_go (fun t q => XS.lcmp X.here hx rfl hd rfl q) k
theorem own_idiv (X : Stand p l e R s m args below meth c T locs cells slots) (hx : p.tables.exec = Jvm.exec) {pc pc' : Nat} {Ls : Array Slot} {x y z : Int32} {rest : List Value} (hd : decode c.code pc = .ok (.idiv, 1)) (hz : x / y = z) (hy : y ≠ 0) (hp : pc + 1 = pc') (k : own_G p.tables e below P T (mkF m pc' Ls (.int z :: rest))) : own_G p.tables e below P T (mkF m pc Ls (.int y :: .int x :: rest)) := by
  subst hp; subst hz; exact own_go (fun t q => XS.idiv X.here hx rfl hd rfl hy q) k
theorem own_irem (X : Stand p l e R s m args below meth c T locs cells slots) (hx : p.tables.exec = Jvm.exec) {pc pc' : Nat} {Ls : Array Slot} {x y : Int32} {rest : List Value} (hd : decode c.code pc = .ok (.irem, 1)) (hy : y ≠ 0) (hp : pc + 1 = pc') (k : own_G p.tables e below P T (mkF m pc' Ls (.int (x % y) :: rest))) : own_G p.tables e below P T (mkF m pc Ls (.int y :: .int x :: rest)) := by
  subst hp; exact own_go (fun t q => iremM X hx rfl hd rfl hy q) k
theorem own_iloadN (X : Stand p l e R s m args below meth c T locs cells slots) (hx : p.tables.exec = Jvm.exec) {pc pc' : Nat} {Ls : Array Slot} {j : Fin 4} {v : Int32} {st : List Value} (hd : decode c.code pc = .ok (.iload_n j, 1)) (hl : Ls[j.val]? = some (.val (.int v))) (hp : pc + 1 = pc') (k : own_G p.tables e below P T (mkF m pc' Ls (.int v :: st))) : own_G p.tables e below P T (mkF m pc Ls (st)) := by
  subst hp; exact own_go (fun t q => XS.iloadN X.here hx rfl hd hl q) k
theorem own_iload (X : Stand p l e R s m args below meth c T locs cells slots) (hx : p.tables.exec = Jvm.exec) {pc pc' : Nat} {Ls : Array Slot} {j : Nat} {v : Int32} {st : List Value} (hd : decode c.code pc = .ok (.iload j, 2)) (hl : Ls[j]? = some (.val (.int v))) (hp : pc + 2 = pc') (k : own_G p.tables e below P T (mkF m pc' Ls (.int v :: st))) : own_G p.tables e below P T (mkF m pc Ls (st)) := by
  subst hp; exact own_go (fun t q => XS.iload X.here hx rfl hd hl q) k
theorem own_lloadN (X : Stand p l e R s m args below meth c T locs cells slots) (hx : p.tables.exec = Jvm.exec) {pc pc' : Nat} {Ls : Array Slot} {j : Fin 4} {v : Int64} {st : List Value} (hd : decode c.code pc = .ok (.lload_n j, 1)) (hl : Ls[j.val]? = some (.val (.long v))) (hp : pc + 1 = pc') (k : own_G p.tables e below P T (mkF m pc' Ls (.long v :: st))) : own_G p.tables e below P T (mkF m pc Ls (st)) := by
  subst hp; exact own_go (fun t q => XS.lloadN X.here hx rfl hd hl q) k
theorem own_lload (X : Stand p l e R s m args below meth c T locs cells slots) (hx : p.tables.exec = Jvm.exec) {pc pc' : Nat} {Ls : Array Slot} {j : Nat} {v : Int64} {st : List Value} (hd : decode c.code pc = .ok (.lload j, 2)) (hl : Ls[j]? = some (.val (.long v))) (hp : pc + 2 = pc') (k : own_G p.tables e below P T (mkF m pc' Ls (.long v :: st))) : own_G p.tables e below P T (mkF m pc Ls (st)) := by
  subst hp; exact own_go (fun t q => XS.lload X.here hx rfl hd hl q) k
theorem own_aloadN (X : Stand p l e R s m args below meth c T locs cells slots) (hx : p.tables.exec = Jvm.exec) {pc pc' : Nat} {Ls : Array Slot} {j : Fin 4} {v : Value} {st : List Value} (hd : decode c.code pc = .ok (.aload_n j, 1)) (hl : Ls[j.val]? = some (.val v)) (hv : v.isRef = true) (hp : pc + 1 = pc') (k : own_G p.tables e below P T (mkF m pc' Ls (v :: st))) : own_G p.tables e below P T (mkF m pc Ls (st)) := by
  subst hp; exact own_go (fun t q => XS.aloadN X.here hx rfl hd hl hv q) k
theorem own_istoreN (X : Stand p l e R s m args below meth c T locs cells slots) (hx : p.tables.exec = Jvm.exec) {pc pc' : Nat} {Ls : Array Slot} {j : Fin 4} {v : Int32} {rest : List Value} {Ls' : Array Slot} (hd : decode c.code pc = .ok (.istore_n j, 1)) (hl : storeLocals Ls j.val (.int v) = some Ls') (hp : pc + 1 = pc') (k : own_G p.tables e below P T (mkF m pc' Ls' (rest))) : own_G p.tables e below P T (mkF m pc Ls (.int v :: rest)) := by
  subst hp; exact own_go (fun t q => XS.istoreN X.here hx rfl hd rfl hl q) k
theorem own_lstoreN (X : Stand p l e R s m args below meth c T locs cells slots) (hx : p.tables.exec = Jvm.exec) {pc pc' : Nat} {Ls : Array Slot} {j : Fin 4} {v : Int64} {rest : List Value} {Ls' : Array Slot} (hd : decode c.code pc = .ok (.lstore_n j, 1)) (hl : storeLocals Ls j.val (.long v) = some Ls') (hp : pc + 1 = pc') (k : own_G p.tables e below P T (mkF m pc' Ls' (rest))) : own_G p.tables e below P T (mkF m pc Ls (.long v :: rest)) := by
  subst hp; exact own_go (fun t q => XS.lstoreN X.here hx rfl hd rfl hl q) k
theorem own_astoreN (X : Stand p l e R s m args below meth c T locs cells slots) (hx : p.tables.exec = Jvm.exec) {pc pc' : Nat} {Ls : Array Slot} {j : Fin 4} {v : Value} {rest : List Value} {Ls' : Array Slot} (hd : decode c.code pc = .ok (.astore_n j, 1)) (hv : v.isRef = true) (hl : storeLocals Ls j.val v = some Ls') (hp : pc + 1 = pc') (k : own_G p.tables e below P T (mkF m pc' Ls' (rest))) : own_G p.tables e below P T (mkF m pc Ls (v :: rest)) := by
  subst hp; exact own_go (fun t q => XS.astoreN X.here hx rfl hd rfl hv hl q) k
theorem own_aload (X : Stand p l e R s m args below meth c T locs cells slots) (hx : p.tables.exec = Jvm.exec) {pc pc' : Nat} {Ls : Array Slot} {j : Nat} {v : Value} {st : List Value} (hd : decode c.code pc = .ok (.aload j, 2)) (hl : Ls[j]? = some (.val v)) (hv : v.isRef = true) (hp : pc + 2 = pc') (k : own_G p.tables e below P T (mkF m pc' Ls (v :: st))) : own_G p.tables e below P T (mkF m pc Ls (st)) := by
  subst hp; exact own_go (fun t q => XS.aload X.here hx rfl hd hl hv q) k
theorem own_istore (X : Stand p l e R s m args below meth c T locs cells slots) (hx : p.tables.exec = Jvm.exec) {pc pc' : Nat} {Ls : Array Slot} {j : Nat} {v : Int32} {rest : List Value} {Ls' : Array Slot} (hd : decode c.code pc = .ok (.istore j, 2)) (hl : storeLocals Ls j (.int v) = some Ls') (hp : pc + 2 = pc') (k : own_G p.tables e below P T (mkF m pc' Ls' (rest))) : own_G p.tables e below P T (mkF m pc Ls (.int v :: rest)) := by
  subst hp; exact own_go (fun t q => XS.istore X.here hx rfl hd rfl hl q) k
theorem own_lstore (X : Stand p l e R s m args below meth c T locs cells slots) (hx : p.tables.exec = Jvm.exec) {pc pc' : Nat} {Ls : Array Slot} {j : Nat} {v : Int64} {rest : List Value} {Ls' : Array Slot} (hd : decode c.code pc = .ok (.lstore j, 2)) (hl : storeLocals Ls j (.long v) = some Ls') (hp : pc + 2 = pc') (k : own_G p.tables e below P T (mkF m pc' Ls' (rest))) : own_G p.tables e below P T (mkF m pc Ls (.long v :: rest)) := by
  subst hp; exact own_go (fun t q => XS.lstore X.here hx rfl hd rfl hl q) k
theorem own_astore (X : Stand p l e R s m args below meth c T locs cells slots) (hx : p.tables.exec = Jvm.exec) {pc pc' : Nat} {Ls : Array Slot} {j : Nat} {v : Value} {rest : List Value} {Ls' : Array Slot} (hd : decode c.code pc = .ok (.astore j, 2)) (hv : v.isRef = true) (hl : storeLocals Ls j v = some Ls') (hp : pc + 2 = pc') (k : own_G p.tables e below P T (mkF m pc' Ls' (rest))) : own_G p.tables e below P T (mkF m pc Ls (v :: rest)) := by
  subst hp; exact own_go (fun t q => XS.astore X.here hx rfl hd rfl hv hl q) k
theorem own_iinc (X : Stand p l e R s m args below meth c T locs cells slots) (hx : p.tables.exec = Jvm.exec) {pc pc' : Nat} {Ls : Array Slot} {j : Nat} {cst : Int} {x : Int32} {st : List Value} {Ls' : Array Slot} (hd : decode c.code pc = .ok (.iinc j cst, 3)) (hl : Ls[j]? = some (.val (.int x))) (hl' : storeLocals Ls j (.int (x + Int32.ofInt cst)) = some Ls') (hp : pc + 3 = pc') (k : own_G p.tables e below P T (mkF m pc' Ls' (st))) : own_G p.tables e below P T (mkF m pc Ls (st)) := by
  subst hp; exact own_go (fun t q => XS.iinc X.here hx rfl hd hl hl' q) k
theorem own_iconst (X : Stand p l e R s m args below meth c T locs cells slots) (hx : p.tables.exec = Jvm.exec) {pc pc' : Nat} {Ls : Array Slot} {i : Int} {st : List Value} (z : Int32) (hd : decode c.code pc = .ok (.iconst i, 1)) (hz : Int32.ofInt i = z) (hp : pc + 1 = pc') (k : own_G p.tables e below P T (mkF m pc' Ls (.int z :: st))) : own_G p.tables e below P T (mkF m pc Ls (st)) := by
  subst hp; subst hz; exact own_go (fun t q => XS.iconst X.here hx rfl hd q) k
theorem own_bipush (X : Stand p l e R s m args below meth c T locs cells slots) (hx : p.tables.exec = Jvm.exec) {pc pc' : Nat} {Ls : Array Slot} {i : Int} {st : List Value} (z : Int32) (hd : decode c.code pc = .ok (.bipush i, 2)) (hz : (Int8.ofInt i).toInt32 = z) (hp : pc + 2 = pc') (k : own_G p.tables e below P T (mkF m pc' Ls (.int z :: st))) : own_G p.tables e below P T (mkF m pc Ls (st)) := by
  subst hp; subst hz; exact own_go (fun t q => XS.bipush X.here hx rfl hd q) k
theorem own_sipush (X : Stand p l e R s m args below meth c T locs cells slots) (hx : p.tables.exec = Jvm.exec) {pc pc' : Nat} {Ls : Array Slot} {i : Int} {st : List Value} (z : Int32) (hd : decode c.code pc = .ok (.sipush i, 3)) (hz : (Int16.ofInt i).toInt32 = z) (hp : pc + 3 = pc') (k : own_G p.tables e below P T (mkF m pc' Ls (.int z :: st))) : own_G p.tables e below P T (mkF m pc Ls (st)) := by
  subst hp; subst hz; exact own_go (fun t q => XS.sipush X.here hx rfl hd q) k
theorem own_lconst (X : Stand p l e R s m args below meth c T locs cells slots) (hx : p.tables.exec = Jvm.exec) {pc pc' : Nat} {Ls : Array Slot} {i : Fin 2} {st : List Value} (z : Int64) (hd : decode c.code pc = .ok (.lconst i, 1)) (hz : Int64.ofNat i = z) (hp : pc + 1 = pc') (k : own_G p.tables e below P T (mkF m pc' Ls (.long z :: st))) : own_G p.tables e below P T (mkF m pc Ls (st)) := by
  subst hp; subst hz; exact own_go (fun t q => XS.lconst X.here hx rfl hd q) k
theorem own_aconstNull (X : Stand p l e R s m args below meth c T locs cells slots) (hx : p.tables.exec = Jvm.exec) {pc pc' : Nat} {Ls : Array Slot} {st : List Value} (hd : decode c.code pc = .ok (.aconst_null, 1)) (hp : pc + 1 = pc') (k : own_G p.tables e below P T (mkF m pc' Ls (.null :: st))) : own_G p.tables e below P T (mkF m pc Ls (st)) := by
  subst hp; exact own_go (fun t q => XS.aconstNull X.here hx rfl hd q) k
theorem own_dup (X : Stand p l e R s m args below meth c T locs cells slots) (hx : p.tables.exec = Jvm.exec) {pc pc' : Nat} {Ls : Array Slot} {v : Value} {rest : List Value} (hd : decode c.code pc = .ok (.dup, 1)) (hc : v.category = 1) (hp : pc + 1 = pc') (k : own_G p.tables e below P T (mkF m pc' Ls (v :: v :: rest))) : own_G p.tables e below P T (mkF m pc Ls (v :: rest)) := by
  subst hp; exact own_go (fun t q => XS.dup X.here hx rfl hd rfl hc q) k
theorem own_pop (X : Stand p l e R s m args below meth c T locs cells slots) (hx : p.tables.exec = Jvm.exec) {pc pc' : Nat} {Ls : Array Slot} {v : Value} {rest : List Value} (hd : decode c.code pc = .ok (.pop, 1)) (hc : v.category = 1) (hp : pc + 1 = pc') (k : own_G p.tables e below P T (mkF m pc' Ls (rest))) : own_G p.tables e below P T (mkF m pc Ls (v :: rest)) := by
  subst hp; exact own_go (fun t q => XS.pop X.here hx rfl hd rfl hc q) k
theorem own_dupX1 (X : Stand p l e R s m args below meth c T locs cells slots) (hx : p.tables.exec = Jvm.exec) {pc pc' : Nat} {Ls : Array Slot} {v w : Value} {rest : List Value} (hd : decode c.code pc = .ok (.dup_x1, 1)) (hc : v.category = 1) (hc' : w.category = 1) (hp : pc + 1 = pc') (k : own_G p.tables e below P T (mkF m pc' Ls (v :: w :: v :: rest))) : own_G p.tables e below P T (mkF m pc Ls (v :: w :: rest)) := by
  subst hp; exact own_go (fun t q => XS.dupX1 X.here hx rfl hd rfl hc hc' q) k
theorem own_dup2 (X : Stand p l e R s m args below meth c T locs cells slots) (hx : p.tables.exec = Jvm.exec) {pc pc' : Nat} {Ls : Array Slot} {v w : Value} {rest : List Value} (hd : decode c.code pc = .ok (.dup2, 1)) (hc : v.category = 1) (hc' : w.category = 1) (hp : pc + 1 = pc') (k : own_G p.tables e below P T (mkF m pc' Ls (v :: w :: v :: w :: rest))) : own_G p.tables e below P T (mkF m pc Ls (v :: w :: rest)) := by
  subst hp; exact own_go (fun t q => Jvm.Free.XT.dup2 X.here hx rfl hd rfl hc hc' q) k
theorem own_goto (X : Stand p l e R s m args below meth c T locs cells slots) (hx : p.tables.exec = Jvm.exec) {pc pc' : Nat} {Ls : Array Slot} {st : List Value} {o : Int} (hd : decode c.code pc = .ok (.goto o, 3)) (ho : 0 ≤ (pc : Int) + o) (hp : ((pc : Int) + o).toNat = pc') (k : own_G p.tables e below P T (mkF m pc' Ls (st))) : own_G p.tables e below P T (mkF m pc Ls (st)) := by
  exact own_go (fun t q => XS.goto X.here hx rfl (pc0 := pc) (pc' := pc') rfl hd ho hp q) k
theorem own_ifYes (X : Stand p l e R s m args below meth c T locs cells slots) (hx : p.tables.exec = Jvm.exec) {pc pc' : Nat} {Ls : Array Slot} {cd : ClassFile.Cond} {x : Int32} {rest : List Value} {o : Int} (hd : decode c.code pc = .ok (.ifCond cd o, 3)) (hc : if_icmp.holds cd x 0 = true) (ho : 0 ≤ (pc : Int) + o) (hp : ((pc : Int) + o).toNat = pc') (k : own_G p.tables e below P T (mkF m pc' Ls (rest))) : own_G p.tables e below P T (mkF m pc Ls (.int x :: rest)) := by
  exact own_go (fun t q => XS.ifYes X.here hx rfl (pc0 := pc) (pc' := pc') rfl hd rfl ((if0 _ _).trans hc) ho hp q) k
theorem own_icmpYes (X : Stand p l e R s m args below meth c T locs cells slots) (hx : p.tables.exec = Jvm.exec) {pc pc' : Nat} {Ls : Array Slot} {cd : ClassFile.Cond} {x y : Int32} {rest : List Value} {o : Int} (hd : decode c.code pc = .ok (.if_icmp cd o, 3)) (hc : if_icmp.holds cd x y = true) (ho : 0 ≤ (pc : Int) + o) (hp : ((pc : Int) + o).toNat = pc') (k : own_G p.tables e below P T (mkF m pc' Ls (rest))) : own_G p.tables e below P T (mkF m pc Ls (.int y :: .int x :: rest)) := by
  exact own_go (fun t q => XS.icmpYes X.here hx rfl (pc0 := pc) (pc' := pc') rfl hd rfl hc ho hp q) k
theorem own_ifnullYes (X : Stand p l e R s m args below meth c T locs cells slots) (hx : p.tables.exec = Jvm.exec) {pc pc' : Nat} {Ls : Array Slot} {rest : List Value} {o : Int} (hd : decode c.code pc = .ok (.ifnull o, 3)) (ho : 0 ≤ (pc : Int) + o) (hp : ((pc : Int) + o).toNat = pc') (k : own_G p.tables e below P T (mkF m pc' Ls (rest))) : own_G p.tables e below P T (mkF m pc Ls (.null :: rest)) := by
  exact own_go (fun t q => XS.ifnullYes X.here hx rfl (pc0 := pc) (pc' := pc') rfl hd rfl ho hp q) k
theorem own_ifnonnullYes (X : Stand p l e R s m args below meth c T locs cells slots) (hx : p.tables.exec = Jvm.exec) {pc pc' : Nat} {Ls : Array Slot} {b : Addr} {rest : List Value} {o : Int} (hd : decode c.code pc = .ok (.ifnonnull o, 3)) (ho : 0 ≤ (pc : Int) + o) (hp : ((pc : Int) + o).toNat = pc') (k : own_G p.tables e below P T (mkF m pc' Ls (rest))) : own_G p.tables e below P T (mkF m pc Ls (.ref b :: rest)) := by
  exact own_go (fun t q => XS.ifnonnullYes X.here hx rfl (pc0 := pc) (pc' := pc') rfl hd rfl ho hp q) k
theorem own_ifNo (X : Stand p l e R s m args below meth c T locs cells slots) (hx : p.tables.exec = Jvm.exec) {pc pc' : Nat} {Ls : Array Slot} {cd : ClassFile.Cond} {o : Int} {x : Int32} {rest : List Value} (hd : decode c.code pc = .ok (.ifCond cd o, 3)) (hc : if_icmp.holds cd x 0 = false) (hp : pc + 3 = pc') (k : own_G p.tables e below P T (mkF m pc' Ls (rest))) : own_G p.tables e below P T (mkF m pc Ls (.int x :: rest)) := by
  subst hp; exact own_go (fun t q => XS.ifNo X.here hx rfl hd rfl ((if0 _ _).trans hc) q) k
theorem own_icmpNo (X : Stand p l e R s m args below meth c T locs cells slots) (hx : p.tables.exec = Jvm.exec) {pc pc' : Nat} {Ls : Array Slot} {cd : ClassFile.Cond} {o : Int} {x y : Int32} {rest : List Value} (hd : decode c.code pc = .ok (.if_icmp cd o, 3)) (hc : if_icmp.holds cd x y = false) (hp : pc + 3 = pc') (k : own_G p.tables e below P T (mkF m pc' Ls (rest))) : own_G p.tables e below P T (mkF m pc Ls (.int y :: .int x :: rest)) := by
  subst hp; exact own_go (fun t q => XS.icmpNo X.here hx rfl hd rfl hc q) k
theorem own_ifnullNo (X : Stand p l e R s m args below meth c T locs cells slots) (hx : p.tables.exec = Jvm.exec) {pc pc' : Nat} {Ls : Array Slot} {o : Int} {b : Addr} {rest : List Value} (hd : decode c.code pc = .ok (.ifnull o, 3)) (hp : pc + 3 = pc') (k : own_G p.tables e below P T (mkF m pc' Ls (rest))) : own_G p.tables e below P T (mkF m pc Ls (.ref b :: rest)) := by
  subst hp; exact own_go (fun t q => XS.ifnullNo X.here hx rfl hd rfl q) k
theorem own_ifnonnullNo (X : Stand p l e R s m args below meth c T locs cells slots) (hx : p.tables.exec = Jvm.exec) {pc pc' : Nat} {Ls : Array Slot} {o : Int} {rest : List Value} (hd : decode c.code pc = .ok (.ifnonnull o, 3)) (hp : pc + 3 = pc') (k : own_G p.tables e below P T (mkF m pc' Ls (rest))) : own_G p.tables e below P T (mkF m pc Ls (.null :: rest)) := by
  subst hp; exact own_go (fun t q => XS.ifnonnullNo X.here hx rfl hd rfl q) k
theorem own_acmp (X : Stand p l e R s m args below meth c T locs cells slots) (hx : p.tables.exec = Jvm.exec) {pc pc' : Nat} {Ls : Array Slot} {cd : ACond} {x y : Value} {rest : List Value} {o : Int} (same : Bool) (hd : decode c.code pc = .ok (.if_acmp cd o, 3)) (h1 : x.isRef = true) (h2 : y.isRef = true) (hq : decide (x = y) = same) (ho : 0 ≤ (pc : Int) + o) (hp : pc' = if acV cd same = true then ((pc : Int) + o).toNat else pc + 3) (k : own_G p.tables e below P T (mkF m pc' Ls rest)) : own_G p.tables e below P T (mkF m pc Ls (y :: x :: rest)) := by
  exact own_go (fun t q => Jvm.RoadKit.acmp (g := mkF m pc Ls (y :: x :: rest)) X hx rfl h1 h2 (pc0 := pc) (pc' := pc') rfl hd rfl hq ho hp q) k
theorem own_ldcI (X : Stand p l e R s m args below meth c T locs cells slots) (hx : p.tables.exec = Jvm.exec) {pc pc' : Nat} {Ls : Array Slot} (hZ : Z.Warmed39 s.vm) {own : String} {idx : Nat} {z : Int32} {st : List Value} (hown : s.vm.findClass own = some m.cls) (w : (Jvm.Cond.constant own idx z).before a0 Z = true) (hd : decode c.code pc = .ok (.ldc idx, 2)) (hp : pc + 2 = pc') (k : own_G p.tables e below P T (mkF m pc' Ls (.int z :: st))) : own_G p.tables e below P T (mkF m pc Ls st) := by
  subst hp; exact own_go (X.ldcInt hx hown (mvT hZ w) (g := mkF m pc Ls st) rfl hd) k
theorem own_ldcwI (X : Stand p l e R s m args below meth c T locs cells slots) (hx : p.tables.exec = Jvm.exec) {pc pc' : Nat} {Ls : Array Slot} (hZ : Z.Warmed39 s.vm) {own : String} {idx : Nat} {z : Int32} {st : List Value} (hown : s.vm.findClass own = some m.cls) (w : (Jvm.Cond.constant own idx z).before a0 Z = true) (hd : decode c.code pc = .ok (.ldc_w idx, 3)) (hp : pc + 3 = pc') (k : own_G p.tables e below P T (mkF m pc' Ls (.int z :: st))) : own_G p.tables e below P T (mkF m pc Ls st) := by
  subst hp; exact own_go (X.ldcwInt hx hown (mvT hZ w) (g := mkF m pc Ls st) rfl hd) k
theorem own_ldc2J (X : Stand p l e R s m args below meth c T locs cells slots) (hx : p.tables.exec = Jvm.exec) {pc pc' : Nat} {Ls : Array Slot} (hZ : Z.Warmed39 s.vm) {own : String} {idx : Nat} {z : Int64} {st : List Value} (hown : s.vm.findClass own = some m.cls) (w : (Jvm.Cond.constantLong own idx z).before a0 Z = true) (hd : decode c.code pc = .ok (.ldc2_w idx, 3)) (hp : pc + 3 = pc') (k : own_G p.tables e below P T (mkF m pc' Ls (.long z :: st))) : own_G p.tables e below P T (mkF m pc Ls st) := by
  subst hp; exact own_go (X.ldc2Long hx hown (mvT hZ w) (g := mkF m pc Ls st) rfl hd) k
theorem own_getF (X : Stand p l e R s m args below meth c T locs cells slots) (hx : p.tables.exec = Jvm.exec) {pc pc' : Nat} {Ls : Array Slot} (hZ : Z.Warmed39 s.vm) {own R0 O n d host : String} {idx : Nat} {a : Addr} {v : Value} {rest : List Value} (hown : s.vm.findClass own = some m.cls) (w : (Cond.fieldLink own idx R0 n d).before a0 Z = true ∨ (Cond.fieldLinkNest own idx R0 n d host).before a0 Z = true) (via : Via Z R0 O n d) (eT : T.heap = h) (F : Fld Z h a O n d v) (hd : decode c.code pc = .ok (.getfield idx, 3)) (hp : pc + 3 = pc') (k : ∀ T', Stand p l e R s m args below meth c T' locs cells slots → T'.heap = h → own_G p.tables e below P T' (mkF m pc' Ls (v :: rest))) : own_G p.tables e below P T (mkF m pc Ls (.ref a :: rest)) := by
  subst hp; obtain ⟨T', X', e', st⟩ := getF X hx hZ hown w via eT F (g := mkF m pc Ls (.ref a :: rest)) rfl rfl hd; exact own_go st (k T' X' e')
theorem own_getS (X : Stand p l e R s m args below meth c T locs cells slots) (hx : p.tables.exec = Jvm.exec) {pc pc' : Nat} {Ls : Array Slot} (hZ : Z.Warmed39 s.vm) {own R0 O n d host : String} {idx : Nat} {v : Value} {st : List Value} (hown : s.vm.findClass own = some m.cls) (w : (Cond.fieldLink own idx R0 n d).before a0 Z = true ∨ (Cond.fieldLinkNest own idx R0 n d host).before a0 Z = true) (via : Via Z R0 O n d) (eT : T.heap = h) (F : Sta Z h O n d v) (hd : decode c.code pc = .ok (.getstatic idx, 3)) (hp : pc + 3 = pc') (k : ∀ T', Stand p l e R s m args below meth c T' locs cells slots → T'.heap = h → own_G p.tables e below P T' (mkF m pc' Ls (v :: st))) : own_G p.tables e below P T (mkF m pc Ls st) := by
  subst hp; obtain ⟨T', X', e', stp⟩ := getS2 X hx hZ hown w via eT F (g := mkF m pc Ls st) rfl hd; exact own_go stp (k T' X' e')
theorem own_len (X : Stand p l e R s m args below meth c T locs cells slots) (hx : p.tables.exec = Jvm.exec) {pc pc' : Nat} {Ls : Array Slot} (hZ : Z.Warmed39 s.vm) {a : Addr} {cl : Cell} {ty : FieldType} {z : Int32} {rest : List Value} (eT : T.heap = h) (A : Arr Z h a cl ty) (S : cl.slots.size = z.toNatClampNeg) (M : ¬ z < 0) (hd : decode c.code pc = .ok (.arraylength, 1)) (hp : pc + 1 = pc') (k : own_G p.tables e below P T (mkF m pc' Ls (.int z :: rest))) : own_G p.tables e below P T (mkF m pc Ls (.ref a :: rest)) := by
  subst hp; exact own_go (fun t q => X.arraylength hx (by rw [eT]; exact A.1) (State.isArrayOf_alike hZ.alike A.2.1) (g := mkF m pc Ls (.ref a :: rest)) rfl rfl hd _ (by rw [len_of S M]; exact q)) k
theorem own_iaload (X : Stand p l e R s m args below meth c T locs cells slots) (hx : p.tables.exec = Jvm.exec) {pc pc' : Nat} {Ls : Array Slot} (hZ : Z.Warmed39 s.vm) {a : Addr} {cl : Cell} {j : Int32} {v : Int32} {rest : List Value} (eT : T.heap = h) (A : Arr Z h a cl .int) (hj : ¬ (j < 0 ∨ cl.slots.size ≤ j.toNatClampNeg)) (hv : cl.slots[j.toNatClampNeg]? = some (.int v)) (hd : decode c.code pc = .ok (.iaload, 1)) (hp : pc + 1 = pc') (k : own_G p.tables e below P T (mkF m pc' Ls ((.int v) :: rest))) : own_G p.tables e below P T (mkF m pc Ls (.int j :: .ref a :: rest)) := by
  subst hp; exact own_go (X.iaload hx (j := j) (v := (.int v)) (by rw [eT]; exact A.1) (State.isArrayOf_alike hZ.alike A.2.1) A.2.2 hj hv (g := mkF m pc Ls (.int j :: .ref a :: rest)) rfl rfl hd) k
theorem own_laload (X : Stand p l e R s m args below meth c T locs cells slots) (hx : p.tables.exec = Jvm.exec) {pc pc' : Nat} {Ls : Array Slot} (hZ : Z.Warmed39 s.vm) {a : Addr} {cl : Cell} {j : Int32} {v : Int64} {rest : List Value} (eT : T.heap = h) (A : Arr Z h a cl .long) (hj : ¬ (j < 0 ∨ cl.slots.size ≤ j.toNatClampNeg)) (hv : cl.slots[j.toNatClampNeg]? = some (.long v)) (hd : decode c.code pc = .ok (.laload, 1)) (hp : pc + 1 = pc') (k : own_G p.tables e below P T (mkF m pc' Ls ((.long v) :: rest))) : own_G p.tables e below P T (mkF m pc Ls (.int j :: .ref a :: rest)) := by
  subst hp; exact own_go (X.laload hx (j := j) (v := (.long v)) (by rw [eT]; exact A.1) (State.isArrayOf_alike hZ.alike A.2.1) A.2.2 hj hv (g := mkF m pc Ls (.int j :: .ref a :: rest)) rfl rfl hd) k
theorem own_baload (X : Stand p l e R s m args below meth c T locs cells slots) (hx : p.tables.exec = Jvm.exec) {pc pc' : Nat} {Ls : Array Slot} (hZ : Z.Warmed39 s.vm) {a : Addr} {cl : Cell} {j : Int32} {v : Int32} {rest : List Value} (eT : T.heap = h) (A : Arr Z h a cl .byte) (hj : ¬ (j < 0 ∨ cl.slots.size ≤ j.toNatClampNeg)) (hv : cl.slots[j.toNatClampNeg]? = some (.int v)) (hd : decode c.code pc = .ok (.baload, 1)) (hp : pc + 1 = pc') (k : own_G p.tables e below P T (mkF m pc' Ls ((.int v) :: rest))) : own_G p.tables e below P T (mkF m pc Ls (.int j :: .ref a :: rest)) := by
  subst hp; exact own_go (X.baloadBytes hx (j := j) (v := (.int v)) (by rw [eT]; exact A.1) (State.isArrayOf_alike hZ.alike A.2.1) A.2.2 hj hv (g := mkF m pc Ls (.int j :: .ref a :: rest)) rfl rfl hd) k
theorem own_caload (X : Stand p l e R s m args below meth c T locs cells slots) (hx : p.tables.exec = Jvm.exec) {pc pc' : Nat} {Ls : Array Slot} (hZ : Z.Warmed39 s.vm) {a : Addr} {cl : Cell} {j : Int32} {v : Int32} {rest : List Value} (eT : T.heap = h) (A : Arr Z h a cl .char) (hj : ¬ (j < 0 ∨ cl.slots.size ≤ j.toNatClampNeg)) (hv : cl.slots[j.toNatClampNeg]? = some (.int v)) (hd : decode c.code pc = .ok (.caload, 1)) (hp : pc + 1 = pc') (k : own_G p.tables e below P T (mkF m pc' Ls ((.int v) :: rest))) : own_G p.tables e below P T (mkF m pc Ls (.int j :: .ref a :: rest)) := by
  subst hp; exact own_go (X.caload hx (j := j) (v := (.int v)) (by rw [eT]; exact A.1) (State.isArrayOf_alike hZ.alike A.2.1) A.2.2 hj hv (g := mkF m pc Ls (.int j :: .ref a :: rest)) rfl rfl hd) k
theorem own_aaload (X : Stand p l e R s m args below meth c T locs cells slots) (hx : p.tables.exec = Jvm.exec) {pc pc' : Nat} {Ls : Array Slot} (hZ : Z.Warmed39 s.vm) {a : Addr} {cl : Cell} {ty : FieldType} {j : Int32} {v : Value} {rest : List Value} (eT : T.heap = h) (A : Arr Z h a cl ty) (hty : ty.isReference = true) (hj : ¬ (j < 0 ∨ cl.slots.size ≤ j.toNatClampNeg)) (hv : cl.slots[j.toNatClampNeg]? = some v) (hd : decode c.code pc = .ok (.aaload, 1)) (hp : pc + 1 = pc') (k : own_G p.tables e below P T (mkF m pc' Ls (v :: rest))) : own_G p.tables e below P T (mkF m pc Ls (.int j :: .ref a :: rest)) := by
  subst hp; exact own_go (X.aaload hx (j := j) (v := v) (by rw [eT]; exact A.1) (State.isArrayOf_alike hZ.alike A.2.1) hty A.2.2 hj hv (g := mkF m pc Ls (.int j :: .ref a :: rest)) rfl rfl hd) k
theorem own_stI (X : Stand p l e R s m args below meth c T locs cells slots) (hx : p.tables.exec = Jvm.exec) {pc pc' : Nat} {Ls : Array Slot} (hZ : Z.Warmed39 s.vm) {a : Addr} {cl : Cell} {j : Int32} {x : Int32} {rest : List Value} (eT : T.heap = h) (A : Arr Z h a cl .int) (hj : ¬ (j < 0 ∨ cl.slots.size ≤ j.toNatClampNeg)) (hd : decode c.code pc = .ok (.iastore, 1)) (hp : pc + 1 = pc') (k : ∀ T' h', Stand p l e R s m args below meth c T' (locs ++ [⟨a, j.toNatClampNeg⟩]) cells slots → T'.heap = h' → Wr h h' a j.toNatClampNeg (.int x) → own_G p.tables e below P T' (mkF m pc' Ls rest)) : own_G p.tables e below P T (mkF m pc Ls (.int x :: .int j :: .ref a :: rest)) := by
  subst hp; obtain ⟨T', h', X', e', W', st⟩ := stI X hx hZ eT A (j := j) hj (g := mkF m pc Ls (.int x :: .int j :: .ref a :: rest)) rfl rfl hd; exact own_go st (k T' h' X' e' W')
theorem own_stJ (X : Stand p l e R s m args below meth c T locs cells slots) (hx : p.tables.exec = Jvm.exec) {pc pc' : Nat} {Ls : Array Slot} (hZ : Z.Warmed39 s.vm) {a : Addr} {cl : Cell} {j : Int32} {x : Int64} {rest : List Value} (eT : T.heap = h) (A : Arr Z h a cl .long) (hj : ¬ (j < 0 ∨ cl.slots.size ≤ j.toNatClampNeg)) (hd : decode c.code pc = .ok (.lastore, 1)) (hp : pc + 1 = pc') (k : ∀ T' h', Stand p l e R s m args below meth c T' (locs ++ [⟨a, j.toNatClampNeg⟩]) cells slots → T'.heap = h' → Wr h h' a j.toNatClampNeg (.long x) → own_G p.tables e below P T' (mkF m pc' Ls rest)) : own_G p.tables e below P T (mkF m pc Ls (.long x :: .int j :: .ref a :: rest)) := by
  subst hp; obtain ⟨T', h', X', e', W', st⟩ := stJ X hx hZ eT A (j := j) hj (g := mkF m pc Ls (.long x :: .int j :: .ref a :: rest)) rfl rfl hd; exact own_go st (k T' h' X' e' W')
theorem own_stB (X : Stand p l e R s m args below meth c T locs cells slots) (hx : p.tables.exec = Jvm.exec) {pc pc' : Nat} {Ls : Array Slot} (hZ : Z.Warmed39 s.vm) {a : Addr} {cl : Cell} {j : Int32} {x : Int32} {rest : List Value} (eT : T.heap = h) (A : Arr Z h a cl .byte) (hj : ¬ (j < 0 ∨ cl.slots.size ≤ j.toNatClampNeg)) (hd : decode c.code pc = .ok (.bastore, 1)) (hp : pc + 1 = pc') (k : ∀ T' h', Stand p l e R s m args below meth c T' (locs ++ [⟨a, j.toNatClampNeg⟩]) cells slots → T'.heap = h' → Wr h h' a j.toNatClampNeg (.int (nar .byte x)) → own_G p.tables e below P T' (mkF m pc' Ls rest)) : own_G p.tables e below P T (mkF m pc Ls (.int x :: .int j :: .ref a :: rest)) := by
  subst hp; obtain ⟨T', h', X', e', W', st⟩ := stB X hx hZ eT A (j := j) hj (g := mkF m pc Ls (.int x :: .int j :: .ref a :: rest)) rfl rfl hd; exact own_go st (k T' h' X' e' W')
theorem own_stC (X : Stand p l e R s m args below meth c T locs cells slots) (hx : p.tables.exec = Jvm.exec) {pc pc' : Nat} {Ls : Array Slot} (hZ : Z.Warmed39 s.vm) {a : Addr} {cl : Cell} {j : Int32} {x : Int32} {rest : List Value} (eT : T.heap = h) (A : Arr Z h a cl .char) (hj : ¬ (j < 0 ∨ cl.slots.size ≤ j.toNatClampNeg)) (hd : decode c.code pc = .ok (.castore, 1)) (hp : pc + 1 = pc') (k : ∀ T' h', Stand p l e R s m args below meth c T' (locs ++ [⟨a, j.toNatClampNeg⟩]) cells slots → T'.heap = h' → Wr h h' a j.toNatClampNeg (.int (nar .char x)) → own_G p.tables e below P T' (mkF m pc' Ls rest)) : own_G p.tables e below P T (mkF m pc Ls (.int x :: .int j :: .ref a :: rest)) := by
  subst hp; obtain ⟨T', h', X', e', W', st⟩ := stC X hx hZ eT A (j := j) hj (g := mkF m pc Ls (.int x :: .int j :: .ref a :: rest)) rfl rfl hd; exact own_go st (k T' h' X' e' W')
theorem own_stR (X : Stand p l e R s m args below meth c T locs cells slots) (hx : p.tables.exec = Jvm.exec) {pc pc' : Nat} {Ls : Array Slot} (hZ : Z.Warmed39 s.vm) {a : Addr} {cl : Cell} {j : Int32} {x : Value} {ty : FieldType} {rest : List Value} (eT : T.heap = h) (A : Arr Z h a cl ty) (hj : ¬ (j < 0 ∨ cl.slots.size ≤ j.toNatClampNeg)) (hty : ty.isReference = true) (F : Sto Z h a x) (hd : decode c.code pc = .ok (.aastore, 1)) (hp : pc + 1 = pc') (k : ∀ T' h', Stand p l e R s m args below meth c T' (locs ++ [⟨a, j.toNatClampNeg⟩]) cells slots → T'.heap = h' → Wr h h' a j.toNatClampNeg x → own_G p.tables e below P T' (mkF m pc' Ls rest)) : own_G p.tables e below P T (mkF m pc Ls (x :: .int j :: .ref a :: rest)) := by
  subst hp; obtain ⟨T', h', X', e', W', st⟩ := stR X hx hZ eT A (j := j) hj hty F (g := mkF m pc Ls (x :: .int j :: .ref a :: rest)) rfl rfl hd; exact own_go st (k T' h' X' e' W')
theorem own_putF (X : Stand p l e R s m args below meth c T locs cells slots) (hx : p.tables.exec = Jvm.exec) {pc pc' : Nat} {Ls : Array Slot} (hZ : Z.Warmed39 s.vm) {own R0 O n d host C : String} {idx kk : Nat} {ty : FieldType} {a : Addr} {v old : Value} {rest : List Value} (hown : s.vm.findClass own = some m.cls) (w : (Cond.fieldLink own idx R0 n d).before a0 Z = true ∨ (Cond.fieldLinkNest own idx R0 n d host).before a0 Z = true) (via : Via Z R0 O n d) (eT : T.heap = h) (F : Fld Z h a O n d old) (E : Exa Z h a C) (L : (Cond.lays C O n d).before a0 Z = true ∨ ((Cond.laysFinal C O n d).before a0 Z = true ∧ own = O ∧ meth.name = "<init>")) (wi : (Cond.instantiable C kk).before a0 Z = true) (hty : parseFieldDescriptor d = some ty) (hn : narrow ty v = v) (hf : fits ty v = true) (hd : decode c.code pc = .ok (.putfield idx, 3)) (hp : pc + 3 = pc') (k : ∀ T' h', Stand p l e R s m args below meth c T' (locs ++ [⟨a, Jvm.RoadKit.slotOf Z O n d⟩]) cells slots → T'.heap = h' → Wr h h' a (Jvm.RoadKit.slotOf Z O n d) v → own_G p.tables e below P T' (mkF m pc' Ls rest)) : own_G p.tables e below P T (mkF m pc Ls (v :: .ref a :: rest)) := by
  subst hp; obtain ⟨T', h', X', e', W', st⟩ := putF X hx hZ hown w via eT F E L wi hty hn hf (g := mkF m pc Ls (v :: .ref a :: rest)) rfl rfl hd; exact own_go st (k T' h' X' e' W')
theorem own_putFN (X : Stand p l e R s m args below meth c T locs cells slots) (hx : p.tables.exec = Jvm.exec) {pc pc' : Nat} {Ls : Array Slot} (hZ : Z.Warmed39 s.vm) {own R0 O n d C : String} {idx kk : Nat} {ty : FieldType} {a : Addr} {v old : Value} (v' : Value) {rest : List Value} (hown : s.vm.findClass own = some m.cls) (w : (Cond.fieldLink own idx R0 n d).before a0 Z = true) (via : Via Z R0 O n d) (eT : T.heap = h) (F : Fld Z h a O n d old) (E : Exa Z h a C) (L : (Cond.lays C O n d).before a0 Z = true ∨ ((Cond.laysFinal C O n d).before a0 Z = true ∧ own = O ∧ meth.name = "<init>")) (wi : (Cond.instantiable C kk).before a0 Z = true) (hty : parseFieldDescriptor d = some ty) (hn : narrow ty v = v') (hf : fits ty v' = true) (hd : decode c.code pc = .ok (.putfield idx, 3)) (hp : pc + 3 = pc') (k : ∀ T' h', Stand p l e R s m args below meth c T' (locs ++ [⟨a, Jvm.RoadKit.slotOf Z O n d⟩]) cells slots → T'.heap = h' → Wr h h' a (Jvm.RoadKit.slotOf Z O n d) v' → own_G p.tables e below P T' (mkF m pc' Ls rest)) : own_G p.tables e below P T (mkF m pc Ls (v :: .ref a :: rest)) := by
  subst hp; obtain ⟨T', h', X', e', W', st⟩ := putFN X hx hZ hown w via eT F E L wi hty hn hf (g := mkF m pc Ls (v :: .ref a :: rest)) rfl rfl hd; exact own_go st (k T' h' X' e' W')
theorem own_new (X : Stand p l e R s m args below meth c T locs cells slots) (hx : p.tables.exec = Jvm.exec) {pc pc' : Nat} {Ls : Array Slot} (hZ : Z.Warmed39 s.vm) {own C : String} {idx n : Nat} {st : List Value} (hown : s.vm.findClass own = some m.cls) (w : (Cond.classLink own idx C).before a0 Z = true) (wi : (Cond.instantiable C n).before a0 Z = true) (wz : (Cond.initialized C).before a0 Z = true) (eT : T.heap = h) (hd : decode c.code pc = .ok (.new idx, 3)) (hc : cells + 1 ≤ R.cells) (hl : slots + n ≤ R.slots) (hp : pc + 3 = pc') (k : ∀ T' h' b, b = h.size → Stand p l e R s m args below meth c T' locs (cells + 1) (slots + n) → T'.heap = h' → Ext h h' → Exa Z h' b C → (∀ {O nm d : String} {ty : FieldType}, Laid Z a0 C O nm d → parseFieldDescriptor d = some ty → Fld Z h' b O nm d (defaultValue ty)) → own_G p.tables e below P T' (mkF m pc' Ls (.ref b :: st))) : own_G p.tables e below P T (mkF m pc Ls st) := by
  subst hp; obtain ⟨T', h', X', e', E', A', D', -, stp⟩ := newO X hx hZ hown w wi wz eT (g := mkF m pc Ls st) rfl hd hc hl; exact own_go stp (k T' h' _ rfl X' e' E' A' D')
theorem own_newP (X : Stand p l e R s m args below meth c T locs cells slots) (hx : p.tables.exec = Jvm.exec) {pc pc' : Nat} {Ls : Array Slot} (hZ : Z.Warmed39 s.vm) {aty : ArrayType} {z : Int32} {rest : List Value} (w : (Cond.arrayClass (newarray.typeOf aty)).before a0 Z = true) (eT : T.heap = h) (hd : decode c.code pc = .ok (.newarray aty, 2)) (hn : ¬ z < 0) (cap : Nat) (hcap : z.toNatClampNeg ≤ cap) (hb : cap * 8 ≤ 536870912) (hc : cells + 1 ≤ R.cells) (hl : slots + cap ≤ R.slots) (hp : pc + 2 = pc') (k : ∀ T' h' cA b, b = h.size → Stand p l e R s m args below meth c T' locs (cells + 1) (slots + cap) → T'.heap = h' → Ext h h' → Arr Z h' b (newA cA (newarray.typeOf aty) z) (newarray.typeOf aty) → own_G p.tables e below P T' (mkF m pc' Ls (.ref b :: rest))) : own_G p.tables e below P T (mkF m pc Ls (.int z :: rest)) := by
  subst hp; obtain ⟨T', h', cA, X', e', E', A', stp⟩ := newP X hx hZ w eT (g := mkF m pc Ls (.int z :: rest)) rfl hd rfl hn hcap hb hc hl; exact own_go stp (k T' h' cA _ rfl X' e' E' A')
theorem own_newR (X : Stand p l e R s m args below meth c T locs cells slots) (hx : p.tables.exec = Jvm.exec) {pc pc' : Nat} {Ls : Array Slot} (hZ : Z.Warmed39 s.vm) {own C : String} {idx : Nat} {z : Int32} {rest : List Value} (hown : s.vm.findClass own = some m.cls) (w1 : (Cond.classLink own idx C).before a0 Z = true) (w2 : (Cond.arrayOver (.object C)).before a0 Z = true) (eT : T.heap = h) (hd : decode c.code pc = .ok (.anewarray idx, 3)) (hn : ¬ z < 0) (cap : Nat) (hcap : z.toNatClampNeg ≤ cap) (hb : cap * 8 ≤ 536870912) (hc : cells + 1 ≤ R.cells) (hl : slots + cap ≤ R.slots) (hp : pc + 3 = pc') (k : ∀ T' h' cA b, b = h.size → Stand p l e R s m args below meth c T' locs (cells + 1) (slots + cap) → T'.heap = h' → Ext h h' → Arr Z h' b (newA cA (.object C) z) (.object C) → Ovr Z cA C → own_G p.tables e below P T' (mkF m pc' Ls (.ref b :: rest))) : own_G p.tables e below P T (mkF m pc Ls (.int z :: rest)) := by
  subst hp; obtain ⟨T', h', cA, X', e', E', A', O', stp⟩ := newR X hx hZ hown w1 w2 eT (g := mkF m pc Ls (.int z :: rest)) rfl hd rfl hn hcap hb hc hl; exact own_go stp (k T' h' cA _ rfl X' e' E' A' O')
theorem own_initO (X : Stand p l e R s m args below meth c T locs cells slots) (hx : p.tables.exec = Jvm.exec) {pc pc' : Nat} {Ls : Array Slot} (hZ : Z.Warmed39 s.vm) {own : String} {idx : Nat} {a : Addr} {rest : List Value} (hown : s.vm.findClass own = some m.cls) (w1 : (Cond.methodLink own idx Lib.objectInit).before a0 Z = true) (w2 : (Cond.instanceMethod Lib.objectInit).before a0 Z = true) (w3 : (Cond.code Lib.objectInit ⟨#[0xb1]⟩ 1 none).before a0 Z = true) (eT : T.heap = h) (hsz : Ls.size = c.maxLocals) (hd : decode c.code pc = .ok (.invokespecial idx, 3)) (hf : 1 ≤ R.frames) (W : Nat) (hW : 2 * 0 + (rest.map fun v => v.category).sum ≤ W) (hl : W + 12 ≤ R.locals) (hp : pc + 3 = pc') (k : ∀ T', Stand p l e R s m args below meth c T' locs cells slots → T'.heap = h → own_G p.tables e below P T' (mkF m pc' Ls rest)) : own_G p.tables e below P T (mkF m pc Ls (.ref a :: rest)) := by
  subst hp; obtain ⟨T', X', e', st⟩ := initO X hx hZ hown w1 w2 w3 eT (g := mkF m pc Ls (.ref a :: rest)) rfl hsz rfl hd hf hW hl; exact own_go st (k T' X' e')
theorem own_callS (X : Stand p l e R s m args below meth c T locs cells slots) (hx : p.tables.exec = Jvm.exec) {pc pc' : Nat} {Ls : Array Slot} (hZ : Z.Warmed39 s.vm) {own : String} {idx : Nat} {y : MethodName} {bytes : ByteArray} {maxL : Nat} {ret : Option FieldType} {rm : Room} {as' : Array Value} {Q : Option Value → Heap → List Loc → Prop} (hown : s.vm.findClass own = some m.cls) (w1 : (Cond.methodLink own idx y).before a0 Z = true) (w2 : (Cond.static y).before a0 Z = true) (w3 : (Cond.initialized y.cls).before a0 Z = true) (w4 : (Cond.code y bytes maxL ret).before a0 Z = true) (hy : y.cls ≠ "java/lang/invoke/MethodHandle" ∧ y.cls ≠ "java/lang/invoke/VarHandle") (hM : MetFree l y (head1 [Cond.code y bytes maxL ret] rm) (fun a U => a = as' ∧ Z.Warmed39 U.vm ∧ U.heap = h) (fun _ _ _ _ _ => True) (fun _ U o U' => ∃ v L, o = .returned v ∧ Q v U'.heap L ∧ FrameEnd U o U' L rm.cells rm.slots)) (eT : T.heap = h) (W : Nat) (hf : rm.frames + 1 ≤ R.frames) (hl : W + (maxL + 11) + rm.locals ≤ R.locals) (hc : cells + rm.cells ≤ R.cells) (hsl : slots + rm.slots ≤ R.slots) {st : List Value} (argsL rest : List Value) (hsz : Ls.size = c.maxLocals) (hlen : ∀ sig, parseMethodDescriptor y.desc = some sig → argsL.length = sig.parameters.length) (has : argsL.toArray = as') (hst : st = argsL.reverse ++ rest) (hW : 2 * 0 + (rest.map fun v => v.category).sum ≤ W) (hd : decode c.code pc = .ok (.invokestatic idx, 3)) (hp : pc + 3 = pc') (k : ∀ v T' L, Stand p l e R s m args below meth c T' (locs ++ L) (cells + rm.cells) (slots + rm.slots) → Q v T'.heap L → own_G p.tables e below P T' (mkF m pc' Ls (v.toList ++ rest))) : own_G p.tables e below P T (mkF m pc Ls st) := by
  subst hp
  obtain ⟨v, vm, ⟨T', L', k', n'⟩, -, X', ⟨L, hQ, l', y', z'⟩, stp⟩ := Jvm.LawKit.callS X hx (y := y) hown (mvT hZ w1) (mvT hZ w2) (mvT hZ w3) (mvT hZ w4) hy (backOf (W := W) hM hZ w4 w3 hf hl) (g := mkF m pc Ls st) rfl hsz (argsL := argsL) (rest := rest) hlen hst hW hd (fun _ _ => ⟨has, eT, hc, hsl⟩)
  dsimp only [Pt.U, Pt.locs, Pt.cells, Pt.slots] at X' l' y' z' stp hQ
  subst l' y' z'
  exact own_go stp (k v T' L X' hQ)
theorem own_callV (X : Stand p l e R s m args below meth c T locs cells slots) (hx : p.tables.exec = Jvm.exec) {pc pc' : Nat} {Ls : Array Slot} (hZ : Z.Warmed39 s.vm) {own C : String} {idx : Nat} {y : MethodName} {bytes : ByteArray} {maxL : Nat} {ret : Option FieldType} {rm : Room} {as' : Array Value} {Q : Option Value → Heap → List Loc → Prop} (hown : s.vm.findClass own = some m.cls) (w1 : (Cond.methodLink own idx y).before a0 Z = true) (w2 : (Cond.instanceMethod y).before a0 Z = true) (w3 : (Cond.selects C y y).before a0 Z = true) (w4 : (Cond.code y bytes maxL ret).before a0 Z = true) (w5 : (Cond.initialized y.cls).before a0 Z = true) (hy : y.cls ≠ "java/lang/invoke/MethodHandle" ∧ y.cls ≠ "java/lang/invoke/VarHandle") (hM : MetFree l y (head1 [Cond.code y bytes maxL ret] rm) (fun a U => a = as' ∧ Z.Warmed39 U.vm ∧ U.heap = h) (fun _ _ _ _ _ => True) (fun _ U o U' => ∃ v L, o = .returned v ∧ Q v U'.heap L ∧ FrameEnd U o U' L rm.cells rm.slots)) (eT : T.heap = h) {b : Addr} (E : Exa Z h b C) (W : Nat) (hf : rm.frames + 1 ≤ R.frames) (hl : W + (maxL + 11) + rm.locals ≤ R.locals) (hc : cells + rm.cells ≤ R.cells) (hsl : slots + rm.slots ≤ R.slots) {st : List Value} (argsL rest : List Value) (hsz : Ls.size = c.maxLocals) (hlen : ∀ sig, parseMethodDescriptor y.desc = some sig → argsL.length = sig.parameters.length) (has : (Value.ref b :: argsL).toArray = as') (hst : st = argsL.reverse ++ .ref b :: rest) (hW : 2 * 0 + (rest.map fun v => v.category).sum ≤ W) (hd : decode c.code pc = .ok (.invokevirtual idx, 3)) (hp : pc + 3 = pc') (k : ∀ v T' L, Stand p l e R s m args below meth c T' (locs ++ L) (cells + rm.cells) (slots + rm.slots) → Q v T'.heap L → own_G p.tables e below P T' (mkF m pc' Ls (v.toList ++ rest))) : own_G p.tables e below P T (mkF m pc Ls st) := by
  subst hp
  obtain ⟨cell, kc, q1, q2, q3, q4, -⟩ := E
  obtain ⟨v, vm, ⟨T', L', k', n'⟩, -, X', ⟨L, hQ, l', y', z'⟩, stp⟩ := Jvm.LawKit.callV X hx (y := y) (C := C) hown (mvT hZ w1) (mvT hZ w2) (mvT hZ w3) (mvT hZ w4) hy (backOf (W := W) hM hZ w4 w5 hf hl) (b := b) (cellB := cell) (by rw [eT]; exact q1) q4 (by rw [hZ.alike.findClass]; exact q2) (g := mkF m pc Ls st) rfl hsz (argsL := argsL) (rest := rest) hlen hst hW hd (fun _ _ => ⟨has, eT, hc, hsl⟩)
  dsimp only [Pt.U, Pt.locs, Pt.cells, Pt.slots] at X' l' y' z' stp hQ
  subst l' y' z'
  exact own_go stp (k v T' L X' hQ)
theorem own_callI (X : Stand p l e R s m args below meth c T locs cells slots) (hx : p.tables.exec = Jvm.exec) {pc pc' : Nat} {Ls : Array Slot} (hZ : Z.Warmed39 s.vm) {own : String} {idx : Nat} {y : MethodName} {bytes : ByteArray} {maxL : Nat} {rm : Room} {as' : Array Value} {Q : Option Value → Heap → List Loc → Prop} (hy1 : y.name = "<init>") (hown : s.vm.findClass own = some m.cls) (w1 : (Cond.methodLink own idx y).before a0 Z = true) (w2 : (Cond.instanceMethod y).before a0 Z = true) (w4 : (Cond.code y bytes maxL none).before a0 Z = true) (w5 : (Cond.initialized y.cls).before a0 Z = true) (hy : y.cls ≠ "java/lang/invoke/MethodHandle" ∧ y.cls ≠ "java/lang/invoke/VarHandle") (hM : MetFree l y (head1 [Cond.code y bytes maxL none] rm) (fun a U => a = as' ∧ Z.Warmed39 U.vm ∧ U.heap = h) (fun _ _ _ _ _ => True) (fun _ U o U' => ∃ v L, o = .returned v ∧ Q v U'.heap L ∧ FrameEnd U o U' L rm.cells rm.slots)) (eT : T.heap = h) {b : Addr} (W : Nat) (hf : rm.frames + 1 ≤ R.frames) (hl : W + (maxL + 11) + rm.locals ≤ R.locals) (hc : cells + rm.cells ≤ R.cells) (hsl : slots + rm.slots ≤ R.slots) {st : List Value} (argsL rest : List Value) (hsz : Ls.size = c.maxLocals) (hlen : ∀ sig, parseMethodDescriptor y.desc = some sig → argsL.length = sig.parameters.length) (has : (Value.ref b :: argsL).toArray = as') (hst : st = argsL.reverse ++ .ref b :: rest) (hW : 2 * 0 + (rest.map fun v => v.category).sum ≤ W) (hd : decode c.code pc = .ok (.invokespecial idx, 3)) (hp : pc + 3 = pc') (k : ∀ v T' L, Stand p l e R s m args below meth c T' (locs ++ L) (cells + rm.cells) (slots + rm.slots) → Q v T'.heap L → own_G p.tables e below P T' (mkF m pc' Ls (v.toList ++ rest))) : own_G p.tables e below P T (mkF m pc Ls st) := by
  subst hp
  obtain ⟨v, vm, ⟨T', L', k', n'⟩, -, X', ⟨L, hQ, l', y', z'⟩, stp⟩ := Jvm.LawKit.callI X hx (y := y) hown hy1 (mvT hZ w1) (mvT hZ w2) (mvT hZ w4) hy (backOf (W := W) hM hZ w4 w5 hf hl) (g := mkF m pc Ls st) rfl hsz (a := b) (argsL := argsL) (rest := rest) hlen hst hW hd (fun _ _ => ⟨has, eT, hc, hsl⟩)
  dsimp only [Pt.U, Pt.locs, Pt.cells, Pt.slots] at X' l' y' z' stp hQ
  subst l' y' z'
  exact own_go stp (k v T' L X' hQ)
theorem own_fldI {u : Term} {C n d : String} {x : Addr} {z : Int32} (ht : u.eval args s none [] s = some (.ref x)) (hq : (Jvm.Cond.eq (.field u C n d) (.int z)).value args s none s [] = some true) : Fld s s.heap x C n d (.int z) :=
  Fld.start ((fld_at ht).symm.trans (Cond.eq_int (Cond.before_iff.mpr hq) rfl))
theorem own_fldR {u t : Term} {C n d : String} {x y : Addr} (ht : u.eval args s none [] s = some (.ref x)) (hu : t.eval args s none [] s = some (.ref y)) (hq : (Jvm.Cond.eq (.field u C n d) t).value args s none s [] = some true) : Fld s s.heap x C n d (.ref y) :=
  Fld.start ((fld_at ht).symm.trans (Cond.eq_refs (Cond.before_iff.mpr hq) hu rfl))
theorem own_none {u : Term} {x : Addr} {cl : Cell} (A : Arr s s.heap x cl .int) (ht : u.eval args s none [] s = some (.ref x)) (hq : (Jvm.Cond.eq (.length u) (.int 0)).value args s none s [] = some true) : Arv s s.heap x cl.cls .int (0 : Int32) [] (.int (0 : Int32)) := by
  have e1 := Cond.eq_int (Cond.before_iff.mpr hq) (n := 0) rfl
  obtain ⟨sd, SA, hev, harrAt, -⟩ := Term.length_spec e1
  have h31 := SBG.length_lt hev harrAt e1
  cases ht.symm.trans hev
  cases (Arr.fin (Vm.Alike.refl _) A).symm.trans harrAt
  have e2 := len_f ht harrAt h31
  have e3 : cl.slots.size.toInt32 = (0 : Int32) := by simpa using Option.some.inj (e2.symm.trans e1)
  have e4 : cl.slots.size = 0 := by
    have e5 := congrArg Int32.toInt e3
    rw [len_toInt h31] at e5
    have e6 : ((0 : Int32)).toInt = 0 := by decide
    omega
  exact ⟨cl, A, rfl, e4, by decide, fun k hk => by omega, fun i hi => by omega⟩
end OwnKit
def own_lv (q : Int64) : Int32 := if q < (-1 : Int64) then 0 else if (1000000000000000 : Int64) < q then 0 else 1
theorem own_l1 : (-1 : Int64).toInt = -1 := by decide
theorem own_l2 : (0 : Int64).toInt = 0 := by decide
theorem own_l3 : (1000000000000000 : Int64).toInt = 1000000000000000 := by decide
theorem d1_0 : decode prog_26_method_2_code 0 = .ok (.lload_n 0, 1) := by decide +kernel
theorem d1_1 : decode prog_26_method_2_code 1 = .ok (.ldc2_w 9, 3) := by decide +kernel
theorem d1_4 : decode prog_26_method_2_code 4 = .ok (.lcmp, 1) := by decide +kernel
theorem d1_5 : decode prog_26_method_2_code 5 = .ok (.ifCond .lt 15, 3) := by decide +kernel
theorem d1_8 : decode prog_26_method_2_code 8 = .ok (.lload_n 0, 1) := by decide +kernel
theorem d1_9 : decode prog_26_method_2_code 9 = .ok (.ldc2_w 11, 3) := by decide +kernel
theorem d1_12 : decode prog_26_method_2_code 12 = .ok (.lcmp, 1) := by decide +kernel
theorem d1_13 : decode prog_26_method_2_code 13 = .ok (.ifCond .gt 7, 3) := by decide +kernel
theorem d1_16 : decode prog_26_method_2_code 16 = .ok (.iconst 1, 1) := by decide +kernel
theorem d1_17 : decode prog_26_method_2_code 17 = .ok (.goto 4, 3) := by decide +kernel
theorem d1_20 : decode prog_26_method_2_code 20 = .ok (.iconst 0, 1) := by decide +kernel
theorem d1_21 : decode prog_26_method_2_code 21 = .ok (.ireturn, 1) := by decide +kernel
def Q1 (q1 : Int64) (h0 : Heap) (n0 : Nat) (v : Option Value) (h : Heap) (L : List Loc) : Prop := v = some (.int (own_lv q1)) ∧ Fr n0 L ∧ h = h0
theorem ef_rm1 (m : MethodId) (x0 : Int64) : entryFrame m #[(.long x0)] 2 = mkF m 0 #[.val (.long x0), .second] [] := by first | (simp [entryFrame, mkF, argsToLocals, Value.category, maxLocals]; done) | rfl
theorem pf_0 : plainFor (⟨"com/example/rhadamanthus/rhadamanthus/model/StockLevels", "isLevel", "(J)Z"⟩ : MethodName) = true := by first | exact plainFor_of_name (by simp [plainName, overriddenIn]; done) | exact plainFor_of_name (by decide +kernel) | decide +kernel
theorem W8 {a0 : Array Value} {Z : State} (hw : ∀ d ∈ tables_1, d.before a0 Z = true) : (Jvm.Cond.constantLong "com/example/rhadamanthus/rhadamanthus/model/StockLevels" (9 : Nat) (-1 : Int64)).before a0 Z = true := hw _ (List.mem_of_getElem? (i := 8) rfl)
theorem W9 {a0 : Array Value} {Z : State} (hw : ∀ d ∈ tables_1, d.before a0 Z = true) : (Jvm.Cond.constantLong "com/example/rhadamanthus/rhadamanthus/model/StockLevels" (11 : Nat) (1000000000000000 : Int64)).before a0 Z = true := hw _ (List.mem_of_getElem? (i := 9) rfl)
set_option maxRecDepth 65536 in
set_option maxHeartbeats 40000000 in
theorem rm1 (l : Launch) (Z : State) (a0 : Array Value) (hw : ∀ d ∈ tables_1, d.before a0 Z = true) (ws : List Jvm.Cond) (q1 : Int64) (h0 : Heap) (n0 : Nat) (Z0 : n0 ≤ h0.size)  :
    MetFree l (⟨"com/example/rhadamanthus/rhadamanthus/model/StockLevels", "isLevel", "(J)Z"⟩ : MethodName) (head1 (Jvm.Cond.code (⟨"com/example/rhadamanthus/rhadamanthus/model/StockLevels", "isLevel", "(J)Z"⟩ : MethodName) prog_26_method_2_code 2 (some .boolean) :: ws) ({ frames := 0, cells := 0, slots := 0, locals := 0 } : Room)) (fun a U => a = #[(.long q1)] ∧ Z.Warmed39 U.vm ∧ U.heap = h0) (fun _ _ _ _ _ => True) (fun _ U o U' => ∃ v L, o = .returned v ∧ Q1 q1 h0 n0 v U'.heap L ∧ FrameEnd U o U' L (({ frames := 0, cells := 0, slots := 0, locals := 0 } : Room).cells) (({ frames := 0, cells := 0, slots := 0, locals := 0 } : Room).slots)) := by
  refine own_body pf_0 ?_
  intro p e s m below meth c s₁ hx hby hml hown hnm hlk hret hZ X0 e0
  have N0 : Fr n0 [] := Fr.nil n0
  refine own_go (f' := (mkF m 0 #[.val (.long q1), .second] [])) (fun t k => castTop (ef_rm1 m q1) k) ?_
  refine own_lloadN X0 hx (pc' := 1) (hb hby d1_0) rfl rfl ?_
  refine own_ldc2J X0 hx (pc' := 4) hZ hown (W8 hw) (hb hby d1_1) rfl ?_
  refine own_lcmp X0 hx (pc' := 5) (hb hby d1_4) rfl ?_
  by_cases hc5_1 : q1 < (-1 : Int64)
  · skip
    refine own_ifYes X0 hx (pc' := 20) (hb hby d1_5) (tlt ((lw_lt q1 (-1 : Int64)).mpr hc5_1)).1 (by decide) (by decide) ?_
    refine own_iconst X0 hx (pc' := 21) (0 : Int32) (hb hby d1_20) rfl rfl ?_
    refine own_retN X0 hx hlk hret (by simp) (hb hby d1_21) (by decide) (by decide) ?_
    refine ⟨?_, N0, e0⟩
    simp [own_lv, nar, hc5_1]
  · skip
    refine own_ifNo X0 hx (pc' := 8) (hb hby d1_5) (flt (fun q => hc5_1 ((lw_lt q1 (-1 : Int64)).mp q))).1 rfl ?_
    refine own_lloadN X0 hx (pc' := 9) (hb hby d1_8) rfl rfl ?_
    refine own_ldc2J X0 hx (pc' := 12) hZ hown (W9 hw) (hb hby d1_9) rfl ?_
    refine own_lcmp X0 hx (pc' := 13) (hb hby d1_12) rfl ?_
    by_cases hc13_2 : (1000000000000000 : Int64) < q1
    · skip
      refine own_ifYes X0 hx (pc' := 20) (hb hby d1_13) (tlt ((lw_gt q1 (1000000000000000 : Int64)).mpr hc13_2)).2.2.1 (by decide) (by decide) ?_
      refine own_iconst X0 hx (pc' := 21) (0 : Int32) (hb hby d1_20) rfl rfl ?_
      refine own_retN X0 hx hlk hret (by simp) (hb hby d1_21) (by decide) (by decide) ?_
      refine ⟨?_, N0, e0⟩
      simp [own_lv, nar, hc5_1, hc13_2]
    · skip
      refine own_ifNo X0 hx (pc' := 16) (hb hby d1_13) (flt (fun q => hc13_2 ((lw_gt q1 (1000000000000000 : Int64)).mp q))).2.2.1 rfl ?_
      refine own_iconst X0 hx (pc' := 17) (1 : Int32) (hb hby d1_16) rfl rfl ?_
      refine own_goto X0 hx (pc' := 21) (hb hby d1_17) (by decide) (by decide) ?_
      refine own_retN X0 hx hlk hret (by simp) (hb hby d1_21) (by decide) (by decide) ?_
      refine ⟨?_, N0, e0⟩
      simp [own_lv, nar, hc5_1, hc13_2]

def Q0 (n0 : Nat) (v : Option Value) (h : Heap) (L : List Loc) : Prop := v = some (.int 1) ∧ Fr n0 L
theorem ef_rm0 (m : MethodId) (x0 : Int64) (x1 : Int32) : entryFrame m #[(.long x0), (.int x1)] maxLocals = mkF m 0 #[.val (.long x0), .second, .val (.int x1), .unset, .unset, .unset, .unset] [] := by first | (simp [entryFrame, mkF, argsToLocals, Value.category, maxLocals]; done) | rfl
theorem pf_1 : plainFor (⟨"com/example/rhadamanthus/rhadamanthus/model/StockLevelsIsLevelPinLaw", "law", "(JI)Z"⟩ : MethodName) = true := by first | exact plainFor_of_name (by simp [plainName, overriddenIn]; done) | exact plainFor_of_name (by decide +kernel) | decide +kernel
theorem W2 {a0 : Array Value} {Z : State} (hw : ∀ d ∈ tables_1, d.before a0 Z = true) : (Jvm.Cond.constantLong "com/example/rhadamanthus/rhadamanthus/model/StockLevelsIsLevelPinLaw" (21 : Nat) (-1 : Int64)).before a0 Z = true := hw _ (List.mem_of_getElem? (i := 2) rfl)
theorem W7 {a0 : Array Value} {Z : State} (hw : ∀ d ∈ tables_1, d.before a0 Z = true) : (Jvm.Cond.code ({ cls := "com/example/rhadamanthus/rhadamanthus/model/StockLevels", name := "isLevel", desc := "(J)Z" } : Jvm.MethodName) prog_26_method_2_code (2 : Nat) (Option.some Jvm.ClassFile.FieldType.boolean)).before a0 Z = true := hw _ (List.mem_of_getElem? (i := 7) rfl)
theorem W6 {a0 : Array Value} {Z : State} (hw : ∀ d ∈ tables_1, d.before a0 Z = true) : (Jvm.Cond.initialized "com/example/rhadamanthus/rhadamanthus/model/StockLevels").before a0 Z = true := hw _ (List.mem_of_getElem? (i := 6) rfl)
theorem pd_0 : parseMethodDescriptor "(J)Z" = some ⟨[.long], some .boolean⟩ := by decide +kernel
theorem W4 {a0 : Array Value} {Z : State} (hw : ∀ d ∈ tables_1, d.before a0 Z = true) : (Jvm.Cond.methodLink "com/example/rhadamanthus/rhadamanthus/model/StockLevelsIsLevelPinLaw" (25 : Nat) ({ cls := "com/example/rhadamanthus/rhadamanthus/model/StockLevels", name := "isLevel", desc := "(J)Z" } : Jvm.MethodName)).before a0 Z = true := hw _ (List.mem_of_getElem? (i := 4) rfl)
theorem W5 {a0 : Array Value} {Z : State} (hw : ∀ d ∈ tables_1, d.before a0 Z = true) : (Jvm.Cond.static ({ cls := "com/example/rhadamanthus/rhadamanthus/model/StockLevels", name := "isLevel", desc := "(J)Z" } : Jvm.MethodName)).before a0 Z = true := hw _ (List.mem_of_getElem? (i := 5) rfl)
theorem W3 {a0 : Array Value} {Z : State} (hw : ∀ d ∈ tables_1, d.before a0 Z = true) : (Jvm.Cond.constantLong "com/example/rhadamanthus/rhadamanthus/model/StockLevelsIsLevelPinLaw" (23 : Nat) (1000000000000000 : Int64)).before a0 Z = true := hw _ (List.mem_of_getElem? (i := 3) rfl)
theorem W12 {a0 : Array Value} {Z : State} (hw : ∀ d ∈ tables_1, d.before a0 Z = true) : (Jvm.Cond.constantLong "com/example/rhadamanthus/rhadamanthus/model/StockLevelsIsLevelPinLaw" (7 : Nat) (-4 : Int64)).before a0 Z = true := hw _ (List.mem_of_getElem? (i := 12) rfl)
theorem W1 {a0 : Array Value} {Z : State} (hw : ∀ d ∈ tables_1, d.before a0 Z = true) : (Jvm.Cond.constantLong "com/example/rhadamanthus/rhadamanthus/model/StockLevelsIsLevelPinLaw" (9 : Nat) (7 : Int64)).before a0 Z = true := hw _ (List.mem_of_getElem? (i := 1) rfl)
theorem W0 {a0 : Array Value} {Z : State} (hw : ∀ d ∈ tables_1, d.before a0 Z = true) : (Jvm.Cond.constantLong "com/example/rhadamanthus/rhadamanthus/model/StockLevelsIsLevelPinLaw" (11 : Nat) (999999999999996 : Int64)).before a0 Z = true := hw _ (List.mem_of_getElem? (i := 0) rfl)
theorem W13 {a0 : Array Value} {Z : State} (hw : ∀ d ∈ tables_1, d.before a0 Z = true) : (Jvm.Cond.constantLong "com/example/rhadamanthus/rhadamanthus/model/StockLevelsIsLevelPinLaw" (15 : Nat) (-9223372036854775808 : Int64)).before a0 Z = true := hw _ (List.mem_of_getElem? (i := 13) rfl)
theorem W11 {a0 : Array Value} {Z : State} (hw : ∀ d ∈ tables_1, d.before a0 Z = true) : (Jvm.Cond.constantLong "com/example/rhadamanthus/rhadamanthus/model/StockLevelsIsLevelPinLaw" (17 : Nat) (255 : Int64)).before a0 Z = true := hw _ (List.mem_of_getElem? (i := 11) rfl)
theorem W10 {a0 : Array Value} {Z : State} (hw : ∀ d ∈ tables_1, d.before a0 Z = true) : (Jvm.Cond.constantLong "com/example/rhadamanthus/rhadamanthus/model/StockLevelsIsLevelPinLaw" (19 : Nat) (9223372036854775807 : Int64)).before a0 Z = true := hw _ (List.mem_of_getElem? (i := 10) rfl)
set_option maxRecDepth 65536 in
set_option maxHeartbeats 40000000 in
theorem rm0 (l : Launch) (Z : State) (a0 : Array Value) (hw : ∀ d ∈ tables_1, d.before a0 Z = true) (ws : List Jvm.Cond) (p0 : Int64) (p1 : Int32) (h0 : Heap) (n0 : Nat) (Z0 : n0 ≤ h0.size)  :
    MetFree l x (head1 (Jvm.Cond.code x code maxLocals ret :: ws) room_1) (fun a U => a = #[(.long p0), (.int p1)] ∧ Z.Warmed39 U.vm ∧ U.heap = h0) (fun _ _ _ _ _ => True) (fun _ U o U' => ∃ v L, o = .returned v ∧ Q0 n0 v U'.heap L ∧ FrameEnd U o U' L 0 0) := by
  refine own_body pf_1 ?_
  intro p e s m below meth c s₁ hx hby hml hown hnm hlk hret hZ X0 e0
  have N0 : Fr n0 [] := Fr.nil n0
  refine own_go (f' := (mkF m 0 #[.val (.long p0), .second, .val (.int p1), .unset, .unset, .unset, .unset] [])) (fun t k => castTop (ef_rm0 m p0 p1) k) ?_
  have J83 : ∀ v : Int64, own_G p.tables e below (own_P s (Q0 n0) 0 0) s₁ (mkF m 83 #[.val (.long p0), .second, .val (.int p1), .val (.long v), .second, .val (.int (p1 &&& (3 : Int32))), .unset] []) := by
    intro v
    refine own_lloadN X0 hx (pc' := 84) (hb hby at_83) rfl rfl ?_
    refine own_ldc2J X0 hx (pc' := 87) hZ hown (W2 hw) (hb hby at_84) rfl ?_
    refine own_lcmp X0 hx (pc' := 88) (hb hby at_87) rfl ?_
    by_cases hc88_1 : v = (-1 : Int64)
    · skip
      refine own_ifYes X0 hx (pc' := 105) (hb hby at_88) (teq ((lw_eq v (-1 : Int64)).mpr hc88_1)).1 (by decide) (by decide) ?_
      refine own_iconst X0 hx (pc' := 106) (1 : Int32) (hb hby at_105) rfl rfl ?_
      refine own_goto X0 hx (pc' := 110) (hb hby at_106) (by decide) (by decide) ?_
      refine own_istore X0 hx (pc' := 112) (Ls' := #[.val (.long p0), .second, .val (.int p1), .val (.long v), .second, .val (.int (p1 &&& (3 : Int32))), .val (.int (1 : Int32))]) (hb hby at_110) rfl rfl ?_
      refine own_lloadN X0 hx (pc' := 113) (hb hby at_112) rfl rfl ?_
      refine own_callS X0 hx (pc' := 116) hZ hown (W4 hw) (W5 hw) (W6 hw) (W7 hw) (by decide) (rm1 l Z a0 hw [] v h0 n0 Z0) e0 0 (by decide) (by decide) (by decide) (by decide) [(.long v)] [] (by rw [hml]; rfl) (lenOf pd_0 rfl) rfl rfl (Nat.le_of_eq rfl) (hb hby at_113) rfl (fun v2 T2 L2 X2 hQ2 => ?_)
      obtain ⟨rfl, Nq2, e2⟩ := hQ2
      have N3 := Fr.app N0 Nq2
      show own_G p.tables e below _ T2 (mkF m 116 #[.val (.long p0), .second, .val (.int p1), .val (.long v), .second, .val (.int (p1 &&& (3 : Int32))), .val (.int (1 : Int32))] [(.int (own_lv v))])
      have hv2 : own_lv v = (1 : Int32) := by
        have a0 := hc88_1
        simp only [Int32.lt_iff_toInt_lt, Int32.le_iff_toInt_le, Int64.lt_iff_toInt_lt, Int64.le_iff_toInt_le, ← Int32.toInt_inj, ← Int64.toInt_inj, own_l1, own_l2, own_l3] at a0
        unfold own_lv
        simp only [Int32.lt_iff_toInt_lt, Int32.le_iff_toInt_le, Int64.lt_iff_toInt_lt, Int64.le_iff_toInt_le, ← Int32.toInt_inj, ← Int64.toInt_inj, own_l1, own_l2, own_l3]
        repeat' split
        all_goals first | rfl | omega
      refine own_iload X2 hx (pc' := 118) (hb hby at_116) rfl rfl ?_
      refine own_icmpNo X2 hx (pc' := 121) (hb hby at_118) (teq hv2).2 rfl ?_
      refine own_iconst X2 hx (pc' := 122) (1 : Int32) (hb hby at_121) rfl rfl ?_
      refine own_goto X2 hx (pc' := 126) (hb hby at_122) (by decide) (by decide) ?_
      refine own_retN X2 hx hlk hret (by simp) (hb hby at_126) (by decide) (by decide) ?_
      exact ⟨rfl, N3⟩
    · skip
      refine own_ifNo X0 hx (pc' := 91) (hb hby at_88) (feq (fun q => hc88_1 ((lw_eq v (-1 : Int64)).mp q))).1 rfl ?_
      refine own_lloadN X0 hx (pc' := 92) (hb hby at_91) rfl rfl ?_
      refine own_lconst X0 hx (pc' := 93) (0 : Int64) (hb hby at_92) rfl rfl ?_
      refine own_lcmp X0 hx (pc' := 94) (hb hby at_93) rfl ?_
      by_cases hc94_4 : v < (0 : Int64)
      · skip
        refine own_ifYes X0 hx (pc' := 109) (hb hby at_94) (tlt ((lw_lt v (0 : Int64)).mpr hc94_4)).1 (by decide) (by decide) ?_
        refine own_iconst X0 hx (pc' := 110) (0 : Int32) (hb hby at_109) rfl rfl ?_
        refine own_istore X0 hx (pc' := 112) (Ls' := #[.val (.long p0), .second, .val (.int p1), .val (.long v), .second, .val (.int (p1 &&& (3 : Int32))), .val (.int (0 : Int32))]) (hb hby at_110) rfl rfl ?_
        refine own_lloadN X0 hx (pc' := 113) (hb hby at_112) rfl rfl ?_
        refine own_callS X0 hx (pc' := 116) hZ hown (W4 hw) (W5 hw) (W6 hw) (W7 hw) (by decide) (rm1 l Z a0 hw [] v h0 n0 Z0) e0 0 (by decide) (by decide) (by decide) (by decide) [(.long v)] [] (by rw [hml]; rfl) (lenOf pd_0 rfl) rfl rfl (Nat.le_of_eq rfl) (hb hby at_113) rfl (fun v5 T5 L5 X5 hQ5 => ?_)
        obtain ⟨rfl, Nq5, e5⟩ := hQ5
        have N6 := Fr.app N0 Nq5
        show own_G p.tables e below _ T5 (mkF m 116 #[.val (.long p0), .second, .val (.int p1), .val (.long v), .second, .val (.int (p1 &&& (3 : Int32))), .val (.int (0 : Int32))] [(.int (own_lv v))])
        have hv5 : own_lv v = (0 : Int32) := by
          have a0 := hc88_1
          have a1 := hc94_4
          simp only [Int32.lt_iff_toInt_lt, Int32.le_iff_toInt_le, Int64.lt_iff_toInt_lt, Int64.le_iff_toInt_le, ← Int32.toInt_inj, ← Int64.toInt_inj, own_l1, own_l2, own_l3] at a0 a1
          unfold own_lv
          simp only [Int32.lt_iff_toInt_lt, Int32.le_iff_toInt_le, Int64.lt_iff_toInt_lt, Int64.le_iff_toInt_le, ← Int32.toInt_inj, ← Int64.toInt_inj, own_l1, own_l2, own_l3]
          repeat' split
          all_goals first | rfl | omega
        refine own_iload X5 hx (pc' := 118) (hb hby at_116) rfl rfl ?_
        refine own_icmpNo X5 hx (pc' := 121) (hb hby at_118) (teq hv5).2 rfl ?_
        refine own_iconst X5 hx (pc' := 122) (1 : Int32) (hb hby at_121) rfl rfl ?_
        refine own_goto X5 hx (pc' := 126) (hb hby at_122) (by decide) (by decide) ?_
        refine own_retN X5 hx hlk hret (by simp) (hb hby at_126) (by decide) (by decide) ?_
        exact ⟨rfl, N6⟩
      · skip
        refine own_ifNo X0 hx (pc' := 97) (hb hby at_94) (flt (fun q => hc94_4 ((lw_lt v (0 : Int64)).mp q))).1 rfl ?_
        refine own_lloadN X0 hx (pc' := 98) (hb hby at_97) rfl rfl ?_
        refine own_ldc2J X0 hx (pc' := 101) hZ hown (W3 hw) (hb hby at_98) rfl ?_
        refine own_lcmp X0 hx (pc' := 102) (hb hby at_101) rfl ?_
        by_cases hc102_7 : (1000000000000000 : Int64) < v
        · skip
          refine own_ifYes X0 hx (pc' := 109) (hb hby at_102) (tlt ((lw_gt v (1000000000000000 : Int64)).mpr hc102_7)).2.2.1 (by decide) (by decide) ?_
          refine own_iconst X0 hx (pc' := 110) (0 : Int32) (hb hby at_109) rfl rfl ?_
          refine own_istore X0 hx (pc' := 112) (Ls' := #[.val (.long p0), .second, .val (.int p1), .val (.long v), .second, .val (.int (p1 &&& (3 : Int32))), .val (.int (0 : Int32))]) (hb hby at_110) rfl rfl ?_
          refine own_lloadN X0 hx (pc' := 113) (hb hby at_112) rfl rfl ?_
          refine own_callS X0 hx (pc' := 116) hZ hown (W4 hw) (W5 hw) (W6 hw) (W7 hw) (by decide) (rm1 l Z a0 hw [] v h0 n0 Z0) e0 0 (by decide) (by decide) (by decide) (by decide) [(.long v)] [] (by rw [hml]; rfl) (lenOf pd_0 rfl) rfl rfl (Nat.le_of_eq rfl) (hb hby at_113) rfl (fun v8 T8 L8 X8 hQ8 => ?_)
          obtain ⟨rfl, Nq8, e8⟩ := hQ8
          have N9 := Fr.app N0 Nq8
          show own_G p.tables e below _ T8 (mkF m 116 #[.val (.long p0), .second, .val (.int p1), .val (.long v), .second, .val (.int (p1 &&& (3 : Int32))), .val (.int (0 : Int32))] [(.int (own_lv v))])
          have hv8 : own_lv v = (0 : Int32) := by
            have a0 := hc88_1
            have a1 := hc94_4
            have a2 := hc102_7
            simp only [Int32.lt_iff_toInt_lt, Int32.le_iff_toInt_le, Int64.lt_iff_toInt_lt, Int64.le_iff_toInt_le, ← Int32.toInt_inj, ← Int64.toInt_inj, own_l1, own_l2, own_l3] at a0 a1 a2
            unfold own_lv
            simp only [Int32.lt_iff_toInt_lt, Int32.le_iff_toInt_le, Int64.lt_iff_toInt_lt, Int64.le_iff_toInt_le, ← Int32.toInt_inj, ← Int64.toInt_inj, own_l1, own_l2, own_l3]
            repeat' split
            all_goals first | rfl | omega
          refine own_iload X8 hx (pc' := 118) (hb hby at_116) rfl rfl ?_
          refine own_icmpNo X8 hx (pc' := 121) (hb hby at_118) (teq hv8).2 rfl ?_
          refine own_iconst X8 hx (pc' := 122) (1 : Int32) (hb hby at_121) rfl rfl ?_
          refine own_goto X8 hx (pc' := 126) (hb hby at_122) (by decide) (by decide) ?_
          refine own_retN X8 hx hlk hret (by simp) (hb hby at_126) (by decide) (by decide) ?_
          exact ⟨rfl, N9⟩
        · skip
          refine own_ifNo X0 hx (pc' := 105) (hb hby at_102) (flt (fun q => hc102_7 ((lw_gt v (1000000000000000 : Int64)).mp q))).2.2.1 rfl ?_
          refine own_iconst X0 hx (pc' := 106) (1 : Int32) (hb hby at_105) rfl rfl ?_
          refine own_goto X0 hx (pc' := 110) (hb hby at_106) (by decide) (by decide) ?_
          refine own_istore X0 hx (pc' := 112) (Ls' := #[.val (.long p0), .second, .val (.int p1), .val (.long v), .second, .val (.int (p1 &&& (3 : Int32))), .val (.int (1 : Int32))]) (hb hby at_110) rfl rfl ?_
          refine own_lloadN X0 hx (pc' := 113) (hb hby at_112) rfl rfl ?_
          refine own_callS X0 hx (pc' := 116) hZ hown (W4 hw) (W5 hw) (W6 hw) (W7 hw) (by decide) (rm1 l Z a0 hw [] v h0 n0 Z0) e0 0 (by decide) (by decide) (by decide) (by decide) [(.long v)] [] (by rw [hml]; rfl) (lenOf pd_0 rfl) rfl rfl (Nat.le_of_eq rfl) (hb hby at_113) rfl (fun v10 T10 L10 X10 hQ10 => ?_)
          obtain ⟨rfl, Nq10, e10⟩ := hQ10
          have N11 := Fr.app N0 Nq10
          show own_G p.tables e below _ T10 (mkF m 116 #[.val (.long p0), .second, .val (.int p1), .val (.long v), .second, .val (.int (p1 &&& (3 : Int32))), .val (.int (1 : Int32))] [(.int (own_lv v))])
          have hv10 : own_lv v = (1 : Int32) := by
            have a0 := hc88_1
            have a1 := hc94_4
            have a2 := hc102_7
            simp only [Int32.lt_iff_toInt_lt, Int32.le_iff_toInt_le, Int64.lt_iff_toInt_lt, Int64.le_iff_toInt_le, ← Int32.toInt_inj, ← Int64.toInt_inj, own_l1, own_l2, own_l3] at a0 a1 a2
            unfold own_lv
            simp only [Int32.lt_iff_toInt_lt, Int32.le_iff_toInt_le, Int64.lt_iff_toInt_lt, Int64.le_iff_toInt_le, ← Int32.toInt_inj, ← Int64.toInt_inj, own_l1, own_l2, own_l3]
            repeat' split
            all_goals first | rfl | omega
          refine own_iload X10 hx (pc' := 118) (hb hby at_116) rfl rfl ?_
          refine own_icmpNo X10 hx (pc' := 121) (hb hby at_118) (teq hv10).2 rfl ?_
          refine own_iconst X10 hx (pc' := 122) (1 : Int32) (hb hby at_121) rfl rfl ?_
          refine own_goto X10 hx (pc' := 126) (hb hby at_122) (by decide) (by decide) ?_
          refine own_retN X10 hx hlk hret (by simp) (hb hby at_126) (by decide) (by decide) ?_
          exact ⟨rfl, N11⟩
  refine own_iloadN X0 hx (pc' := 1) (hb hby at_0) rfl rfl ?_
  refine own_iconst X0 hx (pc' := 2) (3 : Int32) (hb hby at_1) rfl rfl ?_
  refine own_iand X0 hx (pc' := 3) (hb hby at_2) rfl rfl ?_
  refine own_istore X0 hx (pc' := 5) (Ls' := #[.val (.long p0), .second, .val (.int p1), .unset, .unset, .val (.int (p1 &&& (3 : Int32))), .unset]) (hb hby at_3) rfl rfl ?_
  refine own_iload X0 hx (pc' := 7) (hb hby at_5) rfl rfl ?_
  by_cases hc7_12 : (p1 &&& (3 : Int32)) = (0 : Int32)
  · skip
    refine own_ifNo X0 hx (pc' := 10) (hb hby at_7) (teq hc7_12).2 rfl ?_
    refine own_lloadN X0 hx (pc' := 11) (hb hby at_10) rfl rfl ?_
    refine own_lstoreN X0 hx (pc' := 12) (Ls' := #[.val (.long p0), .second, .val (.int p1), .val (.long p0), .second, .val (.int (p1 &&& (3 : Int32))), .unset]) (hb hby at_11) rfl rfl ?_
    refine own_goto X0 hx (pc' := 83) (hb hby at_12) (by decide) (by decide) ?_
    exact J83 p0
  · skip
    refine own_ifYes X0 hx (pc' := 15) (hb hby at_7) (feq hc7_12).2 (by decide) (by decide) ?_
    refine own_iload X0 hx (pc' := 17) (hb hby at_15) rfl rfl ?_
    refine own_iconst X0 hx (pc' := 18) (1 : Int32) (hb hby at_17) rfl rfl ?_
    by_cases hc18_13 : (p1 &&& (3 : Int32)) = (1 : Int32)
    · skip
      refine own_icmpNo X0 hx (pc' := 21) (hb hby at_18) (teq hc18_13).2 rfl ?_
      refine own_ldc2J X0 hx (pc' := 24) hZ hown (W12 hw) (hb hby at_21) rfl ?_
      refine own_lloadN X0 hx (pc' := 25) (hb hby at_24) rfl rfl ?_
      refine own_ldc2J X0 hx (pc' := 28) hZ hown (W1 hw) (hb hby at_25) rfl ?_
      refine own_land X0 hx (pc' := 29) (hb hby at_28) rfl rfl ?_
      refine own_ladd X0 hx (pc' := 30) (hb hby at_29) rfl rfl ?_
      refine own_lstoreN X0 hx (pc' := 31) (Ls' := #[.val (.long p0), .second, .val (.int p1), .val (.long ((-4 : Int64) + (p0 &&& (7 : Int64)))), .second, .val (.int (p1 &&& (3 : Int32))), .unset]) (hb hby at_30) rfl rfl ?_
      refine own_goto X0 hx (pc' := 83) (hb hby at_31) (by decide) (by decide) ?_
      exact J83 ((-4 : Int64) + (p0 &&& (7 : Int64)))
    · skip
      refine own_icmpYes X0 hx (pc' := 34) (hb hby at_18) (feq hc18_13).2 (by decide) (by decide) ?_
      refine own_iload X0 hx (pc' := 36) (hb hby at_34) rfl rfl ?_
      refine own_iconst X0 hx (pc' := 37) (2 : Int32) (hb hby at_36) rfl rfl ?_
      by_cases hc37_14 : (p1 &&& (3 : Int32)) = (2 : Int32)
      · skip
        refine own_icmpNo X0 hx (pc' := 40) (hb hby at_37) (teq hc37_14).2 rfl ?_
        refine own_ldc2J X0 hx (pc' := 43) hZ hown (W0 hw) (hb hby at_40) rfl ?_
        refine own_lloadN X0 hx (pc' := 44) (hb hby at_43) rfl rfl ?_
        refine own_ldc2J X0 hx (pc' := 47) hZ hown (W1 hw) (hb hby at_44) rfl ?_
        refine own_land X0 hx (pc' := 48) (hb hby at_47) rfl rfl ?_
        refine own_ladd X0 hx (pc' := 49) (hb hby at_48) rfl rfl ?_
        refine own_lstoreN X0 hx (pc' := 50) (Ls' := #[.val (.long p0), .second, .val (.int p1), .val (.long ((999999999999996 : Int64) + (p0 &&& (7 : Int64)))), .second, .val (.int (p1 &&& (3 : Int32))), .unset]) (hb hby at_49) rfl rfl ?_
        refine own_goto X0 hx (pc' := 83) (hb hby at_50) (by decide) (by decide) ?_
        exact J83 ((999999999999996 : Int64) + (p0 &&& (7 : Int64)))
      · skip
        refine own_icmpYes X0 hx (pc' := 53) (hb hby at_37) (feq hc37_14).2 (by decide) (by decide) ?_
        refine own_lloadN X0 hx (pc' := 54) (hb hby at_53) rfl rfl ?_
        refine own_lconst X0 hx (pc' := 55) (1 : Int64) (hb hby at_54) rfl rfl ?_
        refine own_land X0 hx (pc' := 56) (hb hby at_55) rfl rfl ?_
        refine own_lconst X0 hx (pc' := 57) (0 : Int64) (hb hby at_56) rfl rfl ?_
        refine own_lcmp X0 hx (pc' := 58) (hb hby at_57) rfl ?_
        by_cases hc58_15 : (p0 &&& (1 : Int64)) = (0 : Int64)
        · skip
          refine own_ifNo X0 hx (pc' := 61) (hb hby at_58) (teq ((lw_eq (p0 &&& (1 : Int64)) (0 : Int64)).mpr hc58_15)).2 rfl ?_
          refine own_ldc2J X0 hx (pc' := 64) hZ hown (W13 hw) (hb hby at_61) rfl ?_
          refine own_lloadN X0 hx (pc' := 65) (hb hby at_64) rfl rfl ?_
          refine own_ldc2J X0 hx (pc' := 68) hZ hown (W11 hw) (hb hby at_65) rfl ?_
          refine own_land X0 hx (pc' := 69) (hb hby at_68) rfl rfl ?_
          refine own_ladd X0 hx (pc' := 70) (hb hby at_69) rfl rfl ?_
          refine own_goto X0 hx (pc' := 82) (hb hby at_70) (by decide) (by decide) ?_
          refine own_lstoreN X0 hx (pc' := 83) (Ls' := #[.val (.long p0), .second, .val (.int p1), .val (.long ((-9223372036854775808 : Int64) + (p0 &&& (255 : Int64)))), .second, .val (.int (p1 &&& (3 : Int32))), .unset]) (hb hby at_82) rfl rfl ?_
          exact J83 ((-9223372036854775808 : Int64) + (p0 &&& (255 : Int64)))
        · skip
          refine own_ifYes X0 hx (pc' := 73) (hb hby at_58) (feq (fun q => hc58_15 ((lw_eq (p0 &&& (1 : Int64)) (0 : Int64)).mp q))).2 (by decide) (by decide) ?_
          refine own_ldc2J X0 hx (pc' := 76) hZ hown (W10 hw) (hb hby at_73) rfl ?_
          refine own_lloadN X0 hx (pc' := 77) (hb hby at_76) rfl rfl ?_
          refine own_ldc2J X0 hx (pc' := 80) hZ hown (W11 hw) (hb hby at_77) rfl ?_
          refine own_land X0 hx (pc' := 81) (hb hby at_80) rfl rfl ?_
          refine own_lsub X0 hx (pc' := 82) (hb hby at_81) rfl rfl ?_
          refine own_lstoreN X0 hx (pc' := 83) (Ls' := #[.val (.long p0), .second, .val (.int p1), .val (.long ((9223372036854775807 : Int64) - (p0 &&& (255 : Int64)))), .second, .val (.int (p1 &&& (3 : Int32))), .unset]) (hb hby at_82) rfl rfl ?_
          exact J83 ((9223372036854775807 : Int64) - (p0 &&& (255 : Int64)))

set_option maxRecDepth 65536 in
set_option maxHeartbeats 40000000 in
theorem comes_1 {Post : Tables → Env → Array Value → State → Outcome → State → Prop} (hpost : ∀ tb e args s v u, (limb_1_1.after args s (.returned v) u = true ∧ limb_1_2.after args s (.returned v) u = true ∧ True) → FrameEnd s (.returned v) u (Jvm.fieldLocs frame_1_writes args s ++ Jvm.arrayLocs frame_1_arrays args s ++ Jvm.staticLocs frame_1_statics s) 0 0 → Post tb e args s (.returned v) u) :
    ArmFor flags0 classFile x code maxLocals ret World_1 tables_1 room_1 Calls_1 rest_1 Pre_1 Post := by
  intro l hfl _ _ p e ha hc hk s m args below hf hA hF happ hP
  obtain ⟨hcalls, hrest, hpre⟩ := hP
  obtain ⟨-, -, -, hnamed, -, -, -, hat⟩ := (Spec.applies_iff hf).mp happ
  obtain ⟨hg, hn⟩ := and_e (Cond.before_iff.mp (show (Jvm.Cond.and given_1 narrow_1).before args s = true from hpre))
  obtain ⟨hcnt, hg0⟩ := and_e hg
  obtain ⟨ha0, hg1⟩ := and_e hg0
  obtain ⟨w0, w1, rfl⟩ : ∃ w0 w1 : Value, args = #[w0, w1] := by
    have hs : args.size = 2 := by simpa [Cond.value, given_1] using hcnt
    obtain ⟨L⟩ := args
    match L, hs with
    | [w0, w1], _ => exact ⟨w0, w1, rfl⟩
  have hw := fun d (hd : d ∈ tables_1) => atoms_spec (ws := Jvm.Cond.code x code maxLocals ret :: tables_1) hat d (List.mem_cons_of_mem _ hd)
  have hfit : Fit s := fun {y c} hc i hi => by
    obtain ⟨ha, rfl⟩ := Array.getElem?_eq_some_iff.mp hc
    have q := List.all_eq_true.mp ((Array.all_eq_true_iff_forall_mem.mp hF) _ (Array.getElem_mem ha)) i (List.mem_range.mpr hi)
    simpa [Array.getElem?_eq_getElem hi] using q
  obtain ⟨i0, ei0⟩ := isL_v ha0
  obtain rfl : w0 = (.long i0) := Option.some.inj ei0
  obtain ⟨i1, ei1⟩ := is_v hg1
  obtain rfl : w1 = (.int i1) := Option.some.inj ei1
  obtain ⟨n, o, h1, h2, h3, _, L, rfl, ⟨rfl, N⟩, hq⟩ := rm0 l s _ hw tables_1 i0 i1  s.heap s.heap.size (Nat.le_refl _)  p e ha hc hk s m _ below hf ((Spec.applies_iff_loose hf).mp happ).1 ⟨rfl, State.Warmed39.refl s, rfl⟩ trivial
  refine ⟨n, _, h1, h2, h3, hpost _ _ _ _ _ _ ⟨Cond.after_iff.mpr rfl, Cond.after_iff.mpr (eq_i res_at (Term.int_eval (1)) rfl), trivial⟩ ⟨hq.1, hq.2.1, (hq.2.2.sift fun y hy => Or.inr (N y hy)).mono (by decide) (by decide)⟩⟩
theorem main_1_1 : Claimed_1_1 := comes_1 fun _ _ _ _ _ _ h hF => ⟨h.1, hF⟩
theorem main_1_2 : Claimed_1_2 := comes_1 fun _ _ _ _ _ _ h hF => ⟨h.2.1, hF⟩
end Jvm.Pilot.@@N@@
namespace Jvm.Pilot.@@N@@
open Jvm Jvm.ClassFile Sem Op Lib Jvm.Free Jvm.Stand Jvm.Pilot.@@N@@.Jvm.D
/-! MADE BY PROGRAM (witnessworld.py) out of the Statement's table words and the real class files: 9 classes; the members and pool entries that the words name. The judged class is class 1, her method 1. -/
namespace start1
open Jvm.ClassFile
def u (s : String) : CpInfo := .utf8 (stringToUtf16 s)
/-- a pool by its gaps: so many unusable entries, then the entry; so many at the end -/
def gap : Nat → List CpInfo → List CpInfo
  | 0, r => r
  | n + 1, r => .unusable :: gap n r
def poolList (es : List (Nat × CpInfo)) (last : Nat) : List CpInfo := es.foldr (fun e r => gap e.1 (e.2 :: r)) (gap last [])
def pool (es : List (Nat × CpInfo)) (last : Nat) : Array CpInfo := ⟨poolList es last⟩
def fileOf (pool : Array CpInfo) (this : Nat) (attrs : Array Attribute := #[]) (ms : Array MethodInfo := #[]) (fl : Nat := 33) (sup : Nat := 0) (ifs : Array Nat := #[]) (fds : Array FieldInfo := #[]) : ClassFile where
  minorVersion := 0
  majorVersion := 65
  constantPool := pool
  accessFlags := fl
  thisClass := this
  superClass := sup
  interfaces := ifs
  fields := fds
  methods := ms
  attributes := attrs
def plain (name : String) (sup : Option ClassId) : Class where
  name := name
  kind := .ordinary
  loader := none
  accessFlags := 33
  super := sup
  interfaces := #[]
  cf := none
  fields := #[]
  methods := #[]
  instanceTypes := #[]
  staticTypes := #[]
  resolved := #[]
  callSites := []
  init := .initialized
  statics := none
  mirror := none

def pool0 : Array CpInfo := pool [(5, u "<init>"), (0, u "()V"), (1, .class_ 10), (1, u "java/lang/Object")] 113

def k0m0 : Method := { name := "<init>", desc := "()V", sig := { parameters := [], returnType := none }, accessFlags := 1, code := none }
/-- java/lang/Object -/
def k0 : Class := { plain "java/lang/Object" none with
  accessFlags := 33
  interfaces := #[]
  cf := some (fileOf pool0 8 #[] #[{ accessFlags := 1, nameIndex := 5, descriptorIndex := 6, attributes := #[] }] 33 0 #[] #[])
  fields := #[]
  methods := #[k0m0]
  instanceTypes := #[]
  staticTypes := #[]
  resolved := Array.replicate 124 none
  statics := none }

def pool1 : Array CpInfo := pool [(2, .class_ 4), (1, u "java/lang/Object"), (0, u "<init>"), (0, u "()V"), (0, .long 18446744073709551612), (1, .long 7), (1, .long 999999999999996), (3, .long 9223372036854775808), (1, .long 255), (1, .long 9223372036854775807), (1, .long 18446744073709551615), (1, .long 1000000000000000), (1, .methodref 26 27), (0, .class_ 28), (0, .nameAndType 29 30), (0, u "com/example/rhadamanthus/rhadamanthus/model/StockLevels"), (0, u "isLevel"), (0, u "(J)Z"), (0, .class_ 32), (0, u "com/example/rhadamanthus/rhadamanthus/model/StockLevelsIsLevelPinLaw"), (2, u "law"), (0, u "(JI)Z")] 3

def k1m0 : Method := { name := "<init>", desc := "()V", sig := { parameters := [], returnType := none }, accessFlags := 2, code := none }
def k1c1 : Code := { maxStack := 6, maxLocals := 7, code := code, exceptionTable := #[], attributes := #[] }
def k1m1 : Method := { name := "law", desc := "(JI)Z", sig := { parameters := [.long, .int], returnType := some .boolean }, accessFlags := 9, code := some k1c1 }
/-- com/example/rhadamanthus/rhadamanthus/model/StockLevelsIsLevelPinLaw -/
def k1 : Class := { plain "com/example/rhadamanthus/rhadamanthus/model/StockLevelsIsLevelPinLaw" (some 0) with
  accessFlags := 49
  interfaces := #[]
  cf := some (fileOf pool1 31 #[] #[{ accessFlags := 2, nameIndex := 5, descriptorIndex := 6, attributes := #[] }, { accessFlags := 9, nameIndex := 35, descriptorIndex := 36, attributes := #[] }] 49 2 #[] #[])
  fields := #[]
  methods := #[k1m0, k1m1]
  instanceTypes := #[]
  staticTypes := #[]
  resolved := Array.replicate 40 none
  statics := none }

def pool2 : Array CpInfo := pool [(2, .class_ 4), (1, u "java/lang/Object"), (0, u "<init>"), (0, u "()V"), (0, .class_ 8), (0, u "com/example/rhadamanthus/rhadamanthus/model/StockLevels"), (0, .long 18446744073709551615), (1, .long 1000000000000000), (1, u "UNLIMITED"), (0, u "J"), (1, u "MAX"), (2, u "isLevel"), (0, u "(J)Z")] 3

def k2m0 : Method := { name := "<init>", desc := "()V", sig := { parameters := [], returnType := none }, accessFlags := 2, code := none }
def k2c1 : Code := { maxStack := 4, maxLocals := 2, code := prog_26_method_2_code, exceptionTable := #[], attributes := #[] }
def k2m1 : Method := { name := "isLevel", desc := "(J)Z", sig := { parameters := [.long], returnType := some .boolean }, accessFlags := 9, code := some k2c1 }
/-- com/example/rhadamanthus/rhadamanthus/model/StockLevels -/
def k2 : Class := { plain "com/example/rhadamanthus/rhadamanthus/model/StockLevels" (some 0) with
  accessFlags := 33
  interfaces := #[]
  cf := some (fileOf pool2 7 #[] #[{ accessFlags := 2, nameIndex := 5, descriptorIndex := 6, attributes := #[] }, { accessFlags := 9, nameIndex := 19, descriptorIndex := 20, attributes := #[] }] 33 2 #[] #[{ accessFlags := 25, nameIndex := 13, descriptorIndex := 14, attributes := #[] }, { accessFlags := 25, nameIndex := 16, descriptorIndex := 14, attributes := #[] }])
  fields := #[{ name := "UNLIMITED", type := .long, accessFlags := 25, slot := 0, constantValue := 0 }, { name := "MAX", type := .long, accessFlags := 25, slot := 1, constantValue := 0 }]
  methods := #[k2m0, k2m1]
  instanceTypes := #[]
  staticTypes := #[.long, .long]
  resolved := Array.replicate 24 none
  statics := none }

def pool3 : Array CpInfo := pool [(1, u "java/lang/Cloneable"), (0, .class_ 1), (0, u "java/lang/Object"), (0, .class_ 3)] 3

/-- java/lang/Cloneable -/
def k3 : Class := { plain "java/lang/Cloneable" (some 0) with
  accessFlags := 1537
  interfaces := #[]
  cf := some (fileOf pool3 2 #[] #[] 1537 4 #[] #[])
  fields := #[]
  methods := #[]
  instanceTypes := #[]
  staticTypes := #[]
  resolved := Array.replicate 8 none
  statics := none }

def pool4 : Array CpInfo := pool [(1, u "java/io/Serializable"), (0, .class_ 1), (0, u "java/lang/Object"), (0, .class_ 3)] 3

/-- java/io/Serializable -/
def k4 : Class := { plain "java/io/Serializable" (some 0) with
  accessFlags := 1537
  interfaces := #[]
  cf := some (fileOf pool4 2 #[] #[] 1537 4 #[] #[])
  fields := #[]
  methods := #[]
  instanceTypes := #[]
  staticTypes := #[]
  resolved := Array.replicate 8 none
  statics := none }

/-- the primitive byte -/
def k5 : Class := { plain "byte" none with kind := .primitive 'B', accessFlags := 0x411 }
/-- [B -/
def k6 : Class := { plain "[B" (some 0) with kind := .array 5 .byte, interfaces := #[3, 4], accessFlags := 1041 }

/-- the primitive int -/
def k7 : Class := { plain "int" none with kind := .primitive 'I', accessFlags := 0x411 }
/-- [I -/
def k8 : Class := { plain "[I" (some 0) with kind := .array 7 .int, interfaces := #[3, 4], accessFlags := 1041 }

def heap : Heap := #[]
def classes : Array Class := #[k0, k1, k2, k3, k4, k5, k6, k7, k8]
def interned : List (Array UInt16 × Addr) := []
def slotsUsed : Nat := 0
def theMethod : MethodId := ⟨1, 1⟩
def args0 : Array Value := #[.long 5, .int 2]
def aboutOver (below : List Frame) : State where
  vm := { classes := classes, interned := interned.toArray }
  heap := heap
  slotsUsed := slotsUsed
  threads := #[{ frames := .invoking theMethod args0 :: below }]
def below0 : List Frame := [.native { method := ⟨0, 0⟩, args := #[] }]
def about1 : State := aboutOver below0
def p0 : Program := .bare "" "" ""
def e0 : Env := launch0.env 0 0 0
theorem w_frames : about1.frames = Frame.invoking theMethod args0 :: below0 := rfl
set_option maxRecDepth 65536 in
theorem w_args : argsFit about1.vm theMethod args0 = true := by decide +kernel
set_option maxRecDepth 65536 in
theorem w_heap : heapFits about1 = true := by decide +kernel
set_option maxRecDepth 65536 in
theorem w_runnable : about1.curStatus? = some .runnable := by decide +kernel
set_option maxRecDepth 65536 in
theorem w_alone : about1.alone = true := by decide +kernel
set_option maxRecDepth 65536 in
theorem w_named : about1.methodNamed? x = some theMethod := by decide +kernel
set_option maxRecDepth 65536 in
theorem w_hears : about1.hears theMethod below0 = true := by decide +kernel
set_option maxRecDepth 65536 in
theorem w_ripe : about1.ripe theMethod args0 below0 = true := by decide +kernel
theorem w_running : about1.status = .running := rfl
set_option maxRecDepth 65536 in
theorem w_room : about1.hasRoom e0.platform room_1 = true :=
  launch0.hasRoom_least _ room_1 (by decide +kernel) (by decide +kernel) (by decide +kernel) (by decide +kernel) (by decide +kernel) (by decide +kernel)
theorem allAtoms_all (ts : List Jvm.Cond) (a : Array Jvm.Value) (st : Jvm.State) : (allAtoms ts).before a st = ts.all (fun c => c.before a st) := by
  induction ts with
  | nil => rfl
  | cons c t ih =>
    show (Jvm.Cond.and c (allAtoms t)).before a st = _
    rw [Jvm.Cond.before_and, ih, List.all_cons]
def words1 : List Jvm.Cond := Jvm.Cond.code x code maxLocals ret :: tables_1
/-- a 'code' word, met by the world's own term for the bytes: nothing is compared byte by byte -/
theorem code_word {y : MethodName} {bytes : ByteArray} {mx : Nat} {rt : Option FieldType} {a : Array Value} {s : State} {m : MethodId} {meth : Method} {c : Code} (h1 : s.methodNamed? y = some m) (h2 : s.vm.method? m = some meth) (h3 : meth.code = some c) (h4 : c.code = bytes)
    (h5 : (c.maxLocals == mx && c.exceptionTable.isEmpty && decide (c.maxStack ≤ mostOperands) && decide (meth.sig.returnType = rt) && !meth.locks && decide (parseMethodDescriptor y.desc = some meth.sig)) = true) : (Jvm.Cond.code y bytes mx rt).before a s = true := by
  simp only [Bool.and_eq_true, beq_iff_eq, Bool.not_eq_true', decide_eq_true_eq] at h5
  obtain ⟨⟨⟨⟨⟨g1, g2⟩, g3⟩, g4⟩, g5⟩, g6⟩ := h5
  simp [Cond.before, Cond.holds, Cond.value, h1, h2, h3, h4, g1, g2, g3, g4, g5, g6]
def isCode : Jvm.Cond → Bool
  | .code _ _ _ _ => true
  | _ => false
theorem all_split {L : List Jvm.Cond} {P : Jvm.Cond → Bool} (h1 : L.all (fun c => isCode c || P c) = true) (h2 : ∀ c ∈ L.filter isCode, P c = true) : L.all P = true := by
  refine List.all_eq_true.mpr fun c hc => ?_
  have h := List.all_eq_true.mp h1 c hc
  rcases Bool.eq_false_or_eq_true (isCode c) with hi | hi
  · exact h2 c (List.mem_filter.mpr ⟨hc, hi⟩)
  · simpa [hi] using h
set_option maxRecDepth 65536 in
theorem w_c0 : (Jvm.Cond.code x code maxLocals ret).before args0 about1 = true := code_word (m := ⟨1, 1⟩) (meth := k1m1) (c := k1c1) (by decide +kernel) rfl rfl rfl (by decide +kernel)
set_option maxRecDepth 65536 in
theorem w_c1 : (Jvm.Cond.code ({ cls := "com/example/rhadamanthus/rhadamanthus/model/StockLevels", name := "isLevel", desc := "(J)Z" } : Jvm.MethodName) prog_26_method_2_code (2 : Nat) (Option.some Jvm.ClassFile.FieldType.boolean)).before args0 about1 = true := code_word (m := ⟨2, 1⟩) (meth := k2m1) (c := k2c1) (by decide +kernel) rfl rfl rfl (by decide +kernel)
def codes1 : List Jvm.Cond := [Jvm.Cond.code x code maxLocals ret, Jvm.Cond.code ({ cls := "com/example/rhadamanthus/rhadamanthus/model/StockLevels", name := "isLevel", desc := "(J)Z" } : Jvm.MethodName) prog_26_method_2_code (2 : Nat) (Option.some Jvm.ClassFile.FieldType.boolean)]
set_option maxRecDepth 65536 in
theorem codes_eq : words1.filter isCode = codes1 := rfl
theorem w_codes : ∀ c ∈ words1.filter isCode, c.before args0 about1 = true := by
  rw [codes_eq]
  intro c hc
  simp only [codes1, List.mem_cons, List.not_mem_nil, or_false] at hc
  rcases hc with rfl | rfl
  · exact w_c0
  · exact w_c1
set_option maxRecDepth 65536 in
theorem w_t1 : words1.all (fun c => isCode c || c.before args0 about1) = true := by decide +kernel
theorem w_tables : (allAtoms (Jvm.Cond.code x code maxLocals ret :: tables_1)).before args0 about1 = true := by
  rw [allAtoms_all]
  show words1.all (fun c => c.before args0 about1) = true
  refine all_split ?_ w_codes
  rw [w_t1]
set_option maxRecDepth 65536 in
theorem w_case : (Jvm.Cond.and given_1 narrow_1).before args0 about1 = true := by decide +kernel
theorem w_applies : (headSpec (Jvm.Cond.code x code maxLocals ret :: tables_1) room_1).applies x e0.platform about1 = true :=
  (Spec.applies_iff w_frames).mpr ⟨w_running, w_runnable, w_alone, w_named, w_hears, w_ripe, w_room, w_tables⟩
theorem atStart : AtStart classFile x code maxLocals ret World_1 tables_1 room_1 Calls_1 rest_1 Pre_1 launch0 p0 e0 about1 theMethod args0 below0 :=
  ⟨lists_1, trivial, launch0.admits_env _ _ _, launch0.least_env, fairChoices_fair.cas, fairChoices_fair.clock, w_frames, w_args, w_heap, w_applies, trivial, trivial, w_case⟩
end start1
theorem witness_1 : WitnessClaimed_1 := ⟨start1.p0, start1.e0, start1.about1, start1.theMethod, start1.args0, start1.below0, start1.atStart⟩
end Jvm.Pilot.@@N@@
