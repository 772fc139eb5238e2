import JvmDerived
import JvmDerived.Pilot.@@N@@Statement
import JvmDerived.Pilot.@@N@@Code
set_option linter.unusedVariables false
set_option linter.unusedSimpArgs false
namespace Jvm.Pilot.@@N@@
open Jvm Jvm.ClassFile Sem Op Lib Jvm.Free Jvm.Stand Jvm.LawKit Jvm.RoadKit Bundle Jvm.Pilot.@@N@@.Jvm.D
/-! own kit: the walk in program order: own_G says that from this frame on the run ends as promised -/
def own_G (tb : Tables) (e : Env) (below : List Frame) (P : Outcome → State → Prop) (T : State) (f : JFrame) : Prop :=
  ∃ s₂ o, Steps tb e below (T.setTop f) s₂ ∧ s₂.status = .running ∧ Ended s₂ below o ∧ P o s₂
def own_P (s : State) (Q : Option Value → Heap → List Loc → Prop) (C S : Nat) (o : Outcome) (U : State) : Prop :=
  ∃ v L, o = .returned v ∧ Q v U.heap L ∧ FrameEnd s o U L C S
theorem own_go {tb : Tables} {e : Env} {below : List Frame} {P : Outcome → State → Prop} {T T' : State} {f f' : JFrame} (st : ∀ target, Steps tb e below (T'.setTop f') target → Steps tb e below (T.setTop f) target) (k : own_G tb e below P T' f') : own_G tb e below P T f := by
  obtain ⟨s₂, o, h1, h2⟩ := k
  exact ⟨s₂, o, st _ h1, h2⟩
section OwnKit
variable {p : Program} {l : Launch} {e : Env} {R : Room} {s : State} {m : MethodId} {args : Array Value} {below : List Frame} {meth : Method} {c : Code} {T : State} {locs : List Loc} {cells slots : Nat} {Z : State} {a0 : Array Value} {h : Heap} {P : Outcome → State → Prop}
theorem own_body {y : MethodName} {bytes : ByteArray} {maxL : Nat} {ret : Option FieldType} {ws : List Jvm.Cond} {rm : Room} {as' : Array Value} {Q : Option Value → Heap → List Loc → Prop} {C S : Nat} (pn : plainFor y = true)
    (body : ∀ p e s m below meth c s₁, p.tables.exec = Jvm.exec → c.code = bytes → c.maxLocals = maxL → s.vm.findClass y.cls = some m.cls → meth.name = y.name → meth.locks = false → meth.sig.returnType = ret → Z.Warmed39 s.vm → Stand p l e rm s m as' below meth c s₁ [] 0 0 → s₁.heap = h →
      own_G p.tables e below (own_P s Q C S) s₁ (entryFrame m as' maxL)) :
    MetFree l y (head1 (Jvm.Cond.code y bytes maxL ret :: ws) rm) (fun a U => a = as' ∧ Z.Warmed39 U.vm ∧ U.heap = h) (fun _ _ _ _ _ => True) (fun _ U o U' => ∃ v L, o = .returned v ∧ Q v U'.heap L ∧ FrameEnd U o U' L C S) := by
  refine MetFree.of_bodySF (maxLocals := maxL) (ret := ret) (code := bytes) pn hisR ?_
  intro p e s m args below meth c s₁ Bd hml0 hP hK
  obtain ⟨rfl, hZ, hh⟩ := hP
  exact body p e s m below meth c s₁ Bd.exec Bd.bytes hml0 (findClass_of_methodNamed Bd.named) (name_of_methodNamed Bd.named Bd.method).1 (BodyLoose.notSynchronized Bd) Bd.returns hZ (Stand.of_body Bd) (by rw [← hh, Bd.state]; rfl)
theorem own_ret {v : Option Value} {f : JFrame} {Q : Option Value → Heap → List Loc → Prop} {C S : Nat} (X : Stand p l e R s m args below meth c T locs cells slots) (hlk : meth.locks = false) (hv : meth.sig.returnType = none → v = none)
    (st : ∀ fs, (∀ (f : JFrame) (acts : List Action), f.method = m → f.locked = none → f.entered = [] → (doReturn e (T.setTop f) acts v).1 = T.setFrames fs) → Steps p.tables e below (T.setTop f) (T.setFrames fs)) (hC : cells ≤ C) (hS : slots ≤ S) (hq : Q v T.heap locs) : own_G p.tables e below (own_P s Q C S) T f := by
  obtain ⟨fs, hr, hrun, hended, hW, hsame⟩ := X.leave (v := v) hv hlk
  exact ⟨_, _, st fs hr, hrun, hended, _, _, rfl, hq, ⟨_, rfl⟩, hW, hsame.mono hC hS⟩
theorem own_retN {Q : Option Value → Heap → List Loc → Prop} {C S : Nat} (X : Stand p l e R s m args below meth c T locs cells slots) (hx : p.tables.exec = Jvm.exec) (hlk : meth.locks = false) {t : FieldType} (hret : meth.sig.returnType = some t) (ht : t = .boolean ∨ t = .byte ∨ t = .char ∨ t = .short) {pc : Nat} {Ls : Array Slot} {z : Int32} {rest : List Value} (hd : decode c.code pc = .ok (.ireturn, 1)) (hC : cells ≤ C) (hS : slots ≤ S) (hq : Q (some (.int (nar t z))) T.heap locs) :
    own_G p.tables e below (own_P s Q C S) T (mkF m pc Ls (.int z :: rest)) :=
  own_ret X hlk (fun h => by rw [hret] at h; cases h) (fun fs hr => retN X hx hret ht hd hr) hC hS hq
theorem own_retI {Q : Option Value → Heap → List Loc → Prop} {C S : Nat} (X : Stand p l e R s m args below meth c T locs cells slots) (hx : p.tables.exec = Jvm.exec) (hlk : meth.locks = false) (hret : meth.sig.returnType = some .int) {pc : Nat} {Ls : Array Slot} {z : Int32} {rest : List Value} (hd : decode c.code pc = .ok (.ireturn, 1)) (hC : cells ≤ C) (hS : slots ≤ S) (hq : Q (some (.int z)) T.heap locs) :
    own_G p.tables e below (own_P s Q C S) T (mkF m pc Ls (.int z :: rest)) :=
  own_ret X hlk (fun h => by rw [hret] at h; cases h) (fun fs hr => retOut X hx hret rfl (Or.inl ⟨rfl, Or.inl rfl, z, rfl⟩) hd hr) hC hS hq
theorem own_retJ {Q : Option Value → Heap → List Loc → Prop} {C S : Nat} (X : Stand p l e R s m args below meth c T locs cells slots) (hx : p.tables.exec = Jvm.exec) (hlk : meth.locks = false) (hret : meth.sig.returnType = some .long) {pc : Nat} {Ls : Array Slot} {z : Int64} {rest : List Value} (hd : decode c.code pc = .ok (.lreturn, 1)) (hC : cells ≤ C) (hS : slots ≤ S) (hq : Q (some (.long z)) T.heap locs) :
    own_G p.tables e below (own_P s Q C S) T (mkF m pc Ls (.long z :: rest)) :=
  own_ret X hlk (fun h => by rw [hret] at h; cases h) (fun fs hr => retOut X hx hret rfl (Or.inr (Or.inl ⟨rfl, rfl, z, rfl⟩)) hd hr) hC hS hq
theorem own_retA {Q : Option Value → Heap → List Loc → Prop} {C S : Nat} (X : Stand p l e R s m args below meth c T locs cells slots) (hx : p.tables.exec = Jvm.exec) (hlk : meth.locks = false) {t : FieldType} (hret : meth.sig.returnType = some t) (ht : t.isReference = true) {pc : Nat} {Ls : Array Slot} {w : Value} {rest : List Value} (hw : w.isRef = true) (hn : narrow t w = w) (hd : decode c.code pc = .ok (.areturn, 1)) (hC : cells ≤ C) (hS : slots ≤ S) (hq : Q (some w) T.heap locs) :
    own_G p.tables e below (own_P s Q C S) T (mkF m pc Ls (w :: rest)) :=
  own_ret X hlk (fun h => by rw [hret] at h; cases h) (fun fs hr => retOut X hx hret hn (Or.inr (Or.inr (Or.inr (Or.inr ⟨rfl, ht, hw⟩)))) hd hr) hC hS hq
theorem own_retV {Q : Option Value → Heap → List Loc → Prop} {C S : Nat} (X : Stand p l e R s m args below meth c T locs cells slots) (hx : p.tables.exec = Jvm.exec) (hlk : meth.locks = false) (hret : meth.sig.returnType = none) {pc : Nat} {Ls : Array Slot} (hd : decode c.code pc = .ok (.return_, 1)) (hC : cells ≤ C) (hS : slots ≤ S) (hq : Q none T.heap locs) :
    own_G p.tables e below (own_P s Q C S) T (mkF m pc Ls []) :=
  own_ret X hlk (fun h => rfl) (fun fs hr => X.returnOut hx hret hd hr) hC hS hq
theorem own_iadd (X : Stand p l e R s m args below meth c T locs cells slots) (hx : p.tables.exec = Jvm.exec) {pc pc' : Nat} {Ls : Array Slot} {x y z : Int32} {rest : List Value} (hd : decode c.code pc = .ok (.iadd, 1)) (hz : x + y = z) (hp : pc + 1 = pc') (k : own_G p.tables e below P T (mkF m pc' Ls (.int z :: rest))) : own_G p.tables e below P T (mkF m pc Ls (.int y :: .int x :: rest)) := by
  subst hp; subst hz; exact own_go (fun t q => XS.iadd X.here hx rfl hd rfl q) k
theorem own_isub (X : Stand p l e R s m args below meth c T locs cells slots) (hx : p.tables.exec = Jvm.exec) {pc pc' : Nat} {Ls : Array Slot} {x y z : Int32} {rest : List Value} (hd : decode c.code pc = .ok (.isub, 1)) (hz : x - y = z) (hp : pc + 1 = pc') (k : own_G p.tables e below P T (mkF m pc' Ls (.int z :: rest))) : own_G p.tables e below P T (mkF m pc Ls (.int y :: .int x :: rest)) := by
  subst hp; subst hz; exact own_go (fun t q => XS.isub X.here hx rfl hd rfl q) k
theorem own_imul (X : Stand p l e R s m args below meth c T locs cells slots) (hx : p.tables.exec = Jvm.exec) {pc pc' : Nat} {Ls : Array Slot} {x y z : Int32} {rest : List Value} (hd : decode c.code pc = .ok (.imul, 1)) (hz : x * y = z) (hp : pc + 1 = pc') (k : own_G p.tables e below P T (mkF m pc' Ls (.int z :: rest))) : own_G p.tables e below P T (mkF m pc Ls (.int y :: .int x :: rest)) := by
  subst hp; subst hz; exact own_go (fun t q => XS.imul X.here hx rfl hd rfl q) k
theorem own_iand (X : Stand p l e R s m args below meth c T locs cells slots) (hx : p.tables.exec = Jvm.exec) {pc pc' : Nat} {Ls : Array Slot} {x y z : Int32} {rest : List Value} (hd : decode c.code pc = .ok (.iand, 1)) (hz : x &&& y = z) (hp : pc + 1 = pc') (k : own_G p.tables e below P T (mkF m pc' Ls (.int z :: rest))) : own_G p.tables e below P T (mkF m pc Ls (.int y :: .int x :: rest)) := by
  subst hp; subst hz; exact own_go (fun t q => XS.iand X.here hx rfl hd rfl q) k
theorem own_ior (X : Stand p l e R s m args below meth c T locs cells slots) (hx : p.tables.exec = Jvm.exec) {pc pc' : Nat} {Ls : Array Slot} {x y z : Int32} {rest : List Value} (hd : decode c.code pc = .ok (.ior, 1)) (hz : x ||| y = z) (hp : pc + 1 = pc') (k : own_G p.tables e below P T (mkF m pc' Ls (.int z :: rest))) : own_G p.tables e below P T (mkF m pc Ls (.int y :: .int x :: rest)) := by
  subst hp; subst hz; exact own_go (fun t q => XS.ior X.here hx rfl hd rfl q) k
theorem own_ixor (X : Stand p l e R s m args below meth c T locs cells slots) (hx : p.tables.exec = Jvm.exec) {pc pc' : Nat} {Ls : Array Slot} {x y z : Int32} {rest : List Value} (hd : decode c.code pc = .ok (.ixor, 1)) (hz : x ^^^ y = z) (hp : pc + 1 = pc') (k : own_G p.tables e below P T (mkF m pc' Ls (.int z :: rest))) : own_G p.tables e below P T (mkF m pc Ls (.int y :: .int x :: rest)) := by
  subst hp; subst hz; exact own_go (fun t q => XS.ixor X.here hx rfl hd rfl q) k
theorem own_ladd (X : Stand p l e R s m args below meth c T locs cells slots) (hx : p.tables.exec = Jvm.exec) {pc pc' : Nat} {Ls : Array Slot} {x y z : Int64} {rest : List Value} (hd : decode c.code pc = .ok (.ladd, 1)) (hz : x + y = z) (hp : pc + 1 = pc') (k : own_G p.tables e below P T (mkF m pc' Ls (.long z :: rest))) : own_G p.tables e below P T (mkF m pc Ls (.long y :: .long x :: rest)) := by
  subst hp; subst hz; exact own_go (fun t q => XS.ladd X.here hx rfl hd rfl q) k
theorem own_lsub (X : Stand p l e R s m args below meth c T locs cells slots) (hx : p.tables.exec = Jvm.exec) {pc pc' : Nat} {Ls : Array Slot} {x y z : Int64} {rest : List Value} (hd : decode c.code pc = .ok (.lsub, 1)) (hz : x - y = z) (hp : pc + 1 = pc') (k : own_G p.tables e below P T (mkF m pc' Ls (.long z :: rest))) : own_G p.tables e below P T (mkF m pc Ls (.long y :: .long x :: rest)) := by
  subst hp; subst hz; exact own_go (fun t q => XS.lsub X.here hx rfl hd rfl q) k
theorem own_lmul (X : Stand p l e R s m args below meth c T locs cells slots) (hx : p.tables.exec = Jvm.exec) {pc pc' : Nat} {Ls : Array Slot} {x y z : Int64} {rest : List Value} (hd : decode c.code pc = .ok (.lmul, 1)) (hz : x * y = z) (hp : pc + 1 = pc') (k : own_G p.tables e below P T (mkF m pc' Ls (.long z :: rest))) : own_G p.tables e below P T (mkF m pc Ls (.long y :: .long x :: rest)) := by
  subst hp; subst hz; exact own_go (fun t q => XS.lmul X.here hx rfl hd rfl q) k
theorem own_land (X : Stand p l e R s m args below meth c T locs cells slots) (hx : p.tables.exec = Jvm.exec) {pc pc' : Nat} {Ls : Array Slot} {x y z : Int64} {rest : List Value} (hd : decode c.code pc = .ok (.land, 1)) (hz : x &&& y = z) (hp : pc + 1 = pc') (k : own_G p.tables e below P T (mkF m pc' Ls (.long z :: rest))) : own_G p.tables e below P T (mkF m pc Ls (.long y :: .long x :: rest)) := by
  subst hp; subst hz; exact own_go (fun t q => XS.land X.here hx rfl hd rfl q) k
theorem own_lor (X : Stand p l e R s m args below meth c T locs cells slots) (hx : p.tables.exec = Jvm.exec) {pc pc' : Nat} {Ls : Array Slot} {x y z : Int64} {rest : List Value} (hd : decode c.code pc = .ok (.lor, 1)) (hz : x ||| y = z) (hp : pc + 1 = pc') (k : own_G p.tables e below P T (mkF m pc' Ls (.long z :: rest))) : own_G p.tables e below P T (mkF m pc Ls (.long y :: .long x :: rest)) := by
  subst hp; subst hz; exact own_go (fun t q => XS.lor X.here hx rfl hd rfl q) k
theorem own_lxor (X : Stand p l e R s m args below meth c T locs cells slots) (hx : p.tables.exec = Jvm.exec) {pc pc' : Nat} {Ls : Array Slot} {x y z : Int64} {rest : List Value} (hd : decode c.code pc = .ok (.lxor, 1)) (hz : x ^^^ y = z) (hp : pc + 1 = pc') (k : own_G p.tables e below P T (mkF m pc' Ls (.long z :: rest))) : own_G p.tables e below P T (mkF m pc Ls (.long y :: .long x :: rest)) := by
  subst hp; subst hz; exact own_go (fun t q => XS.lxor X.here hx rfl hd rfl q) k
theorem own_ishl (X : Stand p l e R s m args below meth c T locs cells slots) (hx : p.tables.exec = Jvm.exec) {pc pc' : Nat} {Ls : Array Slot} {x y : Int32} {rest : List Value} (hd : decode c.code pc = .ok (.ishl, 1)) (hp : pc + 1 = pc') (k : own_G p.tables e below P T (mkF m pc' Ls (.int (x <<< (y &&& 31)) :: rest))) : own_G p.tables e below P T (mkF m pc Ls (.int y :: .int x :: rest)) := by
  subst hp; exact own_go (fun t q => XS.ishl X.here hx rfl hd rfl q) k
theorem own_ishr (X : Stand p l e R s m args below meth c T locs cells slots) (hx : p.tables.exec = Jvm.exec) {pc pc' : Nat} {Ls : Array Slot} {x y : Int32} {rest : List Value} (hd : decode c.code pc = .ok (.ishr, 1)) (hp : pc + 1 = pc') (k : own_G p.tables e below P T (mkF m pc' Ls (.int (x >>> (y &&& 31)) :: rest))) : own_G p.tables e below P T (mkF m pc Ls (.int y :: .int x :: rest)) := by
  subst hp; exact own_go (fun t q => XS.ishr X.here hx rfl hd rfl q) k
theorem own_iushr (X : Stand p l e R s m args below meth c T locs cells slots) (hx : p.tables.exec = Jvm.exec) {pc pc' : Nat} {Ls : Array Slot} {x y : Int32} {rest : List Value} (hd : decode c.code pc = .ok (.iushr, 1)) (hp : pc + 1 = pc') (k : own_G p.tables e below P T (mkF m pc' Ls (.int ((x.toUInt32 >>> (y &&& 31).toUInt32).toInt32) :: rest))) : own_G p.tables e below P T (mkF m pc Ls (.int y :: .int x :: rest)) := by
  subst hp; exact own_go (fun t q => XS.iushr X.here hx rfl hd rfl q) k
theorem own_lshl (X : Stand p l e R s m args below meth c T locs cells slots) (hx : p.tables.exec = Jvm.exec) {pc pc' : Nat} {Ls : Array Slot} {x : Int64} {y : Int32} {rest : List Value} (hd : decode c.code pc = .ok (.lshl, 1)) (hp : pc + 1 = pc') (k : own_G p.tables e below P T (mkF m pc' Ls (.long (x <<< (y &&& 0x3f).toInt64) :: rest))) : own_G p.tables e below P T (mkF m pc Ls (.int y :: .long x :: rest)) := by
  subst hp; exact own_go (fun t q => XS.lshl X.here hx rfl hd rfl q) k
theorem own_lshr (X : Stand p l e R s m args below meth c T locs cells slots) (hx : p.tables.exec = Jvm.exec) {pc pc' : Nat} {Ls : Array Slot} {x : Int64} {y : Int32} {rest : List Value} (hd : decode c.code pc = .ok (.lshr, 1)) (hp : pc + 1 = pc') (k : own_G p.tables e below P T (mkF m pc' Ls (.long (x >>> (y &&& 0x3f).toInt64) :: rest))) : own_G p.tables e below P T (mkF m pc Ls (.int y :: .long x :: rest)) := by
  subst hp; exact own_go (fun t q => XS.lshr X.here hx rfl hd rfl q) k
theorem own_lushr (X : Stand p l e R s m args below meth c T locs cells slots) (hx : p.tables.exec = Jvm.exec) {pc pc' : Nat} {Ls : Array Slot} {x : Int64} {y : Int32} {rest : List Value} (hd : decode c.code pc = .ok (.lushr, 1)) (hp : pc + 1 = pc') (k : own_G p.tables e below P T (mkF m pc' Ls (.long ((x.toUInt64 >>> (y &&& 0x3f).toInt64.toUInt64).toInt64) :: rest))) : own_G p.tables e below P T (mkF m pc Ls (.int y :: .long x :: rest)) := by
  subst hp; exact own_go (fun t q => XS.lushr X.here hx rfl hd rfl q) k
theorem own_i2l (X : Stand p l e R s m args below meth c T locs cells slots) (hx : p.tables.exec = Jvm.exec) {pc pc' : Nat} {Ls : Array Slot} {x : Int32} {rest : List Value} (hd : decode c.code pc = .ok (.i2l, 1)) (hp : pc + 1 = pc') (k : own_G p.tables e below P T (mkF m pc' Ls (.long (x.toInt64) :: rest))) : own_G p.tables e below P T (mkF m pc Ls (.int x :: rest)) := by
  subst hp; exact own_go (fun t q => XS.i2l X.here hx rfl hd rfl q) k
theorem own_l2i (X : Stand p l e R s m args below meth c T locs cells slots) (hx : p.tables.exec = Jvm.exec) {pc pc' : Nat} {Ls : Array Slot} {x : Int64} {rest : List Value} (hd : decode c.code pc = .ok (.l2i, 1)) (hp : pc + 1 = pc') (k : own_G p.tables e below P T (mkF m pc' Ls (.int (x.toInt32) :: rest))) : own_G p.tables e below P T (mkF m pc Ls (.long x :: rest)) := by
  subst hp; exact own_go (fun t q => XS.l2i X.here hx rfl hd rfl q) k
theorem own_i2b (X : Stand p l e R s m args below meth c T locs cells slots) (hx : p.tables.exec = Jvm.exec) {pc pc' : Nat} {Ls : Array Slot} {x : Int32} {rest : List Value} (hd : decode c.code pc = .ok (.i2b, 1)) (hp : pc + 1 = pc') (k : own_G p.tables e below P T (mkF m pc' Ls (.int (x.toInt8.toInt32) :: rest))) : own_G p.tables e below P T (mkF m pc Ls (.int x :: rest)) := by
  subst hp; exact own_go (fun t q => XS.i2b X.here hx rfl hd rfl q) k
theorem own_i2s (X : Stand p l e R s m args below meth c T locs cells slots) (hx : p.tables.exec = Jvm.exec) {pc pc' : Nat} {Ls : Array Slot} {x : Int32} {rest : List Value} (hd : decode c.code pc = .ok (.i2s, 1)) (hp : pc + 1 = pc') (k : own_G p.tables e below P T (mkF m pc' Ls (.int (x.toInt16.toInt32) :: rest))) : own_G p.tables e below P T (mkF m pc Ls (.int x :: rest)) := by
  subst hp; exact own_go (fun t q => XS.i2s X.here hx rfl hd rfl q) k
theorem own_i2c (X : Stand p l e R s m args below meth c T locs cells slots) (hx : p.tables.exec = Jvm.exec) {pc pc' : Nat} {Ls : Array Slot} {x : Int32} {rest : List Value} (hd : decode c.code pc = .ok (.i2c, 1)) (hp : pc + 1 = pc') (k : own_G p.tables e below P T (mkF m pc' Ls (.int (x.toUInt32.toUInt16.toUInt32.toInt32) :: rest))) : own_G p.tables e below P T (mkF m pc Ls (.int x :: rest)) := by
  subst hp; exact own_go (fun t q => XS.i2c X.here hx rfl hd rfl q) k
theorem own_ineg (X : Stand p l e R s m args below meth c T locs cells slots) (hx : p.tables.exec = Jvm.exec) {pc pc' : Nat} {Ls : Array Slot} {x : Int32} {rest : List Value} (hd : decode c.code pc = .ok (.ineg, 1)) (hp : pc + 1 = pc') (k : own_G p.tables e below P T (mkF m pc' Ls (.int (-x) :: rest))) : own_G p.tables e below P T (mkF m pc Ls (.int x :: rest)) := by
  subst hp; exact own_go (fun t q => XS.ineg X.here hx rfl hd rfl q) k
theorem own_lneg (X : Stand p l e R s m args below meth c T locs cells slots) (hx : p.tables.exec = Jvm.exec) {pc pc' : Nat} {Ls : Array Slot} {x : Int64} {rest : List Value} (hd : decode c.code pc = .ok (.lneg, 1)) (hp : pc + 1 = pc') (k : own_G p.tables e below P T (mkF m pc' Ls (.long (-x) :: rest))) : own_G p.tables e below P T (mkF m pc Ls (.long x :: rest)) := by
  subst hp; exact own_go (fun t q => XS.lneg X.here hx rfl hd rfl q) k
theorem own_lcmp (X : Stand p l e R s m args below meth c T locs cells slots) (hx : p.tables.exec = Jvm.exec) {pc pc' : Nat} {Ls : Array Slot} {x y : Int64} {rest : List Value} (hd : decode c.code pc = .ok (.lcmp, 1)) (hp : pc + 1 = pc') (k : own_G p.tables e below P T (mkF m pc' Ls (.int (lcmpW x y) :: rest))) : own_G p.tables e below P T (mkF m pc Ls (.long y :: .long x :: rest)) := by
  subst hp; exact own_go (fun t q => XS.lcmp X.here hx rfl hd rfl q) k
theorem own_idiv (X : Stand p l e R s m args below meth c T locs cells slots) (hx : p.tables.exec = Jvm.exec) {pc pc' : Nat} {Ls : Array Slot} {x y z : Int32} {rest : List Value} (hd : decode c.code pc = .ok (.idiv, 1)) (hz : x / y = z) (hy : y ≠ 0) (hp : pc + 1 = pc') (k : own_G p.tables e below P T (mkF m pc' Ls (.int z :: rest))) : own_G p.tables e below P T (mkF m pc Ls (.int y :: .int x :: rest)) := by
  subst hp; subst hz; exact own_go (fun t q => XS.idiv X.here hx rfl hd rfl hy q) k
theorem own_irem (X : Stand p l e R s m args below meth c T locs cells slots) (hx : p.tables.exec = Jvm.exec) {pc pc' : Nat} {Ls : Array Slot} {x y : Int32} {rest : List Value} (hd : decode c.code pc = .ok (.irem, 1)) (hy : y ≠ 0) (hp : pc + 1 = pc') (k : own_G p.tables e below P T (mkF m pc' Ls (.int (x % y) :: rest))) : own_G p.tables e below P T (mkF m pc Ls (.int y :: .int x :: rest)) := by
  subst hp; exact own_go (fun t q => iremM X hx rfl hd rfl hy q) k
theorem own_iloadN (X : Stand p l e R s m args below meth c T locs cells slots) (hx : p.tables.exec = Jvm.exec) {pc pc' : Nat} {Ls : Array Slot} {j : Fin 4} {v : Int32} {st : List Value} (hd : decode c.code pc = .ok (.iload_n j, 1)) (hl : Ls[j.val]? = some (.val (.int v))) (hp : pc + 1 = pc') (k : own_G p.tables e below P T (mkF m pc' Ls (.int v :: st))) : own_G p.tables e below P T (mkF m pc Ls (st)) := by
  subst hp; exact own_go (fun t q => XS.iloadN X.here hx rfl hd hl q) k
theorem own_iload (X : Stand p l e R s m args below meth c T locs cells slots) (hx : p.tables.exec = Jvm.exec) {pc pc' : Nat} {Ls : Array Slot} {j : Nat} {v : Int32} {st : List Value} (hd : decode c.code pc = .ok (.iload j, 2)) (hl : Ls[j]? = some (.val (.int v))) (hp : pc + 2 = pc') (k : own_G p.tables e below P T (mkF m pc' Ls (.int v :: st))) : own_G p.tables e below P T (mkF m pc Ls (st)) := by
  subst hp; exact own_go (fun t q => XS.iload X.here hx rfl hd hl q) k
theorem own_lloadN (X : Stand p l e R s m args below meth c T locs cells slots) (hx : p.tables.exec = Jvm.exec) {pc pc' : Nat} {Ls : Array Slot} {j : Fin 4} {v : Int64} {st : List Value} (hd : decode c.code pc = .ok (.lload_n j, 1)) (hl : Ls[j.val]? = some (.val (.long v))) (hp : pc + 1 = pc') (k : own_G p.tables e below P T (mkF m pc' Ls (.long v :: st))) : own_G p.tables e below P T (mkF m pc Ls (st)) := by
  subst hp; exact own_go (fun t q => XS.lloadN X.here hx rfl hd hl q) k
theorem own_lload (X : Stand p l e R s m args below meth c T locs cells slots) (hx : p.tables.exec = Jvm.exec) {pc pc' : Nat} {Ls : Array Slot} {j : Nat} {v : Int64} {st : List Value} (hd : decode c.code pc = .ok (.lload j, 2)) (hl : Ls[j]? = some (.val (.long v))) (hp : pc + 2 = pc') (k : own_G p.tables e below P T (mkF m pc' Ls (.long v :: st))) : own_G p.tables e below P T (mkF m pc Ls (st)) := by
  subst hp; exact own_go (fun t q => XS.lload X.here hx rfl hd hl q) k
theorem own_aloadN (X : Stand p l e R s m args below meth c T locs cells slots) (hx : p.tables.exec = Jvm.exec) {pc pc' : Nat} {Ls : Array Slot} {j : Fin 4} {v : Value} {st : List Value} (hd : decode c.code pc = .ok (.aload_n j, 1)) (hl : Ls[j.val]? = some (.val v)) (hv : v.isRef = true) (hp : pc + 1 = pc') (k : own_G p.tables e below P T (mkF m pc' Ls (v :: st))) : own_G p.tables e below P T (mkF m pc Ls (st)) := by
  subst hp; exact own_go (fun t q => XS.aloadN X.here hx rfl hd hl hv q) k
theorem own_istoreN (X : Stand p l e R s m args below meth c T locs cells slots) (hx : p.tables.exec = Jvm.exec) {pc pc' : Nat} {Ls : Array Slot} {j : Fin 4} {v : Int32} {rest : List Value} {Ls' : Array Slot} (hd : decode c.code pc = .ok (.istore_n j, 1)) (hl : storeLocals Ls j.val (.int v) = some Ls') (hp : pc + 1 = pc') (k : own_G p.tables e below P T (mkF m pc' Ls' (rest))) : own_G p.tables e below P T (mkF m pc Ls (.int v :: rest)) := by
  subst hp; exact own_go (fun t q => XS.istoreN X.here hx rfl hd rfl hl q) k
theorem own_lstoreN (X : Stand p l e R s m args below meth c T locs cells slots) (hx : p.tables.exec = Jvm.exec) {pc pc' : Nat} {Ls : Array Slot} {j : Fin 4} {v : Int64} {rest : List Value} {Ls' : Array Slot} (hd : decode c.code pc = .ok (.lstore_n j, 1)) (hl : storeLocals Ls j.val (.long v) = some Ls') (hp : pc + 1 = pc') (k : own_G p.tables e below P T (mkF m pc' Ls' (rest))) : own_G p.tables e below P T (mkF m pc Ls (.long v :: rest)) := by
  subst hp; exact own_go (fun t q => XS.lstoreN X.here hx rfl hd rfl hl q) k
theorem own_astoreN (X : Stand p l e R s m args below meth c T locs cells slots) (hx : p.tables.exec = Jvm.exec) {pc pc' : Nat} {Ls : Array Slot} {j : Fin 4} {v : Value} {rest : List Value} {Ls' : Array Slot} (hd : decode c.code pc = .ok (.astore_n j, 1)) (hv : v.isRef = true) (hl : storeLocals Ls j.val v = some Ls') (hp : pc + 1 = pc') (k : own_G p.tables e below P T (mkF m pc' Ls' (rest))) : own_G p.tables e below P T (mkF m pc Ls (v :: rest)) := by
  subst hp; exact own_go (fun t q => XS.astoreN X.here hx rfl hd rfl hv hl q) k
theorem own_aload (X : Stand p l e R s m args below meth c T locs cells slots) (hx : p.tables.exec = Jvm.exec) {pc pc' : Nat} {Ls : Array Slot} {j : Nat} {v : Value} {st : List Value} (hd : decode c.code pc = .ok (.aload j, 2)) (hl : Ls[j]? = some (.val v)) (hv : v.isRef = true) (hp : pc + 2 = pc') (k : own_G p.tables e below P T (mkF m pc' Ls (v :: st))) : own_G p.tables e below P T (mkF m pc Ls (st)) := by
  subst hp; exact own_go (fun t q => XS.aload X.here hx rfl hd hl hv q) k
theorem own_istore (X : Stand p l e R s m args below meth c T locs cells slots) (hx : p.tables.exec = Jvm.exec) {pc pc' : Nat} {Ls : Array Slot} {j : Nat} {v : Int32} {rest : List Value} {Ls' : Array Slot} (hd : decode c.code pc = .ok (.istore j, 2)) (hl : storeLocals Ls j (.int v) = some Ls') (hp : pc + 2 = pc') (k : own_G p.tables e below P T (mkF m pc' Ls' (rest))) : own_G p.tables e below P T (mkF m pc Ls (.int v :: rest)) := by
  subst hp; exact own_go (fun t q => XS.istore X.here hx rfl hd rfl hl q) k
theorem own_lstore (X : Stand p l e R s m args below meth c T locs cells slots) (hx : p.tables.exec = Jvm.exec) {pc pc' : Nat} {Ls : Array Slot} {j : Nat} {v : Int64} {rest : List Value} {Ls' : Array Slot} (hd : decode c.code pc = .ok (.lstore j, 2)) (hl : storeLocals Ls j (.long v) = some Ls') (hp : pc + 2 = pc') (k : own_G p.tables e below P T (mkF m pc' Ls' (rest))) : own_G p.tables e below P T (mkF m pc Ls (.long v :: rest)) := by
  subst hp; exact own_go (fun t q => XS.lstore X.here hx rfl hd rfl hl q) k
theorem own_astore (X : Stand p l e R s m args below meth c T locs cells slots) (hx : p.tables.exec = Jvm.exec) {pc pc' : Nat} {Ls : Array Slot} {j : Nat} {v : Value} {rest : List Value} {Ls' : Array Slot} (hd : decode c.code pc = .ok (.astore j, 2)) (hv : v.isRef = true) (hl : storeLocals Ls j v = some Ls') (hp : pc + 2 = pc') (k : own_G p.tables e below P T (mkF m pc' Ls' (rest))) : own_G p.tables e below P T (mkF m pc Ls (v :: rest)) := by
  subst hp; exact own_go (fun t q => XS.astore X.here hx rfl hd rfl hv hl q) k
theorem own_iinc (X : Stand p l e R s m args below meth c T locs cells slots) (hx : p.tables.exec = Jvm.exec) {pc pc' : Nat} {Ls : Array Slot} {j : Nat} {cst : Int} {x : Int32} {st : List Value} {Ls' : Array Slot} (hd : decode c.code pc = .ok (.iinc j cst, 3)) (hl : Ls[j]? = some (.val (.int x))) (hl' : storeLocals Ls j (.int (x + Int32.ofInt cst)) = some Ls') (hp : pc + 3 = pc') (k : own_G p.tables e below P T (mkF m pc' Ls' (st))) : own_G p.tables e below P T (mkF m pc Ls (st)) := by
  subst hp; exact own_go (fun t q => XS.iinc X.here hx rfl hd hl hl' q) k
theorem own_iconst (X : Stand p l e R s m args below meth c T locs cells slots) (hx : p.tables.exec = Jvm.exec) {pc pc' : Nat} {Ls : Array Slot} {i : Int} {st : List Value} (z : Int32) (hd : decode c.code pc = .ok (.iconst i, 1)) (hz : Int32.ofInt i = z) (hp : pc + 1 = pc') (k : own_G p.tables e below P T (mkF m pc' Ls (.int z :: st))) : own_G p.tables e below P T (mkF m pc Ls (st)) := by
  subst hp; subst hz; exact own_go (fun t q => XS.iconst X.here hx rfl hd q) k
theorem own_bipush (X : Stand p l e R s m args below meth c T locs cells slots) (hx : p.tables.exec = Jvm.exec) {pc pc' : Nat} {Ls : Array Slot} {i : Int} {st : List Value} (z : Int32) (hd : decode c.code pc = .ok (.bipush i, 2)) (hz : (Int8.ofInt i).toInt32 = z) (hp : pc + 2 = pc') (k : own_G p.tables e below P T (mkF m pc' Ls (.int z :: st))) : own_G p.tables e below P T (mkF m pc Ls (st)) := by
  subst hp; subst hz; exact own_go (fun t q => XS.bipush X.here hx rfl hd q) k
theorem own_sipush (X : Stand p l e R s m args below meth c T locs cells slots) (hx : p.tables.exec = Jvm.exec) {pc pc' : Nat} {Ls : Array Slot} {i : Int} {st : List Value} (z : Int32) (hd : decode c.code pc = .ok (.sipush i, 3)) (hz : (Int16.ofInt i).toInt32 = z) (hp : pc + 3 = pc') (k : own_G p.tables e below P T (mkF m pc' Ls (.int z :: st))) : own_G p.tables e below P T (mkF m pc Ls (st)) := by
  subst hp; subst hz; exact own_go (fun t q => XS.sipush X.here hx rfl hd q) k
theorem own_lconst (X : Stand p l e R s m args below meth c T locs cells slots) (hx : p.tables.exec = Jvm.exec) {pc pc' : Nat} {Ls : Array Slot} {i : Fin 2} {st : List Value} (z : Int64) (hd : decode c.code pc = .ok (.lconst i, 1)) (hz : Int64.ofNat i = z) (hp : pc + 1 = pc') (k : own_G p.tables e below P T (mkF m pc' Ls (.long z :: st))) : own_G p.tables e below P T (mkF m pc Ls (st)) := by
  subst hp; subst hz; exact own_go (fun t q => XS.lconst X.here hx rfl hd q) k
theorem own_aconstNull (X : Stand p l e R s m args below meth c T locs cells slots) (hx : p.tables.exec = Jvm.exec) {pc pc' : Nat} {Ls : Array Slot} {st : List Value} (hd : decode c.code pc = .ok (.aconst_null, 1)) (hp : pc + 1 = pc') (k : own_G p.tables e below P T (mkF m pc' Ls (.null :: st))) : own_G p.tables e below P T (mkF m pc Ls (st)) := by
  subst hp; exact own_go (fun t q => XS.aconstNull X.here hx rfl hd q) k
theorem own_dup (X : Stand p l e R s m args below meth c T locs cells slots) (hx : p.tables.exec = Jvm.exec) {pc pc' : Nat} {Ls : Array Slot} {v : Value} {rest : List Value} (hd : decode c.code pc = .ok (.dup, 1)) (hc : v.category = 1) (hp : pc + 1 = pc') (k : own_G p.tables e below P T (mkF m pc' Ls (v :: v :: rest))) : own_G p.tables e below P T (mkF m pc Ls (v :: rest)) := by
  subst hp; exact own_go (fun t q => XS.dup X.here hx rfl hd rfl hc q) k
theorem own_pop (X : Stand p l e R s m args below meth c T locs cells slots) (hx : p.tables.exec = Jvm.exec) {pc pc' : Nat} {Ls : Array Slot} {v : Value} {rest : List Value} (hd : decode c.code pc = .ok (.pop, 1)) (hc : v.category = 1) (hp : pc + 1 = pc') (k : own_G p.tables e below P T (mkF m pc' Ls (rest))) : own_G p.tables e below P T (mkF m pc Ls (v :: rest)) := by
  subst hp; exact own_go (fun t q => XS.pop X.here hx rfl hd rfl hc q) k
theorem own_dupX1 (X : Stand p l e R s m args below meth c T locs cells slots) (hx : p.tables.exec = Jvm.exec) {pc pc' : Nat} {Ls : Array Slot} {v w : Value} {rest : List Value} (hd : decode c.code pc = .ok (.dup_x1, 1)) (hc : v.category = 1) (hc' : w.category = 1) (hp : pc + 1 = pc') (k : own_G p.tables e below P T (mkF m pc' Ls (v :: w :: v :: rest))) : own_G p.tables e below P T (mkF m pc Ls (v :: w :: rest)) := by
  subst hp; exact own_go (fun t q => XS.dupX1 X.here hx rfl hd rfl hc hc' q) k
theorem own_dup2 (X : Stand p l e R s m args below meth c T locs cells slots) (hx : p.tables.exec = Jvm.exec) {pc pc' : Nat} {Ls : Array Slot} {v w : Value} {rest : List Value} (hd : decode c.code pc = .ok (.dup2, 1)) (hc : v.category = 1) (hc' : w.category = 1) (hp : pc + 1 = pc') (k : own_G p.tables e below P T (mkF m pc' Ls (v :: w :: v :: w :: rest))) : own_G p.tables e below P T (mkF m pc Ls (v :: w :: rest)) := by
  subst hp; exact own_go (fun t q => Jvm.Free.XT.dup2 X.here hx rfl hd rfl hc hc' q) k
theorem own_goto (X : Stand p l e R s m args below meth c T locs cells slots) (hx : p.tables.exec = Jvm.exec) {pc pc' : Nat} {Ls : Array Slot} {st : List Value} {o : Int} (hd : decode c.code pc = .ok (.goto o, 3)) (ho : 0 ≤ (pc : Int) + o) (hp : ((pc : Int) + o).toNat = pc') (k : own_G p.tables e below P T (mkF m pc' Ls (st))) : own_G p.tables e below P T (mkF m pc Ls (st)) := by
  exact own_go (fun t q => XS.goto X.here hx rfl (pc0 := pc) (pc' := pc') rfl hd ho hp q) k
theorem own_ifYes (X : Stand p l e R s m args below meth c T locs cells slots) (hx : p.tables.exec = Jvm.exec) {pc pc' : Nat} {Ls : Array Slot} {cd : ClassFile.Cond} {x : Int32} {rest : List Value} {o : Int} (hd : decode c.code pc = .ok (.ifCond cd o, 3)) (hc : if_icmp.holds cd x 0 = true) (ho : 0 ≤ (pc : Int) + o) (hp : ((pc : Int) + o).toNat = pc') (k : own_G p.tables e below P T (mkF m pc' Ls (rest))) : own_G p.tables e below P T (mkF m pc Ls (.int x :: rest)) := by
  exact own_go (fun t q => XS.ifYes X.here hx rfl (pc0 := pc) (pc' := pc') rfl hd rfl ((if0 _ _).trans hc) ho hp q) k
theorem own_icmpYes (X : Stand p l e R s m args below meth c T locs cells slots) (hx : p.tables.exec = Jvm.exec) {pc pc' : Nat} {Ls : Array Slot} {cd : ClassFile.Cond} {x y : Int32} {rest : List Value} {o : Int} (hd : decode c.code pc = .ok (.if_icmp cd o, 3)) (hc : if_icmp.holds cd x y = true) (ho : 0 ≤ (pc : Int) + o) (hp : ((pc : Int) + o).toNat = pc') (k : own_G p.tables e below P T (mkF m pc' Ls (rest))) : own_G p.tables e below P T (mkF m pc Ls (.int y :: .int x :: rest)) := by
  exact own_go (fun t q => XS.icmpYes X.here hx rfl (pc0 := pc) (pc' := pc') rfl hd rfl hc ho hp q) k
theorem own_ifnullYes (X : Stand p l e R s m args below meth c T locs cells slots) (hx : p.tables.exec = Jvm.exec) {pc pc' : Nat} {Ls : Array Slot} {rest : List Value} {o : Int} (hd : decode c.code pc = .ok (.ifnull o, 3)) (ho : 0 ≤ (pc : Int) + o) (hp : ((pc : Int) + o).toNat = pc') (k : own_G p.tables e below P T (mkF m pc' Ls (rest))) : own_G p.tables e below P T (mkF m pc Ls (.null :: rest)) := by
  exact own_go (fun t q => XS.ifnullYes X.here hx rfl (pc0 := pc) (pc' := pc') rfl hd rfl ho hp q) k
theorem own_ifnonnullYes (X : Stand p l e R s m args below meth c T locs cells slots) (hx : p.tables.exec = Jvm.exec) {pc pc' : Nat} {Ls : Array Slot} {b : Addr} {rest : List Value} {o : Int} (hd : decode c.code pc = .ok (.ifnonnull o, 3)) (ho : 0 ≤ (pc : Int) + o) (hp : ((pc : Int) + o).toNat = pc') (k : own_G p.tables e below P T (mkF m pc' Ls (rest))) : own_G p.tables e below P T (mkF m pc Ls (.ref b :: rest)) := by
  exact own_go (fun t q => XS.ifnonnullYes X.here hx rfl (pc0 := pc) (pc' := pc') rfl hd rfl ho hp q) k
theorem own_ifNo (X : Stand p l e R s m args below meth c T locs cells slots) (hx : p.tables.exec = Jvm.exec) {pc pc' : Nat} {Ls : Array Slot} {cd : ClassFile.Cond} {o : Int} {x : Int32} {rest : List Value} (hd : decode c.code pc = .ok (.ifCond cd o, 3)) (hc : if_icmp.holds cd x 0 = false) (hp : pc + 3 = pc') (k : own_G p.tables e below P T (mkF m pc' Ls (rest))) : own_G p.tables e below P T (mkF m pc Ls (.int x :: rest)) := by
  subst hp; exact own_go (fun t q => XS.ifNo X.here hx rfl hd rfl ((if0 _ _).trans hc) q) k
theorem own_icmpNo (X : Stand p l e R s m args below meth c T locs cells slots) (hx : p.tables.exec = Jvm.exec) {pc pc' : Nat} {Ls : Array Slot} {cd : ClassFile.Cond} {o : Int} {x y : Int32} {rest : List Value} (hd : decode c.code pc = .ok (.if_icmp cd o, 3)) (hc : if_icmp.holds cd x y = false) (hp : pc + 3 = pc') (k : own_G p.tables e below P T (mkF m pc' Ls (rest))) : own_G p.tables e below P T (mkF m pc Ls (.int y :: .int x :: rest)) := by
  subst hp; exact own_go (fun t q => XS.icmpNo X.here hx rfl hd rfl hc q) k
theorem own_ifnullNo (X : Stand p l e R s m args below meth c T locs cells slots) (hx : p.tables.exec = Jvm.exec) {pc pc' : Nat} {Ls : Array Slot} {o : Int} {b : Addr} {rest : List Value} (hd : decode c.code pc = .ok (.ifnull o, 3)) (hp : pc + 3 = pc') (k : own_G p.tables e below P T (mkF m pc' Ls (rest))) : own_G p.tables e below P T (mkF m pc Ls (.ref b :: rest)) := by
  subst hp; exact own_go (fun t q => XS.ifnullNo X.here hx rfl hd rfl q) k
theorem own_ifnonnullNo (X : Stand p l e R s m args below meth c T locs cells slots) (hx : p.tables.exec = Jvm.exec) {pc pc' : Nat} {Ls : Array Slot} {o : Int} {rest : List Value} (hd : decode c.code pc = .ok (.ifnonnull o, 3)) (hp : pc + 3 = pc') (k : own_G p.tables e below P T (mkF m pc' Ls (rest))) : own_G p.tables e below P T (mkF m pc Ls (.null :: rest)) := by
  subst hp; exact own_go (fun t q => XS.ifnonnullNo X.here hx rfl hd rfl q) k
theorem own_acmp (X : Stand p l e R s m args below meth c T locs cells slots) (hx : p.tables.exec = Jvm.exec) {pc pc' : Nat} {Ls : Array Slot} {cd : ACond} {x y : Value} {rest : List Value} {o : Int} (same : Bool) (hd : decode c.code pc = .ok (.if_acmp cd o, 3)) (h1 : x.isRef = true) (h2 : y.isRef = true) (hq : decide (x = y) = same) (ho : 0 ≤ (pc : Int) + o) (hp : pc' = if acV cd same = true then ((pc : Int) + o).toNat else pc + 3) (k : own_G p.tables e below P T (mkF m pc' Ls rest)) : own_G p.tables e below P T (mkF m pc Ls (y :: x :: rest)) := by
  exact own_go (fun t q => Jvm.RoadKit.acmp (g := mkF m pc Ls (y :: x :: rest)) X hx rfl h1 h2 (pc0 := pc) (pc' := pc') rfl hd rfl hq ho hp q) k
theorem own_ldcI (X : Stand p l e R s m args below meth c T locs cells slots) (hx : p.tables.exec = Jvm.exec) {pc pc' : Nat} {Ls : Array Slot} (hZ : Z.Warmed39 s.vm) {own : String} {idx : Nat} {z : Int32} {st : List Value} (hown : s.vm.findClass own = some m.cls) (w : (Jvm.Cond.constant own idx z).before a0 Z = true) (hd : decode c.code pc = .ok (.ldc idx, 2)) (hp : pc + 2 = pc') (k : own_G p.tables e below P T (mkF m pc' Ls (.int z :: st))) : own_G p.tables e below P T (mkF m pc Ls st) := by
  subst hp; exact own_go (X.ldcInt hx hown (mvT hZ w) (g := mkF m pc Ls st) rfl hd) k
theorem own_ldcwI (X : Stand p l e R s m args below meth c T locs cells slots) (hx : p.tables.exec = Jvm.exec) {pc pc' : Nat} {Ls : Array Slot} (hZ : Z.Warmed39 s.vm) {own : String} {idx : Nat} {z : Int32} {st : List Value} (hown : s.vm.findClass own = some m.cls) (w : (Jvm.Cond.constant own idx z).before a0 Z = true) (hd : decode c.code pc = .ok (.ldc_w idx, 3)) (hp : pc + 3 = pc') (k : own_G p.tables e below P T (mkF m pc' Ls (.int z :: st))) : own_G p.tables e below P T (mkF m pc Ls st) := by
  subst hp; exact own_go (X.ldcwInt hx hown (mvT hZ w) (g := mkF m pc Ls st) rfl hd) k
theorem own_ldc2J (X : Stand p l e R s m args below meth c T locs cells slots) (hx : p.tables.exec = Jvm.exec) {pc pc' : Nat} {Ls : Array Slot} (hZ : Z.Warmed39 s.vm) {own : String} {idx : Nat} {z : Int64} {st : List Value} (hown : s.vm.findClass own = some m.cls) (w : (Jvm.Cond.constantLong own idx z).before a0 Z = true) (hd : decode c.code pc = .ok (.ldc2_w idx, 3)) (hp : pc + 3 = pc') (k : own_G p.tables e below P T (mkF m pc' Ls (.long z :: st))) : own_G p.tables e below P T (mkF m pc Ls st) := by
  subst hp; exact own_go (X.ldc2Long hx hown (mvT hZ w) (g := mkF m pc Ls st) rfl hd) k
theorem own_getF (X : Stand p l e R s m args below meth c T locs cells slots) (hx : p.tables.exec = Jvm.exec) {pc pc' : Nat} {Ls : Array Slot} (hZ : Z.Warmed39 s.vm) {own R0 O n d host : String} {idx : Nat} {a : Addr} {v : Value} {rest : List Value} (hown : s.vm.findClass own = some m.cls) (w : (Cond.fieldLink own idx R0 n d).before a0 Z = true ∨ (Cond.fieldLinkNest own idx R0 n d host).before a0 Z = true) (via : Via Z R0 O n d) (eT : T.heap = h) (F : Fld Z h a O n d v) (hd : decode c.code pc = .ok (.getfield idx, 3)) (hp : pc + 3 = pc') (k : ∀ T', Stand p l e R s m args below meth c T' locs cells slots → T'.heap = h → own_G p.tables e below P T' (mkF m pc' Ls (v :: rest))) : own_G p.tables e below P T (mkF m pc Ls (.ref a :: rest)) := by
  subst hp; obtain ⟨T', X', e', st⟩ := getF X hx hZ hown w via eT F (g := mkF m pc Ls (.ref a :: rest)) rfl rfl hd; exact own_go st (k T' X' e')
theorem own_getS (X : Stand p l e R s m args below meth c T locs cells slots) (hx : p.tables.exec = Jvm.exec) {pc pc' : Nat} {Ls : Array Slot} (hZ : Z.Warmed39 s.vm) {own R0 O n d host : String} {idx : Nat} {v : Value} {st : List Value} (hown : s.vm.findClass own = some m.cls) (w : (Cond.fieldLink own idx R0 n d).before a0 Z = true ∨ (Cond.fieldLinkNest own idx R0 n d host).before a0 Z = true) (via : Via Z R0 O n d) (eT : T.heap = h) (F : Sta Z h O n d v) (hd : decode c.code pc = .ok (.getstatic idx, 3)) (hp : pc + 3 = pc') (k : ∀ T', Stand p l e R s m args below meth c T' locs cells slots → T'.heap = h → own_G p.tables e below P T' (mkF m pc' Ls (v :: st))) : own_G p.tables e below P T (mkF m pc Ls st) := by
  subst hp; obtain ⟨T', X', e', stp⟩ := getS2 X hx hZ hown w via eT F (g := mkF m pc Ls st) rfl hd; exact own_go stp (k T' X' e')
theorem own_len (X : Stand p l e R s m args below meth c T locs cells slots) (hx : p.tables.exec = Jvm.exec) {pc pc' : Nat} {Ls : Array Slot} (hZ : Z.Warmed39 s.vm) {a : Addr} {cl : Cell} {ty : FieldType} {z : Int32} {rest : List Value} (eT : T.heap = h) (A : Arr Z h a cl ty) (S : cl.slots.size = z.toNatClampNeg) (M : ¬ z < 0) (hd : decode c.code pc = .ok (.arraylength, 1)) (hp : pc + 1 = pc') (k : own_G p.tables e below P T (mkF m pc' Ls (.int z :: rest))) : own_G p.tables e below P T (mkF m pc Ls (.ref a :: rest)) := by
  subst hp; exact own_go (fun t q => X.arraylength hx (by rw [eT]; exact A.1) (State.isArrayOf_alike hZ.alike A.2.1) (g := mkF m pc Ls (.ref a :: rest)) rfl rfl hd _ (by rw [len_of S M]; exact q)) k
theorem own_iaload (X : Stand p l e R s m args below meth c T locs cells slots) (hx : p.tables.exec = Jvm.exec) {pc pc' : Nat} {Ls : Array Slot} (hZ : Z.Warmed39 s.vm) {a : Addr} {cl : Cell} {j : Int32} {v : Int32} {rest : List Value} (eT : T.heap = h) (A : Arr Z h a cl .int) (hj : ¬ (j < 0 ∨ cl.slots.size ≤ j.toNatClampNeg)) (hv : cl.slots[j.toNatClampNeg]? = some (.int v)) (hd : decode c.code pc = .ok (.iaload, 1)) (hp : pc + 1 = pc') (k : own_G p.tables e below P T (mkF m pc' Ls ((.int v) :: rest))) : own_G p.tables e below P T (mkF m pc Ls (.int j :: .ref a :: rest)) := by
  subst hp; exact own_go (X.iaload hx (j := j) (v := (.int v)) (by rw [eT]; exact A.1) (State.isArrayOf_alike hZ.alike A.2.1) A.2.2 hj hv (g := mkF m pc Ls (.int j :: .ref a :: rest)) rfl rfl hd) k
theorem own_laload (X : Stand p l e R s m args below meth c T locs cells slots) (hx : p.tables.exec = Jvm.exec) {pc pc' : Nat} {Ls : Array Slot} (hZ : Z.Warmed39 s.vm) {a : Addr} {cl : Cell} {j : Int32} {v : Int64} {rest : List Value} (eT : T.heap = h) (A : Arr Z h a cl .long) (hj : ¬ (j < 0 ∨ cl.slots.size ≤ j.toNatClampNeg)) (hv : cl.slots[j.toNatClampNeg]? = some (.long v)) (hd : decode c.code pc = .ok (.laload, 1)) (hp : pc + 1 = pc') (k : own_G p.tables e below P T (mkF m pc' Ls ((.long v) :: rest))) : own_G p.tables e below P T (mkF m pc Ls (.int j :: .ref a :: rest)) := by
  subst hp; exact own_go (X.laload hx (j := j) (v := (.long v)) (by rw [eT]; exact A.1) (State.isArrayOf_alike hZ.alike A.2.1) A.2.2 hj hv (g := mkF m pc Ls (.int j :: .ref a :: rest)) rfl rfl hd) k
theorem own_baload (X : Stand p l e R s m args below meth c T locs cells slots) (hx : p.tables.exec = Jvm.exec) {pc pc' : Nat} {Ls : Array Slot} (hZ : Z.Warmed39 s.vm) {a : Addr} {cl : Cell} {j : Int32} {v : Int32} {rest : List Value} (eT : T.heap = h) (A : Arr Z h a cl .byte) (hj : ¬ (j < 0 ∨ cl.slots.size ≤ j.toNatClampNeg)) (hv : cl.slots[j.toNatClampNeg]? = some (.int v)) (hd : decode c.code pc = .ok (.baload, 1)) (hp : pc + 1 = pc') (k : own_G p.tables e below P T (mkF m pc' Ls ((.int v) :: rest))) : own_G p.tables e below P T (mkF m pc Ls (.int j :: .ref a :: rest)) := by
  subst hp; exact own_go (X.baloadBytes hx (j := j) (v := (.int v)) (by rw [eT]; exact A.1) (State.isArrayOf_alike hZ.alike A.2.1) A.2.2 hj hv (g := mkF m pc Ls (.int j :: .ref a :: rest)) rfl rfl hd) k
theorem own_caload (X : Stand p l e R s m args below meth c T locs cells slots) (hx : p.tables.exec = Jvm.exec) {pc pc' : Nat} {Ls : Array Slot} (hZ : Z.Warmed39 s.vm) {a : Addr} {cl : Cell} {j : Int32} {v : Int32} {rest : List Value} (eT : T.heap = h) (A : Arr Z h a cl .char) (hj : ¬ (j < 0 ∨ cl.slots.size ≤ j.toNatClampNeg)) (hv : cl.slots[j.toNatClampNeg]? = some (.int v)) (hd : decode c.code pc = .ok (.caload, 1)) (hp : pc + 1 = pc') (k : own_G p.tables e below P T (mkF m pc' Ls ((.int v) :: rest))) : own_G p.tables e below P T (mkF m pc Ls (.int j :: .ref a :: rest)) := by
  subst hp; exact own_go (X.caload hx (j := j) (v := (.int v)) (by rw [eT]; exact A.1) (State.isArrayOf_alike hZ.alike A.2.1) A.2.2 hj hv (g := mkF m pc Ls (.int j :: .ref a :: rest)) rfl rfl hd) k
theorem own_aaload (X : Stand p l e R s m args below meth c T locs cells slots) (hx : p.tables.exec = Jvm.exec) {pc pc' : Nat} {Ls : Array Slot} (hZ : Z.Warmed39 s.vm) {a : Addr} {cl : Cell} {ty : FieldType} {j : Int32} {v : Value} {rest : List Value} (eT : T.heap = h) (A : Arr Z h a cl ty) (hty : ty.isReference = true) (hj : ¬ (j < 0 ∨ cl.slots.size ≤ j.toNatClampNeg)) (hv : cl.slots[j.toNatClampNeg]? = some v) (hd : decode c.code pc = .ok (.aaload, 1)) (hp : pc + 1 = pc') (k : own_G p.tables e below P T (mkF m pc' Ls (v :: rest))) : own_G p.tables e below P T (mkF m pc Ls (.int j :: .ref a :: rest)) := by
  subst hp; exact own_go (X.aaload hx (j := j) (v := v) (by rw [eT]; exact A.1) (State.isArrayOf_alike hZ.alike A.2.1) hty A.2.2 hj hv (g := mkF m pc Ls (.int j :: .ref a :: rest)) rfl rfl hd) k
theorem own_stI (X : Stand p l e R s m args below meth c T locs cells slots) (hx : p.tables.exec = Jvm.exec) {pc pc' : Nat} {Ls : Array Slot} (hZ : Z.Warmed39 s.vm) {a : Addr} {cl : Cell} {j : Int32} {x : Int32} {rest : List Value} (eT : T.heap = h) (A : Arr Z h a cl .int) (hj : ¬ (j < 0 ∨ cl.slots.size ≤ j.toNatClampNeg)) (hd : decode c.code pc = .ok (.iastore, 1)) (hp : pc + 1 = pc') (k : ∀ T' h', Stand p l e R s m args below meth c T' (locs ++ [⟨a, j.toNatClampNeg⟩]) cells slots → T'.heap = h' → Wr h h' a j.toNatClampNeg (.int x) → own_G p.tables e below P T' (mkF m pc' Ls rest)) : own_G p.tables e below P T (mkF m pc Ls (.int x :: .int j :: .ref a :: rest)) := by
  subst hp; obtain ⟨T', h', X', e', W', st⟩ := stI X hx hZ eT A (j := j) hj (g := mkF m pc Ls (.int x :: .int j :: .ref a :: rest)) rfl rfl hd; exact own_go st (k T' h' X' e' W')
theorem own_stJ (X : Stand p l e R s m args below meth c T locs cells slots) (hx : p.tables.exec = Jvm.exec) {pc pc' : Nat} {Ls : Array Slot} (hZ : Z.Warmed39 s.vm) {a : Addr} {cl : Cell} {j : Int32} {x : Int64} {rest : List Value} (eT : T.heap = h) (A : Arr Z h a cl .long) (hj : ¬ (j < 0 ∨ cl.slots.size ≤ j.toNatClampNeg)) (hd : decode c.code pc = .ok (.lastore, 1)) (hp : pc + 1 = pc') (k : ∀ T' h', Stand p l e R s m args below meth c T' (locs ++ [⟨a, j.toNatClampNeg⟩]) cells slots → T'.heap = h' → Wr h h' a j.toNatClampNeg (.long x) → own_G p.tables e below P T' (mkF m pc' Ls rest)) : own_G p.tables e below P T (mkF m pc Ls (.long x :: .int j :: .ref a :: rest)) := by
  subst hp; obtain ⟨T', h', X', e', W', st⟩ := stJ X hx hZ eT A (j := j) hj (g := mkF m pc Ls (.long x :: .int j :: .ref a :: rest)) rfl rfl hd; exact own_go st (k T' h' X' e' W')
theorem own_stB (X : Stand p l e R s m args below meth c T locs cells slots) (hx : p.tables.exec = Jvm.exec) {pc pc' : Nat} {Ls : Array Slot} (hZ : Z.Warmed39 s.vm) {a : Addr} {cl : Cell} {j : Int32} {x : Int32} {rest : List Value} (eT : T.heap = h) (A : Arr Z h a cl .byte) (hj : ¬ (j < 0 ∨ cl.slots.size ≤ j.toNatClampNeg)) (hd : decode c.code pc = .ok (.bastore, 1)) (hp : pc + 1 = pc') (k : ∀ T' h', Stand p l e R s m args below meth c T' (locs ++ [⟨a, j.toNatClampNeg⟩]) cells slots → T'.heap = h' → Wr h h' a j.toNatClampNeg (.int (nar .byte x)) → own_G p.tables e below P T' (mkF m pc' Ls rest)) : own_G p.tables e below P T (mkF m pc Ls (.int x :: .int j :: .ref a :: rest)) := by
  subst hp; obtain ⟨T', h', X', e', W', st⟩ := stB X hx hZ eT A (j := j) hj (g := mkF m pc Ls (.int x :: .int j :: .ref a :: rest)) rfl rfl hd; exact own_go st (k T' h' X' e' W')
theorem own_stC (X : Stand p l e R s m args below meth c T locs cells slots) (hx : p.tables.exec = Jvm.exec) {pc pc' : Nat} {Ls : Array Slot} (hZ : Z.Warmed39 s.vm) {a : Addr} {cl : Cell} {j : Int32} {x : Int32} {rest : List Value} (eT : T.heap = h) (A : Arr Z h a cl .char) (hj : ¬ (j < 0 ∨ cl.slots.size ≤ j.toNatClampNeg)) (hd : decode c.code pc = .ok (.castore, 1)) (hp : pc + 1 = pc') (k : ∀ T' h', Stand p l e R s m args below meth c T' (locs ++ [⟨a, j.toNatClampNeg⟩]) cells slots → T'.heap = h' → Wr h h' a j.toNatClampNeg (.int (nar .char x)) → own_G p.tables e below P T' (mkF m pc' Ls rest)) : own_G p.tables e below P T (mkF m pc Ls (.int x :: .int j :: .ref a :: rest)) := by
  subst hp; obtain ⟨T', h', X', e', W', st⟩ := stC X hx hZ eT A (j := j) hj (g := mkF m pc Ls (.int x :: .int j :: .ref a :: rest)) rfl rfl hd; exact own_go st (k T' h' X' e' W')
theorem own_stR (X : Stand p l e R s m args below meth c T locs cells slots) (hx : p.tables.exec = Jvm.exec) {pc pc' : Nat} {Ls : Array Slot} (hZ : Z.Warmed39 s.vm) {a : Addr} {cl : Cell} {j : Int32} {x : Value} {ty : FieldType} {rest : List Value} (eT : T.heap = h) (A : Arr Z h a cl ty) (hj : ¬ (j < 0 ∨ cl.slots.size ≤ j.toNatClampNeg)) (hty : ty.isReference = true) (F : Sto Z h a x) (hd : decode c.code pc = .ok (.aastore, 1)) (hp : pc + 1 = pc') (k : ∀ T' h', Stand p l e R s m args below meth c T' (locs ++ [⟨a, j.toNatClampNeg⟩]) cells slots → T'.heap = h' → Wr h h' a j.toNatClampNeg x → own_G p.tables e below P T' (mkF m pc' Ls rest)) : own_G p.tables e below P T (mkF m pc Ls (x :: .int j :: .ref a :: rest)) := by
  subst hp; obtain ⟨T', h', X', e', W', st⟩ := stR X hx hZ eT A (j := j) hj hty F (g := mkF m pc Ls (x :: .int j :: .ref a :: rest)) rfl rfl hd; exact own_go st (k T' h' X' e' W')
theorem own_putF (X : Stand p l e R s m args below meth c T locs cells slots) (hx : p.tables.exec = Jvm.exec) {pc pc' : Nat} {Ls : Array Slot} (hZ : Z.Warmed39 s.vm) {own R0 O n d host C : String} {idx kk : Nat} {ty : FieldType} {a : Addr} {v old : Value} {rest : List Value} (hown : s.vm.findClass own = some m.cls) (w : (Cond.fieldLink own idx R0 n d).before a0 Z = true ∨ (Cond.fieldLinkNest own idx R0 n d host).before a0 Z = true) (via : Via Z R0 O n d) (eT : T.heap = h) (F : Fld Z h a O n d old) (E : Exa Z h a C) (L : (Cond.lays C O n d).before a0 Z = true ∨ ((Cond.laysFinal C O n d).before a0 Z = true ∧ own = O ∧ meth.name = "<init>")) (wi : (Cond.instantiable C kk).before a0 Z = true) (hty : parseFieldDescriptor d = some ty) (hn : narrow ty v = v) (hf : fits ty v = true) (hd : decode c.code pc = .ok (.putfield idx, 3)) (hp : pc + 3 = pc') (k : ∀ T' h', Stand p l e R s m args below meth c T' (locs ++ [⟨a, Jvm.RoadKit.slotOf Z O n d⟩]) cells slots → T'.heap = h' → Wr h h' a (Jvm.RoadKit.slotOf Z O n d) v → own_G p.tables e below P T' (mkF m pc' Ls rest)) : own_G p.tables e below P T (mkF m pc Ls (v :: .ref a :: rest)) := by
  subst hp; obtain ⟨T', h', X', e', W', st⟩ := putF X hx hZ hown w via eT F E L wi hty hn hf (g := mkF m pc Ls (v :: .ref a :: rest)) rfl rfl hd; exact own_go st (k T' h' X' e' W')
theorem own_putFN (X : Stand p l e R s m args below meth c T locs cells slots) (hx : p.tables.exec = Jvm.exec) {pc pc' : Nat} {Ls : Array Slot} (hZ : Z.Warmed39 s.vm) {own R0 O n d C : String} {idx kk : Nat} {ty : FieldType} {a : Addr} {v old : Value} (v' : Value) {rest : List Value} (hown : s.vm.findClass own = some m.cls) (w : (Cond.fieldLink own idx R0 n d).before a0 Z = true) (via : Via Z R0 O n d) (eT : T.heap = h) (F : Fld Z h a O n d old) (E : Exa Z h a C) (L : (Cond.lays C O n d).before a0 Z = true ∨ ((Cond.laysFinal C O n d).before a0 Z = true ∧ own = O ∧ meth.name = "<init>")) (wi : (Cond.instantiable C kk).before a0 Z = true) (hty : parseFieldDescriptor d = some ty) (hn : narrow ty v = v') (hf : fits ty v' = true) (hd : decode c.code pc = .ok (.putfield idx, 3)) (hp : pc + 3 = pc') (k : ∀ T' h', Stand p l e R s m args below meth c T' (locs ++ [⟨a, Jvm.RoadKit.slotOf Z O n d⟩]) cells slots → T'.heap = h' → Wr h h' a (Jvm.RoadKit.slotOf Z O n d) v' → own_G p.tables e below P T' (mkF m pc' Ls rest)) : own_G p.tables e below P T (mkF m pc Ls (v :: .ref a :: rest)) := by
  subst hp; obtain ⟨T', h', X', e', W', st⟩ := putFN X hx hZ hown w via eT F E L wi hty hn hf (g := mkF m pc Ls (v :: .ref a :: rest)) rfl rfl hd; exact own_go st (k T' h' X' e' W')
theorem own_new (X : Stand p l e R s m args below meth c T locs cells slots) (hx : p.tables.exec = Jvm.exec) {pc pc' : Nat} {Ls : Array Slot} (hZ : Z.Warmed39 s.vm) {own C : String} {idx n : Nat} {st : List Value} (hown : s.vm.findClass own = some m.cls) (w : (Cond.classLink own idx C).before a0 Z = true) (wi : (Cond.instantiable C n).before a0 Z = true) (wz : (Cond.initialized C).before a0 Z = true) (eT : T.heap = h) (hd : decode c.code pc = .ok (.new idx, 3)) (hc : cells + 1 ≤ R.cells) (hl : slots + n ≤ R.slots) (hp : pc + 3 = pc') (k : ∀ T' h' b, b = h.size → Stand p l e R s m args below meth c T' locs (cells + 1) (slots + n) → T'.heap = h' → Ext h h' → Exa Z h' b C → (∀ {O nm d : String} {ty : FieldType}, Laid Z a0 C O nm d → parseFieldDescriptor d = some ty → Fld Z h' b O nm d (defaultValue ty)) → own_G p.tables e below P T' (mkF m pc' Ls (.ref b :: st))) : own_G p.tables e below P T (mkF m pc Ls st) := by
  subst hp; obtain ⟨T', h', X', e', E', A', D', -, stp⟩ := newO X hx hZ hown w wi wz eT (g := mkF m pc Ls st) rfl hd hc hl; exact own_go stp (k T' h' _ rfl X' e' E' A' D')
theorem own_newP (X : Stand p l e R s m args below meth c T locs cells slots) (hx : p.tables.exec = Jvm.exec) {pc pc' : Nat} {Ls : Array Slot} (hZ : Z.Warmed39 s.vm) {aty : ArrayType} {z : Int32} {rest : List Value} (w : (Cond.arrayClass (newarray.typeOf aty)).before a0 Z = true) (eT : T.heap = h) (hd : decode c.code pc = .ok (.newarray aty, 2)) (hn : ¬ z < 0) (cap : Nat) (hcap : z.toNatClampNeg ≤ cap) (hb : cap * 8 ≤ 536870912) (hc : cells + 1 ≤ R.cells) (hl : slots + cap ≤ R.slots) (hp : pc + 2 = pc') (k : ∀ T' h' cA b, b = h.size → Stand p l e R s m args below meth c T' locs (cells + 1) (slots + cap) → T'.heap = h' → Ext h h' → Arr Z h' b (newA cA (newarray.typeOf aty) z) (newarray.typeOf aty) → own_G p.tables e below P T' (mkF m pc' Ls (.ref b :: rest))) : own_G p.tables e below P T (mkF m pc Ls (.int z :: rest)) := by
  subst hp; obtain ⟨T', h', cA, X', e', E', A', stp⟩ := newP X hx hZ w eT (g := mkF m pc Ls (.int z :: rest)) rfl hd rfl hn hcap hb hc hl; exact own_go stp (k T' h' cA _ rfl X' e' E' A')
theorem own_newR (X : Stand p l e R s m args below meth c T locs cells slots) (hx : p.tables.exec = Jvm.exec) {pc pc' : Nat} {Ls : Array Slot} (hZ : Z.Warmed39 s.vm) {own C : String} {idx : Nat} {z : Int32} {rest : List Value} (hown : s.vm.findClass own = some m.cls) (w1 : (Cond.classLink own idx C).before a0 Z = true) (w2 : (Cond.arrayOver (.object C)).before a0 Z = true) (eT : T.heap = h) (hd : decode c.code pc = .ok (.anewarray idx, 3)) (hn : ¬ z < 0) (cap : Nat) (hcap : z.toNatClampNeg ≤ cap) (hb : cap * 8 ≤ 536870912) (hc : cells + 1 ≤ R.cells) (hl : slots + cap ≤ R.slots) (hp : pc + 3 = pc') (k : ∀ T' h' cA b, b = h.size → Stand p l e R s m args below meth c T' locs (cells + 1) (slots + cap) → T'.heap = h' → Ext h h' → Arr Z h' b (newA cA (.object C) z) (.object C) → Ovr Z cA C → own_G p.tables e below P T' (mkF m pc' Ls (.ref b :: rest))) : own_G p.tables e below P T (mkF m pc Ls (.int z :: rest)) := by
  subst hp; obtain ⟨T', h', cA, X', e', E', A', O', stp⟩ := newR X hx hZ hown w1 w2 eT (g := mkF m pc Ls (.int z :: rest)) rfl hd rfl hn hcap hb hc hl; exact own_go stp (k T' h' cA _ rfl X' e' E' A' O')
theorem own_initO (X : Stand p l e R s m args below meth c T locs cells slots) (hx : p.tables.exec = Jvm.exec) {pc pc' : Nat} {Ls : Array Slot} (hZ : Z.Warmed39 s.vm) {own : String} {idx : Nat} {a : Addr} {rest : List Value} (hown : s.vm.findClass own = some m.cls) (w1 : (Cond.methodLink own idx Lib.objectInit).before a0 Z = true) (w2 : (Cond.instanceMethod Lib.objectInit).before a0 Z = true) (w3 : (Cond.code Lib.objectInit ⟨#[0xb1]⟩ 1 none).before a0 Z = true) (eT : T.heap = h) (hsz : Ls.size = c.maxLocals) (hd : decode c.code pc = .ok (.invokespecial idx, 3)) (hf : 1 ≤ R.frames) (W : Nat) (hW : 2 * 0 + (rest.map fun v => v.category).sum ≤ W) (hl : W + 12 ≤ R.locals) (hp : pc + 3 = pc') (k : ∀ T', Stand p l e R s m args below meth c T' locs cells slots → T'.heap = h → own_G p.tables e below P T' (mkF m pc' Ls rest)) : own_G p.tables e below P T (mkF m pc Ls (.ref a :: rest)) := by
  subst hp; obtain ⟨T', X', e', st⟩ := initO X hx hZ hown w1 w2 w3 eT (g := mkF m pc Ls (.ref a :: rest)) rfl hsz rfl hd hf hW hl; exact own_go st (k T' X' e')
theorem own_callS (X : Stand p l e R s m args below meth c T locs cells slots) (hx : p.tables.exec = Jvm.exec) {pc pc' : Nat} {Ls : Array Slot} (hZ : Z.Warmed39 s.vm) {own : String} {idx : Nat} {y : MethodName} {bytes : ByteArray} {maxL : Nat} {ret : Option FieldType} {rm : Room} {as' : Array Value} {Q : Option Value → Heap → List Loc → Prop} (hown : s.vm.findClass own = some m.cls) (w1 : (Cond.methodLink own idx y).before a0 Z = true) (w2 : (Cond.static y).before a0 Z = true) (w3 : (Cond.initialized y.cls).before a0 Z = true) (w4 : (Cond.code y bytes maxL ret).before a0 Z = true) (hy : y.cls ≠ "java/lang/invoke/MethodHandle" ∧ y.cls ≠ "java/lang/invoke/VarHandle") (hM : MetFree l y (head1 [Cond.code y bytes maxL ret] rm) (fun a U => a = as' ∧ Z.Warmed39 U.vm ∧ U.heap = h) (fun _ _ _ _ _ => True) (fun _ U o U' => ∃ v L, o = .returned v ∧ Q v U'.heap L ∧ FrameEnd U o U' L rm.cells rm.slots)) (eT : T.heap = h) (W : Nat) (hf : rm.frames + 1 ≤ R.frames) (hl : W + (maxL + 11) + rm.locals ≤ R.locals) (hc : cells + rm.cells ≤ R.cells) (hsl : slots + rm.slots ≤ R.slots) {st : List Value} (argsL rest : List Value) (hsz : Ls.size = c.maxLocals) (hlen : ∀ sig, parseMethodDescriptor y.desc = some sig → argsL.length = sig.parameters.length) (has : argsL.toArray = as') (hst : st = argsL.reverse ++ rest) (hW : 2 * 0 + (rest.map fun v => v.category).sum ≤ W) (hd : decode c.code pc = .ok (.invokestatic idx, 3)) (hp : pc + 3 = pc') (k : ∀ v T' L, Stand p l e R s m args below meth c T' (locs ++ L) (cells + rm.cells) (slots + rm.slots) → Q v T'.heap L → own_G p.tables e below P T' (mkF m pc' Ls (v.toList ++ rest))) : own_G p.tables e below P T (mkF m pc Ls st) := by
  subst hp
  obtain ⟨v, vm, ⟨T', L', k', n'⟩, -, X', ⟨L, hQ, l', y', z'⟩, stp⟩ := Jvm.LawKit.callS X hx (y := y) hown (mvT hZ w1) (mvT hZ w2) (mvT hZ w3) (mvT hZ w4) hy (backOf (W := W) hM hZ w4 w3 hf hl) (g := mkF m pc Ls st) rfl hsz (argsL := argsL) (rest := rest) hlen hst hW hd (fun _ _ => ⟨has, eT, hc, hsl⟩)
  dsimp only [Pt.U, Pt.locs, Pt.cells, Pt.slots] at X' l' y' z' stp hQ
  subst l' y' z'
  exact own_go stp (k v T' L X' hQ)
theorem own_callV (X : Stand p l e R s m args below meth c T locs cells slots) (hx : p.tables.exec = Jvm.exec) {pc pc' : Nat} {Ls : Array Slot} (hZ : Z.Warmed39 s.vm) {own C : String} {idx : Nat} {y : MethodName} {bytes : ByteArray} {maxL : Nat} {ret : Option FieldType} {rm : Room} {as' : Array Value} {Q : Option Value → Heap → List Loc → Prop} (hown : s.vm.findClass own = some m.cls) (w1 : (Cond.methodLink own idx y).before a0 Z = true) (w2 : (Cond.instanceMethod y).before a0 Z = true) (w3 : (Cond.selects C y y).before a0 Z = true) (w4 : (Cond.code y bytes maxL ret).before a0 Z = true) (w5 : (Cond.initialized y.cls).before a0 Z = true) (hy : y.cls ≠ "java/lang/invoke/MethodHandle" ∧ y.cls ≠ "java/lang/invoke/VarHandle") (hM : MetFree l y (head1 [Cond.code y bytes maxL ret] rm) (fun a U => a = as' ∧ Z.Warmed39 U.vm ∧ U.heap = h) (fun _ _ _ _ _ => True) (fun _ U o U' => ∃ v L, o = .returned v ∧ Q v U'.heap L ∧ FrameEnd U o U' L rm.cells rm.slots)) (eT : T.heap = h) {b : Addr} (E : Exa Z h b C) (W : Nat) (hf : rm.frames + 1 ≤ R.frames) (hl : W + (maxL + 11) + rm.locals ≤ R.locals) (hc : cells + rm.cells ≤ R.cells) (hsl : slots + rm.slots ≤ R.slots) {st : List Value} (argsL rest : List Value) (hsz : Ls.size = c.maxLocals) (hlen : ∀ sig, parseMethodDescriptor y.desc = some sig → argsL.length = sig.parameters.length) (has : (Value.ref b :: argsL).toArray = as') (hst : st = argsL.reverse ++ .ref b :: rest) (hW : 2 * 0 + (rest.map fun v => v.category).sum ≤ W) (hd : decode c.code pc = .ok (.invokevirtual idx, 3)) (hp : pc + 3 = pc') (k : ∀ v T' L, Stand p l e R s m args below meth c T' (locs ++ L) (cells + rm.cells) (slots + rm.slots) → Q v T'.heap L → own_G p.tables e below P T' (mkF m pc' Ls (v.toList ++ rest))) : own_G p.tables e below P T (mkF m pc Ls st) := by
  subst hp
  obtain ⟨cell, kc, q1, q2, q3, q4, -⟩ := E
  obtain ⟨v, vm, ⟨T', L', k', n'⟩, -, X', ⟨L, hQ, l', y', z'⟩, stp⟩ := Jvm.LawKit.callV X hx (y := y) (C := C) hown (mvT hZ w1) (mvT hZ w2) (mvT hZ w3) (mvT hZ w4) hy (backOf (W := W) hM hZ w4 w5 hf hl) (b := b) (cellB := cell) (by rw [eT]; exact q1) q4 (by rw [hZ.alike.findClass]; exact q2) (g := mkF m pc Ls st) rfl hsz (argsL := argsL) (rest := rest) hlen hst hW hd (fun _ _ => ⟨has, eT, hc, hsl⟩)
  dsimp only [Pt.U, Pt.locs, Pt.cells, Pt.slots] at X' l' y' z' stp hQ
  subst l' y' z'
  exact own_go stp (k v T' L X' hQ)
theorem own_callI (X : Stand p l e R s m args below meth c T locs cells slots) (hx : p.tables.exec = Jvm.exec) {pc pc' : Nat} {Ls : Array Slot} (hZ : Z.Warmed39 s.vm) {own : String} {idx : Nat} {y : MethodName} {bytes : ByteArray} {maxL : Nat} {rm : Room} {as' : Array Value} {Q : Option Value → Heap → List Loc → Prop} (hy1 : y.name = "<init>") (hown : s.vm.findClass own = some m.cls) (w1 : (Cond.methodLink own idx y).before a0 Z = true) (w2 : (Cond.instanceMethod y).before a0 Z = true) (w4 : (Cond.code y bytes maxL none).before a0 Z = true) (w5 : (Cond.initialized y.cls).before a0 Z = true) (hy : y.cls ≠ "java/lang/invoke/MethodHandle" ∧ y.cls ≠ "java/lang/invoke/VarHandle") (hM : MetFree l y (head1 [Cond.code y bytes maxL none] rm) (fun a U => a = as' ∧ Z.Warmed39 U.vm ∧ U.heap = h) (fun _ _ _ _ _ => True) (fun _ U o U' => ∃ v L, o = .returned v ∧ Q v U'.heap L ∧ FrameEnd U o U' L rm.cells rm.slots)) (eT : T.heap = h) {b : Addr} (W : Nat) (hf : rm.frames + 1 ≤ R.frames) (hl : W + (maxL + 11) + rm.locals ≤ R.locals) (hc : cells + rm.cells ≤ R.cells) (hsl : slots + rm.slots ≤ R.slots) {st : List Value} (argsL rest : List Value) (hsz : Ls.size = c.maxLocals) (hlen : ∀ sig, parseMethodDescriptor y.desc = some sig → argsL.length = sig.parameters.length) (has : (Value.ref b :: argsL).toArray = as') (hst : st = argsL.reverse ++ .ref b :: rest) (hW : 2 * 0 + (rest.map fun v => v.category).sum ≤ W) (hd : decode c.code pc = .ok (.invokespecial idx, 3)) (hp : pc + 3 = pc') (k : ∀ v T' L, Stand p l e R s m args below meth c T' (locs ++ L) (cells + rm.cells) (slots + rm.slots) → Q v T'.heap L → own_G p.tables e below P T' (mkF m pc' Ls (v.toList ++ rest))) : own_G p.tables e below P T (mkF m pc Ls st) := by
  subst hp
  obtain ⟨v, vm, ⟨T', L', k', n'⟩, -, X', ⟨L, hQ, l', y', z'⟩, stp⟩ := Jvm.LawKit.callI X hx (y := y) hown hy1 (mvT hZ w1) (mvT hZ w2) (mvT hZ w4) hy (backOf (W := W) hM hZ w4 w5 hf hl) (g := mkF m pc Ls st) rfl hsz (a := b) (argsL := argsL) (rest := rest) hlen hst hW hd (fun _ _ => ⟨has, eT, hc, hsl⟩)
  dsimp only [Pt.U, Pt.locs, Pt.cells, Pt.slots] at X' l' y' z' stp hQ
  subst l' y' z'
  exact own_go stp (k v T' L X' hQ)
theorem own_dupX2 (X : Stand p l e R s m args below meth c T locs cells slots) (hx : p.tables.exec = Jvm.exec) {pc pc' : Nat} {Ls : Array Slot} {x j : Int32} {a : Addr} {rest : List Value} (hd : decode c.code pc = .ok (.dup_x2, 1)) (hp : pc + 1 = pc') (k : own_G p.tables e below P T (mkF m pc' Ls (.int x :: .int j :: .ref a :: .int x :: rest))) : own_G p.tables e below P T (mkF m pc Ls (.int x :: .int j :: .ref a :: rest)) := by
  subst hp
  refine own_go (fun t q => ?_) k
  jvm_step X.here [X.here.top, hx, hd, Value.category]
  exact q
theorem own_callP (X : Stand p l e R s m args below meth c T locs cells slots) (hx : p.tables.exec = Jvm.exec) {pc pc' : Nat} {Ls : Array Slot} (hZ : Z.Warmed39 s.vm) {own C : String} {idx nn : Nat} {y : MethodName} {bytes : ByteArray} {maxL : Nat} {ret : Option FieldType} {rm : Room} {as' : Array Value} {Q : Option Value → Heap → List Loc → Prop} (hown : s.vm.findClass own = some m.cls) (w1 : (Cond.methodLink own idx y).before a0 Z = true) (w2 : (Cond.instanceMethod y).before a0 Z = true) (w3 : (Cond.privateMethod y).before a0 Z = true) (w4 : (Cond.code y bytes maxL ret).before a0 Z = true) (w5 : (Cond.initialized y.cls).before a0 Z = true) (w6 : (Cond.instantiable y.cls nn).before a0 Z = true) (hy : y.cls ≠ "java/lang/invoke/MethodHandle" ∧ y.cls ≠ "java/lang/invoke/VarHandle") (hM : MetFree l y (head1 [Cond.code y bytes maxL ret] rm) (fun a U => a = as' ∧ Z.Warmed39 U.vm ∧ U.heap = h) (fun _ _ _ _ _ => True) (fun _ U o U' => ∃ v L, o = .returned v ∧ Q v U'.heap L ∧ FrameEnd U o U' L rm.cells rm.slots)) (eT : T.heap = h) {b : Addr} (E : Exa Z h b C) (W : Nat) (hf : rm.frames + 1 ≤ R.frames) (hl : W + (maxL + 11) + rm.locals ≤ R.locals) (hc : cells + rm.cells ≤ R.cells) (hsl : slots + rm.slots ≤ R.slots) {st : List Value} (argsL rest : List Value) (hsz : Ls.size = c.maxLocals) (hlen : ∀ sig, parseMethodDescriptor y.desc = some sig → argsL.length = sig.parameters.length) (has : (Value.ref b :: argsL).toArray = as') (hst : st = argsL.reverse ++ .ref b :: rest) (hW : 2 * 0 + (rest.map fun v => v.category).sum ≤ W) (hd : decode c.code pc = .ok (.invokevirtual idx, 3)) (hp : pc + 3 = pc') (k : ∀ v T' L, Stand p l e R s m args below meth c T' (locs ++ L) (cells + rm.cells) (slots + rm.slots) → Q v T'.heap L → own_G p.tables e below P T' (mkF m pc' Ls (v.toList ++ rest))) : own_G p.tables e below P T (mkF m pc Ls st) := by
  subst hp
  obtain ⟨cell, q1, q2⟩ := E.cell
  obtain ⟨cc, kk, i1, i2, -, i4, -⟩ := Cond.instantiable_spec (mvT hZ w6 (args := args))
  have hpv := Cond.privateMethod_at (mvP hZ w3 (args := args))
  obtain ⟨v, vm, ⟨T', L', k', n'⟩, -, X', ⟨L, hQ, l', y', z'⟩, stp⟩ := X.privateBack hx (y := y) hown (mvT hZ w1) (mvT hZ w2) (Jvm.Stand.selects_self_of_private i1 i2 (Bool.or_eq_false_iff.mp i4).1 hpv (mvT hZ w2) hy) hpv (mvT hZ w4) hy (backOf (W := W) hM hZ w4 w5 hf hl) (g := mkF m pc Ls st) rfl hsz (Steps.refl _) (a := b) (cell := cell) (by rw [eT]; exact q1) q2 (argsL := argsL) (rest := rest) hlen hst hW hd (fun _ _ => ⟨has, eT, hc, hsl⟩)
  dsimp only [Pt.U, Pt.locs, Pt.cells, Pt.slots] at X' l' y' z' stp hQ
  subst l' y' z'
  exact own_go (fun t q => stp.trans q) (k v T' L X' hQ)
theorem own_fldI {u : Term} {C n d : String} {x : Addr} {z : Int32} (ht : u.eval args s none [] s = some (.ref x)) (hq : (Jvm.Cond.eq (.field u C n d) (.int z)).value args s none s [] = some true) : Fld s s.heap x C n d (.int z) :=
  Fld.start ((fld_at ht).symm.trans (Cond.eq_int (Cond.before_iff.mpr hq) rfl))
theorem own_fldR {u t : Term} {C n d : String} {x y : Addr} (ht : u.eval args s none [] s = some (.ref x)) (hu : t.eval args s none [] s = some (.ref y)) (hq : (Jvm.Cond.eq (.field u C n d) t).value args s none s [] = some true) : Fld s s.heap x C n d (.ref y) :=
  Fld.start ((fld_at ht).symm.trans (Cond.eq_refs (Cond.before_iff.mpr hq) hu rfl))
theorem own_none {u : Term} {x : Addr} {cl : Cell} (A : Arr s s.heap x cl .int) (ht : u.eval args s none [] s = some (.ref x)) (hq : (Jvm.Cond.eq (.length u) (.int 0)).value args s none s [] = some true) : Arv s s.heap x cl.cls .int (0 : Int32) [] (.int (0 : Int32)) := by
  have e1 := Cond.eq_int (Cond.before_iff.mpr hq) (n := 0) rfl
  obtain ⟨sd, SA, hev, harrAt, -⟩ := Term.length_spec e1
  have h31 := SBG.length_lt hev harrAt e1
  cases ht.symm.trans hev
  cases (Arr.fin (Vm.Alike.refl _) A).symm.trans harrAt
  have e2 := len_f ht harrAt h31
  have e3 : cl.slots.size.toInt32 = (0 : Int32) := by simpa using Option.some.inj (e2.symm.trans e1)
  have e4 : cl.slots.size = 0 := by
    have e5 := congrArg Int32.toInt e3
    rw [len_toInt h31] at e5
    have e6 : ((0 : Int32)).toInt = 0 := by decide
    omega
  exact ⟨cl, A, rfl, e4, by decide, fun k hk => by omega, fun i hi => by omega⟩
end OwnKit
theorem own_t32_m1 : (-1 : Int32).toInt = -1 := by decide
theorem own_t32_0 : (0 : Int32).toInt = 0 := by decide
theorem own_t32_1 : (1 : Int32).toInt = 1 := by decide
theorem own_t32_2 : (2 : Int32).toInt = 2 := by decide
theorem own_t32_3 : (3 : Int32).toInt = 3 := by decide
theorem own_t32_4 : (4 : Int32).toInt = 4 := by decide
theorem own_t32_5 : (5 : Int32).toInt = 5 := by decide
theorem own_t32_7 : (7 : Int32).toInt = 7 := by decide
theorem own_t32_255 : (255 : Int32).toInt = 255 := by decide
theorem own_t32_55296 : (55296 : Int32).toInt = 55296 := by decide
theorem own_t32_56319 : (56319 : Int32).toInt = 56319 := by decide
theorem own_t32_56320 : (56320 : Int32).toInt = 56320 := by decide
theorem own_t32_57343 : (57343 : Int32).toInt = 57343 := by decide
theorem own_t32_57344 : (57344 : Int32).toInt = 57344 := by decide
theorem own_t32_65536 : (65536 : Int32).toInt = 65536 := by decide
theorem own_t32_m56613888 : (-56613888 : Int32).toInt = -56613888 := by decide
theorem own_on {n : Nat} (h : n < 100000) : (Int32.ofNat n).toInt = n := Int32.toInt_ofNat_of_lt (by omega)
section OwnW
variable {p : Program} {l : Launch} {e : Env} {R : Room} {s : State} {m : MethodId} {args : Array Value} {below : List Frame} {meth : Method} {c : Code} {T : State} {locs : List Loc} {cells slots : Nat} {Z : State} {a0 : Array Value} {h : Heap} {vm0 : Vm} {P : Outcome → State → Prop}
def own_PW (s : State) (Q : Option Value → Heap → List Loc → Prop) (C S : Nat) (o : Outcome) (U : State) : Prop :=
  ∃ v L, o = .returned v ∧ Q v U.heap L ∧ ReturnedEndW s o U L C S
def own_M (l : Launch) (Z : State) (y : MethodName) (b : ByteArray) (n : Nat) (r : Option FieldType) (ws : List Jvm.Cond) (rm : Room) (as' : Array Value) (h : Heap) (Q : Option Value → Heap → List Loc → Prop) : Prop :=
  MetFree l y (head1 (Jvm.Cond.code y b n r :: ws) rm) (fun a U => a = as' ∧ Z.Warmed39 U.vm ∧ U.heap = h) (fun _ _ _ _ _ => True) (fun _ U o U' => ∃ v L, o = .returned v ∧ Q v U'.heap L ∧ FrameEnd U o U' L rm.cells rm.slots)
def own_MW (l : Launch) (Z : State) (y : MethodName) (b : ByteArray) (n : Nat) (r : Option FieldType) (ws : List Jvm.Cond) (rm : Room) (as' : Array Value) (h : Heap) (H : Vm → Prop) (Q : Option Value → Heap → List Loc → Prop) : Prop :=
  MetFree l y (head1 (Jvm.Cond.code y b n r :: ws) rm) (fun a U => a = as' ∧ Z.Warmed39 U.vm ∧ U.heap = h ∧ H U.vm) (fun _ _ _ _ _ => True) (fun _ U o U' => ∃ v L, o = .returned v ∧ Q v U'.heap L ∧ ReturnedEndW U o U' L rm.cells rm.slots)
def Qint (x : Int32) (h0 : Heap) (n0 : Nat) (v : Option Value) (h : Heap) (L : List Loc) : Prop := v = some (.int x) ∧ Fr n0 L ∧ h = h0
def Qvoid (h0 : Heap) (n0 : Nat) (v : Option Value) (h : Heap) (L : List Loc) : Prop := v = none ∧ Fr n0 L ∧ h = h0
theorem own_bodyM {y : MethodName} {bytes : ByteArray} {maxL : Nat} {ret : Option FieldType} {ws : List Jvm.Cond} {rm : Room} {as' : Array Value} {Q : Option Value → Heap → List Loc → Prop} (pn : plainFor y = true)
    (body : ∀ p e s m below meth c s₁, p.tables.exec = Jvm.exec → c.code = bytes → c.maxLocals = maxL → s.vm.findClass y.cls = some m.cls → meth.name = y.name → meth.locks = false → meth.sig.returnType = ret → Z.Warmed39 s.vm → Stand p l e rm s m as' below meth c s₁ [] 0 0 → s₁.heap = h →
      own_G p.tables e below (own_P s Q rm.cells rm.slots) s₁ (entryFrame m as' maxL)) : own_M l Z y bytes maxL ret ws rm as' h Q := own_body pn body
theorem own_bodyW {y : MethodName} {bytes : ByteArray} {maxL : Nat} {ret : Option FieldType} {ws : List Jvm.Cond} {rm : Room} {as' : Array Value} {Q : Option Value → Heap → List Loc → Prop} {H : Vm → Prop} (pn : plainFor y = true)
    (body : ∀ p e s m below meth c s₁ vm0, p.tables.exec = Jvm.exec → c.code = bytes → c.maxLocals = maxL → vm0.findClass y.cls = some m.cls → meth.name = y.name → meth.locks = false → meth.sig.returnType = ret → Z.Warmed39 vm0 → Stand p l e rm (s.setVm vm0) m as' below meth c s₁ [] 0 0 → s₁.heap = h → s.Since vm0 0 → H vm0 →
      own_G p.tables e below (own_PW s Q rm.cells rm.slots) s₁ (entryFrame m as' maxL)) : own_MW l Z y bytes maxL ret ws rm as' h H Q := by
  unfold own_MW
  refine MetFree.of_bodySF (maxLocals := maxL) (ret := ret) (code := bytes) pn hisR ?_
  intro p e s m args below meth c s₁ Bd hml0 hP hK
  obtain ⟨rfl, hZ, hh, hH⟩ := hP
  exact body p e s m below meth c s₁ s.vm Bd.exec Bd.bytes hml0 (findClass_of_methodNamed Bd.named) (name_of_methodNamed Bd.named Bd.method).1 (BodyLoose.notSynchronized Bd) Bd.returns hZ (Stand.of_body Bd) (by rw [← hh, Bd.state]; rfl) ⟨State.Warmed39.refl s, fun j q hj hq => absurd (Array.getElem?_eq_some_iff.mp hq).1 (Nat.not_lt_of_le hj)⟩ hH
theorem own_retW {v : Option Value} {f : JFrame} {Q : Option Value → Heap → List Loc → Prop} {C S : Nat} (X : Stand p l e R (s.setVm vm0) m args below meth c T locs cells slots) {k0 : Nat} (hs : s.Since vm0 k0) (eT : T.heap = h) (hk : k0 ≤ h.size) (hlk : meth.locks = false) (hv : meth.sig.returnType = none → v = none)
    (st : ∀ fs, (∀ (f : JFrame) (acts : List Action), f.method = m → f.locked = none → f.entered = [] → (doReturn e (T.setTop f) acts v).1 = T.setFrames fs) → Steps p.tables e below (T.setTop f) (T.setFrames fs)) (hC : cells ≤ C) (hS : slots ≤ S) (hq : Q v T.heap locs) : own_G p.tables e below (own_PW s Q C S) T f := by
  obtain ⟨fs, hr, hrun, hended, hv', hW, hB, hsame⟩ := X.leaveW hs (by rw [eT]; exact hk) (v := v) hv hlk
  exact ⟨_, _, st fs hr, hrun, hended, _, _, rfl, hq, hv', hW, hB, hsame.mono hC hS⟩
theorem own_retNW {Q : Option Value → Heap → List Loc → Prop} {C S : Nat} (X : Stand p l e R (s.setVm vm0) m args below meth c T locs cells slots) {k0 : Nat} (hs : s.Since vm0 k0) (eT : T.heap = h) (hk : k0 ≤ h.size) (hx : p.tables.exec = Jvm.exec) (hlk : meth.locks = false) {t : FieldType} (hret : meth.sig.returnType = some t) (ht : t = .boolean ∨ t = .byte ∨ t = .char ∨ t = .short) {pc : Nat} {Ls : Array Slot} {z : Int32} {rest : List Value} (hd : decode c.code pc = .ok (.ireturn, 1)) (hC : cells ≤ C) (hS : slots ≤ S) (hq : Q (some (.int (nar t z))) T.heap locs) :
    own_G p.tables e below (own_PW s Q C S) T (mkF m pc Ls (.int z :: rest)) :=
  own_retW X hs eT hk hlk (fun h => by rw [hret] at h; cases h) (fun fs hr => retN X hx hret ht hd hr) hC hS hq
theorem own_retIW {Q : Option Value → Heap → List Loc → Prop} {C S : Nat} (X : Stand p l e R (s.setVm vm0) m args below meth c T locs cells slots) {k0 : Nat} (hs : s.Since vm0 k0) (eT : T.heap = h) (hk : k0 ≤ h.size) (hx : p.tables.exec = Jvm.exec) (hlk : meth.locks = false) (hret : meth.sig.returnType = some .int) {pc : Nat} {Ls : Array Slot} {z : Int32} {rest : List Value} (hd : decode c.code pc = .ok (.ireturn, 1)) (hC : cells ≤ C) (hS : slots ≤ S) (hq : Q (some (.int z)) T.heap locs) :
    own_G p.tables e below (own_PW s Q C S) T (mkF m pc Ls (.int z :: rest)) :=
  own_retW X hs eT hk hlk (fun h => by rw [hret] at h; cases h) (fun fs hr => retOut X hx hret rfl (Or.inl ⟨rfl, Or.inl rfl, z, rfl⟩) hd hr) hC hS hq
theorem own_retVW {Q : Option Value → Heap → List Loc → Prop} {C S : Nat} (X : Stand p l e R (s.setVm vm0) m args below meth c T locs cells slots) {k0 : Nat} (hs : s.Since vm0 k0) (eT : T.heap = h) (hk : k0 ≤ h.size) (hx : p.tables.exec = Jvm.exec) (hlk : meth.locks = false) (hret : meth.sig.returnType = none) {pc : Nat} {Ls : Array Slot} (hd : decode c.code pc = .ok (.return_, 1)) (hC : cells ≤ C) (hS : slots ≤ S) (hq : Q none T.heap locs) :
    own_G p.tables e below (own_PW s Q C S) T (mkF m pc Ls []) :=
  own_retW X hs eT hk hlk (fun h => rfl) (fun fs hr => X.returnOut hx hret hd hr) hC hS hq
/-- what a caller may ask of a callee that may intern; H: what the callee asks of the tables -/
theorem own_backW {y : MethodName} {bytes : ByteArray} {maxL : Nat} {ret : Option FieldType} {rm : Room} {len W : Nat} {as' : Array Value} {Q : Option Value → Heap → List Loc → Prop} {H : Vm → Prop}
    (hM : own_MW l Z y bytes maxL ret [] rm as' h H Q)
    (hZ : Z.Warmed39 vm0) (wc : (Cond.code y bytes maxL ret).before a0 Z = true) (wz : (Cond.initialized y.cls).before a0 Z = true) (hf : rm.frames + 1 ≤ R.frames) (hl : W + (maxL + 11) + rm.locals ≤ R.locals)
    (hH : ∀ {m : MethodId} {meth : Method} {c : Code} {T : State} {locs : List Loc} {cells slots : Nat}, Stand p l e R (s.setVm vm0) m args below meth c T locs cells slots → H T.vm) :
    BackS l R p e below (s.setVm vm0) args y len W (fun A a => a = as' ∧ A.U.heap = h ∧ A.cells + rm.cells ≤ R.cells ∧ A.slots + rm.slots ≤ R.slots)
      (fun A _ v B => ∃ L, Q v B.U.heap L ∧ B.locs = A.locs ++ L ∧ B.cells = A.cells + rm.cells ∧ B.slots = A.slots + rm.slots) :=
  BackS.of_freeW (bytes := bytes) (maxL := maxL) (ret := ret) (E := fun _ _ o t L k n => k = rm.cells ∧ n = rm.slots ∧ ∃ v, o = .returned v ∧ Q v t.heap L) hM hf hl
    (fun m meth c A a Y hp => have hU : Z.Warmed39 A.U.vm := wtrans (s := s.setVm vm0) hZ Y.warmed
      ⟨by show (Cond.and _ .tt).before a A.U = true; rw [Cond.before_and, mv hU wc]; rfl, mv hU wc, mv hU wz, hp.2.2.1, hp.2.2.2⟩)
    (fun m meth c A a g mk Y hp => ⟨hp.1, wtrans (s := s.setVm vm0) hZ Y.warmed, hp.2.1, (show H A.U.vm from hH Y)⟩) (fun _ _ _ _ _ _ _ _ _ => trivial)
    (fun _ _ _ _ ⟨v, L, h1, h2, h3⟩ => ⟨L, _, _, h3, rfl, rfl, v, h1, h2⟩)
    (fun m meth c A a g mk v t L k n Y hp _ _ ⟨e1, e2, v', e3, e4⟩ => by cases e3; subst e1 e2; exact ⟨L, e4, rfl, rfl, rfl⟩)
theorem own_callSW (X : Stand p l e R (s.setVm vm0) m args below meth c T locs cells slots) (hx : p.tables.exec = Jvm.exec) {pc pc' : Nat} {Ls : Array Slot} (hZ : Z.Warmed39 vm0) {own : String} {idx : Nat} {y : MethodName} {bytes : ByteArray} {maxL : Nat} {ret : Option FieldType} {rm : Room} {as' : Array Value} {Q : Option Value → Heap → List Loc → Prop} {H : Vm → Prop} (hown : vm0.findClass own = some m.cls) (w1 : (Cond.methodLink own idx y).before a0 Z = true) (w2 : (Cond.static y).before a0 Z = true) (w3 : (Cond.initialized y.cls).before a0 Z = true) (w4 : (Cond.code y bytes maxL ret).before a0 Z = true) (hy : y.cls ≠ "java/lang/invoke/MethodHandle" ∧ y.cls ≠ "java/lang/invoke/VarHandle")
    (hM : own_MW l Z y bytes maxL ret [] rm as' h H Q)
    (hH : ∀ {m : MethodId} {meth : Method} {c : Code} {T : State} {locs : List Loc} {cells slots : Nat}, Stand p l e R (s.setVm vm0) m args below meth c T locs cells slots → H T.vm)
    {k0 : Nat} (hs : s.Since vm0 k0) (eT : T.heap = h) (hk : k0 ≤ h.size) (W : Nat) (hf : rm.frames + 1 ≤ R.frames) (hl : W + (maxL + 11) + rm.locals ≤ R.locals) (hc : cells + rm.cells ≤ R.cells) (hsl : slots + rm.slots ≤ R.slots) {st : List Value} (argsL rest : List Value) (hsz : Ls.size = c.maxLocals) (hlen : ∀ sig, parseMethodDescriptor y.desc = some sig → argsL.length = sig.parameters.length) (has : argsL.toArray = as') (hst : st = argsL.reverse ++ rest) (hW : 2 * 0 + (rest.map fun v => v.category).sum ≤ W) (hd : decode c.code pc = .ok (.invokestatic idx, 3)) (hp : pc + 3 = pc')
    (k : ∀ v T' L, Stand p l e R (s.setVm T'.vm) m args below meth c T' (locs ++ L) (cells + rm.cells) (slots + rm.slots) → Z.Warmed39 (s.setVm T'.vm).vm → (s.setVm T'.vm).vm.findClass own = some m.cls → s.Since T'.vm T'.heap.size → Q v T'.heap L → own_G p.tables e below P T' (mkF m pc' Ls (v.toList ++ rest))) : own_G p.tables e below P T (mkF m pc Ls st) := by
  subst hp
  obtain ⟨v, vm, ⟨T', L', k', n'⟩, -, X', hS', hg, ⟨L, hQ, l', y', z'⟩, stp⟩ := callSS X hx (y := y) hown (mvT hZ w1) (mvT hZ w2) (mvT hZ w3) (mvT hZ w4) hy (own_backW (W := W) hM hZ w4 w3 hf hl hH) (g := mkF m pc Ls st) rfl hsz (argsL := argsL) (rest := rest) hlen hst hW hd (fun _ _ => ⟨has, eT, hc, hsl⟩)
  dsimp only [Pt.U, Pt.locs, Pt.cells, Pt.slots] at X' l' y' z' stp hQ hS' hg
  subst l' y' z'
  exact own_go (fun t q => stp.trans q) (k v T' L X' (State.Warmed39.trans (t := s.setVm vm0) hZ hS'.1) (by show T'.vm.findClass own = _; rw [hS'.1.alike.findClass]; exact hown) (hs.trans hS' (by rw [eT] at hg; exact Nat.le_trans hk hg)) hQ)
theorem own_callIW (X : Stand p l e R (s.setVm vm0) m args below meth c T locs cells slots) (hx : p.tables.exec = Jvm.exec) {pc pc' : Nat} {Ls : Array Slot} (hZ : Z.Warmed39 vm0) {own : String} {idx : Nat} {y : MethodName} {bytes : ByteArray} {maxL : Nat} {rm : Room} {as' : Array Value} {Q : Option Value → Heap → List Loc → Prop} {H : Vm → Prop} (hy1 : y.name = "<init>") (hown : vm0.findClass own = some m.cls) (w1 : (Cond.methodLink own idx y).before a0 Z = true) (w2 : (Cond.instanceMethod y).before a0 Z = true) (w4 : (Cond.code y bytes maxL none).before a0 Z = true) (w5 : (Cond.initialized y.cls).before a0 Z = true) (hy : y.cls ≠ "java/lang/invoke/MethodHandle" ∧ y.cls ≠ "java/lang/invoke/VarHandle")
    (hM : own_MW l Z y bytes maxL none [] rm as' h H Q)
    (hH : ∀ {m : MethodId} {meth : Method} {c : Code} {T : State} {locs : List Loc} {cells slots : Nat}, Stand p l e R (s.setVm vm0) m args below meth c T locs cells slots → H T.vm)
    {k0 : Nat} (hs : s.Since vm0 k0) (eT : T.heap = h) (hk : k0 ≤ h.size) {b : Addr} (W : Nat) (hf : rm.frames + 1 ≤ R.frames) (hl : W + (maxL + 11) + rm.locals ≤ R.locals) (hc : cells + rm.cells ≤ R.cells) (hsl : slots + rm.slots ≤ R.slots) {st : List Value} (argsL rest : List Value) (hsz : Ls.size = c.maxLocals) (hlen : ∀ sig, parseMethodDescriptor y.desc = some sig → argsL.length = sig.parameters.length) (has : (Value.ref b :: argsL).toArray = as') (hst : st = argsL.reverse ++ .ref b :: rest) (hW : 2 * 0 + (rest.map fun v => v.category).sum ≤ W) (hd : decode c.code pc = .ok (.invokespecial idx, 3)) (hp : pc + 3 = pc')
    (k : ∀ v T' L, Stand p l e R (s.setVm T'.vm) m args below meth c T' (locs ++ L) (cells + rm.cells) (slots + rm.slots) → Z.Warmed39 (s.setVm T'.vm).vm → (s.setVm T'.vm).vm.findClass own = some m.cls → s.Since T'.vm T'.heap.size → Q v T'.heap L → own_G p.tables e below P T' (mkF m pc' Ls (v.toList ++ rest))) : own_G p.tables e below P T (mkF m pc Ls st) := by
  subst hp
  obtain ⟨v, vm, ⟨T', L', k', n'⟩, -, X', hS', hg, ⟨L, hQ, l', y', z'⟩, stp⟩ := X.specialBackS hx (y := y) hy1 hown (mvT hZ w1) (mvT hZ w2) (mvT hZ w4) hy (own_backW (W := W) hM hZ w4 w5 hf hl hH) (g := mkF m pc Ls st) rfl hsz (Steps.refl _) (a := b) (argsL := argsL) (rest := rest) hlen hst hW hd (fun _ _ => ⟨has, eT, hc, hsl⟩)
  dsimp only [Pt.U, Pt.locs, Pt.cells, Pt.slots] at X' l' y' z' stp hQ hS' hg
  subst l' y' z'
  exact own_go (fun t q => stp.trans q) (k v T' L X' (State.Warmed39.trans (t := s.setVm vm0) hZ hS'.1) (by show T'.vm.findClass own = _; rw [hS'.1.alike.findClass]; exact hown) (hs.trans hS' (by rw [eT] at hg; exact Nat.le_trans hk hg)) hQ)
theorem own_cSI (X : Stand p l e R s m args below meth c T locs cells slots) (hx : p.tables.exec = Jvm.exec) {pc pc' : Nat} {Ls : Array Slot} (hZ : Z.Warmed39 s.vm) {own : String} {idx : Nat} {y : MethodName} {bytes : ByteArray} {maxL : Nat} {ret : Option FieldType} {rm : Room} {as' : Array Value} {n0 : Nat} {x : Int32} (hown : s.vm.findClass own = some m.cls) (w1 : (Cond.methodLink own idx y).before a0 Z = true) (w2 : (Cond.static y).before a0 Z = true) (w3 : (Cond.initialized y.cls).before a0 Z = true) (w4 : (Cond.code y bytes maxL ret).before a0 Z = true) (hM : own_M l Z y bytes maxL ret [] rm as' h (Qint x h n0)) (eT : T.heap = h) (N : Fr n0 locs) {ml : Nat} (hml : c.maxLocals = ml) {ps : List FieldType} {rr : Option FieldType} (hpd : parseMethodDescriptor y.desc = some ⟨ps, rr⟩) (hd : decode c.code pc = .ok (.invokestatic idx, 3)) (W : Nat) (argsL rest : List Value) (k : ∀ T' L, Stand p l e R s m args below meth c T' (locs ++ L) (cells + rm.cells) (slots + rm.slots) → T'.heap = h → Fr n0 (locs ++ L) → own_G p.tables e below P T' (mkF m pc' Ls (.int x :: rest))) {st : List Value} (hp : pc + 3 = pc' := by rfl) (hy : y.cls ≠ "java/lang/invoke/MethodHandle" ∧ y.cls ≠ "java/lang/invoke/VarHandle" := by decide) (hf : rm.frames + 1 ≤ R.frames := by decide) (hl : W + (maxL + 11) + rm.locals ≤ R.locals := by decide) (hc : cells + rm.cells ≤ R.cells := by decide) (hsl : slots + rm.slots ≤ R.slots := by decide) (hsz : Ls.size = ml := by rfl) (hL : argsL.length = ps.length := by rfl) (has : argsL.toArray = as' := by rfl) (hst : st = argsL.reverse ++ rest := by rfl) (hW : 2 * 0 + (rest.map fun v => v.category).sum ≤ W := by exact Nat.le_of_eq rfl) : own_G p.tables e below P T (mkF m pc Ls st) :=
  own_callS X hx hZ hown w1 w2 w3 w4 hy hM eT W hf hl hc hsl argsL rest (hsz.trans hml.symm) (lenOf hpd hL) has hst hW hd hp (fun v T' L X' hQ => by obtain ⟨rfl, Nq, e'⟩ := hQ; exact k T' L X' e' (N.app Nq))
theorem own_cSV (X : Stand p l e R s m args below meth c T locs cells slots) (hx : p.tables.exec = Jvm.exec) {pc pc' : Nat} {Ls : Array Slot} (hZ : Z.Warmed39 s.vm) {own : String} {idx : Nat} {y : MethodName} {bytes : ByteArray} {maxL : Nat} {ret : Option FieldType} {rm : Room} {as' : Array Value} {n0 : Nat} (hown : s.vm.findClass own = some m.cls) (w1 : (Cond.methodLink own idx y).before a0 Z = true) (w2 : (Cond.static y).before a0 Z = true) (w3 : (Cond.initialized y.cls).before a0 Z = true) (w4 : (Cond.code y bytes maxL ret).before a0 Z = true) (hM : own_M l Z y bytes maxL ret [] rm as' h (Qvoid h n0)) (eT : T.heap = h) (N : Fr n0 locs) {ml : Nat} (hml : c.maxLocals = ml) {ps : List FieldType} {rr : Option FieldType} (hpd : parseMethodDescriptor y.desc = some ⟨ps, rr⟩) (hd : decode c.code pc = .ok (.invokestatic idx, 3)) (W : Nat) (argsL rest : List Value) (k : ∀ T' L, Stand p l e R s m args below meth c T' (locs ++ L) (cells + rm.cells) (slots + rm.slots) → T'.heap = h → Fr n0 (locs ++ L) → own_G p.tables e below P T' (mkF m pc' Ls rest)) {st : List Value} (hp : pc + 3 = pc' := by rfl) (hy : y.cls ≠ "java/lang/invoke/MethodHandle" ∧ y.cls ≠ "java/lang/invoke/VarHandle" := by decide) (hf : rm.frames + 1 ≤ R.frames := by decide) (hl : W + (maxL + 11) + rm.locals ≤ R.locals := by decide) (hc : cells + rm.cells ≤ R.cells := by decide) (hsl : slots + rm.slots ≤ R.slots := by decide) (hsz : Ls.size = ml := by rfl) (hL : argsL.length = ps.length := by rfl) (has : argsL.toArray = as' := by rfl) (hst : st = argsL.reverse ++ rest := by rfl) (hW : 2 * 0 + (rest.map fun v => v.category).sum ≤ W := by exact Nat.le_of_eq rfl) : own_G p.tables e below P T (mkF m pc Ls st) :=
  own_callS X hx hZ hown w1 w2 w3 w4 hy hM eT W hf hl hc hsl argsL rest (hsz.trans hml.symm) (lenOf hpd hL) has hst hW hd hp (fun v T' L X' hQ => by obtain ⟨rfl, Nq, e'⟩ := hQ; exact k T' L X' e' (N.app Nq))
theorem own_cVI (X : Stand p l e R s m args below meth c T locs cells slots) (hx : p.tables.exec = Jvm.exec) {pc pc' : Nat} {Ls : Array Slot} (hZ : Z.Warmed39 s.vm) {own C : String} {idx : Nat} {y : MethodName} {bytes : ByteArray} {maxL : Nat} {ret : Option FieldType} {rm : Room} {as' : Array Value} {n0 : Nat} {x : Int32} (hown : s.vm.findClass own = some m.cls) (w1 : (Cond.methodLink own idx y).before a0 Z = true) (w2 : (Cond.instanceMethod y).before a0 Z = true) (w3 : (Cond.selects C y y).before a0 Z = true) (w4 : (Cond.code y bytes maxL ret).before a0 Z = true) (w5 : (Cond.initialized y.cls).before a0 Z = true) (hM : own_M l Z y bytes maxL ret [] rm as' h (Qint x h n0)) (eT : T.heap = h) {b : Addr} (E : Exa Z h b C) (N : Fr n0 locs) {ml : Nat} (hml : c.maxLocals = ml) {ps : List FieldType} {rr : Option FieldType} (hpd : parseMethodDescriptor y.desc = some ⟨ps, rr⟩) (hd : decode c.code pc = .ok (.invokevirtual idx, 3)) (W : Nat) (argsL rest : List Value) (k : ∀ T' L, Stand p l e R s m args below meth c T' (locs ++ L) (cells + rm.cells) (slots + rm.slots) → T'.heap = h → Fr n0 (locs ++ L) → own_G p.tables e below P T' (mkF m pc' Ls (.int x :: rest))) {st : List Value} (hp : pc + 3 = pc' := by rfl) (hy : y.cls ≠ "java/lang/invoke/MethodHandle" ∧ y.cls ≠ "java/lang/invoke/VarHandle" := by decide) (hf : rm.frames + 1 ≤ R.frames := by decide) (hl : W + (maxL + 11) + rm.locals ≤ R.locals := by decide) (hc : cells + rm.cells ≤ R.cells := by decide) (hsl : slots + rm.slots ≤ R.slots := by decide) (hsz : Ls.size = ml := by rfl) (hL : argsL.length = ps.length := by rfl) (has : (Value.ref b :: argsL).toArray = as' := by rfl) (hst : st = argsL.reverse ++ .ref b :: rest := by rfl) (hW : 2 * 0 + (rest.map fun v => v.category).sum ≤ W := by exact Nat.le_of_eq rfl) : own_G p.tables e below P T (mkF m pc Ls st) :=
  own_callV X hx hZ hown w1 w2 w3 w4 w5 hy hM eT E W hf hl hc hsl argsL rest (hsz.trans hml.symm) (lenOf hpd hL) has hst hW hd hp (fun v T' L X' hQ => by obtain ⟨rfl, Nq, e'⟩ := hQ; exact k T' L X' e' (N.app Nq))
end OwnW
/-! statics older than n0 -/
def own_SB (n0 : Nat) (Z : State) (h : Heap) (C n d : String) (v : Value) : Prop := ∃ (cf i : Nat) (k : Class) (f : Field) (st : Addr) (cell : Cell), Z.fieldFound? C n d = some (cf, k, i, f) ∧ f.isStatic = true ∧ k.init = .initialized ∧ k.statics = some st ∧ h[st]? = some cell ∧ cell.vm.isStatics = true ∧ cell.slots[f.slot]? = some v ∧ st < n0
section OwnSB
variable {n0 : Nat} {Z : State} {h h' : Heap} {C n d : String} {v : Value}
theorem own_SB.sta (B : own_SB n0 Z h C n d v) : Sta Z h C n d v := by
  obtain ⟨cf, i, k, f, st, cell, h1, h2, h3, h4, h5, h6, h7, h8⟩ := B; exact ⟨cf, i, k, f, st, cell, h1, h2, h3, h4, h5, h6, h7⟩
theorem own_SB.ext (B : own_SB n0 Z h C n d v) (E : Ext h h') : own_SB n0 Z h' C n d v := by
  obtain ⟨cf, i, k, f, st, cell, h1, h2, h3, h4, h5, h6, h7, h8⟩ := B; exact ⟨cf, i, k, f, st, cell, h1, h2, h3, h4, E.2 _ _ h5, h6, h7, h8⟩
theorem own_SB.keep {ws : List Addr} (B : own_SB n0 Z h C n d v) (K : Keep h h' ws) (q : ∀ x ∈ ws, n0 ≤ x) : own_SB n0 Z h' C n d v := by
  obtain ⟨cf, i, k, f, st, cell, h1, h2, h3, h4, h5, h6, h7, h8⟩ := B
  exact ⟨cf, i, k, f, st, cell, h1, h2, h3, h4, K.2.1 _ _ h5 (fun hm => absurd (q _ hm) (Nat.not_le_of_lt h8)), h6, h7, h8⟩
theorem own_SB.start (S : Sta Z Z.heap C n d v) : own_SB Z.heap.size Z Z.heap C n d v := by
  obtain ⟨cf, i, k, f, st, cell, h1, h2, h3, h4, h5, h6, h7⟩ := S; exact ⟨cf, i, k, f, st, cell, h1, h2, h3, h4, h5, h6, h7, (Array.getElem?_eq_some_iff.mp h5).1⟩
end OwnSB
theorem own_allge {n0 : Nat} {a : Addr} {l : List Addr} (h : n0 ≤ a) (t : ∀ x ∈ l, n0 ≤ x) : ∀ x ∈ a :: l, n0 ≤ x := fun x hx => by
  rcases List.mem_cons.mp hx with rfl | q
  · exact h
  · exact t x q
def own_ST (n0 : Nat) (Z : State) (h : Heap) (cz : Int32) (sv : Value) : Prop := own_SB n0 Z h "java/lang/String" "COMPACT_STRINGS" "Z" (.int cz) ∧ own_SB n0 Z h "java/lang/StringUTF16" "$assertionsDisabled" "Z" (.int (1 : Int32)) ∧ own_SB n0 Z h "java/lang/StringUTF16" "HI_BYTE_SHIFT" "I" (.int (0 : Int32)) ∧ own_SB n0 Z h "java/lang/StringUTF16" "LO_BYTE_SHIFT" "I" (.int (8 : Int32)) ∧ own_SB n0 Z h "jdk/internal/util/Preconditions" "SIOOBE_FORMATTER" "Ljava/util/function/BiFunction;" sv
theorem own_ST.ext {n0 : Nat} {Z : State} {h h' : Heap} {cz : Int32} {sv : Value} (B : own_ST n0 Z h cz sv) (E : Ext h h') : own_ST n0 Z h' cz sv := ⟨B.1.ext E, B.2.1.ext E, B.2.2.1.ext E, B.2.2.2.1.ext E, B.2.2.2.2.ext E⟩
theorem own_ST.keep {n0 : Nat} {Z : State} {h h' : Heap} {cz : Int32} {sv : Value} {ws : List Addr} (B : own_ST n0 Z h cz sv) (K : Keep h h' ws) (q : ∀ x ∈ ws, n0 ≤ x) : own_ST n0 Z h' cz sv := ⟨B.1.keep K q, B.2.1.keep K q, B.2.2.1.keep K q, B.2.2.2.1.keep K q, B.2.2.2.2.keep K q⟩
theorem own_ST.wr {n0 : Nat} {Z : State} {h h' : Heap} {cz : Int32} {sv : Value} {a : Addr} {sl : Nat} {v : Value} (B : own_ST n0 Z h cz sv) (W : Wr h h' a sl v) (q : n0 ≤ a) : own_ST n0 Z h' cz sv := B.keep (Keep.of_wr W) (fun x hx => by cases List.mem_singleton.mp hx; exact q)
/-! plain law: chars, surrogates, bytes -/
def own_ch (c : Int32) : Prop := 0 ≤ c.toInt ∧ c.toInt < 65536
theorem own_narr (x : Int32) : own_ch (nar .char x) := ⟨(c_i2c x).2.1, (c_i2c x).2.2⟩
theorem own_narc {c : Int32} (h : own_ch c) : nar .char c = c := by
  have q := c_i2c c
  unfold own_ch at h
  rw [← Int32.toInt_inj]
  show c.toUInt32.toUInt16.toUInt32.toInt32.toInt = c.toInt
  omega
def own_hiI (q : Int32) : Int32 := if q < (55296 : Int32) then (0 : Int32) else if (56319 : Int32) < q then (0 : Int32) else (1 : Int32)
def own_loI (q : Int32) : Int32 := if q < (56320 : Int32) then (0 : Int32) else if (57343 : Int32) < q then (0 : Int32) else (1 : Int32)
theorem own_hi_alt (q : Int32) : own_hiI q = if q < (55296 : Int32) then (0 : Int32) else if q < (56320 : Int32) then (1 : Int32) else (0 : Int32) := by
  unfold own_hiI
  by_cases h1 : q < (55296 : Int32)
  · rw [if_pos h1, if_pos h1]
  · rw [if_neg h1, if_neg h1]
    by_cases h2 : (56319 : Int32) < q
    · rw [if_pos h2, if_neg (by rw [Int32.lt_iff_toInt_lt, own_t32_56319] at h2; rw [Int32.lt_iff_toInt_lt, own_t32_56320]; omega)]
    · rw [if_neg h2, if_pos (by rw [Int32.lt_iff_toInt_lt, own_t32_56319] at h2; rw [Int32.lt_iff_toInt_lt, own_t32_56320]; omega)]
theorem own_lo_alt (q : Int32) : own_loI q = if q < (56320 : Int32) then (0 : Int32) else if q < (57344 : Int32) then (1 : Int32) else (0 : Int32) := by
  unfold own_loI
  by_cases h1 : q < (56320 : Int32)
  · rw [if_pos h1, if_pos h1]
  · rw [if_neg h1, if_neg h1]
    by_cases h2 : (57343 : Int32) < q
    · rw [if_pos h2, if_neg (by rw [Int32.lt_iff_toInt_lt, own_t32_57343] at h2; rw [Int32.lt_iff_toInt_lt, own_t32_57344]; omega)]
    · rw [if_neg h2, if_pos (by rw [Int32.lt_iff_toInt_lt, own_t32_57343] at h2; rw [Int32.lt_iff_toInt_lt, own_t32_57344]; omega)]
theorem own_hi_iff (q : Int32) : (¬ own_hiI q = (0 : Int32)) ↔ (55296 ≤ q.toInt ∧ q.toInt ≤ 56319) := by
  unfold own_hiI
  by_cases h1 : q < (55296 : Int32)
  · rw [if_pos h1]; rw [Int32.lt_iff_toInt_lt, own_t32_55296] at h1
    exact ⟨fun z => absurd rfl z, fun z => by exfalso; omega⟩
  · rw [if_neg h1]; rw [Int32.lt_iff_toInt_lt, own_t32_55296] at h1
    by_cases h2 : (56319 : Int32) < q
    · rw [if_pos h2]; rw [Int32.lt_iff_toInt_lt, own_t32_56319] at h2
      exact ⟨fun z => absurd rfl z, fun z => by exfalso; omega⟩
    · rw [if_neg h2]; rw [Int32.lt_iff_toInt_lt, own_t32_56319] at h2
      exact ⟨fun _ => ⟨by omega, by omega⟩, fun _ => by decide⟩
theorem own_lo_iff (q : Int32) : (¬ own_loI q = (0 : Int32)) ↔ (56320 ≤ q.toInt ∧ q.toInt ≤ 57343) := by
  unfold own_loI
  by_cases h1 : q < (56320 : Int32)
  · rw [if_pos h1]; rw [Int32.lt_iff_toInt_lt, own_t32_56320] at h1
    exact ⟨fun z => absurd rfl z, fun z => by exfalso; omega⟩
  · rw [if_neg h1]; rw [Int32.lt_iff_toInt_lt, own_t32_56320] at h1
    by_cases h2 : (57343 : Int32) < q
    · rw [if_pos h2]; rw [Int32.lt_iff_toInt_lt, own_t32_57343] at h2
      exact ⟨fun z => absurd rfl z, fun z => by exfalso; omega⟩
    · rw [if_neg h2]; rw [Int32.lt_iff_toInt_lt, own_t32_57343] at h2
      exact ⟨fun _ => ⟨by omega, by omega⟩, fun _ => by decide⟩
theorem own_dis (q : Int32) : own_hiI q = (0 : Int32) ∨ own_loI q = (0 : Int32) := by
  by_cases h : own_hiI q = (0 : Int32)
  · exact Or.inl h
  · refine Or.inr (Classical.byContradiction fun h2 => ?_)
    have a := (own_hi_iff q).mp h
    have b := (own_lo_iff q).mp h2
    omega
def own_b0 (c : Int32) : Int32 := nar .byte ((c >>> ((0 : Int32) &&& 31)).toInt8.toInt32)
def own_b1 (c : Int32) : Int32 := nar .byte ((c >>> ((8 : Int32) &&& 31)).toInt8.toInt32)
def own_lb (c : Int32) : Int32 := nar .byte (c.toInt8.toInt32)
def own_gcx (c : Int32) : Int32 := nar .char ((((own_b0 c &&& (255 : Int32)) <<< ((0 : Int32) &&& 31)) ||| ((own_b1 c &&& (255 : Int32)) <<< ((8 : Int32) &&& 31))).toUInt32.toUInt16.toUInt32.toInt32)
theorem own_cn {c : Int32} (h : own_ch c) : Int32.ofNat c.toInt.toNat = c := by
  unfold own_ch at h
  rw [← Int32.toInt_inj, own_on (by omega)]; omega
theorem own_orn (a b : Nat) (ha : a < 256) (hb : b < 256) : Int32.ofNat a ||| Int32.ofNat (256 * b) = Int32.ofNat (a + 256 * b) := by
  apply Int32.toBitVec_inj.mp
  rw [Int32.toBitVec_or, Int32.toBitVec_ofNat', Int32.toBitVec_ofNat', Int32.toBitVec_ofNat']
  apply BitVec.eq_of_toNat_eq
  rw [BitVec.toNat_or, BitVec.toNat_ofNat, BitVec.toNat_ofNat, BitVec.toNat_ofNat, Nat.mod_eq_of_lt (by omega), Nat.mod_eq_of_lt (by omega), Nat.mod_eq_of_lt (by omega)]
  have q := Nat.two_pow_add_eq_or_of_lt (i := 8) (b := a) (by omega) b
  rw [show (2 : Nat) ^ 8 = 256 from rfl] at q
  rw [Nat.or_comm, ← q]; omega
theorem own_nn {x : Int32} {n : Nat} (h : x.toInt = n) (hn : n < 100000) : x = Int32.ofNat n := by rw [← Int32.toInt_inj, own_on hn, h]
theorem own_gc {c : Int32} (h : own_ch c) : own_gcx c = c := by
  obtain ⟨n, hn, e⟩ : ∃ n : Nat, n < 65536 ∧ c.toInt = n := ⟨c.toInt.toNat, by unfold own_ch at h; omega, by unfold own_ch at h; omega⟩
  have m8 : ((2 ^ 8 : Nat) : Int) = 256 := rfl
  have m0 : ((2 ^ 0 : Nat) : Int) = 1 := rfl
  have s0 := c_ishr c (0 : Int32) 0 (by decide)
  have s8 := c_ishr c (8 : Int32) 8 (by decide)
  have b0 := c_i2b (c >>> ((0 : Int32) &&& 31))
  have b1 := c_i2b (c >>> ((8 : Int32) &&& 31))
  have d0 := c_i2b ((c >>> ((0 : Int32) &&& 31)).toInt8.toInt32)
  have d1 := c_i2b ((c >>> ((8 : Int32) &&& 31)).toInt8.toInt32)
  have k0 := c_mask (own_b0 c) (255 : Int32) 8 (by decide) (by decide)
  have k1 := c_mask (own_b1 c) (255 : Int32) 8 (by decide) (by decide)
  rw [m0] at s0
  rw [m8] at s8 k0 k1
  have f0 : (own_b0 c).toInt = ((c >>> ((0 : Int32) &&& 31)).toInt8.toInt32).toInt8.toInt32.toInt := rfl
  have f1 : (own_b1 c).toInt = ((c >>> ((8 : Int32) &&& 31)).toInt8.toInt32).toInt8.toInt32.toInt := rfl
  have a0 : (own_b0 c &&& (255 : Int32)).toInt = ((n % 256 : Nat) : Int) := by omega
  have a1 : (own_b1 c &&& (255 : Int32)).toInt = ((n / 256 : Nat) : Int) := by omega
  have l0 := c_ishl (own_b0 c &&& (255 : Int32)) (0 : Int32) 0 (by decide)
  have l1 := c_ishl (own_b1 c &&& (255 : Int32)) (8 : Int32) 8 (by decide)
  have r0 := rng32 ((own_b0 c &&& (255 : Int32)) <<< ((0 : Int32) &&& 31))
  have r1 := rng32 ((own_b1 c &&& (255 : Int32)) <<< ((8 : Int32) &&& 31))
  rw [m0] at l0
  rw [m8] at l1
  have e0 := own_nn (x := (own_b0 c &&& (255 : Int32)) <<< ((0 : Int32) &&& 31)) (n := n % 256) (by omega) (by omega)
  have e1 := own_nn (x := (own_b1 c &&& (255 : Int32)) <<< ((8 : Int32) &&& 31)) (n := 256 * (n / 256)) (by omega) (by omega)
  have ec := own_nn e (by omega)
  have q : ((own_b0 c &&& (255 : Int32)) <<< ((0 : Int32) &&& 31)) ||| ((own_b1 c &&& (255 : Int32)) <<< ((8 : Int32) &&& 31)) = c := by
    rw [e0, e1, own_orn _ _ (by omega) (by omega), show n % 256 + 256 * (n / 256) = n from by omega]; exact ec.symm
  unfold own_gcx
  rw [q]
  have z := c_i2c c
  have z2 := c_i2c (c.toUInt32.toUInt16.toUInt32.toInt32)
  rw [← Int32.toInt_inj]
  show (c.toUInt32.toUInt16.toUInt32.toInt32).toUInt32.toUInt16.toUInt32.toInt32.toInt = c.toInt
  omega
theorem own_lat' : ∀ a : Fin 256, own_lb (Int32.ofNat a.val) &&& (255 : Int32) = Int32.ofNat a.val := by decide +kernel
theorem own_lat {c : Int32} (h : own_ch c) (h2 : ¬ (255 : Int32) < c) : own_lb c &&& (255 : Int32) = c := by
  rw [Int32.lt_iff_toInt_lt, own_t32_255] at h2
  have q := own_lat' ⟨c.toInt.toNat, by unfold own_ch at h; omega⟩
  simp only [] at q
  rw [own_cn h] at q
  exact q
theorem own_lath {c : Int32} (h2 : ¬ (255 : Int32) < c) : own_hiI c = (0 : Int32) ∧ own_loI c = (0 : Int32) := by
  rw [Int32.lt_iff_toInt_lt, own_t32_255] at h2
  refine ⟨Classical.byContradiction fun h => ?_, Classical.byContradiction fun h => ?_⟩
  · have a := (own_hi_iff c).mp h; omega
  · have a := (own_lo_iff c).mp h; omega
def own_tcp (a b : Int32) : Int32 := ((a <<< ((10 : Int32) &&& 31)) + b) + (-56613888 : Int32)
theorem own_tcp_big {a b : Int32} (ha : ¬ own_hiI a = (0 : Int32)) (hb : ¬ own_loI b = (0 : Int32)) : 65536 ≤ (own_tcp a b).toInt := by
  have h1 := (own_hi_iff a).mp ha
  have h2 := (own_lo_iff b).mp hb
  have s1 := c_ishl a (10 : Int32) 10 (by decide)
  have s2 := c_iadd (a <<< ((10 : Int32) &&& 31)) b
  have s3 := c_iadd ((a <<< ((10 : Int32) &&& 31)) + b) (-56613888 : Int32)
  have r1 := rng32 (a <<< ((10 : Int32) &&& 31))
  have r2 := rng32 ((a <<< ((10 : Int32) &&& 31)) + b)
  have r3 := rng32 (((a <<< ((10 : Int32) &&& 31)) + b) + (-56613888 : Int32))
  rw [show ((2 ^ 10 : Nat) : Int) = 1024 from rfl] at s1
  rw [own_t32_m56613888] at s3
  unfold own_tcp
  omega
def own_cc (q : Int32) : Int32 := if q < (65536 : Int32) then (1 : Int32) else (2 : Int32)
theorem own_cc1 {c : Int32} (h : own_ch c) : own_cc c = (1 : Int32) := by
  unfold own_cc
  rw [if_pos (by unfold own_ch at h; rw [Int32.lt_iff_toInt_lt, own_t32_65536]; omega)]
theorem own_cc2 {a b : Int32} (ha : ¬ own_hiI a = (0 : Int32)) (hb : ¬ own_loI b = (0 : Int32)) : own_cc (own_tcp a b) = (2 : Int32) := by
  have q := own_tcp_big ha hb
  unfold own_cc
  rw [if_neg (by rw [Int32.lt_iff_toInt_lt, own_t32_65536]; omega)]
def own_cp2 (a b : Int32) : Int32 := if own_hiI a = (0 : Int32) then a else if own_loI b = (0 : Int32) then a else own_tcp a b
def own_cfl (q z : Int32) : Int32 := nar .byte ((((q - z).toUInt32 >>> ((31 : Int32) &&& 31).toUInt32).toInt32).toInt8.toInt32)
def own_lsL : List Int32 → Nat → Int32
  | [], _ => (-1 : Int32)
  | [a], i => if own_hiI a = (0 : Int32) then (if own_loI a = (0 : Int32) then (-1 : Int32) else Int32.ofNat i) else Int32.ofNat i
  | a :: b :: r, i => if own_hiI a = (0 : Int32) then (if own_loI a = (0 : Int32) then own_lsL (b :: r) (i + 1) else Int32.ofNat i) else if own_loI b = (0 : Int32) then Int32.ofNat i else own_lsL r (i + 2)
theorem own_ls0 (i : Nat) : own_lsL [] i = (-1 : Int32) := by rw [own_lsL]
theorem own_ls1 (a : Int32) (i : Nat) : own_lsL [a] i = if own_hiI a = (0 : Int32) then (if own_loI a = (0 : Int32) then (-1 : Int32) else Int32.ofNat i) else Int32.ofNat i := by rw [own_lsL]
theorem own_ls2 (a b : Int32) (r : List Int32) (i : Nat) : own_lsL (a :: b :: r) i = if own_hiI a = (0 : Int32) then (if own_loI a = (0 : Int32) then own_lsL (b :: r) (i + 1) else Int32.ofNat i) else if own_loI b = (0 : Int32) then Int32.ofNat i else own_lsL r (i + 2) := by rw [own_lsL]
def own_k (P : Prop) [Decidable P] : Int32 := if P then (1 : Int32) else (0 : Int32)
theorem own_rng {a : Int32} (h1 : own_hiI a = (0 : Int32)) (h2 : own_loI a = (0 : Int32)) : a < (55296 : Int32) ∨ (¬ a < (55296 : Int32) ∧ (57343 : Int32) < a) := by
  have q1 : ¬ (55296 ≤ a.toInt ∧ a.toInt ≤ 56319) := fun q => (own_hi_iff a).mpr q h1
  have q2 : ¬ (56320 ≤ a.toInt ∧ a.toInt ≤ 57343) := fun q => (own_lo_iff a).mpr q h2
  rw [Int32.lt_iff_toInt_lt, own_t32_55296, Int32.lt_iff_toInt_lt, own_t32_57343]
  omega
theorem own_sur {a : Int32} (h : 55296 ≤ a.toInt ∧ a.toInt ≤ 57343) : ¬ a < (55296 : Int32) ∧ ¬ (57343 : Int32) < a := by
  rw [Int32.lt_iff_toInt_lt, own_t32_55296, Int32.lt_iff_toInt_lt, own_t32_57343]
  omega
theorem own_triL (a : Int32) (i : Nat) : (own_lsL [a] i = own_lsL [] (i + 1) ∧ (a < (55296 : Int32) ∨ (¬ a < (55296 : Int32) ∧ (57343 : Int32) < a))) ∨ (own_lsL [a] i = Int32.ofNat i ∧ ¬ a < (55296 : Int32) ∧ ¬ (57343 : Int32) < a) := by
  by_cases h1 : own_hiI a = (0 : Int32)
  · by_cases h2 : own_loI a = (0 : Int32)
    · exact Or.inl ⟨by rw [own_ls1, own_ls0, if_pos h1, if_pos h2], own_rng h1 h2⟩
    · have q := (own_lo_iff a).mp h2
      exact Or.inr ⟨by rw [own_ls1, if_pos h1, if_neg h2], own_sur (by omega)⟩
  · have q := (own_hi_iff a).mp h1
    exact Or.inr ⟨by rw [own_ls1, if_neg h1], own_sur (by omega)⟩
theorem own_triN (a b : Int32) (r : List Int32) (i : Nat) : (own_cp2 a b = a ∧ own_lsL (a :: b :: r) i = own_lsL (b :: r) (i + 1) ∧ (a < (55296 : Int32) ∨ (¬ a < (55296 : Int32) ∧ (57343 : Int32) < a))) ∨ (own_cp2 a b = a ∧ own_lsL (a :: b :: r) i = Int32.ofNat i ∧ ¬ a < (55296 : Int32) ∧ ¬ (57343 : Int32) < a) ∨ (own_cp2 a b = own_tcp a b ∧ own_lsL (a :: b :: r) i = own_lsL r (i + 2) ∧ ¬ own_tcp a b < (55296 : Int32) ∧ (57343 : Int32) < own_tcp a b ∧ own_cc (own_tcp a b) = (2 : Int32)) := by
  by_cases h1 : own_hiI a = (0 : Int32)
  · by_cases h2 : own_loI a = (0 : Int32)
    · exact Or.inl ⟨by rw [own_cp2, if_pos h1], by rw [own_ls2, if_pos h1, if_pos h2], own_rng h1 h2⟩
    · have q := (own_lo_iff a).mp h2
      exact Or.inr (Or.inl ⟨by rw [own_cp2, if_pos h1], by rw [own_ls2, if_pos h1, if_neg h2], own_sur (by omega)⟩)
  · by_cases h2 : own_loI b = (0 : Int32)
    · have q := (own_hi_iff a).mp h1
      exact Or.inr (Or.inl ⟨by rw [own_cp2, if_neg h1, if_pos h2], by rw [own_ls2, if_neg h1, if_pos h2], own_sur (by omega)⟩)
    · have q := own_tcp_big h1 h2
      exact Or.inr (Or.inr ⟨by rw [own_cp2, if_neg h1, if_neg h2], by rw [own_ls2, if_neg h1, if_neg h2], by rw [Int32.lt_iff_toInt_lt, own_t32_55296]; omega, by rw [Int32.lt_iff_toInt_lt, own_t32_57343]; omega, own_cc2 h1 h2⟩)

def Qref (x : Addr) (h0 : Heap) (n0 : Nat) (v : Option Value) (h : Heap) (L : List Loc) : Prop := v = some (.ref x) ∧ Fr n0 L ∧ h = h0
def Qch (h0 : Heap) (n0 : Nat) (v : Option Value) (h : Heap) (L : List Loc) : Prop := (∃ z : Int32, v = some (.int z) ∧ own_ch z) ∧ Fr n0 L ∧ h = h0
def Qval (x : Int32) (n0 : Nat) (v : Option Value) (h : Heap) (L : List Loc) : Prop := v = some (.int x) ∧ Fr n0 L
theorem d1_0 : decode method_2_code 0 = .ok (.iload_n 0, 1) := by decide +kernel
theorem d1_1 : decode method_2_code 1 = .ok (.iconst 3, 1) := by decide +kernel
theorem d1_2 : decode method_2_code 2 = .ok (.iand, 1) := by decide +kernel
theorem d1_3 : decode method_2_code 3 = .ok (.istore_n 1, 1) := by decide +kernel
theorem d1_4 : decode method_2_code 4 = .ok (.iload_n 0, 1) := by decide +kernel
theorem d1_5 : decode method_2_code 5 = .ok (.iconst 2, 1) := by decide +kernel
theorem d1_6 : decode method_2_code 6 = .ok (.iushr, 1) := by decide +kernel
theorem d1_7 : decode method_2_code 7 = .ok (.istore_n 2, 1) := by decide +kernel
theorem d1_8 : decode method_2_code 8 = .ok (.iload_n 1, 1) := by decide +kernel
theorem d1_9 : decode method_2_code 9 = .ok (.ifCond .ne 10, 3) := by decide +kernel
theorem d1_12 : decode method_2_code 12 = .ok (.iload_n 2, 1) := by decide +kernel
theorem d1_13 : decode method_2_code 13 = .ok (.sipush 255, 3) := by decide +kernel
theorem d1_16 : decode method_2_code 16 = .ok (.iand, 1) := by decide +kernel
theorem d1_17 : decode method_2_code 17 = .ok (.i2c, 1) := by decide +kernel
theorem d1_18 : decode method_2_code 18 = .ok (.ireturn, 1) := by decide +kernel
theorem d1_19 : decode method_2_code 19 = .ok (.iload_n 1, 1) := by decide +kernel
theorem d1_20 : decode method_2_code 20 = .ok (.iconst 1, 1) := by decide +kernel
theorem d1_21 : decode method_2_code 21 = .ok (.if_icmp .ne 13, 3) := by decide +kernel
theorem d1_24 : decode method_2_code 24 = .ok (.ldc 7, 2) := by decide +kernel
theorem d1_26 : decode method_2_code 26 = .ok (.iload_n 2, 1) := by decide +kernel
theorem d1_27 : decode method_2_code 27 = .ok (.sipush 1023, 3) := by decide +kernel
theorem d1_30 : decode method_2_code 30 = .ok (.iand, 1) := by decide +kernel
theorem d1_31 : decode method_2_code 31 = .ok (.iadd, 1) := by decide +kernel
theorem d1_32 : decode method_2_code 32 = .ok (.i2c, 1) := by decide +kernel
theorem d1_33 : decode method_2_code 33 = .ok (.ireturn, 1) := by decide +kernel
theorem d1_34 : decode method_2_code 34 = .ok (.iload_n 1, 1) := by decide +kernel
theorem d1_35 : decode method_2_code 35 = .ok (.iconst 2, 1) := by decide +kernel
theorem d1_36 : decode method_2_code 36 = .ok (.if_icmp .ne 13, 3) := by decide +kernel
theorem d1_39 : decode method_2_code 39 = .ok (.ldc 8, 2) := by decide +kernel
theorem d1_41 : decode method_2_code 41 = .ok (.iload_n 2, 1) := by decide +kernel
theorem d1_42 : decode method_2_code 42 = .ok (.sipush 1023, 3) := by decide +kernel
theorem d1_45 : decode method_2_code 45 = .ok (.iand, 1) := by decide +kernel
theorem d1_46 : decode method_2_code 46 = .ok (.iadd, 1) := by decide +kernel
theorem d1_47 : decode method_2_code 47 = .ok (.i2c, 1) := by decide +kernel
theorem d1_48 : decode method_2_code 48 = .ok (.ireturn, 1) := by decide +kernel
theorem d1_49 : decode method_2_code 49 = .ok (.iload_n 2, 1) := by decide +kernel
theorem d1_50 : decode method_2_code 50 = .ok (.ldc 9, 2) := by decide +kernel
theorem d1_52 : decode method_2_code 52 = .ok (.iand, 1) := by decide +kernel
theorem d1_53 : decode method_2_code 53 = .ok (.i2c, 1) := by decide +kernel
theorem d1_54 : decode method_2_code 54 = .ok (.ireturn, 1) := by decide +kernel
theorem ef_rm_draw (m : MethodId) (x0 : Int32) : entryFrame m #[(.int x0)] 3 = mkF m 0 #[.val (.int x0), .unset, .unset] [] := by first | (simp [entryFrame, mkF, argsToLocals, Value.category, maxLocals]; done) | rfl
theorem pf_0 : plainFor (⟨"com/example/rhadamanthus/rhadamanthus/util/Utf16LoneSurrogateIndexPinLaw", "draw", "(I)C"⟩ : MethodName) = true := by apply plainFor_of_name; first | (simp [plainName, overriddenIn]; done) | decide +kernel
theorem Wd6 {a0 : Array Value} {Z : State} (hw : ∀ d ∈ tables_1, d.before a0 Z = true) : (Jvm.Cond.constant "com/example/rhadamanthus/rhadamanthus/util/Utf16LoneSurrogateIndexPinLaw" (7 : Nat) (55296 : Int32)).before a0 Z = true := hw _ (List.mem_of_getElem? (i := 6) rfl)
theorem Wd5 {a0 : Array Value} {Z : State} (hw : ∀ d ∈ tables_1, d.before a0 Z = true) : (Jvm.Cond.constant "com/example/rhadamanthus/rhadamanthus/util/Utf16LoneSurrogateIndexPinLaw" (8 : Nat) (56320 : Int32)).before a0 Z = true := hw _ (List.mem_of_getElem? (i := 5) rfl)
theorem Wd4 {a0 : Array Value} {Z : State} (hw : ∀ d ∈ tables_1, d.before a0 Z = true) : (Jvm.Cond.constant "com/example/rhadamanthus/rhadamanthus/util/Utf16LoneSurrogateIndexPinLaw" (9 : Nat) (65535 : Int32)).before a0 Z = true := hw _ (List.mem_of_getElem? (i := 4) rfl)
set_option maxRecDepth 65536 in
set_option maxHeartbeats 40000000 in
theorem rm_draw (l : Launch) (Z : State) (a0 : Array Value) (hw : ∀ d ∈ tables_1, d.before a0 Z = true) (ws : List Jvm.Cond) (q0 : Int32) (h0 : Heap) (n0 : Nat) (Z0 : n0 ≤ h0.size)  :
    own_M l Z (⟨"com/example/rhadamanthus/rhadamanthus/util/Utf16LoneSurrogateIndexPinLaw", "draw", "(I)C"⟩ : MethodName) method_2_code 3 (some .char) ws ({ frames := 0, cells := 0, slots := 0, locals := 0 } : Room) #[(.int q0)] h0  (Qch h0 n0) := by
  refine own_bodyM pf_0 ?_
  intro p e s m below meth c s₁ hx hby hml hown hnm hlk hret hZ X0 e0
  have N0 : Fr n0 [] := Fr.nil n0
  refine own_go (f' := (mkF m 0 #[.val (.int q0), .unset, .unset] [])) (fun t k => castTop (ef_rm_draw m q0) k) ?_
  refine own_iloadN X0 hx (pc' := 1) (hb hby d1_0) rfl rfl ?_
  refine own_iconst X0 hx (pc' := 2) (3 : Int32) (hb hby d1_1) rfl rfl ?_
  refine own_iand X0 hx (pc' := 3) (hb hby d1_2) rfl rfl ?_
  refine own_istoreN X0 hx (pc' := 4) (Ls' := #[.val (.int q0), .val (.int (q0 &&& (3 : Int32))), .unset]) (hb hby d1_3) rfl rfl ?_
  refine own_iloadN X0 hx (pc' := 5) (hb hby d1_4) rfl rfl ?_
  refine own_iconst X0 hx (pc' := 6) (2 : Int32) (hb hby d1_5) rfl rfl ?_
  refine own_iushr X0 hx (pc' := 7) (hb hby d1_6) rfl ?_
  refine own_istoreN X0 hx (pc' := 8) (Ls' := #[.val (.int q0), .val (.int (q0 &&& (3 : Int32))), .val (.int ((q0.toUInt32 >>> ((2 : Int32) &&& 31).toUInt32).toInt32))]) (hb hby d1_7) rfl rfl ?_
  refine own_iloadN X0 hx (pc' := 9) (hb hby d1_8) rfl rfl ?_
  by_cases hc9_1 : (q0 &&& (3 : Int32)) = (0 : Int32)
  · skip
    refine own_ifNo X0 hx (pc' := 12) (hb hby d1_9) (teq hc9_1).2 rfl ?_
    refine own_iloadN X0 hx (pc' := 13) (hb hby d1_12) rfl rfl ?_
    refine own_sipush X0 hx (pc' := 16) (255 : Int32) (hb hby d1_13) rfl rfl ?_
    refine own_iand X0 hx (pc' := 17) (hb hby d1_16) rfl rfl ?_
    refine own_i2c X0 hx (pc' := 18) (hb hby d1_17) rfl ?_
    refine own_retN X0 hx hlk hret (by simp) (hb hby d1_18) (by decide) (by decide) ?_
    exact ⟨⟨_, rfl, own_narr _⟩, N0, e0⟩
  · skip
    refine own_ifYes X0 hx (pc' := 19) (hb hby d1_9) (feq hc9_1).2 (by decide) (by decide) ?_
    refine own_iloadN X0 hx (pc' := 20) (hb hby d1_19) rfl rfl ?_
    refine own_iconst X0 hx (pc' := 21) (1 : Int32) (hb hby d1_20) rfl rfl ?_
    by_cases hc21_2 : (q0 &&& (3 : Int32)) = (1 : Int32)
    · skip
      refine own_icmpNo X0 hx (pc' := 24) (hb hby d1_21) (teq hc21_2).2 rfl ?_
      refine own_ldcI X0 hx (pc' := 26) hZ hown (Wd6 hw) (hb hby d1_24) rfl ?_
      refine own_iloadN X0 hx (pc' := 27) (hb hby d1_26) rfl rfl ?_
      refine own_sipush X0 hx (pc' := 30) (1023 : Int32) (hb hby d1_27) rfl rfl ?_
      refine own_iand X0 hx (pc' := 31) (hb hby d1_30) rfl rfl ?_
      refine own_iadd X0 hx (pc' := 32) (hb hby d1_31) rfl rfl ?_
      refine own_i2c X0 hx (pc' := 33) (hb hby d1_32) rfl ?_
      refine own_retN X0 hx hlk hret (by simp) (hb hby d1_33) (by decide) (by decide) ?_
      exact ⟨⟨_, rfl, own_narr _⟩, N0, e0⟩
    · skip
      refine own_icmpYes X0 hx (pc' := 34) (hb hby d1_21) (feq hc21_2).2 (by decide) (by decide) ?_
      refine own_iloadN X0 hx (pc' := 35) (hb hby d1_34) rfl rfl ?_
      refine own_iconst X0 hx (pc' := 36) (2 : Int32) (hb hby d1_35) rfl rfl ?_
      by_cases hc36_3 : (q0 &&& (3 : Int32)) = (2 : Int32)
      · skip
        refine own_icmpNo X0 hx (pc' := 39) (hb hby d1_36) (teq hc36_3).2 rfl ?_
        refine own_ldcI X0 hx (pc' := 41) hZ hown (Wd5 hw) (hb hby d1_39) rfl ?_
        refine own_iloadN X0 hx (pc' := 42) (hb hby d1_41) rfl rfl ?_
        refine own_sipush X0 hx (pc' := 45) (1023 : Int32) (hb hby d1_42) rfl rfl ?_
        refine own_iand X0 hx (pc' := 46) (hb hby d1_45) rfl rfl ?_
        refine own_iadd X0 hx (pc' := 47) (hb hby d1_46) rfl rfl ?_
        refine own_i2c X0 hx (pc' := 48) (hb hby d1_47) rfl ?_
        refine own_retN X0 hx hlk hret (by simp) (hb hby d1_48) (by decide) (by decide) ?_
        exact ⟨⟨_, rfl, own_narr _⟩, N0, e0⟩
      · skip
        refine own_icmpYes X0 hx (pc' := 49) (hb hby d1_36) (feq hc36_3).2 (by decide) (by decide) ?_
        refine own_iloadN X0 hx (pc' := 50) (hb hby d1_49) rfl rfl ?_
        refine own_ldcI X0 hx (pc' := 52) hZ hown (Wd4 hw) (hb hby d1_50) rfl ?_
        refine own_iand X0 hx (pc' := 53) (hb hby d1_52) rfl rfl ?_
        refine own_i2c X0 hx (pc' := 54) (hb hby d1_53) rfl ?_
        refine own_retN X0 hx hlk hret (by simp) (hb hby d1_54) (by decide) (by decide) ?_
        exact ⟨⟨_, rfl, own_narr _⟩, N0, e0⟩

theorem d12_0 : decode method_3_code 0 = .ok (.iload_n 0, 1) := by decide +kernel
theorem d12_1 : decode method_3_code 1 = .ok (.ldc 7, 2) := by decide +kernel
theorem d12_3 : decode method_3_code 3 = .ok (.if_icmp .lt 13, 3) := by decide +kernel
theorem d12_6 : decode method_3_code 6 = .ok (.iload_n 0, 1) := by decide +kernel
theorem d12_7 : decode method_3_code 7 = .ok (.ldc 10, 2) := by decide +kernel
theorem d12_9 : decode method_3_code 9 = .ok (.if_icmp .gt 7, 3) := by decide +kernel
theorem d12_12 : decode method_3_code 12 = .ok (.iconst 1, 1) := by decide +kernel
theorem d12_13 : decode method_3_code 13 = .ok (.goto 4, 3) := by decide +kernel
theorem d12_16 : decode method_3_code 16 = .ok (.iconst 0, 1) := by decide +kernel
theorem d12_17 : decode method_3_code 17 = .ok (.ireturn, 1) := by decide +kernel
theorem ef_rm_hi (m : MethodId) (x0 : Int32) : entryFrame m #[(.int x0)] 1 = mkF m 0 #[.val (.int x0)] [] := by first | (simp [entryFrame, mkF, argsToLocals, Value.category, maxLocals]; done) | rfl
theorem pf_1 : plainFor (⟨"com/example/rhadamanthus/rhadamanthus/util/Utf16LoneSurrogateIndexPinLaw", "hi", "(C)Z"⟩ : MethodName) = true := by apply plainFor_of_name; first | (simp [plainName, overriddenIn]; done) | decide +kernel
theorem Wd118 {a0 : Array Value} {Z : State} (hw : ∀ d ∈ tables_1, d.before a0 Z = true) : (Jvm.Cond.constant "com/example/rhadamanthus/rhadamanthus/util/Utf16LoneSurrogateIndexPinLaw" (10 : Nat) (56319 : Int32)).before a0 Z = true := hw _ (List.mem_of_getElem? (i := 118) rfl)
set_option maxRecDepth 65536 in
set_option maxHeartbeats 40000000 in
theorem rm_hi (l : Launch) (Z : State) (a0 : Array Value) (hw : ∀ d ∈ tables_1, d.before a0 Z = true) (ws : List Jvm.Cond) (q0 : Int32) (h0 : Heap) (n0 : Nat) (Z0 : n0 ≤ h0.size)  :
    own_M l Z (⟨"com/example/rhadamanthus/rhadamanthus/util/Utf16LoneSurrogateIndexPinLaw", "hi", "(C)Z"⟩ : MethodName) method_3_code 1 (some .boolean) ws ({ frames := 0, cells := 0, slots := 0, locals := 0 } : Room) #[(.int q0)] h0  (Qint (own_hiI q0) h0 n0) := by
  refine own_bodyM pf_1 ?_
  intro p e s m below meth c s₁ hx hby hml hown hnm hlk hret hZ X0 e0
  have N0 : Fr n0 [] := Fr.nil n0
  refine own_go (f' := (mkF m 0 #[.val (.int q0)] [])) (fun t k => castTop (ef_rm_hi m q0) k) ?_
  refine own_iloadN X0 hx (pc' := 1) (hb hby d12_0) rfl rfl ?_
  refine own_ldcI X0 hx (pc' := 3) hZ hown (Wd6 hw) (hb hby d12_1) rfl ?_
  by_cases hc3_1 : q0 < (55296 : Int32)
  · skip
    refine own_icmpYes X0 hx (pc' := 16) (hb hby d12_3) (tlt hc3_1).1 (by decide) (by decide) ?_
    refine own_iconst X0 hx (pc' := 17) (0 : Int32) (hb hby d12_16) rfl rfl ?_
    refine own_retN X0 hx hlk hret (by simp) (hb hby d12_17) (by decide) (by decide) ?_
    exact ⟨by simp [own_hiI, nar, hc3_1], N0, e0⟩
  · skip
    refine own_icmpNo X0 hx (pc' := 6) (hb hby d12_3) (flt hc3_1).1 rfl ?_
    refine own_iloadN X0 hx (pc' := 7) (hb hby d12_6) rfl rfl ?_
    refine own_ldcI X0 hx (pc' := 9) hZ hown (Wd118 hw) (hb hby d12_7) rfl ?_
    by_cases hc9_2 : (56319 : Int32) < q0
    · skip
      refine own_icmpYes X0 hx (pc' := 16) (hb hby d12_9) (tlt hc9_2).2.2.1 (by decide) (by decide) ?_
      refine own_iconst X0 hx (pc' := 17) (0 : Int32) (hb hby d12_16) rfl rfl ?_
      refine own_retN X0 hx hlk hret (by simp) (hb hby d12_17) (by decide) (by decide) ?_
      exact ⟨by simp [own_hiI, nar, hc3_1, hc9_2], N0, e0⟩
    · skip
      refine own_icmpNo X0 hx (pc' := 12) (hb hby d12_9) (flt hc9_2).2.2.1 rfl ?_
      refine own_iconst X0 hx (pc' := 13) (1 : Int32) (hb hby d12_12) rfl rfl ?_
      refine own_goto X0 hx (pc' := 17) (hb hby d12_13) (by decide) (by decide) ?_
      refine own_retN X0 hx hlk hret (by simp) (hb hby d12_17) (by decide) (by decide) ?_
      exact ⟨by simp [own_hiI, nar, hc3_1, hc9_2], N0, e0⟩

theorem d13_0 : decode method_4_code 0 = .ok (.iload_n 0, 1) := by decide +kernel
theorem d13_1 : decode method_4_code 1 = .ok (.ldc 8, 2) := by decide +kernel
theorem d13_3 : decode method_4_code 3 = .ok (.if_icmp .lt 13, 3) := by decide +kernel
theorem d13_6 : decode method_4_code 6 = .ok (.iload_n 0, 1) := by decide +kernel
theorem d13_7 : decode method_4_code 7 = .ok (.ldc 11, 2) := by decide +kernel
theorem d13_9 : decode method_4_code 9 = .ok (.if_icmp .gt 7, 3) := by decide +kernel
theorem d13_12 : decode method_4_code 12 = .ok (.iconst 1, 1) := by decide +kernel
theorem d13_13 : decode method_4_code 13 = .ok (.goto 4, 3) := by decide +kernel
theorem d13_16 : decode method_4_code 16 = .ok (.iconst 0, 1) := by decide +kernel
theorem d13_17 : decode method_4_code 17 = .ok (.ireturn, 1) := by decide +kernel
theorem ef_rm_lo (m : MethodId) (x0 : Int32) : entryFrame m #[(.int x0)] 1 = mkF m 0 #[.val (.int x0)] [] := by first | (simp [entryFrame, mkF, argsToLocals, Value.category, maxLocals]; done) | rfl
theorem pf_2 : plainFor (⟨"com/example/rhadamanthus/rhadamanthus/util/Utf16LoneSurrogateIndexPinLaw", "lo", "(C)Z"⟩ : MethodName) = true := by apply plainFor_of_name; first | (simp [plainName, overriddenIn]; done) | decide +kernel
theorem Wd119 {a0 : Array Value} {Z : State} (hw : ∀ d ∈ tables_1, d.before a0 Z = true) : (Jvm.Cond.constant "com/example/rhadamanthus/rhadamanthus/util/Utf16LoneSurrogateIndexPinLaw" (11 : Nat) (57343 : Int32)).before a0 Z = true := hw _ (List.mem_of_getElem? (i := 119) rfl)
set_option maxRecDepth 65536 in
set_option maxHeartbeats 40000000 in
theorem rm_lo (l : Launch) (Z : State) (a0 : Array Value) (hw : ∀ d ∈ tables_1, d.before a0 Z = true) (ws : List Jvm.Cond) (q0 : Int32) (h0 : Heap) (n0 : Nat) (Z0 : n0 ≤ h0.size)  :
    own_M l Z (⟨"com/example/rhadamanthus/rhadamanthus/util/Utf16LoneSurrogateIndexPinLaw", "lo", "(C)Z"⟩ : MethodName) method_4_code 1 (some .boolean) ws ({ frames := 0, cells := 0, slots := 0, locals := 0 } : Room) #[(.int q0)] h0  (Qint (own_loI q0) h0 n0) := by
  refine own_bodyM pf_2 ?_
  intro p e s m below meth c s₁ hx hby hml hown hnm hlk hret hZ X0 e0
  have N0 : Fr n0 [] := Fr.nil n0
  refine own_go (f' := (mkF m 0 #[.val (.int q0)] [])) (fun t k => castTop (ef_rm_lo m q0) k) ?_
  refine own_iloadN X0 hx (pc' := 1) (hb hby d13_0) rfl rfl ?_
  refine own_ldcI X0 hx (pc' := 3) hZ hown (Wd5 hw) (hb hby d13_1) rfl ?_
  by_cases hc3_1 : q0 < (56320 : Int32)
  · skip
    refine own_icmpYes X0 hx (pc' := 16) (hb hby d13_3) (tlt hc3_1).1 (by decide) (by decide) ?_
    refine own_iconst X0 hx (pc' := 17) (0 : Int32) (hb hby d13_16) rfl rfl ?_
    refine own_retN X0 hx hlk hret (by simp) (hb hby d13_17) (by decide) (by decide) ?_
    exact ⟨by simp [own_loI, nar, hc3_1], N0, e0⟩
  · skip
    refine own_icmpNo X0 hx (pc' := 6) (hb hby d13_3) (flt hc3_1).1 rfl ?_
    refine own_iloadN X0 hx (pc' := 7) (hb hby d13_6) rfl rfl ?_
    refine own_ldcI X0 hx (pc' := 9) hZ hown (Wd119 hw) (hb hby d13_7) rfl ?_
    by_cases hc9_2 : (57343 : Int32) < q0
    · skip
      refine own_icmpYes X0 hx (pc' := 16) (hb hby d13_9) (tlt hc9_2).2.2.1 (by decide) (by decide) ?_
      refine own_iconst X0 hx (pc' := 17) (0 : Int32) (hb hby d13_16) rfl rfl ?_
      refine own_retN X0 hx hlk hret (by simp) (hb hby d13_17) (by decide) (by decide) ?_
      exact ⟨by simp [own_loI, nar, hc3_1, hc9_2], N0, e0⟩
    · skip
      refine own_icmpNo X0 hx (pc' := 12) (hb hby d13_9) (flt hc9_2).2.2.1 rfl ?_
      refine own_iconst X0 hx (pc' := 13) (1 : Int32) (hb hby d13_12) rfl rfl ?_
      refine own_goto X0 hx (pc' := 17) (hb hby d13_13) (by decide) (by decide) ?_
      refine own_retN X0 hx hlk hret (by simp) (hb hby d13_17) (by decide) (by decide) ?_
      exact ⟨by simp [own_loI, nar, hc3_1, hc9_2], N0, e0⟩

theorem d26_0 : decode jdk_89_method_14_code 0 = .ok (.iload_n 0, 1) := by decide +kernel
theorem d26_1 : decode jdk_89_method_14_code 1 = .ok (.ldc 75, 2) := by decide +kernel
theorem d26_3 : decode jdk_89_method_14_code 3 = .ok (.if_icmp .lt 13, 3) := by decide +kernel
theorem d26_6 : decode jdk_89_method_14_code 6 = .ok (.iload_n 0, 1) := by decide +kernel
theorem d26_7 : decode jdk_89_method_14_code 7 = .ok (.ldc 76, 2) := by decide +kernel
theorem d26_9 : decode jdk_89_method_14_code 9 = .ok (.if_icmp .ge 7, 3) := by decide +kernel
theorem d26_12 : decode jdk_89_method_14_code 12 = .ok (.iconst 1, 1) := by decide +kernel
theorem d26_13 : decode jdk_89_method_14_code 13 = .ok (.goto 4, 3) := by decide +kernel
theorem d26_16 : decode jdk_89_method_14_code 16 = .ok (.iconst 0, 1) := by decide +kernel
theorem d26_17 : decode jdk_89_method_14_code 17 = .ok (.ireturn, 1) := by decide +kernel
theorem ef_rm_ih (m : MethodId) (x0 : Int32) : entryFrame m #[(.int x0)] 1 = mkF m 0 #[.val (.int x0)] [] := by first | (simp [entryFrame, mkF, argsToLocals, Value.category, maxLocals]; done) | rfl
theorem pf_3 : plainFor (⟨"java/lang/Character", "isHighSurrogate", "(C)Z"⟩ : MethodName) = true := by apply plainFor_of_name; first | (simp [plainName, overriddenIn]; done) | decide +kernel
theorem Wd117 {a0 : Array Value} {Z : State} (hw : ∀ d ∈ tables_1, d.before a0 Z = true) : (Jvm.Cond.constant "java/lang/Character" (75 : Nat) (55296 : Int32)).before a0 Z = true := hw _ (List.mem_of_getElem? (i := 117) rfl)
theorem Wd120 {a0 : Array Value} {Z : State} (hw : ∀ d ∈ tables_1, d.before a0 Z = true) : (Jvm.Cond.constant "java/lang/Character" (76 : Nat) (56320 : Int32)).before a0 Z = true := hw _ (List.mem_of_getElem? (i := 120) rfl)
set_option maxRecDepth 65536 in
set_option maxHeartbeats 40000000 in
theorem rm_ih (l : Launch) (Z : State) (a0 : Array Value) (hw : ∀ d ∈ tables_1, d.before a0 Z = true) (ws : List Jvm.Cond) (q0 : Int32) (h0 : Heap) (n0 : Nat) (Z0 : n0 ≤ h0.size)  :
    own_M l Z (⟨"java/lang/Character", "isHighSurrogate", "(C)Z"⟩ : MethodName) jdk_89_method_14_code 1 (some .boolean) ws ({ frames := 0, cells := 0, slots := 0, locals := 0 } : Room) #[(.int q0)] h0  (Qint (own_hiI q0) h0 n0) := by
  refine own_bodyM pf_3 ?_
  intro p e s m below meth c s₁ hx hby hml hown hnm hlk hret hZ X0 e0
  have N0 : Fr n0 [] := Fr.nil n0
  refine own_go (f' := (mkF m 0 #[.val (.int q0)] [])) (fun t k => castTop (ef_rm_ih m q0) k) ?_
  refine own_iloadN X0 hx (pc' := 1) (hb hby d26_0) rfl rfl ?_
  refine own_ldcI X0 hx (pc' := 3) hZ hown (Wd117 hw) (hb hby d26_1) rfl ?_
  by_cases hc3_1 : q0 < (55296 : Int32)
  · skip
    refine own_icmpYes X0 hx (pc' := 16) (hb hby d26_3) (tlt hc3_1).1 (by decide) (by decide) ?_
    refine own_iconst X0 hx (pc' := 17) (0 : Int32) (hb hby d26_16) rfl rfl ?_
    refine own_retN X0 hx hlk hret (by simp) (hb hby d26_17) (by decide) (by decide) ?_
    exact ⟨by rw [own_hi_alt]; simp [nar, nar, hc3_1], N0, e0⟩
  · skip
    refine own_icmpNo X0 hx (pc' := 6) (hb hby d26_3) (flt hc3_1).1 rfl ?_
    refine own_iloadN X0 hx (pc' := 7) (hb hby d26_6) rfl rfl ?_
    refine own_ldcI X0 hx (pc' := 9) hZ hown (Wd120 hw) (hb hby d26_7) rfl ?_
    by_cases hc9_2 : q0 < (56320 : Int32)
    · skip
      refine own_icmpNo X0 hx (pc' := 12) (hb hby d26_9) (tlt hc9_2).2.1 rfl ?_
      refine own_iconst X0 hx (pc' := 13) (1 : Int32) (hb hby d26_12) rfl rfl ?_
      refine own_goto X0 hx (pc' := 17) (hb hby d26_13) (by decide) (by decide) ?_
      refine own_retN X0 hx hlk hret (by simp) (hb hby d26_17) (by decide) (by decide) ?_
      exact ⟨by rw [own_hi_alt]; simp [nar, nar, hc3_1, hc9_2], N0, e0⟩
    · skip
      refine own_icmpYes X0 hx (pc' := 16) (hb hby d26_9) (flt hc9_2).2.1 (by decide) (by decide) ?_
      refine own_iconst X0 hx (pc' := 17) (0 : Int32) (hb hby d26_16) rfl rfl ?_
      refine own_retN X0 hx hlk hret (by simp) (hb hby d26_17) (by decide) (by decide) ?_
      exact ⟨by rw [own_hi_alt]; simp [nar, nar, hc3_1, hc9_2], N0, e0⟩

theorem d27_0 : decode jdk_89_method_15_code 0 = .ok (.iload_n 0, 1) := by decide +kernel
theorem d27_1 : decode jdk_89_method_15_code 1 = .ok (.ldc 76, 2) := by decide +kernel
theorem d27_3 : decode jdk_89_method_15_code 3 = .ok (.if_icmp .lt 13, 3) := by decide +kernel
theorem d27_6 : decode jdk_89_method_15_code 6 = .ok (.iload_n 0, 1) := by decide +kernel
theorem d27_7 : decode jdk_89_method_15_code 7 = .ok (.ldc 77, 2) := by decide +kernel
theorem d27_9 : decode jdk_89_method_15_code 9 = .ok (.if_icmp .ge 7, 3) := by decide +kernel
theorem d27_12 : decode jdk_89_method_15_code 12 = .ok (.iconst 1, 1) := by decide +kernel
theorem d27_13 : decode jdk_89_method_15_code 13 = .ok (.goto 4, 3) := by decide +kernel
theorem d27_16 : decode jdk_89_method_15_code 16 = .ok (.iconst 0, 1) := by decide +kernel
theorem d27_17 : decode jdk_89_method_15_code 17 = .ok (.ireturn, 1) := by decide +kernel
theorem ef_rm_il (m : MethodId) (x0 : Int32) : entryFrame m #[(.int x0)] 1 = mkF m 0 #[.val (.int x0)] [] := by first | (simp [entryFrame, mkF, argsToLocals, Value.category, maxLocals]; done) | rfl
theorem pf_4 : plainFor (⟨"java/lang/Character", "isLowSurrogate", "(C)Z"⟩ : MethodName) = true := by apply plainFor_of_name; first | (simp [plainName, overriddenIn]; done) | decide +kernel
theorem Wd125 {a0 : Array Value} {Z : State} (hw : ∀ d ∈ tables_1, d.before a0 Z = true) : (Jvm.Cond.constant "java/lang/Character" (77 : Nat) (57344 : Int32)).before a0 Z = true := hw _ (List.mem_of_getElem? (i := 125) rfl)
set_option maxRecDepth 65536 in
set_option maxHeartbeats 40000000 in
theorem rm_il (l : Launch) (Z : State) (a0 : Array Value) (hw : ∀ d ∈ tables_1, d.before a0 Z = true) (ws : List Jvm.Cond) (q0 : Int32) (h0 : Heap) (n0 : Nat) (Z0 : n0 ≤ h0.size)  :
    own_M l Z (⟨"java/lang/Character", "isLowSurrogate", "(C)Z"⟩ : MethodName) jdk_89_method_15_code 1 (some .boolean) ws ({ frames := 0, cells := 0, slots := 0, locals := 0 } : Room) #[(.int q0)] h0  (Qint (own_loI q0) h0 n0) := by
  refine own_bodyM pf_4 ?_
  intro p e s m below meth c s₁ hx hby hml hown hnm hlk hret hZ X0 e0
  have N0 : Fr n0 [] := Fr.nil n0
  refine own_go (f' := (mkF m 0 #[.val (.int q0)] [])) (fun t k => castTop (ef_rm_il m q0) k) ?_
  refine own_iloadN X0 hx (pc' := 1) (hb hby d27_0) rfl rfl ?_
  refine own_ldcI X0 hx (pc' := 3) hZ hown (Wd120 hw) (hb hby d27_1) rfl ?_
  by_cases hc3_1 : q0 < (56320 : Int32)
  · skip
    refine own_icmpYes X0 hx (pc' := 16) (hb hby d27_3) (tlt hc3_1).1 (by decide) (by decide) ?_
    refine own_iconst X0 hx (pc' := 17) (0 : Int32) (hb hby d27_16) rfl rfl ?_
    refine own_retN X0 hx hlk hret (by simp) (hb hby d27_17) (by decide) (by decide) ?_
    exact ⟨by rw [own_lo_alt]; simp [nar, nar, hc3_1], N0, e0⟩
  · skip
    refine own_icmpNo X0 hx (pc' := 6) (hb hby d27_3) (flt hc3_1).1 rfl ?_
    refine own_iloadN X0 hx (pc' := 7) (hb hby d27_6) rfl rfl ?_
    refine own_ldcI X0 hx (pc' := 9) hZ hown (Wd125 hw) (hb hby d27_7) rfl ?_
    by_cases hc9_2 : q0 < (57344 : Int32)
    · skip
      refine own_icmpNo X0 hx (pc' := 12) (hb hby d27_9) (tlt hc9_2).2.1 rfl ?_
      refine own_iconst X0 hx (pc' := 13) (1 : Int32) (hb hby d27_12) rfl rfl ?_
      refine own_goto X0 hx (pc' := 17) (hb hby d27_13) (by decide) (by decide) ?_
      refine own_retN X0 hx hlk hret (by simp) (hb hby d27_17) (by decide) (by decide) ?_
      exact ⟨by rw [own_lo_alt]; simp [nar, nar, hc3_1, hc9_2], N0, e0⟩
    · skip
      refine own_icmpYes X0 hx (pc' := 16) (hb hby d27_9) (flt hc9_2).2.1 (by decide) (by decide) ?_
      refine own_iconst X0 hx (pc' := 17) (0 : Int32) (hb hby d27_16) rfl rfl ?_
      refine own_retN X0 hx hlk hret (by simp) (hb hby d27_17) (by decide) (by decide) ?_
      exact ⟨by rw [own_lo_alt]; simp [nar, nar, hc3_1, hc9_2], N0, e0⟩

theorem d18_0 : decode jdk_89_method_18_code 0 = .ok (.iload_n 0, 1) := by decide +kernel
theorem d18_1 : decode jdk_89_method_18_code 1 = .ok (.ldc 73, 2) := by decide +kernel
theorem d18_3 : decode jdk_89_method_18_code 3 = .ok (.if_icmp .lt 7, 3) := by decide +kernel
theorem d18_6 : decode jdk_89_method_18_code 6 = .ok (.iconst 2, 1) := by decide +kernel
theorem d18_7 : decode jdk_89_method_18_code 7 = .ok (.goto 4, 3) := by decide +kernel
theorem d18_10 : decode jdk_89_method_18_code 10 = .ok (.iconst 1, 1) := by decide +kernel
theorem d18_11 : decode jdk_89_method_18_code 11 = .ok (.ireturn, 1) := by decide +kernel
theorem ef_rm_cc (m : MethodId) (x0 : Int32) : entryFrame m #[(.int x0)] 1 = mkF m 0 #[.val (.int x0)] [] := by first | (simp [entryFrame, mkF, argsToLocals, Value.category, maxLocals]; done) | rfl
theorem pf_5 : plainFor (⟨"java/lang/Character", "charCount", "(I)I"⟩ : MethodName) = true := by apply plainFor_of_name; first | (simp [plainName, overriddenIn]; done) | decide +kernel
theorem Wd88 {a0 : Array Value} {Z : State} (hw : ∀ d ∈ tables_1, d.before a0 Z = true) : (Jvm.Cond.constant "java/lang/Character" (73 : Nat) (65536 : Int32)).before a0 Z = true := hw _ (List.mem_of_getElem? (i := 88) rfl)
set_option maxRecDepth 65536 in
set_option maxHeartbeats 40000000 in
theorem rm_cc (l : Launch) (Z : State) (a0 : Array Value) (hw : ∀ d ∈ tables_1, d.before a0 Z = true) (ws : List Jvm.Cond) (q0 : Int32) (h0 : Heap) (n0 : Nat) (Z0 : n0 ≤ h0.size)  :
    own_M l Z (⟨"java/lang/Character", "charCount", "(I)I"⟩ : MethodName) jdk_89_method_18_code 1 (some .int) ws ({ frames := 0, cells := 0, slots := 0, locals := 0 } : Room) #[(.int q0)] h0  (Qint (own_cc q0) h0 n0) := by
  refine own_bodyM pf_5 ?_
  intro p e s m below meth c s₁ hx hby hml hown hnm hlk hret hZ X0 e0
  have N0 : Fr n0 [] := Fr.nil n0
  refine own_go (f' := (mkF m 0 #[.val (.int q0)] [])) (fun t k => castTop (ef_rm_cc m q0) k) ?_
  refine own_iloadN X0 hx (pc' := 1) (hb hby d18_0) rfl rfl ?_
  refine own_ldcI X0 hx (pc' := 3) hZ hown (Wd88 hw) (hb hby d18_1) rfl ?_
  by_cases hc3_1 : q0 < (65536 : Int32)
  · skip
    refine own_icmpYes X0 hx (pc' := 10) (hb hby d18_3) (tlt hc3_1).1 (by decide) (by decide) ?_
    refine own_iconst X0 hx (pc' := 11) (1 : Int32) (hb hby d18_10) rfl rfl ?_
    refine own_retI X0 hx hlk hret (hb hby d18_11) (by decide) (by decide) ?_
    exact ⟨by simp [own_cc, nar, hc3_1], N0, e0⟩
  · skip
    refine own_icmpNo X0 hx (pc' := 6) (hb hby d18_3) (flt hc3_1).1 rfl ?_
    refine own_iconst X0 hx (pc' := 7) (2 : Int32) (hb hby d18_6) rfl rfl ?_
    refine own_goto X0 hx (pc' := 11) (hb hby d18_7) (by decide) (by decide) ?_
    refine own_retI X0 hx hlk hret (hb hby d18_11) (by decide) (by decide) ?_
    exact ⟨by simp [own_cc, nar, hc3_1], N0, e0⟩

theorem d28_0 : decode jdk_89_method_19_code 0 = .ok (.iload_n 0, 1) := by decide +kernel
theorem d28_1 : decode jdk_89_method_19_code 1 = .ok (.bipush 10, 2) := by decide +kernel
theorem d28_3 : decode jdk_89_method_19_code 3 = .ok (.ishl, 1) := by decide +kernel
theorem d28_4 : decode jdk_89_method_19_code 4 = .ok (.iload_n 1, 1) := by decide +kernel
theorem d28_5 : decode jdk_89_method_19_code 5 = .ok (.iadd, 1) := by decide +kernel
theorem d28_6 : decode jdk_89_method_19_code 6 = .ok (.ldc 85, 2) := by decide +kernel
theorem d28_8 : decode jdk_89_method_19_code 8 = .ok (.iadd, 1) := by decide +kernel
theorem d28_9 : decode jdk_89_method_19_code 9 = .ok (.ireturn, 1) := by decide +kernel
theorem ef_rm_tcp (m : MethodId) (x0 : Int32) (x1 : Int32) : entryFrame m #[(.int x0), (.int x1)] 2 = mkF m 0 #[.val (.int x0), .val (.int x1)] [] := by first | (simp [entryFrame, mkF, argsToLocals, Value.category, maxLocals]; done) | rfl
theorem pf_6 : plainFor (⟨"java/lang/Character", "toCodePoint", "(CC)I"⟩ : MethodName) = true := by apply plainFor_of_name; first | (simp [plainName, overriddenIn]; done) | decide +kernel
theorem Wd129 {a0 : Array Value} {Z : State} (hw : ∀ d ∈ tables_1, d.before a0 Z = true) : (Jvm.Cond.constant "java/lang/Character" (85 : Nat) (-56613888 : Int32)).before a0 Z = true := hw _ (List.mem_of_getElem? (i := 129) rfl)
set_option maxRecDepth 65536 in
set_option maxHeartbeats 40000000 in
theorem rm_tcp (l : Launch) (Z : State) (a0 : Array Value) (hw : ∀ d ∈ tables_1, d.before a0 Z = true) (ws : List Jvm.Cond) (q0 q1 : Int32) (h0 : Heap) (n0 : Nat) (Z0 : n0 ≤ h0.size)  :
    own_M l Z (⟨"java/lang/Character", "toCodePoint", "(CC)I"⟩ : MethodName) jdk_89_method_19_code 2 (some .int) ws ({ frames := 0, cells := 0, slots := 0, locals := 0 } : Room) #[(.int q0), (.int q1)] h0  (Qint (own_tcp q0 q1) h0 n0) := by
  refine own_bodyM pf_6 ?_
  intro p e s m below meth c s₁ hx hby hml hown hnm hlk hret hZ X0 e0
  have N0 : Fr n0 [] := Fr.nil n0
  refine own_go (f' := (mkF m 0 #[.val (.int q0), .val (.int q1)] [])) (fun t k => castTop (ef_rm_tcp m q0 q1) k) ?_
  refine own_iloadN X0 hx (pc' := 1) (hb hby d28_0) rfl rfl ?_
  refine own_bipush X0 hx (pc' := 3) (10 : Int32) (hb hby d28_1) rfl rfl ?_
  refine own_ishl X0 hx (pc' := 4) (hb hby d28_3) rfl ?_
  refine own_iloadN X0 hx (pc' := 5) (hb hby d28_4) rfl rfl ?_
  refine own_iadd X0 hx (pc' := 6) (hb hby d28_5) rfl rfl ?_
  refine own_ldcI X0 hx (pc' := 8) hZ hown (Wd129 hw) (hb hby d28_6) rfl ?_
  refine own_iadd X0 hx (pc' := 9) (hb hby d28_8) rfl rfl ?_
  refine own_retI X0 hx hlk hret (hb hby d28_9) (by decide) (by decide) ?_
  exact ⟨rfl, N0, e0⟩

theorem d6_0 : decode jdk_31_method_11_code 0 = .ok (.aload_n 0, 1) := by decide +kernel
theorem d6_1 : decode jdk_31_method_11_code 1 = .ok (.ifnonnull 12, 3) := by decide +kernel
theorem d6_13 : decode jdk_31_method_11_code 13 = .ok (.aload_n 0, 1) := by decide +kernel
theorem d6_14 : decode jdk_31_method_11_code 14 = .ok (.areturn, 1) := by decide +kernel
theorem ef_rm_rnn (m : MethodId) (x0 : Addr) (x1 : Addr) : entryFrame m #[(.ref x0), (.ref x1)] 2 = mkF m 0 #[.val (.ref x0), .val (.ref x1)] [] := by first | (simp [entryFrame, mkF, argsToLocals, Value.category, maxLocals]; done) | rfl
theorem pf_7 : plainFor (⟨"java/util/Objects", "requireNonNull", "(Ljava/lang/Object;Ljava/lang/String;)Ljava/lang/Object;"⟩ : MethodName) = true := by apply plainFor_of_name; first | (simp [plainName, overriddenIn]; done) | decide +kernel
set_option maxRecDepth 65536 in
set_option maxHeartbeats 40000000 in
theorem rm_rnn (l : Launch) (Z : State) (a0 : Array Value) (hw : ∀ d ∈ tables_1, d.before a0 Z = true) (ws : List Jvm.Cond) (x y : Addr) (h0 : Heap) (n0 : Nat) (Z0 : n0 ≤ h0.size)  :
    own_M l Z (⟨"java/util/Objects", "requireNonNull", "(Ljava/lang/Object;Ljava/lang/String;)Ljava/lang/Object;"⟩ : MethodName) jdk_31_method_11_code 2 (some (.object "java/lang/Object")) ws ({ frames := 0, cells := 0, slots := 0, locals := 0 } : Room) #[(.ref x), (.ref y)] h0  (Qref x h0 n0) := by
  refine own_bodyM pf_7 ?_
  intro p e s m below meth c s₁ hx hby hml hown hnm hlk hret hZ X0 e0
  have N0 : Fr n0 [] := Fr.nil n0
  refine own_go (f' := (mkF m 0 #[.val (.ref x), .val (.ref y)] [])) (fun t k => castTop (ef_rm_rnn m x y) k) ?_
  refine own_aloadN X0 hx (pc' := 1) (hb hby d6_0) rfl rfl rfl ?_
  refine own_ifnonnullYes X0 hx (pc' := 13) (hb hby d6_1) (by decide) (by decide) ?_
  refine own_aloadN X0 hx (pc' := 14) (hb hby d6_13) rfl rfl rfl ?_
  refine own_retA X0 hx hlk hret rfl rfl rfl (hb hby d6_14) (by decide) (by decide) ?_
  exact ⟨rfl, N0, e0⟩

theorem d17_0 : decode jdk_41_method_11_code 0 = .ok (.iload_n 0, 1) := by decide +kernel
theorem d17_1 : decode jdk_41_method_11_code 1 = .ok (.ifCond .lt 8, 3) := by decide +kernel
theorem d17_4 : decode jdk_41_method_11_code 4 = .ok (.iload_n 0, 1) := by decide +kernel
theorem d17_5 : decode jdk_41_method_11_code 5 = .ok (.iload_n 1, 1) := by decide +kernel
theorem d17_6 : decode jdk_41_method_11_code 6 = .ok (.if_icmp .lt 10, 3) := by decide +kernel
theorem d17_16 : decode jdk_41_method_11_code 16 = .ok (.iload_n 0, 1) := by decide +kernel
theorem d17_17 : decode jdk_41_method_11_code 17 = .ok (.ireturn, 1) := by decide +kernel
theorem ef_rm_ckp (m : MethodId) (x0 : Int32) (x1 : Int32) (x2 : Value) (hx2 : x2.isRef = true) : entryFrame m #[(.int x0), (.int x1), x2] 3 = mkF m 0 #[.val (.int x0), .val (.int x1), .val x2] [] := by
  rcases ref_cases hx2 with rfl | ⟨_, rfl⟩ <;>
  first | (simp [entryFrame, mkF, argsToLocals, Value.category, maxLocals]; done) | rfl
theorem pf_8 : plainFor (⟨"jdk/internal/util/Preconditions", "checkIndex", "(IILjava/util/function/BiFunction;)I"⟩ : MethodName) = true := by apply plainFor_of_name; first | (simp [plainName, overriddenIn]; done) | decide +kernel
set_option maxRecDepth 65536 in
set_option maxHeartbeats 40000000 in
theorem rm_ckp (l : Launch) (Z : State) (a0 : Array Value) (hw : ∀ d ∈ tables_1, d.before a0 Z = true) (ws : List Jvm.Cond) (q0 q1 : Int32) (sv : Value) (hsv : sv.isRef = true) (h0 : Heap) (n0 : Nat) (Z0 : n0 ≤ h0.size) (r1 : ¬ q0 < (0 : Int32)) (r2 : q0 < q1) :
    own_M l Z (⟨"jdk/internal/util/Preconditions", "checkIndex", "(IILjava/util/function/BiFunction;)I"⟩ : MethodName) jdk_41_method_11_code 3 (some .int) ws ({ frames := 0, cells := 0, slots := 0, locals := 0 } : Room) #[(.int q0), (.int q1), sv] h0  (Qint q0 h0 n0) := by
  refine own_bodyM pf_8 ?_
  intro p e s m below meth c s₁ hx hby hml hown hnm hlk hret hZ X0 e0
  have N0 : Fr n0 [] := Fr.nil n0
  refine own_go (f' := (mkF m 0 #[.val (.int q0), .val (.int q1), .val sv] [])) (fun t k => castTop (ef_rm_ckp m q0 q1 sv hsv) k) ?_
  refine own_iloadN X0 hx (pc' := 1) (hb hby d17_0) rfl rfl ?_
  refine own_ifNo X0 hx (pc' := 4) (hb hby d17_1) (flt r1).1 rfl ?_
  refine own_iloadN X0 hx (pc' := 5) (hb hby d17_4) rfl rfl ?_
  refine own_iloadN X0 hx (pc' := 6) (hb hby d17_5) rfl rfl ?_
  refine own_icmpYes X0 hx (pc' := 16) (hb hby d17_6) (tlt r2).1 (by decide) (by decide) ?_
  refine own_iloadN X0 hx (pc' := 17) (hb hby d17_16) rfl rfl ?_
  refine own_retI X0 hx hlk hret (hb hby d17_17) (by decide) (by decide) ?_
  exact ⟨rfl, N0, e0⟩

theorem d16_0 : decode jdk_42_method_155_code 0 = .ok (.iload_n 0, 1) := by decide +kernel
theorem d16_1 : decode jdk_42_method_155_code 1 = .ok (.iload_n 1, 1) := by decide +kernel
theorem d16_2 : decode jdk_42_method_155_code 2 = .ok (.getstatic 1053, 3) := by decide +kernel
theorem d16_5 : decode jdk_42_method_155_code 5 = .ok (.invokestatic 1059, 3) := by decide +kernel
theorem d16_8 : decode jdk_42_method_155_code 8 = .ok (.pop, 1) := by decide +kernel
theorem d16_9 : decode jdk_42_method_155_code 9 = .ok (.return_, 1) := by decide +kernel
theorem ef_rm_cks (m : MethodId) (x0 : Int32) (x1 : Int32) : entryFrame m #[(.int x0), (.int x1)] 2 = mkF m 0 #[.val (.int x0), .val (.int x1)] [] := by first | (simp [entryFrame, mkF, argsToLocals, Value.category, maxLocals]; done) | rfl
theorem pf_9 : plainFor (⟨"java/lang/String", "checkIndex", "(II)V"⟩ : MethodName) = true := by apply plainFor_of_name; first | (simp [plainName, overriddenIn]; done) | decide +kernel
theorem Wd78 {a0 : Array Value} {Z : State} (hw : ∀ d ∈ tables_1, d.before a0 Z = true) : (Jvm.Cond.fieldLink "java/lang/String" (1053 : Nat) "jdk/internal/util/Preconditions" "SIOOBE_FORMATTER" "Ljava/util/function/BiFunction;").before a0 Z = true := hw _ (List.mem_of_getElem? (i := 78) rfl)
theorem Wd82 {a0 : Array Value} {Z : State} (hw : ∀ d ∈ tables_1, d.before a0 Z = true) : (Jvm.Cond.code ({ cls := "jdk/internal/util/Preconditions", name := "checkIndex", desc := "(IILjava/util/function/BiFunction;)I" } : Jvm.MethodName) jdk_41_method_11_code (3 : Nat) (Option.some Jvm.ClassFile.FieldType.int)).before a0 Z = true := hw _ (List.mem_of_getElem? (i := 82) rfl)
theorem Wd79 {a0 : Array Value} {Z : State} (hw : ∀ d ∈ tables_1, d.before a0 Z = true) : (Jvm.Cond.initialized "jdk/internal/util/Preconditions").before a0 Z = true := hw _ (List.mem_of_getElem? (i := 79) rfl)
theorem pd_0 : parseMethodDescriptor "(IILjava/util/function/BiFunction;)I" = some ⟨[.int, .int, (.object "java/util/function/BiFunction")], some .int⟩ := by decide +kernel
theorem Wd80 {a0 : Array Value} {Z : State} (hw : ∀ d ∈ tables_1, d.before a0 Z = true) : (Jvm.Cond.methodLink "java/lang/String" (1059 : Nat) ({ cls := "jdk/internal/util/Preconditions", name := "checkIndex", desc := "(IILjava/util/function/BiFunction;)I" } : Jvm.MethodName)).before a0 Z = true := hw _ (List.mem_of_getElem? (i := 80) rfl)
theorem Wd81 {a0 : Array Value} {Z : State} (hw : ∀ d ∈ tables_1, d.before a0 Z = true) : (Jvm.Cond.static ({ cls := "jdk/internal/util/Preconditions", name := "checkIndex", desc := "(IILjava/util/function/BiFunction;)I" } : Jvm.MethodName)).before a0 Z = true := hw _ (List.mem_of_getElem? (i := 81) rfl)
set_option maxRecDepth 65536 in
set_option maxHeartbeats 40000000 in
theorem rm_cks (l : Launch) (Z : State) (a0 : Array Value) (hw : ∀ d ∈ tables_1, d.before a0 Z = true) (ws : List Jvm.Cond) (cz : Int32) (sv : Value) (hcz : ¬ cz = (0 : Int32)) (hsv : sv.isRef = true) (q0 q1 : Int32) (h0 : Heap) (n0 : Nat) (Z0 : n0 ≤ h0.size) (r1 : ¬ q0 < (0 : Int32)) (r2 : q0 < q1) (B_ST : own_ST n0 Z h0 cz sv) :
    own_M l Z (⟨"java/lang/String", "checkIndex", "(II)V"⟩ : MethodName) jdk_42_method_155_code 2 none ws ({ frames := 1, cells := 0, slots := 0, locals := 14 } : Room) #[(.int q0), (.int q1)] h0  (Qvoid h0 n0) := by
  refine own_bodyM pf_9 ?_
  intro p e s m below meth c s₁ hx hby hml hown hnm hlk hret hZ X0 e0
  have N0 : Fr n0 [] := Fr.nil n0
  refine own_go (f' := (mkF m 0 #[.val (.int q0), .val (.int q1)] [])) (fun t k => castTop (ef_rm_cks m q0 q1) k) ?_
  refine own_iloadN X0 hx (pc' := 1) (hb hby d16_0) rfl rfl ?_
  refine own_iloadN X0 hx (pc' := 2) (hb hby d16_1) rfl rfl ?_
  refine own_getS X0 hx (pc' := 5) hZ hown (host := "") (Or.inl (Wd78 hw)) Via.refl e0 (own_SB.sta B_ST.2.2.2.2) (hb hby d16_2) rfl (fun T1 X1 e1 => ?_)
  refine own_cSI X1 hx (pc' := 8) hZ hown (Wd80 hw) (Wd81 hw) (Wd79 hw) (Wd82 hw) (rm_ckp l Z a0 hw []  q0 q1 sv hsv h0 n0 Z0 r1 r2 ) e1 N0 hml pd_0 (hb hby d16_5) 0 [(.int q0), (.int q1), sv] [] (fun T2 L2 X2 e2 N2 => ?_)
  refine own_pop X2 hx (pc' := 9) (hb hby d16_8) rfl rfl ?_
  refine own_retV X2 hx hlk hret (hb hby d16_9) (by decide) (by decide) ?_
  exact ⟨rfl, N2, e2⟩

theorem d8_0 : decode jdk_42_method_152_code 0 = .ok (.getstatic 38, 3) := by decide +kernel
theorem d8_3 : decode jdk_42_method_152_code 3 = .ok (.ifCond .eq 10, 3) := by decide +kernel
theorem d8_6 : decode jdk_42_method_152_code 6 = .ok (.aload_n 0, 1) := by decide +kernel
theorem d8_7 : decode jdk_42_method_152_code 7 = .ok (.getfield 15, 3) := by decide +kernel
theorem d8_10 : decode jdk_42_method_152_code 10 = .ok (.goto 4, 3) := by decide +kernel
theorem d8_13 : decode jdk_42_method_152_code 13 = .ok (.iconst 1, 1) := by decide +kernel
theorem d8_14 : decode jdk_42_method_152_code 14 = .ok (.ireturn, 1) := by decide +kernel
theorem ef_rm_coder (m : MethodId) (x0 : Addr) : entryFrame m #[(.ref x0)] 1 = mkF m 0 #[.val (.ref x0)] [] := by first | (simp [entryFrame, mkF, argsToLocals, Value.category, maxLocals]; done) | rfl
theorem pf_10 : plainFor (⟨"java/lang/String", "coder", "()B"⟩ : MethodName) = true := by apply plainFor_of_name; first | (simp [plainName, overriddenIn]; done) | decide +kernel
theorem Wd48 {a0 : Array Value} {Z : State} (hw : ∀ d ∈ tables_1, d.before a0 Z = true) : (Jvm.Cond.fieldLink "java/lang/String" (38 : Nat) "java/lang/String" "COMPACT_STRINGS" "Z").before a0 Z = true := hw _ (List.mem_of_getElem? (i := 48) rfl)
theorem Wd28 {a0 : Array Value} {Z : State} (hw : ∀ d ∈ tables_1, d.before a0 Z = true) : (Jvm.Cond.fieldLink "java/lang/String" (15 : Nat) "java/lang/String" "coder" "B").before a0 Z = true := hw _ (List.mem_of_getElem? (i := 28) rfl)
set_option maxRecDepth 65536 in
set_option maxHeartbeats 40000000 in
theorem rm_coder (l : Launch) (Z : State) (a0 : Array Value) (hw : ∀ d ∈ tables_1, d.before a0 Z = true) (ws : List Jvm.Cond) (cz : Int32) (sv : Value) (hcz : ¬ cz = (0 : Int32)) (hsv : sv.isRef = true) (so : Addr) (cd : Int32) (h0 : Heap) (n0 : Nat) (Z0 : n0 ≤ h0.size) (F_c : Fld Z h0 so "java/lang/String" "coder" "B" (.int cd)) (hcd : nar .byte cd = cd) (B_ST : own_ST n0 Z h0 cz sv) :
    own_M l Z (⟨"java/lang/String", "coder", "()B"⟩ : MethodName) jdk_42_method_152_code 1 (some .byte) ws ({ frames := 0, cells := 0, slots := 0, locals := 0 } : Room) #[(.ref so)] h0  (Qint cd h0 n0) := by
  refine own_bodyM pf_10 ?_
  intro p e s m below meth c s₁ hx hby hml hown hnm hlk hret hZ X0 e0
  have N0 : Fr n0 [] := Fr.nil n0
  refine own_go (f' := (mkF m 0 #[.val (.ref so)] [])) (fun t k => castTop (ef_rm_coder m so) k) ?_
  refine own_getS X0 hx (pc' := 3) hZ hown (host := "") (Or.inl (Wd48 hw)) Via.refl e0 (own_SB.sta B_ST.1) (hb hby d8_0) rfl (fun T1 X1 e1 => ?_)
  refine own_ifNo X1 hx (pc' := 6) (hb hby d8_3) (feq (id hcz)).1 rfl ?_
  refine own_aloadN X1 hx (pc' := 7) (hb hby d8_6) rfl rfl rfl ?_
  refine own_getF X1 hx (pc' := 10) hZ hown (host := "") (Or.inl (Wd28 hw)) Via.refl e1 F_c (hb hby d8_7) rfl (fun T2 X2 e2 => ?_)
  refine own_goto X2 hx (pc' := 14) (hb hby d8_10) (by decide) (by decide) ?_
  refine own_retN X2 hx hlk hret (by simp) (hb hby d8_14) (by decide) (by decide) ?_
  exact ⟨by rw [hcd], N0, e2⟩

theorem d15_0 : decode jdk_42_method_154_code 0 = .ok (.getstatic 38, 3) := by decide +kernel
theorem d15_3 : decode jdk_42_method_154_code 3 = .ok (.ifCond .eq 14, 3) := by decide +kernel
theorem d15_6 : decode jdk_42_method_154_code 6 = .ok (.aload_n 0, 1) := by decide +kernel
theorem d15_7 : decode jdk_42_method_154_code 7 = .ok (.getfield 15, 3) := by decide +kernel
theorem d15_10 : decode jdk_42_method_154_code 10 = .ok (.ifCond .ne 7, 3) := by decide +kernel
theorem d15_13 : decode jdk_42_method_154_code 13 = .ok (.iconst 1, 1) := by decide +kernel
theorem d15_14 : decode jdk_42_method_154_code 14 = .ok (.goto 4, 3) := by decide +kernel
theorem d15_17 : decode jdk_42_method_154_code 17 = .ok (.iconst 0, 1) := by decide +kernel
theorem d15_18 : decode jdk_42_method_154_code 18 = .ok (.ireturn, 1) := by decide +kernel
theorem ef_rm_il0 (m : MethodId) (x0 : Addr) : entryFrame m #[(.ref x0)] 1 = mkF m 0 #[.val (.ref x0)] [] := by first | (simp [entryFrame, mkF, argsToLocals, Value.category, maxLocals]; done) | rfl
theorem pf_11 : plainFor (⟨"java/lang/String", "isLatin1", "()Z"⟩ : MethodName) = true := by apply plainFor_of_name; first | (simp [plainName, overriddenIn]; done) | decide +kernel
set_option maxRecDepth 65536 in
set_option maxHeartbeats 40000000 in
theorem rm_il0 (l : Launch) (Z : State) (a0 : Array Value) (hw : ∀ d ∈ tables_1, d.before a0 Z = true) (ws : List Jvm.Cond) (cz : Int32) (sv : Value) (hcz : ¬ cz = (0 : Int32)) (hsv : sv.isRef = true) (so : Addr) (h0 : Heap) (n0 : Nat) (Z0 : n0 ≤ h0.size) (F_c : Fld Z h0 so "java/lang/String" "coder" "B" (.int (0 : Int32))) (B_ST : own_ST n0 Z h0 cz sv) :
    own_M l Z (⟨"java/lang/String", "isLatin1", "()Z"⟩ : MethodName) jdk_42_method_154_code 1 (some .boolean) ws ({ frames := 0, cells := 0, slots := 0, locals := 0 } : Room) #[(.ref so)] h0  (Qint (1 : Int32) h0 n0) := by
  refine own_bodyM pf_11 ?_
  intro p e s m below meth c s₁ hx hby hml hown hnm hlk hret hZ X0 e0
  have N0 : Fr n0 [] := Fr.nil n0
  refine own_go (f' := (mkF m 0 #[.val (.ref so)] [])) (fun t k => castTop (ef_rm_il0 m so) k) ?_
  refine own_getS X0 hx (pc' := 3) hZ hown (host := "") (Or.inl (Wd48 hw)) Via.refl e0 (own_SB.sta B_ST.1) (hb hby d15_0) rfl (fun T1 X1 e1 => ?_)
  refine own_ifNo X1 hx (pc' := 6) (hb hby d15_3) (feq (id hcz)).1 rfl ?_
  refine own_aloadN X1 hx (pc' := 7) (hb hby d15_6) rfl rfl rfl ?_
  refine own_getF X1 hx (pc' := 10) hZ hown (host := "") (Or.inl (Wd28 hw)) Via.refl e1 F_c (hb hby d15_7) rfl (fun T2 X2 e2 => ?_)
  refine own_ifNo X2 hx (pc' := 13) (hb hby d15_10) (teq rfl).2 rfl ?_
  refine own_iconst X2 hx (pc' := 14) (1 : Int32) (hb hby d15_13) rfl rfl ?_
  refine own_goto X2 hx (pc' := 18) (hb hby d15_14) (by decide) (by decide) ?_
  refine own_retN X2 hx hlk hret (by simp) (hb hby d15_18) (by decide) (by decide) ?_
  exact ⟨rfl, N0, e2⟩

theorem ef_rm_il1 (m : MethodId) (x0 : Addr) : entryFrame m #[(.ref x0)] 1 = mkF m 0 #[.val (.ref x0)] [] := by first | (simp [entryFrame, mkF, argsToLocals, Value.category, maxLocals]; done) | rfl
set_option maxRecDepth 65536 in
set_option maxHeartbeats 40000000 in
theorem rm_il1 (l : Launch) (Z : State) (a0 : Array Value) (hw : ∀ d ∈ tables_1, d.before a0 Z = true) (ws : List Jvm.Cond) (cz : Int32) (sv : Value) (hcz : ¬ cz = (0 : Int32)) (hsv : sv.isRef = true) (so : Addr) (h0 : Heap) (n0 : Nat) (Z0 : n0 ≤ h0.size) (F_c : Fld Z h0 so "java/lang/String" "coder" "B" (.int (1 : Int32))) (B_ST : own_ST n0 Z h0 cz sv) :
    own_M l Z (⟨"java/lang/String", "isLatin1", "()Z"⟩ : MethodName) jdk_42_method_154_code 1 (some .boolean) ws ({ frames := 0, cells := 0, slots := 0, locals := 0 } : Room) #[(.ref so)] h0  (Qint (0 : Int32) h0 n0) := by
  refine own_bodyM pf_11 ?_
  intro p e s m below meth c s₁ hx hby hml hown hnm hlk hret hZ X0 e0
  have N0 : Fr n0 [] := Fr.nil n0
  refine own_go (f' := (mkF m 0 #[.val (.ref so)] [])) (fun t k => castTop (ef_rm_il1 m so) k) ?_
  refine own_getS X0 hx (pc' := 3) hZ hown (host := "") (Or.inl (Wd48 hw)) Via.refl e0 (own_SB.sta B_ST.1) (hb hby d15_0) rfl (fun T1 X1 e1 => ?_)
  refine own_ifNo X1 hx (pc' := 6) (hb hby d15_3) (feq (id hcz)).1 rfl ?_
  refine own_aloadN X1 hx (pc' := 7) (hb hby d15_6) rfl rfl rfl ?_
  refine own_getF X1 hx (pc' := 10) hZ hown (host := "") (Or.inl (Wd28 hw)) Via.refl e1 F_c (hb hby d15_7) rfl (fun T2 X2 e2 => ?_)
  refine own_ifYes X2 hx (pc' := 17) (hb hby d15_10) (feq (by decide : ¬ ((1 : Int32) = (0 : Int32)))).2 (by decide) (by decide) ?_
  refine own_iconst X2 hx (pc' := 18) (0 : Int32) (hb hby d15_17) rfl rfl ?_
  refine own_retN X2 hx hlk hret (by simp) (hb hby d15_18) (by decide) (by decide) ?_
  exact ⟨rfl, N0, e2⟩

theorem d7_0 : decode jdk_42_method_54_code 0 = .ok (.aload_n 0, 1) := by decide +kernel
theorem d7_1 : decode jdk_42_method_54_code 1 = .ok (.getfield 9, 3) := by decide +kernel
theorem d7_4 : decode jdk_42_method_54_code 4 = .ok (.arraylength, 1) := by decide +kernel
theorem d7_5 : decode jdk_42_method_54_code 5 = .ok (.aload_n 0, 1) := by decide +kernel
theorem d7_6 : decode jdk_42_method_54_code 6 = .ok (.invokevirtual 335, 3) := by decide +kernel
theorem d7_9 : decode jdk_42_method_54_code 9 = .ok (.ishr, 1) := by decide +kernel
theorem d7_10 : decode jdk_42_method_54_code 10 = .ok (.ireturn, 1) := by decide +kernel
theorem ef_rm_len (m : MethodId) (x0 : Addr) : entryFrame m #[(.ref x0)] 1 = mkF m 0 #[.val (.ref x0)] [] := by first | (simp [entryFrame, mkF, argsToLocals, Value.category, maxLocals]; done) | rfl
theorem pf_12 : plainFor (⟨"java/lang/String", "length", "()I"⟩ : MethodName) = true := by apply plainFor_of_name; first | (simp [plainName, overriddenIn]; done) | decide +kernel
theorem Wd27 {a0 : Array Value} {Z : State} (hw : ∀ d ∈ tables_1, d.before a0 Z = true) : (Jvm.Cond.fieldLink "java/lang/String" (9 : Nat) "java/lang/String" "value" "[B").before a0 Z = true := hw _ (List.mem_of_getElem? (i := 27) rfl)
theorem Wd47 {a0 : Array Value} {Z : State} (hw : ∀ d ∈ tables_1, d.before a0 Z = true) : (Jvm.Cond.code ({ cls := "java/lang/String", name := "coder", desc := "()B" } : Jvm.MethodName) jdk_42_method_152_code (1 : Nat) (Option.some Jvm.ClassFile.FieldType.byte)).before a0 Z = true := hw _ (List.mem_of_getElem? (i := 47) rfl)
theorem Wd10 {a0 : Array Value} {Z : State} (hw : ∀ d ∈ tables_1, d.before a0 Z = true) : (Jvm.Cond.initialized "java/lang/String").before a0 Z = true := hw _ (List.mem_of_getElem? (i := 10) rfl)
theorem pd_1 : parseMethodDescriptor "()B" = some ⟨[], some .byte⟩ := by decide +kernel
theorem Wd43 {a0 : Array Value} {Z : State} (hw : ∀ d ∈ tables_1, d.before a0 Z = true) : (Jvm.Cond.methodLink "java/lang/String" (335 : Nat) ({ cls := "java/lang/String", name := "coder", desc := "()B" } : Jvm.MethodName)).before a0 Z = true := hw _ (List.mem_of_getElem? (i := 43) rfl)
theorem Wd45 {a0 : Array Value} {Z : State} (hw : ∀ d ∈ tables_1, d.before a0 Z = true) : (Jvm.Cond.instanceMethod ({ cls := "java/lang/String", name := "coder", desc := "()B" } : Jvm.MethodName)).before a0 Z = true := hw _ (List.mem_of_getElem? (i := 45) rfl)
theorem Wd46 {a0 : Array Value} {Z : State} (hw : ∀ d ∈ tables_1, d.before a0 Z = true) : (Jvm.Cond.selects "java/lang/String" ({ cls := "java/lang/String", name := "coder", desc := "()B" } : Jvm.MethodName) ({ cls := "java/lang/String", name := "coder", desc := "()B" } : Jvm.MethodName)).before a0 Z = true := hw _ (List.mem_of_getElem? (i := 46) rfl)
set_option maxRecDepth 65536 in
set_option maxHeartbeats 40000000 in
theorem rm_len (l : Launch) (Z : State) (a0 : Array Value) (hw : ∀ d ∈ tables_1, d.before a0 Z = true) (ws : List Jvm.Cond) (cz : Int32) (sv : Value) (hcz : ¬ cz = (0 : Int32)) (hsv : sv.isRef = true) (so ba : Addr) (kb : ClassId) (z cd nn : Int32) (vs : List Value) (h0 : Heap) (n0 : Nat) (Z0 : n0 ≤ h0.size) (hnn : (z >>> (cd &&& 31)) = nn) (E_s : Exa Z h0 so "java/lang/String") (F_c : Fld Z h0 so "java/lang/String" "coder" "B" (.int cd)) (hcd : nar .byte cd = cd) (F_v : Fld Z h0 so "java/lang/String" "value" "[B" (.ref ba)) (V_b : Arv Z h0 ba kb .byte z vs (.int (0 : Int32))) (B_ST : own_ST n0 Z h0 cz sv) :
    own_M l Z (⟨"java/lang/String", "length", "()I"⟩ : MethodName) jdk_42_method_54_code 1 (some .int) ws ({ frames := 1, cells := 0, slots := 0, locals := 13 } : Room) #[(.ref so)] h0  (Qint nn h0 n0) := by
  refine own_bodyM pf_12 ?_
  intro p e s m below meth c s₁ hx hby hml hown hnm hlk hret hZ X0 e0
  have N0 : Fr n0 [] := Fr.nil n0
  refine own_go (f' := (mkF m 0 #[.val (.ref so)] [])) (fun t k => castTop (ef_rm_len m so) k) ?_
  refine own_aloadN X0 hx (pc' := 1) (hb hby d7_0) rfl rfl rfl ?_
  refine own_getF X0 hx (pc' := 4) hZ hown (host := "") (Or.inl (Wd27 hw)) Via.refl e0 F_v (hb hby d7_1) rfl (fun T1 X1 e1 => ?_)
  obtain ⟨cl2, Ar2, q2, S2, M2, H2, G2⟩ := id V_b
  refine own_len X1 hx (pc' := 5) hZ e1 Ar2 S2 M2 (hb hby d7_4) rfl ?_
  refine own_aloadN X1 hx (pc' := 6) (hb hby d7_5) rfl rfl rfl ?_
  refine own_cVI X1 hx (pc' := 9) hZ hown (Wd43 hw) (Wd45 hw) (Wd46 hw) (Wd47 hw) (Wd10 hw) (rm_coder l Z a0 hw [] cz sv hcz hsv so cd h0 n0 Z0 F_c hcd B_ST) e1 E_s N0 hml pd_1 (hb hby d7_6) 1 [] [(.int z)] (fun T3 L3 X3 e3 N3 => ?_)
  refine own_ishr X3 hx (pc' := 10) (hb hby d7_9) rfl ?_
  refine own_retI X3 hx hlk hret (hb hby d7_10) (by decide) (by decide) ?_
  exact ⟨congrArg (fun z => some (Value.int z)) hnn, N3, e3⟩

theorem d23_0 : decode jdk_52_method_5_code 0 = .ok (.getstatic 44, 3) := by decide +kernel
theorem d23_3 : decode jdk_52_method_5_code 3 = .ok (.ifCond .ne 25, 3) := by decide +kernel
theorem d23_6 : decode jdk_52_method_5_code 6 = .ok (.iload_n 1, 1) := by decide +kernel
theorem d23_7 : decode jdk_52_method_5_code 7 = .ok (.ifCond .lt 11, 3) := by decide +kernel
theorem d23_10 : decode jdk_52_method_5_code 10 = .ok (.iload_n 1, 1) := by decide +kernel
theorem d23_11 : decode jdk_52_method_5_code 11 = .ok (.aload_n 0, 1) := by decide +kernel
theorem d23_12 : decode jdk_52_method_5_code 12 = .ok (.invokestatic 48, 3) := by decide +kernel
theorem d23_15 : decode jdk_52_method_5_code 15 = .ok (.if_icmp .lt 13, 3) := by decide +kernel
theorem d23_18 : decode jdk_52_method_5_code 18 = .ok (.new 52, 3) := by decide +kernel
theorem d23_21 : decode jdk_52_method_5_code 21 = .ok (.dup, 1) := by decide +kernel
theorem d23_22 : decode jdk_52_method_5_code 22 = .ok (.ldc 54, 2) := by decide +kernel
theorem d23_24 : decode jdk_52_method_5_code 24 = .ok (.invokespecial 56, 3) := by decide +kernel
theorem d23_27 : decode jdk_52_method_5_code 27 = .ok (.athrow, 1) := by decide +kernel
theorem d23_28 : decode jdk_52_method_5_code 28 = .ok (.iload_n 1, 1) := by decide +kernel
theorem d23_29 : decode jdk_52_method_5_code 29 = .ok (.iconst 1, 1) := by decide +kernel
theorem d23_30 : decode jdk_52_method_5_code 30 = .ok (.ishl, 1) := by decide +kernel
theorem d23_31 : decode jdk_52_method_5_code 31 = .ok (.istore_n 1, 1) := by decide +kernel
theorem d23_32 : decode jdk_52_method_5_code 32 = .ok (.aload_n 0, 1) := by decide +kernel
theorem d23_33 : decode jdk_52_method_5_code 33 = .ok (.iload_n 1, 1) := by decide +kernel
theorem d23_34 : decode jdk_52_method_5_code 34 = .ok (.iinc 1 1, 3) := by decide +kernel
theorem d23_37 : decode jdk_52_method_5_code 37 = .ok (.baload, 1) := by decide +kernel
theorem d23_38 : decode jdk_52_method_5_code 38 = .ok (.sipush 255, 3) := by decide +kernel
theorem d23_41 : decode jdk_52_method_5_code 41 = .ok (.iand, 1) := by decide +kernel
theorem d23_42 : decode jdk_52_method_5_code 42 = .ok (.getstatic 59, 3) := by decide +kernel
theorem d23_45 : decode jdk_52_method_5_code 45 = .ok (.ishl, 1) := by decide +kernel
theorem d23_46 : decode jdk_52_method_5_code 46 = .ok (.aload_n 0, 1) := by decide +kernel
theorem d23_47 : decode jdk_52_method_5_code 47 = .ok (.iload_n 1, 1) := by decide +kernel
theorem d23_48 : decode jdk_52_method_5_code 48 = .ok (.baload, 1) := by decide +kernel
theorem d23_49 : decode jdk_52_method_5_code 49 = .ok (.sipush 255, 3) := by decide +kernel
theorem d23_52 : decode jdk_52_method_5_code 52 = .ok (.iand, 1) := by decide +kernel
theorem d23_53 : decode jdk_52_method_5_code 53 = .ok (.getstatic 63, 3) := by decide +kernel
theorem d23_56 : decode jdk_52_method_5_code 56 = .ok (.ishl, 1) := by decide +kernel
theorem d23_57 : decode jdk_52_method_5_code 57 = .ok (.ior, 1) := by decide +kernel
theorem d23_58 : decode jdk_52_method_5_code 58 = .ok (.i2c, 1) := by decide +kernel
theorem d23_59 : decode jdk_52_method_5_code 59 = .ok (.ireturn, 1) := by decide +kernel
theorem ef_rm_gc_0 (m : MethodId) (x0 : Addr) (x1 : Int32) : entryFrame m #[(.ref x0), (.int x1)] 2 = mkF m 0 #[.val (.ref x0), .val (.int x1)] [] := by first | (simp [entryFrame, mkF, argsToLocals, Value.category, maxLocals]; done) | rfl
theorem pf_13 : plainFor (⟨"java/lang/StringUTF16", "getChar", "([BI)C"⟩ : MethodName) = true := by apply plainFor_of_name; first | (simp [plainName, overriddenIn]; done) | decide +kernel
theorem Wd102 {a0 : Array Value} {Z : State} (hw : ∀ d ∈ tables_1, d.before a0 Z = true) : (Jvm.Cond.fieldLink "java/lang/StringUTF16" (44 : Nat) "java/lang/StringUTF16" "$assertionsDisabled" "Z").before a0 Z = true := hw _ (List.mem_of_getElem? (i := 102) rfl)
theorem Wd103 {a0 : Array Value} {Z : State} (hw : ∀ d ∈ tables_1, d.before a0 Z = true) : (Jvm.Cond.fieldLink "java/lang/StringUTF16" (59 : Nat) "java/lang/StringUTF16" "HI_BYTE_SHIFT" "I").before a0 Z = true := hw _ (List.mem_of_getElem? (i := 103) rfl)
theorem Wd104 {a0 : Array Value} {Z : State} (hw : ∀ d ∈ tables_1, d.before a0 Z = true) : (Jvm.Cond.fieldLink "java/lang/StringUTF16" (63 : Nat) "java/lang/StringUTF16" "LO_BYTE_SHIFT" "I").before a0 Z = true := hw _ (List.mem_of_getElem? (i := 104) rfl)
set_option maxRecDepth 65536 in
set_option maxHeartbeats 40000000 in
theorem rm_gc_0 (l : Launch) (Z : State) (a0 : Array Value) (hw : ∀ d ∈ tables_1, d.before a0 Z = true) (ws : List Jvm.Cond) (cz : Int32) (sv : Value) (hcz : ¬ cz = (0 : Int32)) (hsv : sv.isRef = true) (ba : Addr) (kb : ClassId) (z : Int32) (vs : List Value) (uc : Int32) (h0 : Heap) (n0 : Nat) (Z0 : n0 ≤ h0.size) (V_b : Arv Z h0 ba kb .byte z vs (.int (0 : Int32))) (h1 : (¬ (0 : Int32) < (0 : Int32) ∧ (0 : Int32) < z)) (h2 : (¬ (1 : Int32) < (0 : Int32) ∧ (1 : Int32) < z)) (x1 : vs.getD 0 (.int (0 : Int32)) = (.int (own_b0 uc))) (x2 : vs.getD 1 (.int (0 : Int32)) = (.int (own_b1 uc))) (rc : own_ch uc) (B_ST : own_ST n0 Z h0 cz sv) :
    own_M l Z (⟨"java/lang/StringUTF16", "getChar", "([BI)C"⟩ : MethodName) jdk_52_method_5_code 2 (some .char) ws ({ frames := 0, cells := 0, slots := 0, locals := 0 } : Room) #[(.ref ba), (.int (0 : Int32))] h0  (Qint uc h0 n0) := by
  refine own_bodyM pf_13 ?_
  intro p e s m below meth c s₁ hx hby hml hown hnm hlk hret hZ X0 e0
  have N0 : Fr n0 [] := Fr.nil n0
  refine own_go (f' := (mkF m 0 #[.val (.ref ba), .val (.int (0 : Int32))] [])) (fun t k => castTop (ef_rm_gc_0 m ba (0 : Int32)) k) ?_
  refine own_getS X0 hx (pc' := 3) hZ hown (host := "") (Or.inl (Wd102 hw)) Via.refl e0 (own_SB.sta B_ST.2.1) (hb hby d23_0) rfl (fun T1 X1 e1 => ?_)
  refine own_ifYes X1 hx (pc' := 28) (hb hby d23_3) (feq (by decide : ¬ ((1 : Int32) = (0 : Int32)))).2 (by decide) (by decide) ?_
  refine own_iloadN X1 hx (pc' := 29) (hb hby d23_28) rfl rfl ?_
  refine own_iconst X1 hx (pc' := 30) (1 : Int32) (hb hby d23_29) rfl rfl ?_
  refine own_ishl X1 hx (pc' := 31) (hb hby d23_30) rfl ?_
  rw [show ((0 : Int32) <<< ((1 : Int32) &&& 31)) = (0 : Int32) from by decide]
  refine own_istoreN X1 hx (pc' := 32) (Ls' := #[.val (.ref ba), .val (.int (0 : Int32))]) (hb hby d23_31) rfl rfl ?_
  refine own_aloadN X1 hx (pc' := 33) (hb hby d23_32) rfl rfl rfl ?_
  refine own_iloadN X1 hx (pc' := 34) (hb hby d23_33) rfl rfl ?_
  refine own_iinc X1 hx (pc' := 37) (Ls' := #[.val (.ref ba), .val (.int (1 : Int32))]) (hb hby d23_34) rfl rfl rfl ?_
  obtain ⟨cl2, Ar2, q2, S2, M2, H2, G2⟩ := id V_b
  refine own_baload X1 hx (pc' := 38) hZ (v := (own_b0 uc)) e1 Ar2 (inb_of S2 h1) (Has.at H2 (inb_of S2 h1) x1) (hb hby d23_37) rfl ?_
  refine own_sipush X1 hx (pc' := 41) (255 : Int32) (hb hby d23_38) rfl rfl ?_
  refine own_iand X1 hx (pc' := 42) (hb hby d23_41) rfl rfl ?_
  refine own_getS X1 hx (pc' := 45) hZ hown (host := "") (Or.inl (Wd103 hw)) Via.refl e1 (own_SB.sta B_ST.2.2.1) (hb hby d23_42) rfl (fun T3 X3 e3 => ?_)
  refine own_ishl X3 hx (pc' := 46) (hb hby d23_45) rfl ?_
  refine own_aloadN X3 hx (pc' := 47) (hb hby d23_46) rfl rfl rfl ?_
  refine own_iloadN X3 hx (pc' := 48) (hb hby d23_47) rfl rfl ?_
  obtain ⟨cl4, Ar4, q4, S4, M4, H4, G4⟩ := id V_b
  refine own_baload X3 hx (pc' := 49) hZ (v := (own_b1 uc)) e3 Ar4 (inb_of S4 h2) (Has.at H4 (inb_of S4 h2) x2) (hb hby d23_48) rfl ?_
  refine own_sipush X3 hx (pc' := 52) (255 : Int32) (hb hby d23_49) rfl rfl ?_
  refine own_iand X3 hx (pc' := 53) (hb hby d23_52) rfl rfl ?_
  refine own_getS X3 hx (pc' := 56) hZ hown (host := "") (Or.inl (Wd104 hw)) Via.refl e3 (own_SB.sta B_ST.2.2.2.1) (hb hby d23_53) rfl (fun T5 X5 e5 => ?_)
  refine own_ishl X5 hx (pc' := 57) (hb hby d23_56) rfl ?_
  refine own_ior X5 hx (pc' := 58) (hb hby d23_57) rfl rfl ?_
  refine own_i2c X5 hx (pc' := 59) (hb hby d23_58) rfl ?_
  refine own_retN X5 hx hlk hret (by simp) (hb hby d23_59) (by decide) (by decide) ?_
  exact ⟨congrArg (fun z => some (Value.int z)) (own_gc rc), N0, e5⟩

theorem ef_rm_gc_1 (m : MethodId) (x0 : Addr) (x1 : Int32) : entryFrame m #[(.ref x0), (.int x1)] 2 = mkF m 0 #[.val (.ref x0), .val (.int x1)] [] := by first | (simp [entryFrame, mkF, argsToLocals, Value.category, maxLocals]; done) | rfl
set_option maxRecDepth 65536 in
set_option maxHeartbeats 40000000 in
theorem rm_gc_1 (l : Launch) (Z : State) (a0 : Array Value) (hw : ∀ d ∈ tables_1, d.before a0 Z = true) (ws : List Jvm.Cond) (cz : Int32) (sv : Value) (hcz : ¬ cz = (0 : Int32)) (hsv : sv.isRef = true) (ba : Addr) (kb : ClassId) (z : Int32) (vs : List Value) (uc : Int32) (h0 : Heap) (n0 : Nat) (Z0 : n0 ≤ h0.size) (V_b : Arv Z h0 ba kb .byte z vs (.int (0 : Int32))) (h1 : (¬ (2 : Int32) < (0 : Int32) ∧ (2 : Int32) < z)) (h2 : (¬ (3 : Int32) < (0 : Int32) ∧ (3 : Int32) < z)) (x1 : vs.getD 2 (.int (0 : Int32)) = (.int (own_b0 uc))) (x2 : vs.getD 3 (.int (0 : Int32)) = (.int (own_b1 uc))) (rc : own_ch uc) (B_ST : own_ST n0 Z h0 cz sv) :
    own_M l Z (⟨"java/lang/StringUTF16", "getChar", "([BI)C"⟩ : MethodName) jdk_52_method_5_code 2 (some .char) ws ({ frames := 0, cells := 0, slots := 0, locals := 0 } : Room) #[(.ref ba), (.int (1 : Int32))] h0  (Qint uc h0 n0) := by
  refine own_bodyM pf_13 ?_
  intro p e s m below meth c s₁ hx hby hml hown hnm hlk hret hZ X0 e0
  have N0 : Fr n0 [] := Fr.nil n0
  refine own_go (f' := (mkF m 0 #[.val (.ref ba), .val (.int (1 : Int32))] [])) (fun t k => castTop (ef_rm_gc_1 m ba (1 : Int32)) k) ?_
  refine own_getS X0 hx (pc' := 3) hZ hown (host := "") (Or.inl (Wd102 hw)) Via.refl e0 (own_SB.sta B_ST.2.1) (hb hby d23_0) rfl (fun T1 X1 e1 => ?_)
  refine own_ifYes X1 hx (pc' := 28) (hb hby d23_3) (feq (by decide : ¬ ((1 : Int32) = (0 : Int32)))).2 (by decide) (by decide) ?_
  refine own_iloadN X1 hx (pc' := 29) (hb hby d23_28) rfl rfl ?_
  refine own_iconst X1 hx (pc' := 30) (1 : Int32) (hb hby d23_29) rfl rfl ?_
  refine own_ishl X1 hx (pc' := 31) (hb hby d23_30) rfl ?_
  rw [show ((1 : Int32) <<< ((1 : Int32) &&& 31)) = (2 : Int32) from by decide]
  refine own_istoreN X1 hx (pc' := 32) (Ls' := #[.val (.ref ba), .val (.int (2 : Int32))]) (hb hby d23_31) rfl rfl ?_
  refine own_aloadN X1 hx (pc' := 33) (hb hby d23_32) rfl rfl rfl ?_
  refine own_iloadN X1 hx (pc' := 34) (hb hby d23_33) rfl rfl ?_
  refine own_iinc X1 hx (pc' := 37) (Ls' := #[.val (.ref ba), .val (.int (3 : Int32))]) (hb hby d23_34) rfl rfl rfl ?_
  obtain ⟨cl2, Ar2, q2, S2, M2, H2, G2⟩ := id V_b
  refine own_baload X1 hx (pc' := 38) hZ (v := (own_b0 uc)) e1 Ar2 (inb_of S2 h1) (Has.at H2 (inb_of S2 h1) x1) (hb hby d23_37) rfl ?_
  refine own_sipush X1 hx (pc' := 41) (255 : Int32) (hb hby d23_38) rfl rfl ?_
  refine own_iand X1 hx (pc' := 42) (hb hby d23_41) rfl rfl ?_
  refine own_getS X1 hx (pc' := 45) hZ hown (host := "") (Or.inl (Wd103 hw)) Via.refl e1 (own_SB.sta B_ST.2.2.1) (hb hby d23_42) rfl (fun T3 X3 e3 => ?_)
  refine own_ishl X3 hx (pc' := 46) (hb hby d23_45) rfl ?_
  refine own_aloadN X3 hx (pc' := 47) (hb hby d23_46) rfl rfl rfl ?_
  refine own_iloadN X3 hx (pc' := 48) (hb hby d23_47) rfl rfl ?_
  obtain ⟨cl4, Ar4, q4, S4, M4, H4, G4⟩ := id V_b
  refine own_baload X3 hx (pc' := 49) hZ (v := (own_b1 uc)) e3 Ar4 (inb_of S4 h2) (Has.at H4 (inb_of S4 h2) x2) (hb hby d23_48) rfl ?_
  refine own_sipush X3 hx (pc' := 52) (255 : Int32) (hb hby d23_49) rfl rfl ?_
  refine own_iand X3 hx (pc' := 53) (hb hby d23_52) rfl rfl ?_
  refine own_getS X3 hx (pc' := 56) hZ hown (host := "") (Or.inl (Wd104 hw)) Via.refl e3 (own_SB.sta B_ST.2.2.2.1) (hb hby d23_53) rfl (fun T5 X5 e5 => ?_)
  refine own_ishl X5 hx (pc' := 57) (hb hby d23_56) rfl ?_
  refine own_ior X5 hx (pc' := 58) (hb hby d23_57) rfl rfl ?_
  refine own_i2c X5 hx (pc' := 59) (hb hby d23_58) rfl ?_
  refine own_retN X5 hx hlk hret (by simp) (hb hby d23_59) (by decide) (by decide) ?_
  exact ⟨congrArg (fun z => some (Value.int z)) (own_gc rc), N0, e5⟩

theorem ef_rm_gc_2 (m : MethodId) (x0 : Addr) (x1 : Int32) : entryFrame m #[(.ref x0), (.int x1)] 2 = mkF m 0 #[.val (.ref x0), .val (.int x1)] [] := by first | (simp [entryFrame, mkF, argsToLocals, Value.category, maxLocals]; done) | rfl
set_option maxRecDepth 65536 in
set_option maxHeartbeats 40000000 in
theorem rm_gc_2 (l : Launch) (Z : State) (a0 : Array Value) (hw : ∀ d ∈ tables_1, d.before a0 Z = true) (ws : List Jvm.Cond) (cz : Int32) (sv : Value) (hcz : ¬ cz = (0 : Int32)) (hsv : sv.isRef = true) (ba : Addr) (kb : ClassId) (z : Int32) (vs : List Value) (uc : Int32) (h0 : Heap) (n0 : Nat) (Z0 : n0 ≤ h0.size) (V_b : Arv Z h0 ba kb .byte z vs (.int (0 : Int32))) (h1 : (¬ (4 : Int32) < (0 : Int32) ∧ (4 : Int32) < z)) (h2 : (¬ (5 : Int32) < (0 : Int32) ∧ (5 : Int32) < z)) (x1 : vs.getD 4 (.int (0 : Int32)) = (.int (own_b0 uc))) (x2 : vs.getD 5 (.int (0 : Int32)) = (.int (own_b1 uc))) (rc : own_ch uc) (B_ST : own_ST n0 Z h0 cz sv) :
    own_M l Z (⟨"java/lang/StringUTF16", "getChar", "([BI)C"⟩ : MethodName) jdk_52_method_5_code 2 (some .char) ws ({ frames := 0, cells := 0, slots := 0, locals := 0 } : Room) #[(.ref ba), (.int (2 : Int32))] h0  (Qint uc h0 n0) := by
  refine own_bodyM pf_13 ?_
  intro p e s m below meth c s₁ hx hby hml hown hnm hlk hret hZ X0 e0
  have N0 : Fr n0 [] := Fr.nil n0
  refine own_go (f' := (mkF m 0 #[.val (.ref ba), .val (.int (2 : Int32))] [])) (fun t k => castTop (ef_rm_gc_2 m ba (2 : Int32)) k) ?_
  refine own_getS X0 hx (pc' := 3) hZ hown (host := "") (Or.inl (Wd102 hw)) Via.refl e0 (own_SB.sta B_ST.2.1) (hb hby d23_0) rfl (fun T1 X1 e1 => ?_)
  refine own_ifYes X1 hx (pc' := 28) (hb hby d23_3) (feq (by decide : ¬ ((1 : Int32) = (0 : Int32)))).2 (by decide) (by decide) ?_
  refine own_iloadN X1 hx (pc' := 29) (hb hby d23_28) rfl rfl ?_
  refine own_iconst X1 hx (pc' := 30) (1 : Int32) (hb hby d23_29) rfl rfl ?_
  refine own_ishl X1 hx (pc' := 31) (hb hby d23_30) rfl ?_
  rw [show ((2 : Int32) <<< ((1 : Int32) &&& 31)) = (4 : Int32) from by decide]
  refine own_istoreN X1 hx (pc' := 32) (Ls' := #[.val (.ref ba), .val (.int (4 : Int32))]) (hb hby d23_31) rfl rfl ?_
  refine own_aloadN X1 hx (pc' := 33) (hb hby d23_32) rfl rfl rfl ?_
  refine own_iloadN X1 hx (pc' := 34) (hb hby d23_33) rfl rfl ?_
  refine own_iinc X1 hx (pc' := 37) (Ls' := #[.val (.ref ba), .val (.int (5 : Int32))]) (hb hby d23_34) rfl rfl rfl ?_
  obtain ⟨cl2, Ar2, q2, S2, M2, H2, G2⟩ := id V_b
  refine own_baload X1 hx (pc' := 38) hZ (v := (own_b0 uc)) e1 Ar2 (inb_of S2 h1) (Has.at H2 (inb_of S2 h1) x1) (hb hby d23_37) rfl ?_
  refine own_sipush X1 hx (pc' := 41) (255 : Int32) (hb hby d23_38) rfl rfl ?_
  refine own_iand X1 hx (pc' := 42) (hb hby d23_41) rfl rfl ?_
  refine own_getS X1 hx (pc' := 45) hZ hown (host := "") (Or.inl (Wd103 hw)) Via.refl e1 (own_SB.sta B_ST.2.2.1) (hb hby d23_42) rfl (fun T3 X3 e3 => ?_)
  refine own_ishl X3 hx (pc' := 46) (hb hby d23_45) rfl ?_
  refine own_aloadN X3 hx (pc' := 47) (hb hby d23_46) rfl rfl rfl ?_
  refine own_iloadN X3 hx (pc' := 48) (hb hby d23_47) rfl rfl ?_
  obtain ⟨cl4, Ar4, q4, S4, M4, H4, G4⟩ := id V_b
  refine own_baload X3 hx (pc' := 49) hZ (v := (own_b1 uc)) e3 Ar4 (inb_of S4 h2) (Has.at H4 (inb_of S4 h2) x2) (hb hby d23_48) rfl ?_
  refine own_sipush X3 hx (pc' := 52) (255 : Int32) (hb hby d23_49) rfl rfl ?_
  refine own_iand X3 hx (pc' := 53) (hb hby d23_52) rfl rfl ?_
  refine own_getS X3 hx (pc' := 56) hZ hown (host := "") (Or.inl (Wd104 hw)) Via.refl e3 (own_SB.sta B_ST.2.2.2.1) (hb hby d23_53) rfl (fun T5 X5 e5 => ?_)
  refine own_ishl X5 hx (pc' := 57) (hb hby d23_56) rfl ?_
  refine own_ior X5 hx (pc' := 58) (hb hby d23_57) rfl rfl ?_
  refine own_i2c X5 hx (pc' := 59) (hb hby d23_58) rfl ?_
  refine own_retN X5 hx hlk hret (by simp) (hb hby d23_59) (by decide) (by decide) ?_
  exact ⟨congrArg (fun z => some (Value.int z)) (own_gc rc), N0, e5⟩

theorem ef_rm_gc_3 (m : MethodId) (x0 : Addr) (x1 : Int32) : entryFrame m #[(.ref x0), (.int x1)] 2 = mkF m 0 #[.val (.ref x0), .val (.int x1)] [] := by first | (simp [entryFrame, mkF, argsToLocals, Value.category, maxLocals]; done) | rfl
set_option maxRecDepth 65536 in
set_option maxHeartbeats 40000000 in
theorem rm_gc_3 (l : Launch) (Z : State) (a0 : Array Value) (hw : ∀ d ∈ tables_1, d.before a0 Z = true) (ws : List Jvm.Cond) (cz : Int32) (sv : Value) (hcz : ¬ cz = (0 : Int32)) (hsv : sv.isRef = true) (ba : Addr) (kb : ClassId) (z : Int32) (vs : List Value) (uc : Int32) (h0 : Heap) (n0 : Nat) (Z0 : n0 ≤ h0.size) (V_b : Arv Z h0 ba kb .byte z vs (.int (0 : Int32))) (h1 : (¬ (6 : Int32) < (0 : Int32) ∧ (6 : Int32) < z)) (h2 : (¬ (7 : Int32) < (0 : Int32) ∧ (7 : Int32) < z)) (x1 : vs.getD 6 (.int (0 : Int32)) = (.int (own_b0 uc))) (x2 : vs.getD 7 (.int (0 : Int32)) = (.int (own_b1 uc))) (rc : own_ch uc) (B_ST : own_ST n0 Z h0 cz sv) :
    own_M l Z (⟨"java/lang/StringUTF16", "getChar", "([BI)C"⟩ : MethodName) jdk_52_method_5_code 2 (some .char) ws ({ frames := 0, cells := 0, slots := 0, locals := 0 } : Room) #[(.ref ba), (.int (3 : Int32))] h0  (Qint uc h0 n0) := by
  refine own_bodyM pf_13 ?_
  intro p e s m below meth c s₁ hx hby hml hown hnm hlk hret hZ X0 e0
  have N0 : Fr n0 [] := Fr.nil n0
  refine own_go (f' := (mkF m 0 #[.val (.ref ba), .val (.int (3 : Int32))] [])) (fun t k => castTop (ef_rm_gc_3 m ba (3 : Int32)) k) ?_
  refine own_getS X0 hx (pc' := 3) hZ hown (host := "") (Or.inl (Wd102 hw)) Via.refl e0 (own_SB.sta B_ST.2.1) (hb hby d23_0) rfl (fun T1 X1 e1 => ?_)
  refine own_ifYes X1 hx (pc' := 28) (hb hby d23_3) (feq (by decide : ¬ ((1 : Int32) = (0 : Int32)))).2 (by decide) (by decide) ?_
  refine own_iloadN X1 hx (pc' := 29) (hb hby d23_28) rfl rfl ?_
  refine own_iconst X1 hx (pc' := 30) (1 : Int32) (hb hby d23_29) rfl rfl ?_
  refine own_ishl X1 hx (pc' := 31) (hb hby d23_30) rfl ?_
  rw [show ((3 : Int32) <<< ((1 : Int32) &&& 31)) = (6 : Int32) from by decide]
  refine own_istoreN X1 hx (pc' := 32) (Ls' := #[.val (.ref ba), .val (.int (6 : Int32))]) (hb hby d23_31) rfl rfl ?_
  refine own_aloadN X1 hx (pc' := 33) (hb hby d23_32) rfl rfl rfl ?_
  refine own_iloadN X1 hx (pc' := 34) (hb hby d23_33) rfl rfl ?_
  refine own_iinc X1 hx (pc' := 37) (Ls' := #[.val (.ref ba), .val (.int (7 : Int32))]) (hb hby d23_34) rfl rfl rfl ?_
  obtain ⟨cl2, Ar2, q2, S2, M2, H2, G2⟩ := id V_b
  refine own_baload X1 hx (pc' := 38) hZ (v := (own_b0 uc)) e1 Ar2 (inb_of S2 h1) (Has.at H2 (inb_of S2 h1) x1) (hb hby d23_37) rfl ?_
  refine own_sipush X1 hx (pc' := 41) (255 : Int32) (hb hby d23_38) rfl rfl ?_
  refine own_iand X1 hx (pc' := 42) (hb hby d23_41) rfl rfl ?_
  refine own_getS X1 hx (pc' := 45) hZ hown (host := "") (Or.inl (Wd103 hw)) Via.refl e1 (own_SB.sta B_ST.2.2.1) (hb hby d23_42) rfl (fun T3 X3 e3 => ?_)
  refine own_ishl X3 hx (pc' := 46) (hb hby d23_45) rfl ?_
  refine own_aloadN X3 hx (pc' := 47) (hb hby d23_46) rfl rfl rfl ?_
  refine own_iloadN X3 hx (pc' := 48) (hb hby d23_47) rfl rfl ?_
  obtain ⟨cl4, Ar4, q4, S4, M4, H4, G4⟩ := id V_b
  refine own_baload X3 hx (pc' := 49) hZ (v := (own_b1 uc)) e3 Ar4 (inb_of S4 h2) (Has.at H4 (inb_of S4 h2) x2) (hb hby d23_48) rfl ?_
  refine own_sipush X3 hx (pc' := 52) (255 : Int32) (hb hby d23_49) rfl rfl ?_
  refine own_iand X3 hx (pc' := 53) (hb hby d23_52) rfl rfl ?_
  refine own_getS X3 hx (pc' := 56) hZ hown (host := "") (Or.inl (Wd104 hw)) Via.refl e3 (own_SB.sta B_ST.2.2.2.1) (hb hby d23_53) rfl (fun T5 X5 e5 => ?_)
  refine own_ishl X5 hx (pc' := 57) (hb hby d23_56) rfl ?_
  refine own_ior X5 hx (pc' := 58) (hb hby d23_57) rfl rfl ?_
  refine own_i2c X5 hx (pc' := 59) (hb hby d23_58) rfl ?_
  refine own_retN X5 hx hlk hret (by simp) (hb hby d23_59) (by decide) (by decide) ?_
  exact ⟨congrArg (fun z => some (Value.int z)) (own_gc rc), N0, e5⟩

theorem d22_0 : decode jdk_52_method_4_code 0 = .ok (.getstatic 44, 3) := by decide +kernel
theorem d22_3 : decode jdk_52_method_4_code 3 = .ok (.ifCond .ne 25, 3) := by decide +kernel
theorem d22_6 : decode jdk_52_method_4_code 6 = .ok (.iload_n 1, 1) := by decide +kernel
theorem d22_7 : decode jdk_52_method_4_code 7 = .ok (.ifCond .lt 11, 3) := by decide +kernel
theorem d22_10 : decode jdk_52_method_4_code 10 = .ok (.iload_n 1, 1) := by decide +kernel
theorem d22_11 : decode jdk_52_method_4_code 11 = .ok (.aload_n 0, 1) := by decide +kernel
theorem d22_12 : decode jdk_52_method_4_code 12 = .ok (.invokestatic 48, 3) := by decide +kernel
theorem d22_15 : decode jdk_52_method_4_code 15 = .ok (.if_icmp .lt 13, 3) := by decide +kernel
theorem d22_18 : decode jdk_52_method_4_code 18 = .ok (.new 52, 3) := by decide +kernel
theorem d22_21 : decode jdk_52_method_4_code 21 = .ok (.dup, 1) := by decide +kernel
theorem d22_22 : decode jdk_52_method_4_code 22 = .ok (.ldc 54, 2) := by decide +kernel
theorem d22_24 : decode jdk_52_method_4_code 24 = .ok (.invokespecial 56, 3) := by decide +kernel
theorem d22_27 : decode jdk_52_method_4_code 27 = .ok (.athrow, 1) := by decide +kernel
theorem d22_28 : decode jdk_52_method_4_code 28 = .ok (.iload_n 1, 1) := by decide +kernel
theorem d22_29 : decode jdk_52_method_4_code 29 = .ok (.iconst 1, 1) := by decide +kernel
theorem d22_30 : decode jdk_52_method_4_code 30 = .ok (.ishl, 1) := by decide +kernel
theorem d22_31 : decode jdk_52_method_4_code 31 = .ok (.istore_n 1, 1) := by decide +kernel
theorem d22_32 : decode jdk_52_method_4_code 32 = .ok (.aload_n 0, 1) := by decide +kernel
theorem d22_33 : decode jdk_52_method_4_code 33 = .ok (.iload_n 1, 1) := by decide +kernel
theorem d22_34 : decode jdk_52_method_4_code 34 = .ok (.iinc 1 1, 3) := by decide +kernel
theorem d22_37 : decode jdk_52_method_4_code 37 = .ok (.iload_n 2, 1) := by decide +kernel
theorem d22_38 : decode jdk_52_method_4_code 38 = .ok (.getstatic 59, 3) := by decide +kernel
theorem d22_41 : decode jdk_52_method_4_code 41 = .ok (.ishr, 1) := by decide +kernel
theorem d22_42 : decode jdk_52_method_4_code 42 = .ok (.i2b, 1) := by decide +kernel
theorem d22_43 : decode jdk_52_method_4_code 43 = .ok (.bastore, 1) := by decide +kernel
theorem d22_44 : decode jdk_52_method_4_code 44 = .ok (.aload_n 0, 1) := by decide +kernel
theorem d22_45 : decode jdk_52_method_4_code 45 = .ok (.iload_n 1, 1) := by decide +kernel
theorem d22_46 : decode jdk_52_method_4_code 46 = .ok (.iload_n 2, 1) := by decide +kernel
theorem d22_47 : decode jdk_52_method_4_code 47 = .ok (.getstatic 63, 3) := by decide +kernel
theorem d22_50 : decode jdk_52_method_4_code 50 = .ok (.ishr, 1) := by decide +kernel
theorem d22_51 : decode jdk_52_method_4_code 51 = .ok (.i2b, 1) := by decide +kernel
theorem d22_52 : decode jdk_52_method_4_code 52 = .ok (.bastore, 1) := by decide +kernel
theorem d22_53 : decode jdk_52_method_4_code 53 = .ok (.return_, 1) := by decide +kernel
def Qpc_0 (Z : State) (ba : Addr) (kb : ClassId) (z : Int32) (vs : List Value) (uc : Int32) (h0 : Heap) (n0 : Nat) (v : Option Value) (h : Heap) (L : List Loc) : Prop := v = none ∧ Fr n0 L ∧ Keep h0 h [ba] ∧ Arv Z h ba kb .byte z ((vs.set 0 (.int (own_b0 uc))).set 1 (.int (own_b1 uc))) (.int (0 : Int32))
theorem ef_rm_pc_0 (m : MethodId) (x0 : Addr) (x1 : Int32) (x2 : Int32) : entryFrame m #[(.ref x0), (.int x1), (.int x2)] 3 = mkF m 0 #[.val (.ref x0), .val (.int x1), .val (.int x2)] [] := by first | (simp [entryFrame, mkF, argsToLocals, Value.category, maxLocals]; done) | rfl
theorem pf_14 : plainFor (⟨"java/lang/StringUTF16", "putChar", "([BII)V"⟩ : MethodName) = true := by apply plainFor_of_name; first | (simp [plainName, overriddenIn]; done) | decide +kernel
set_option maxRecDepth 65536 in
set_option maxHeartbeats 40000000 in
theorem rm_pc_0 (l : Launch) (Z : State) (a0 : Array Value) (hw : ∀ d ∈ tables_1, d.before a0 Z = true) (ws : List Jvm.Cond) (cz : Int32) (sv : Value) (hcz : ¬ cz = (0 : Int32)) (hsv : sv.isRef = true) (ba : Addr) (kb : ClassId) (z : Int32) (vs : List Value) (uc : Int32) (h0 : Heap) (n0 : Nat) (Z0 : n0 ≤ h0.size) (g_b : n0 ≤ ba) (V_b : Arv Z h0 ba kb .byte z vs (.int (0 : Int32))) (h1 : (¬ (0 : Int32) < (0 : Int32) ∧ (0 : Int32) < z)) (h2 : (¬ (1 : Int32) < (0 : Int32) ∧ (1 : Int32) < z)) (hl : 1 < vs.length) (B_ST : own_ST n0 Z h0 cz sv) :
    own_M l Z (⟨"java/lang/StringUTF16", "putChar", "([BII)V"⟩ : MethodName) jdk_52_method_4_code 3 none ws ({ frames := 0, cells := 0, slots := 0, locals := 0 } : Room) #[(.ref ba), (.int (0 : Int32)), (.int uc)] h0  (Qpc_0 Z ba kb z vs uc h0 n0) := by
  refine own_bodyM pf_14 ?_
  intro p e s m below meth c s₁ hx hby hml hown hnm hlk hret hZ X0 e0
  have N0 : Fr n0 [] := Fr.nil n0
  refine own_go (f' := (mkF m 0 #[.val (.ref ba), .val (.int (0 : Int32)), .val (.int uc)] [])) (fun t k => castTop (ef_rm_pc_0 m ba (0 : Int32) uc) k) ?_
  have K1 : Keep h0 h0 [ba] := Keep.refl _ _
  refine own_getS X0 hx (pc' := 3) hZ hown (host := "") (Or.inl (Wd102 hw)) Via.refl e0 (own_SB.sta B_ST.2.1) (hb hby d22_0) rfl (fun T2 X2 e2 => ?_)
  refine own_ifYes X2 hx (pc' := 28) (hb hby d22_3) (feq (by decide : ¬ ((1 : Int32) = (0 : Int32)))).2 (by decide) (by decide) ?_
  refine own_iloadN X2 hx (pc' := 29) (hb hby d22_28) rfl rfl ?_
  refine own_iconst X2 hx (pc' := 30) (1 : Int32) (hb hby d22_29) rfl rfl ?_
  refine own_ishl X2 hx (pc' := 31) (hb hby d22_30) rfl ?_
  rw [show ((0 : Int32) <<< ((1 : Int32) &&& 31)) = (0 : Int32) from by decide]
  refine own_istoreN X2 hx (pc' := 32) (Ls' := #[.val (.ref ba), .val (.int (0 : Int32)), .val (.int uc)]) (hb hby d22_31) rfl rfl ?_
  refine own_aloadN X2 hx (pc' := 33) (hb hby d22_32) rfl rfl rfl ?_
  refine own_iloadN X2 hx (pc' := 34) (hb hby d22_33) rfl rfl ?_
  refine own_iinc X2 hx (pc' := 37) (Ls' := #[.val (.ref ba), .val (.int (1 : Int32)), .val (.int uc)]) (hb hby d22_34) rfl rfl rfl ?_
  refine own_iloadN X2 hx (pc' := 38) (hb hby d22_37) rfl rfl ?_
  refine own_getS X2 hx (pc' := 41) hZ hown (host := "") (Or.inl (Wd103 hw)) Via.refl e2 (own_SB.sta B_ST.2.2.1) (hb hby d22_38) rfl (fun T3 X3 e3 => ?_)
  refine own_ishr X3 hx (pc' := 42) (hb hby d22_41) rfl ?_
  refine own_i2b X3 hx (pc' := 43) (hb hby d22_42) rfl ?_
  obtain ⟨cl4, Ar4, q4, S4, M4, H4, G4⟩ := id V_b
  refine own_stB X3 hx (pc' := 44) hZ e3 Ar4 (inb_of S4 h1) (hb hby d22_43) rfl (fun T5 h5 X5 e5 W5 => ?_)
  have N6 := Fr.snoc X5 N0 g_b
  have Z7 : n0 ≤ h5.size := Nat.le_trans Z0 (Nat.le_of_eq (Wr.size W5).symm)
  have K8 : Keep h0 h5 [ba] := K1.wr W5 (Or.inl (List.mem_of_getElem? (i := 0) rfl))
  have F9 := (B_ST.wr W5 g_b)
  have F10 : Arv Z h5 ba kb .byte z (vs.set 0 (.int (nar .byte ((uc >>> ((0 : Int32) &&& 31)).toInt8.toInt32)))) (.int (0 : Int32)) := (Arv.set Ar4 q4 S4 M4 H4 G4 (fits_nar_byte _) W5 0 rfl (Nat.lt_of_succ_lt hl))
  refine own_aloadN X5 hx (pc' := 45) (hb hby d22_44) rfl rfl rfl ?_
  refine own_iloadN X5 hx (pc' := 46) (hb hby d22_45) rfl rfl ?_
  refine own_iloadN X5 hx (pc' := 47) (hb hby d22_46) rfl rfl ?_
  refine own_getS X5 hx (pc' := 50) hZ hown (host := "") (Or.inl (Wd104 hw)) Via.refl e5 (own_SB.sta F9.2.2.2.1) (hb hby d22_47) rfl (fun T11 X11 e11 => ?_)
  refine own_ishr X11 hx (pc' := 51) (hb hby d22_50) rfl ?_
  refine own_i2b X11 hx (pc' := 52) (hb hby d22_51) rfl ?_
  obtain ⟨cl12, Ar12, q12, S12, M12, H12, G12⟩ := id F10
  refine own_stB X11 hx (pc' := 53) hZ e11 Ar12 (inb_of S12 h2) (hb hby d22_52) rfl (fun T13 h13 X13 e13 W13 => ?_)
  have N14 := Fr.snoc X13 N6 g_b
  have Z15 : n0 ≤ h13.size := Nat.le_trans Z7 (Nat.le_of_eq (Wr.size W13).symm)
  have K16 : Keep h0 h13 [ba] := K8.wr W13 (Or.inl (List.mem_of_getElem? (i := 0) rfl))
  have F17 := (F9.wr W13 g_b)
  have F18 : Arv Z h13 ba kb .byte z ((vs.set 0 (.int (own_b0 uc))).set 1 (.int (nar .byte ((uc >>> ((8 : Int32) &&& 31)).toInt8.toInt32)))) (.int (0 : Int32)) := (Arv.set Ar12 q12 S12 M12 H12 G12 (fits_nar_byte _) W13 1 rfl (by rw [List.length_set]; exact hl))
  refine own_retV X13 hx hlk hret (hb hby d22_53) (by decide) (by decide) ?_
  rw [e13]
  exact ⟨rfl, N14, K16, F18⟩

def Qpc_1 (Z : State) (ba : Addr) (kb : ClassId) (z : Int32) (vs : List Value) (uc : Int32) (h0 : Heap) (n0 : Nat) (v : Option Value) (h : Heap) (L : List Loc) : Prop := v = none ∧ Fr n0 L ∧ Keep h0 h [ba] ∧ Arv Z h ba kb .byte z ((vs.set 2 (.int (own_b0 uc))).set 3 (.int (own_b1 uc))) (.int (0 : Int32))
theorem ef_rm_pc_1 (m : MethodId) (x0 : Addr) (x1 : Int32) (x2 : Int32) : entryFrame m #[(.ref x0), (.int x1), (.int x2)] 3 = mkF m 0 #[.val (.ref x0), .val (.int x1), .val (.int x2)] [] := by first | (simp [entryFrame, mkF, argsToLocals, Value.category, maxLocals]; done) | rfl
set_option maxRecDepth 65536 in
set_option maxHeartbeats 40000000 in
theorem rm_pc_1 (l : Launch) (Z : State) (a0 : Array Value) (hw : ∀ d ∈ tables_1, d.before a0 Z = true) (ws : List Jvm.Cond) (cz : Int32) (sv : Value) (hcz : ¬ cz = (0 : Int32)) (hsv : sv.isRef = true) (ba : Addr) (kb : ClassId) (z : Int32) (vs : List Value) (uc : Int32) (h0 : Heap) (n0 : Nat) (Z0 : n0 ≤ h0.size) (g_b : n0 ≤ ba) (V_b : Arv Z h0 ba kb .byte z vs (.int (0 : Int32))) (h1 : (¬ (2 : Int32) < (0 : Int32) ∧ (2 : Int32) < z)) (h2 : (¬ (3 : Int32) < (0 : Int32) ∧ (3 : Int32) < z)) (hl : 3 < vs.length) (B_ST : own_ST n0 Z h0 cz sv) :
    own_M l Z (⟨"java/lang/StringUTF16", "putChar", "([BII)V"⟩ : MethodName) jdk_52_method_4_code 3 none ws ({ frames := 0, cells := 0, slots := 0, locals := 0 } : Room) #[(.ref ba), (.int (1 : Int32)), (.int uc)] h0  (Qpc_1 Z ba kb z vs uc h0 n0) := by
  refine own_bodyM pf_14 ?_
  intro p e s m below meth c s₁ hx hby hml hown hnm hlk hret hZ X0 e0
  have N0 : Fr n0 [] := Fr.nil n0
  refine own_go (f' := (mkF m 0 #[.val (.ref ba), .val (.int (1 : Int32)), .val (.int uc)] [])) (fun t k => castTop (ef_rm_pc_1 m ba (1 : Int32) uc) k) ?_
  have K1 : Keep h0 h0 [ba] := Keep.refl _ _
  refine own_getS X0 hx (pc' := 3) hZ hown (host := "") (Or.inl (Wd102 hw)) Via.refl e0 (own_SB.sta B_ST.2.1) (hb hby d22_0) rfl (fun T2 X2 e2 => ?_)
  refine own_ifYes X2 hx (pc' := 28) (hb hby d22_3) (feq (by decide : ¬ ((1 : Int32) = (0 : Int32)))).2 (by decide) (by decide) ?_
  refine own_iloadN X2 hx (pc' := 29) (hb hby d22_28) rfl rfl ?_
  refine own_iconst X2 hx (pc' := 30) (1 : Int32) (hb hby d22_29) rfl rfl ?_
  refine own_ishl X2 hx (pc' := 31) (hb hby d22_30) rfl ?_
  rw [show ((1 : Int32) <<< ((1 : Int32) &&& 31)) = (2 : Int32) from by decide]
  refine own_istoreN X2 hx (pc' := 32) (Ls' := #[.val (.ref ba), .val (.int (2 : Int32)), .val (.int uc)]) (hb hby d22_31) rfl rfl ?_
  refine own_aloadN X2 hx (pc' := 33) (hb hby d22_32) rfl rfl rfl ?_
  refine own_iloadN X2 hx (pc' := 34) (hb hby d22_33) rfl rfl ?_
  refine own_iinc X2 hx (pc' := 37) (Ls' := #[.val (.ref ba), .val (.int (3 : Int32)), .val (.int uc)]) (hb hby d22_34) rfl rfl rfl ?_
  refine own_iloadN X2 hx (pc' := 38) (hb hby d22_37) rfl rfl ?_
  refine own_getS X2 hx (pc' := 41) hZ hown (host := "") (Or.inl (Wd103 hw)) Via.refl e2 (own_SB.sta B_ST.2.2.1) (hb hby d22_38) rfl (fun T3 X3 e3 => ?_)
  refine own_ishr X3 hx (pc' := 42) (hb hby d22_41) rfl ?_
  refine own_i2b X3 hx (pc' := 43) (hb hby d22_42) rfl ?_
  obtain ⟨cl4, Ar4, q4, S4, M4, H4, G4⟩ := id V_b
  refine own_stB X3 hx (pc' := 44) hZ e3 Ar4 (inb_of S4 h1) (hb hby d22_43) rfl (fun T5 h5 X5 e5 W5 => ?_)
  have N6 := Fr.snoc X5 N0 g_b
  have Z7 : n0 ≤ h5.size := Nat.le_trans Z0 (Nat.le_of_eq (Wr.size W5).symm)
  have K8 : Keep h0 h5 [ba] := K1.wr W5 (Or.inl (List.mem_of_getElem? (i := 0) rfl))
  have F9 := (B_ST.wr W5 g_b)
  have F10 : Arv Z h5 ba kb .byte z (vs.set 2 (.int (nar .byte ((uc >>> ((0 : Int32) &&& 31)).toInt8.toInt32)))) (.int (0 : Int32)) := (Arv.set Ar4 q4 S4 M4 H4 G4 (fits_nar_byte _) W5 2 rfl (Nat.lt_of_succ_lt hl))
  refine own_aloadN X5 hx (pc' := 45) (hb hby d22_44) rfl rfl rfl ?_
  refine own_iloadN X5 hx (pc' := 46) (hb hby d22_45) rfl rfl ?_
  refine own_iloadN X5 hx (pc' := 47) (hb hby d22_46) rfl rfl ?_
  refine own_getS X5 hx (pc' := 50) hZ hown (host := "") (Or.inl (Wd104 hw)) Via.refl e5 (own_SB.sta F9.2.2.2.1) (hb hby d22_47) rfl (fun T11 X11 e11 => ?_)
  refine own_ishr X11 hx (pc' := 51) (hb hby d22_50) rfl ?_
  refine own_i2b X11 hx (pc' := 52) (hb hby d22_51) rfl ?_
  obtain ⟨cl12, Ar12, q12, S12, M12, H12, G12⟩ := id F10
  refine own_stB X11 hx (pc' := 53) hZ e11 Ar12 (inb_of S12 h2) (hb hby d22_52) rfl (fun T13 h13 X13 e13 W13 => ?_)
  have N14 := Fr.snoc X13 N6 g_b
  have Z15 : n0 ≤ h13.size := Nat.le_trans Z7 (Nat.le_of_eq (Wr.size W13).symm)
  have K16 : Keep h0 h13 [ba] := K8.wr W13 (Or.inl (List.mem_of_getElem? (i := 0) rfl))
  have F17 := (F9.wr W13 g_b)
  have F18 : Arv Z h13 ba kb .byte z ((vs.set 2 (.int (own_b0 uc))).set 3 (.int (nar .byte ((uc >>> ((8 : Int32) &&& 31)).toInt8.toInt32)))) (.int (0 : Int32)) := (Arv.set Ar12 q12 S12 M12 H12 G12 (fits_nar_byte _) W13 3 rfl (by rw [List.length_set]; exact hl))
  refine own_retV X13 hx hlk hret (hb hby d22_53) (by decide) (by decide) ?_
  rw [e13]
  exact ⟨rfl, N14, K16, F18⟩

def Qpc_2 (Z : State) (ba : Addr) (kb : ClassId) (z : Int32) (vs : List Value) (uc : Int32) (h0 : Heap) (n0 : Nat) (v : Option Value) (h : Heap) (L : List Loc) : Prop := v = none ∧ Fr n0 L ∧ Keep h0 h [ba] ∧ Arv Z h ba kb .byte z ((vs.set 4 (.int (own_b0 uc))).set 5 (.int (own_b1 uc))) (.int (0 : Int32))
theorem ef_rm_pc_2 (m : MethodId) (x0 : Addr) (x1 : Int32) (x2 : Int32) : entryFrame m #[(.ref x0), (.int x1), (.int x2)] 3 = mkF m 0 #[.val (.ref x0), .val (.int x1), .val (.int x2)] [] := by first | (simp [entryFrame, mkF, argsToLocals, Value.category, maxLocals]; done) | rfl
set_option maxRecDepth 65536 in
set_option maxHeartbeats 40000000 in
theorem rm_pc_2 (l : Launch) (Z : State) (a0 : Array Value) (hw : ∀ d ∈ tables_1, d.before a0 Z = true) (ws : List Jvm.Cond) (cz : Int32) (sv : Value) (hcz : ¬ cz = (0 : Int32)) (hsv : sv.isRef = true) (ba : Addr) (kb : ClassId) (z : Int32) (vs : List Value) (uc : Int32) (h0 : Heap) (n0 : Nat) (Z0 : n0 ≤ h0.size) (g_b : n0 ≤ ba) (V_b : Arv Z h0 ba kb .byte z vs (.int (0 : Int32))) (h1 : (¬ (4 : Int32) < (0 : Int32) ∧ (4 : Int32) < z)) (h2 : (¬ (5 : Int32) < (0 : Int32) ∧ (5 : Int32) < z)) (hl : 5 < vs.length) (B_ST : own_ST n0 Z h0 cz sv) :
    own_M l Z (⟨"java/lang/StringUTF16", "putChar", "([BII)V"⟩ : MethodName) jdk_52_method_4_code 3 none ws ({ frames := 0, cells := 0, slots := 0, locals := 0 } : Room) #[(.ref ba), (.int (2 : Int32)), (.int uc)] h0  (Qpc_2 Z ba kb z vs uc h0 n0) := by
  refine own_bodyM pf_14 ?_
  intro p e s m below meth c s₁ hx hby hml hown hnm hlk hret hZ X0 e0
  have N0 : Fr n0 [] := Fr.nil n0
  refine own_go (f' := (mkF m 0 #[.val (.ref ba), .val (.int (2 : Int32)), .val (.int uc)] [])) (fun t k => castTop (ef_rm_pc_2 m ba (2 : Int32) uc) k) ?_
  have K1 : Keep h0 h0 [ba] := Keep.refl _ _
  refine own_getS X0 hx (pc' := 3) hZ hown (host := "") (Or.inl (Wd102 hw)) Via.refl e0 (own_SB.sta B_ST.2.1) (hb hby d22_0) rfl (fun T2 X2 e2 => ?_)
  refine own_ifYes X2 hx (pc' := 28) (hb hby d22_3) (feq (by decide : ¬ ((1 : Int32) = (0 : Int32)))).2 (by decide) (by decide) ?_
  refine own_iloadN X2 hx (pc' := 29) (hb hby d22_28) rfl rfl ?_
  refine own_iconst X2 hx (pc' := 30) (1 : Int32) (hb hby d22_29) rfl rfl ?_
  refine own_ishl X2 hx (pc' := 31) (hb hby d22_30) rfl ?_
  rw [show ((2 : Int32) <<< ((1 : Int32) &&& 31)) = (4 : Int32) from by decide]
  refine own_istoreN X2 hx (pc' := 32) (Ls' := #[.val (.ref ba), .val (.int (4 : Int32)), .val (.int uc)]) (hb hby d22_31) rfl rfl ?_
  refine own_aloadN X2 hx (pc' := 33) (hb hby d22_32) rfl rfl rfl ?_
  refine own_iloadN X2 hx (pc' := 34) (hb hby d22_33) rfl rfl ?_
  refine own_iinc X2 hx (pc' := 37) (Ls' := #[.val (.ref ba), .val (.int (5 : Int32)), .val (.int uc)]) (hb hby d22_34) rfl rfl rfl ?_
  refine own_iloadN X2 hx (pc' := 38) (hb hby d22_37) rfl rfl ?_
  refine own_getS X2 hx (pc' := 41) hZ hown (host := "") (Or.inl (Wd103 hw)) Via.refl e2 (own_SB.sta B_ST.2.2.1) (hb hby d22_38) rfl (fun T3 X3 e3 => ?_)
  refine own_ishr X3 hx (pc' := 42) (hb hby d22_41) rfl ?_
  refine own_i2b X3 hx (pc' := 43) (hb hby d22_42) rfl ?_
  obtain ⟨cl4, Ar4, q4, S4, M4, H4, G4⟩ := id V_b
  refine own_stB X3 hx (pc' := 44) hZ e3 Ar4 (inb_of S4 h1) (hb hby d22_43) rfl (fun T5 h5 X5 e5 W5 => ?_)
  have N6 := Fr.snoc X5 N0 g_b
  have Z7 : n0 ≤ h5.size := Nat.le_trans Z0 (Nat.le_of_eq (Wr.size W5).symm)
  have K8 : Keep h0 h5 [ba] := K1.wr W5 (Or.inl (List.mem_of_getElem? (i := 0) rfl))
  have F9 := (B_ST.wr W5 g_b)
  have F10 : Arv Z h5 ba kb .byte z (vs.set 4 (.int (nar .byte ((uc >>> ((0 : Int32) &&& 31)).toInt8.toInt32)))) (.int (0 : Int32)) := (Arv.set Ar4 q4 S4 M4 H4 G4 (fits_nar_byte _) W5 4 rfl (Nat.lt_of_succ_lt hl))
  refine own_aloadN X5 hx (pc' := 45) (hb hby d22_44) rfl rfl rfl ?_
  refine own_iloadN X5 hx (pc' := 46) (hb hby d22_45) rfl rfl ?_
  refine own_iloadN X5 hx (pc' := 47) (hb hby d22_46) rfl rfl ?_
  refine own_getS X5 hx (pc' := 50) hZ hown (host := "") (Or.inl (Wd104 hw)) Via.refl e5 (own_SB.sta F9.2.2.2.1) (hb hby d22_47) rfl (fun T11 X11 e11 => ?_)
  refine own_ishr X11 hx (pc' := 51) (hb hby d22_50) rfl ?_
  refine own_i2b X11 hx (pc' := 52) (hb hby d22_51) rfl ?_
  obtain ⟨cl12, Ar12, q12, S12, M12, H12, G12⟩ := id F10
  refine own_stB X11 hx (pc' := 53) hZ e11 Ar12 (inb_of S12 h2) (hb hby d22_52) rfl (fun T13 h13 X13 e13 W13 => ?_)
  have N14 := Fr.snoc X13 N6 g_b
  have Z15 : n0 ≤ h13.size := Nat.le_trans Z7 (Nat.le_of_eq (Wr.size W13).symm)
  have K16 : Keep h0 h13 [ba] := K8.wr W13 (Or.inl (List.mem_of_getElem? (i := 0) rfl))
  have F17 := (F9.wr W13 g_b)
  have F18 : Arv Z h13 ba kb .byte z ((vs.set 4 (.int (own_b0 uc))).set 5 (.int (nar .byte ((uc >>> ((8 : Int32) &&& 31)).toInt8.toInt32)))) (.int (0 : Int32)) := (Arv.set Ar12 q12 S12 M12 H12 G12 (fits_nar_byte _) W13 5 rfl (by rw [List.length_set]; exact hl))
  refine own_retV X13 hx hlk hret (hb hby d22_53) (by decide) (by decide) ?_
  rw [e13]
  exact ⟨rfl, N14, K16, F18⟩

def Qpc_3 (Z : State) (ba : Addr) (kb : ClassId) (z : Int32) (vs : List Value) (uc : Int32) (h0 : Heap) (n0 : Nat) (v : Option Value) (h : Heap) (L : List Loc) : Prop := v = none ∧ Fr n0 L ∧ Keep h0 h [ba] ∧ Arv Z h ba kb .byte z ((vs.set 6 (.int (own_b0 uc))).set 7 (.int (own_b1 uc))) (.int (0 : Int32))
theorem ef_rm_pc_3 (m : MethodId) (x0 : Addr) (x1 : Int32) (x2 : Int32) : entryFrame m #[(.ref x0), (.int x1), (.int x2)] 3 = mkF m 0 #[.val (.ref x0), .val (.int x1), .val (.int x2)] [] := by first | (simp [entryFrame, mkF, argsToLocals, Value.category, maxLocals]; done) | rfl
set_option maxRecDepth 65536 in
set_option maxHeartbeats 40000000 in
theorem rm_pc_3 (l : Launch) (Z : State) (a0 : Array Value) (hw : ∀ d ∈ tables_1, d.before a0 Z = true) (ws : List Jvm.Cond) (cz : Int32) (sv : Value) (hcz : ¬ cz = (0 : Int32)) (hsv : sv.isRef = true) (ba : Addr) (kb : ClassId) (z : Int32) (vs : List Value) (uc : Int32) (h0 : Heap) (n0 : Nat) (Z0 : n0 ≤ h0.size) (g_b : n0 ≤ ba) (V_b : Arv Z h0 ba kb .byte z vs (.int (0 : Int32))) (h1 : (¬ (6 : Int32) < (0 : Int32) ∧ (6 : Int32) < z)) (h2 : (¬ (7 : Int32) < (0 : Int32) ∧ (7 : Int32) < z)) (hl : 7 < vs.length) (B_ST : own_ST n0 Z h0 cz sv) :
    own_M l Z (⟨"java/lang/StringUTF16", "putChar", "([BII)V"⟩ : MethodName) jdk_52_method_4_code 3 none ws ({ frames := 0, cells := 0, slots := 0, locals := 0 } : Room) #[(.ref ba), (.int (3 : Int32)), (.int uc)] h0  (Qpc_3 Z ba kb z vs uc h0 n0) := by
  refine own_bodyM pf_14 ?_
  intro p e s m below meth c s₁ hx hby hml hown hnm hlk hret hZ X0 e0
  have N0 : Fr n0 [] := Fr.nil n0
  refine own_go (f' := (mkF m 0 #[.val (.ref ba), .val (.int (3 : Int32)), .val (.int uc)] [])) (fun t k => castTop (ef_rm_pc_3 m ba (3 : Int32) uc) k) ?_
  have K1 : Keep h0 h0 [ba] := Keep.refl _ _
  refine own_getS X0 hx (pc' := 3) hZ hown (host := "") (Or.inl (Wd102 hw)) Via.refl e0 (own_SB.sta B_ST.2.1) (hb hby d22_0) rfl (fun T2 X2 e2 => ?_)
  refine own_ifYes X2 hx (pc' := 28) (hb hby d22_3) (feq (by decide : ¬ ((1 : Int32) = (0 : Int32)))).2 (by decide) (by decide) ?_
  refine own_iloadN X2 hx (pc' := 29) (hb hby d22_28) rfl rfl ?_
  refine own_iconst X2 hx (pc' := 30) (1 : Int32) (hb hby d22_29) rfl rfl ?_
  refine own_ishl X2 hx (pc' := 31) (hb hby d22_30) rfl ?_
  rw [show ((3 : Int32) <<< ((1 : Int32) &&& 31)) = (6 : Int32) from by decide]
  refine own_istoreN X2 hx (pc' := 32) (Ls' := #[.val (.ref ba), .val (.int (6 : Int32)), .val (.int uc)]) (hb hby d22_31) rfl rfl ?_
  refine own_aloadN X2 hx (pc' := 33) (hb hby d22_32) rfl rfl rfl ?_
  refine own_iloadN X2 hx (pc' := 34) (hb hby d22_33) rfl rfl ?_
  refine own_iinc X2 hx (pc' := 37) (Ls' := #[.val (.ref ba), .val (.int (7 : Int32)), .val (.int uc)]) (hb hby d22_34) rfl rfl rfl ?_
  refine own_iloadN X2 hx (pc' := 38) (hb hby d22_37) rfl rfl ?_
  refine own_getS X2 hx (pc' := 41) hZ hown (host := "") (Or.inl (Wd103 hw)) Via.refl e2 (own_SB.sta B_ST.2.2.1) (hb hby d22_38) rfl (fun T3 X3 e3 => ?_)
  refine own_ishr X3 hx (pc' := 42) (hb hby d22_41) rfl ?_
  refine own_i2b X3 hx (pc' := 43) (hb hby d22_42) rfl ?_
  obtain ⟨cl4, Ar4, q4, S4, M4, H4, G4⟩ := id V_b
  refine own_stB X3 hx (pc' := 44) hZ e3 Ar4 (inb_of S4 h1) (hb hby d22_43) rfl (fun T5 h5 X5 e5 W5 => ?_)
  have N6 := Fr.snoc X5 N0 g_b
  have Z7 : n0 ≤ h5.size := Nat.le_trans Z0 (Nat.le_of_eq (Wr.size W5).symm)
  have K8 : Keep h0 h5 [ba] := K1.wr W5 (Or.inl (List.mem_of_getElem? (i := 0) rfl))
  have F9 := (B_ST.wr W5 g_b)
  have F10 : Arv Z h5 ba kb .byte z (vs.set 6 (.int (nar .byte ((uc >>> ((0 : Int32) &&& 31)).toInt8.toInt32)))) (.int (0 : Int32)) := (Arv.set Ar4 q4 S4 M4 H4 G4 (fits_nar_byte _) W5 6 rfl (Nat.lt_of_succ_lt hl))
  refine own_aloadN X5 hx (pc' := 45) (hb hby d22_44) rfl rfl rfl ?_
  refine own_iloadN X5 hx (pc' := 46) (hb hby d22_45) rfl rfl ?_
  refine own_iloadN X5 hx (pc' := 47) (hb hby d22_46) rfl rfl ?_
  refine own_getS X5 hx (pc' := 50) hZ hown (host := "") (Or.inl (Wd104 hw)) Via.refl e5 (own_SB.sta F9.2.2.2.1) (hb hby d22_47) rfl (fun T11 X11 e11 => ?_)
  refine own_ishr X11 hx (pc' := 51) (hb hby d22_50) rfl ?_
  refine own_i2b X11 hx (pc' := 52) (hb hby d22_51) rfl ?_
  obtain ⟨cl12, Ar12, q12, S12, M12, H12, G12⟩ := id F10
  refine own_stB X11 hx (pc' := 53) hZ e11 Ar12 (inb_of S12 h2) (hb hby d22_52) rfl (fun T13 h13 X13 e13 W13 => ?_)
  have N14 := Fr.snoc X13 N6 g_b
  have Z15 : n0 ≤ h13.size := Nat.le_trans Z7 (Nat.le_of_eq (Wr.size W13).symm)
  have K16 : Keep h0 h13 [ba] := K8.wr W13 (Or.inl (List.mem_of_getElem? (i := 0) rfl))
  have F17 := (F9.wr W13 g_b)
  have F18 : Arv Z h13 ba kb .byte z ((vs.set 6 (.int (own_b0 uc))).set 7 (.int (nar .byte ((uc >>> ((8 : Int32) &&& 31)).toInt8.toInt32)))) (.int (0 : Int32)) := (Arv.set Ar12 q12 S12 M12 H12 G12 (fits_nar_byte _) W13 7 rfl (by rw [List.length_set]; exact hl))
  refine own_retV X13 hx hlk hret (hb hby d22_53) (by decide) (by decide) ?_
  rw [e13]
  exact ⟨rfl, N14, K16, F18⟩

theorem d21_0 : decode jdk_52_method_3_code 0 = .ok (.iload_n 0, 1) := by decide +kernel
theorem d21_1 : decode jdk_52_method_3_code 1 = .ok (.ifCond .ge 11, 3) := by decide +kernel
theorem d21_12 : decode jdk_52_method_3_code 12 = .ok (.iload_n 0, 1) := by decide +kernel
theorem d21_13 : decode jdk_52_method_3_code 13 = .ok (.ldc 20, 2) := by decide +kernel
theorem d21_15 : decode jdk_52_method_3_code 15 = .ok (.if_icmp .lt 40, 3) := by decide +kernel
theorem d21_55 : decode jdk_52_method_3_code 55 = .ok (.iload_n 0, 1) := by decide +kernel
theorem d21_56 : decode jdk_52_method_3_code 56 = .ok (.iconst 1, 1) := by decide +kernel
theorem d21_57 : decode jdk_52_method_3_code 57 = .ok (.ishl, 1) := by decide +kernel
theorem d21_58 : decode jdk_52_method_3_code 58 = .ok (.ireturn, 1) := by decide +kernel
theorem ef_rm_nl_1 (m : MethodId) (x0 : Int32) : entryFrame m #[(.int x0)] 1 = mkF m 0 #[.val (.int x0)] [] := by first | (simp [entryFrame, mkF, argsToLocals, Value.category, maxLocals]; done) | rfl
theorem pf_15 : plainFor (⟨"java/lang/StringUTF16", "newBytesLength", "(I)I"⟩ : MethodName) = true := by apply plainFor_of_name; first | (simp [plainName, overriddenIn]; done) | decide +kernel
theorem Wd98 {a0 : Array Value} {Z : State} (hw : ∀ d ∈ tables_1, d.before a0 Z = true) : (Jvm.Cond.constant "java/lang/StringUTF16" (20 : Nat) (1073741823 : Int32)).before a0 Z = true := hw _ (List.mem_of_getElem? (i := 98) rfl)
set_option maxRecDepth 65536 in
set_option maxHeartbeats 40000000 in
theorem rm_nl_1 (l : Launch) (Z : State) (a0 : Array Value) (hw : ∀ d ∈ tables_1, d.before a0 Z = true) (ws : List Jvm.Cond)  (h0 : Heap) (n0 : Nat) (Z0 : n0 ≤ h0.size)  :
    own_M l Z (⟨"java/lang/StringUTF16", "newBytesLength", "(I)I"⟩ : MethodName) jdk_52_method_3_code 1 (some .int) ws ({ frames := 0, cells := 0, slots := 0, locals := 0 } : Room) #[(.int (1 : Int32))] h0  (Qint (2 : Int32) h0 n0) := by
  refine own_bodyM pf_15 ?_
  intro p e s m below meth c s₁ hx hby hml hown hnm hlk hret hZ X0 e0
  have N0 : Fr n0 [] := Fr.nil n0
  refine own_go (f' := (mkF m 0 #[.val (.int (1 : Int32))] [])) (fun t k => castTop (ef_rm_nl_1 m (1 : Int32)) k) ?_
  refine own_iloadN X0 hx (pc' := 1) (hb hby d21_0) rfl rfl ?_
  refine own_ifYes X0 hx (pc' := 12) (hb hby d21_1) (flt (by decide : ¬ ((1 : Int32) < (0 : Int32)))).2.1 (by decide) (by decide) ?_
  refine own_iloadN X0 hx (pc' := 13) (hb hby d21_12) rfl rfl ?_
  refine own_ldcI X0 hx (pc' := 15) hZ hown (Wd98 hw) (hb hby d21_13) rfl ?_
  refine own_icmpYes X0 hx (pc' := 55) (hb hby d21_15) (tlt (by decide : (1 : Int32) < (1073741823 : Int32))).1 (by decide) (by decide) ?_
  refine own_iloadN X0 hx (pc' := 56) (hb hby d21_55) rfl rfl ?_
  refine own_iconst X0 hx (pc' := 57) (1 : Int32) (hb hby d21_56) rfl rfl ?_
  refine own_ishl X0 hx (pc' := 58) (hb hby d21_57) rfl ?_
  rw [show ((1 : Int32) <<< ((1 : Int32) &&& 31)) = (2 : Int32) from by decide]
  refine own_retI X0 hx hlk hret (hb hby d21_58) (by decide) (by decide) ?_
  exact ⟨rfl, N0, e0⟩

theorem ef_rm_nl_2 (m : MethodId) (x0 : Int32) : entryFrame m #[(.int x0)] 1 = mkF m 0 #[.val (.int x0)] [] := by first | (simp [entryFrame, mkF, argsToLocals, Value.category, maxLocals]; done) | rfl
set_option maxRecDepth 65536 in
set_option maxHeartbeats 40000000 in
theorem rm_nl_2 (l : Launch) (Z : State) (a0 : Array Value) (hw : ∀ d ∈ tables_1, d.before a0 Z = true) (ws : List Jvm.Cond)  (h0 : Heap) (n0 : Nat) (Z0 : n0 ≤ h0.size)  :
    own_M l Z (⟨"java/lang/StringUTF16", "newBytesLength", "(I)I"⟩ : MethodName) jdk_52_method_3_code 1 (some .int) ws ({ frames := 0, cells := 0, slots := 0, locals := 0 } : Room) #[(.int (2 : Int32))] h0  (Qint (4 : Int32) h0 n0) := by
  refine own_bodyM pf_15 ?_
  intro p e s m below meth c s₁ hx hby hml hown hnm hlk hret hZ X0 e0
  have N0 : Fr n0 [] := Fr.nil n0
  refine own_go (f' := (mkF m 0 #[.val (.int (2 : Int32))] [])) (fun t k => castTop (ef_rm_nl_2 m (2 : Int32)) k) ?_
  refine own_iloadN X0 hx (pc' := 1) (hb hby d21_0) rfl rfl ?_
  refine own_ifYes X0 hx (pc' := 12) (hb hby d21_1) (flt (by decide : ¬ ((2 : Int32) < (0 : Int32)))).2.1 (by decide) (by decide) ?_
  refine own_iloadN X0 hx (pc' := 13) (hb hby d21_12) rfl rfl ?_
  refine own_ldcI X0 hx (pc' := 15) hZ hown (Wd98 hw) (hb hby d21_13) rfl ?_
  refine own_icmpYes X0 hx (pc' := 55) (hb hby d21_15) (tlt (by decide : (2 : Int32) < (1073741823 : Int32))).1 (by decide) (by decide) ?_
  refine own_iloadN X0 hx (pc' := 56) (hb hby d21_55) rfl rfl ?_
  refine own_iconst X0 hx (pc' := 57) (1 : Int32) (hb hby d21_56) rfl rfl ?_
  refine own_ishl X0 hx (pc' := 58) (hb hby d21_57) rfl ?_
  rw [show ((2 : Int32) <<< ((1 : Int32) &&& 31)) = (4 : Int32) from by decide]
  refine own_retI X0 hx hlk hret (hb hby d21_58) (by decide) (by decide) ?_
  exact ⟨rfl, N0, e0⟩

theorem ef_rm_nl_3 (m : MethodId) (x0 : Int32) : entryFrame m #[(.int x0)] 1 = mkF m 0 #[.val (.int x0)] [] := by first | (simp [entryFrame, mkF, argsToLocals, Value.category, maxLocals]; done) | rfl
set_option maxRecDepth 65536 in
set_option maxHeartbeats 40000000 in
theorem rm_nl_3 (l : Launch) (Z : State) (a0 : Array Value) (hw : ∀ d ∈ tables_1, d.before a0 Z = true) (ws : List Jvm.Cond)  (h0 : Heap) (n0 : Nat) (Z0 : n0 ≤ h0.size)  :
    own_M l Z (⟨"java/lang/StringUTF16", "newBytesLength", "(I)I"⟩ : MethodName) jdk_52_method_3_code 1 (some .int) ws ({ frames := 0, cells := 0, slots := 0, locals := 0 } : Room) #[(.int (3 : Int32))] h0  (Qint (6 : Int32) h0 n0) := by
  refine own_bodyM pf_15 ?_
  intro p e s m below meth c s₁ hx hby hml hown hnm hlk hret hZ X0 e0
  have N0 : Fr n0 [] := Fr.nil n0
  refine own_go (f' := (mkF m 0 #[.val (.int (3 : Int32))] [])) (fun t k => castTop (ef_rm_nl_3 m (3 : Int32)) k) ?_
  refine own_iloadN X0 hx (pc' := 1) (hb hby d21_0) rfl rfl ?_
  refine own_ifYes X0 hx (pc' := 12) (hb hby d21_1) (flt (by decide : ¬ ((3 : Int32) < (0 : Int32)))).2.1 (by decide) (by decide) ?_
  refine own_iloadN X0 hx (pc' := 13) (hb hby d21_12) rfl rfl ?_
  refine own_ldcI X0 hx (pc' := 15) hZ hown (Wd98 hw) (hb hby d21_13) rfl ?_
  refine own_icmpYes X0 hx (pc' := 55) (hb hby d21_15) (tlt (by decide : (3 : Int32) < (1073741823 : Int32))).1 (by decide) (by decide) ?_
  refine own_iloadN X0 hx (pc' := 56) (hb hby d21_55) rfl rfl ?_
  refine own_iconst X0 hx (pc' := 57) (1 : Int32) (hb hby d21_56) rfl rfl ?_
  refine own_ishl X0 hx (pc' := 58) (hb hby d21_57) rfl ?_
  rw [show ((3 : Int32) <<< ((1 : Int32) &&& 31)) = (6 : Int32) from by decide]
  refine own_retI X0 hx hlk hret (hb hby d21_58) (by decide) (by decide) ?_
  exact ⟨rfl, N0, e0⟩

theorem ef_rm_nl_4 (m : MethodId) (x0 : Int32) : entryFrame m #[(.int x0)] 1 = mkF m 0 #[.val (.int x0)] [] := by first | (simp [entryFrame, mkF, argsToLocals, Value.category, maxLocals]; done) | rfl
set_option maxRecDepth 65536 in
set_option maxHeartbeats 40000000 in
theorem rm_nl_4 (l : Launch) (Z : State) (a0 : Array Value) (hw : ∀ d ∈ tables_1, d.before a0 Z = true) (ws : List Jvm.Cond)  (h0 : Heap) (n0 : Nat) (Z0 : n0 ≤ h0.size)  :
    own_M l Z (⟨"java/lang/StringUTF16", "newBytesLength", "(I)I"⟩ : MethodName) jdk_52_method_3_code 1 (some .int) ws ({ frames := 0, cells := 0, slots := 0, locals := 0 } : Room) #[(.int (4 : Int32))] h0  (Qint (8 : Int32) h0 n0) := by
  refine own_bodyM pf_15 ?_
  intro p e s m below meth c s₁ hx hby hml hown hnm hlk hret hZ X0 e0
  have N0 : Fr n0 [] := Fr.nil n0
  refine own_go (f' := (mkF m 0 #[.val (.int (4 : Int32))] [])) (fun t k => castTop (ef_rm_nl_4 m (4 : Int32)) k) ?_
  refine own_iloadN X0 hx (pc' := 1) (hb hby d21_0) rfl rfl ?_
  refine own_ifYes X0 hx (pc' := 12) (hb hby d21_1) (flt (by decide : ¬ ((4 : Int32) < (0 : Int32)))).2.1 (by decide) (by decide) ?_
  refine own_iloadN X0 hx (pc' := 13) (hb hby d21_12) rfl rfl ?_
  refine own_ldcI X0 hx (pc' := 15) hZ hown (Wd98 hw) (hb hby d21_13) rfl ?_
  refine own_icmpYes X0 hx (pc' := 55) (hb hby d21_15) (tlt (by decide : (4 : Int32) < (1073741823 : Int32))).1 (by decide) (by decide) ?_
  refine own_iloadN X0 hx (pc' := 56) (hb hby d21_55) rfl rfl ?_
  refine own_iconst X0 hx (pc' := 57) (1 : Int32) (hb hby d21_56) rfl rfl ?_
  refine own_ishl X0 hx (pc' := 58) (hb hby d21_57) rfl ?_
  rw [show ((4 : Int32) <<< ((1 : Int32) &&& 31)) = (8 : Int32) from by decide]
  refine own_retI X0 hx hlk hret (hb hby d21_58) (by decide) (by decide) ?_
  exact ⟨rfl, N0, e0⟩

theorem d20_0 : decode jdk_52_method_2_code 0 = .ok (.iload_n 0, 1) := by decide +kernel
theorem d20_1 : decode jdk_52_method_2_code 1 = .ok (.invokestatic 11, 3) := by decide +kernel
theorem d20_4 : decode jdk_52_method_2_code 4 = .ok (.newarray .byte, 2) := by decide +kernel
theorem d20_6 : decode jdk_52_method_2_code 6 = .ok (.areturn, 1) := by decide +kernel
def Qnf_1 (Z : State) (h0 : Heap) (n0 : Nat) (v : Option Value) (h : Heap) (L : List Loc) : Prop := Fr n0 L ∧ Keep h0 h [] ∧ ∃ (ba : Addr) (kb : ClassId), v = some (.ref ba) ∧ n0 ≤ ba ∧ h0.size ≤ ba ∧ Arv Z h ba kb .byte (2 : Int32) [(.int (0 : Int32)), (.int (0 : Int32))] (.int (0 : Int32))
theorem ef_rm_nf_1 (m : MethodId) (x0 : Int32) : entryFrame m #[(.int x0)] 1 = mkF m 0 #[.val (.int x0)] [] := by first | (simp [entryFrame, mkF, argsToLocals, Value.category, maxLocals]; done) | rfl
theorem pf_16 : plainFor (⟨"java/lang/StringUTF16", "newBytesFor", "(I)[B"⟩ : MethodName) = true := by apply plainFor_of_name; first | (simp [plainName, overriddenIn]; done) | decide +kernel
theorem Wd97 {a0 : Array Value} {Z : State} (hw : ∀ d ∈ tables_1, d.before a0 Z = true) : (Jvm.Cond.code ({ cls := "java/lang/StringUTF16", name := "newBytesLength", desc := "(I)I" } : Jvm.MethodName) jdk_52_method_3_code (1 : Nat) (Option.some Jvm.ClassFile.FieldType.int)).before a0 Z = true := hw _ (List.mem_of_getElem? (i := 97) rfl)
theorem Wd51 {a0 : Array Value} {Z : State} (hw : ∀ d ∈ tables_1, d.before a0 Z = true) : (Jvm.Cond.initialized "java/lang/StringUTF16").before a0 Z = true := hw _ (List.mem_of_getElem? (i := 51) rfl)
theorem pd_2 : parseMethodDescriptor "(I)I" = some ⟨[.int], some .int⟩ := by decide +kernel
theorem Wd95 {a0 : Array Value} {Z : State} (hw : ∀ d ∈ tables_1, d.before a0 Z = true) : (Jvm.Cond.methodLink "java/lang/StringUTF16" (11 : Nat) ({ cls := "java/lang/StringUTF16", name := "newBytesLength", desc := "(I)I" } : Jvm.MethodName)).before a0 Z = true := hw _ (List.mem_of_getElem? (i := 95) rfl)
theorem Wd96 {a0 : Array Value} {Z : State} (hw : ∀ d ∈ tables_1, d.before a0 Z = true) : (Jvm.Cond.static ({ cls := "java/lang/StringUTF16", name := "newBytesLength", desc := "(I)I" } : Jvm.MethodName)).before a0 Z = true := hw _ (List.mem_of_getElem? (i := 96) rfl)
theorem Wd22 {a0 : Array Value} {Z : State} (hw : ∀ d ∈ tables_1, d.before a0 Z = true) : (Jvm.Cond.arrayClass Jvm.ClassFile.FieldType.byte).before a0 Z = true := hw _ (List.mem_of_getElem? (i := 22) rfl)
set_option maxRecDepth 65536 in
set_option maxHeartbeats 40000000 in
theorem rm_nf_1 (l : Launch) (Z : State) (a0 : Array Value) (hw : ∀ d ∈ tables_1, d.before a0 Z = true) (ws : List Jvm.Cond)  (h0 : Heap) (n0 : Nat) (Z0 : n0 ≤ h0.size)  :
    own_M l Z (⟨"java/lang/StringUTF16", "newBytesFor", "(I)[B"⟩ : MethodName) jdk_52_method_2_code 1 (some (.array .byte)) ws ({ frames := 1, cells := 1, slots := 2, locals := 12 } : Room) #[(.int (1 : Int32))] h0  (Qnf_1 Z h0 n0) := by
  refine own_bodyM pf_16 ?_
  intro p e s m below meth c s₁ hx hby hml hown hnm hlk hret hZ X0 e0
  have N0 : Fr n0 [] := Fr.nil n0
  refine own_go (f' := (mkF m 0 #[.val (.int (1 : Int32))] [])) (fun t k => castTop (ef_rm_nf_1 m (1 : Int32)) k) ?_
  have K1 : Keep h0 h0 [] := Keep.refl _ _
  refine own_iloadN X0 hx (pc' := 1) (hb hby d20_0) rfl rfl ?_
  refine own_cSI X0 hx (pc' := 4) hZ hown (Wd95 hw) (Wd96 hw) (Wd51 hw) (Wd97 hw) (rm_nl_1 l Z a0 hw []   h0 n0 Z0  ) e0 N0 hml pd_2 (hb hby d20_1) 0 [(.int (1 : Int32))] [] (fun T2 L2 X2 e2 N2 => ?_)
  refine own_newP X2 hx (pc' := 6) hZ (aty := .byte) (Wd22 hw) e2 (hb hby d20_4) (by decide) 2 (by decide) (by decide) (by decide) (by decide) rfl (fun T3 h3 kc3 nb3 g3 X3 e3 E3 A3 => ?_)
  have ge_nb3 : n0 ≤ nb3 := Nat.le_trans Z0 (Nat.le_of_eq g3.symm)
  have gk_nb3 : h0.size ≤ nb3 := Nat.le_trans K1.1 (Nat.le_of_eq g3.symm)
  have Z4 : n0 ≤ h3.size := Nat.le_trans Z0 E3.1
  have K5 : Keep h0 h3 [] := K1.ext E3
  have V6a : Arv Z h3 nb3 kc3 .byte (2 : Int32) [] (.int (0 : Int32)) := Arv.new A3 (by decide)
  have V6b : Arv Z h3 nb3 kc3 .byte (2 : Int32) (List.replicate 2 (.int (0 : Int32))) (.int (0 : Int32)) := V6a.pad (pad_rep [] _ 2)
  have V6 : Arv Z h3 nb3 kc3 .byte (2 : Int32) [(.int (0 : Int32)), (.int (0 : Int32))] (.int (0 : Int32)) := V6b
  refine own_retA X3 hx hlk hret rfl rfl rfl (hb hby d20_6) (by decide) (by decide) ?_
  rw [e3]
  exact ⟨N2, K5, nb3, _, rfl, ge_nb3, gk_nb3, V6⟩

def Qnf_2 (Z : State) (h0 : Heap) (n0 : Nat) (v : Option Value) (h : Heap) (L : List Loc) : Prop := Fr n0 L ∧ Keep h0 h [] ∧ ∃ (ba : Addr) (kb : ClassId), v = some (.ref ba) ∧ n0 ≤ ba ∧ h0.size ≤ ba ∧ Arv Z h ba kb .byte (4 : Int32) [(.int (0 : Int32)), (.int (0 : Int32)), (.int (0 : Int32)), (.int (0 : Int32))] (.int (0 : Int32))
theorem ef_rm_nf_2 (m : MethodId) (x0 : Int32) : entryFrame m #[(.int x0)] 1 = mkF m 0 #[.val (.int x0)] [] := by first | (simp [entryFrame, mkF, argsToLocals, Value.category, maxLocals]; done) | rfl
set_option maxRecDepth 65536 in
set_option maxHeartbeats 40000000 in
theorem rm_nf_2 (l : Launch) (Z : State) (a0 : Array Value) (hw : ∀ d ∈ tables_1, d.before a0 Z = true) (ws : List Jvm.Cond)  (h0 : Heap) (n0 : Nat) (Z0 : n0 ≤ h0.size)  :
    own_M l Z (⟨"java/lang/StringUTF16", "newBytesFor", "(I)[B"⟩ : MethodName) jdk_52_method_2_code 1 (some (.array .byte)) ws ({ frames := 1, cells := 1, slots := 4, locals := 12 } : Room) #[(.int (2 : Int32))] h0  (Qnf_2 Z h0 n0) := by
  refine own_bodyM pf_16 ?_
  intro p e s m below meth c s₁ hx hby hml hown hnm hlk hret hZ X0 e0
  have N0 : Fr n0 [] := Fr.nil n0
  refine own_go (f' := (mkF m 0 #[.val (.int (2 : Int32))] [])) (fun t k => castTop (ef_rm_nf_2 m (2 : Int32)) k) ?_
  have K1 : Keep h0 h0 [] := Keep.refl _ _
  refine own_iloadN X0 hx (pc' := 1) (hb hby d20_0) rfl rfl ?_
  refine own_cSI X0 hx (pc' := 4) hZ hown (Wd95 hw) (Wd96 hw) (Wd51 hw) (Wd97 hw) (rm_nl_2 l Z a0 hw []   h0 n0 Z0  ) e0 N0 hml pd_2 (hb hby d20_1) 0 [(.int (2 : Int32))] [] (fun T2 L2 X2 e2 N2 => ?_)
  refine own_newP X2 hx (pc' := 6) hZ (aty := .byte) (Wd22 hw) e2 (hb hby d20_4) (by decide) 4 (by decide) (by decide) (by decide) (by decide) rfl (fun T3 h3 kc3 nb3 g3 X3 e3 E3 A3 => ?_)
  have ge_nb3 : n0 ≤ nb3 := Nat.le_trans Z0 (Nat.le_of_eq g3.symm)
  have gk_nb3 : h0.size ≤ nb3 := Nat.le_trans K1.1 (Nat.le_of_eq g3.symm)
  have Z4 : n0 ≤ h3.size := Nat.le_trans Z0 E3.1
  have K5 : Keep h0 h3 [] := K1.ext E3
  have V6a : Arv Z h3 nb3 kc3 .byte (4 : Int32) [] (.int (0 : Int32)) := Arv.new A3 (by decide)
  have V6b : Arv Z h3 nb3 kc3 .byte (4 : Int32) (List.replicate 4 (.int (0 : Int32))) (.int (0 : Int32)) := V6a.pad (pad_rep [] _ 4)
  have V6 : Arv Z h3 nb3 kc3 .byte (4 : Int32) [(.int (0 : Int32)), (.int (0 : Int32)), (.int (0 : Int32)), (.int (0 : Int32))] (.int (0 : Int32)) := V6b
  refine own_retA X3 hx hlk hret rfl rfl rfl (hb hby d20_6) (by decide) (by decide) ?_
  rw [e3]
  exact ⟨N2, K5, nb3, _, rfl, ge_nb3, gk_nb3, V6⟩

def Qnf_3 (Z : State) (h0 : Heap) (n0 : Nat) (v : Option Value) (h : Heap) (L : List Loc) : Prop := Fr n0 L ∧ Keep h0 h [] ∧ ∃ (ba : Addr) (kb : ClassId), v = some (.ref ba) ∧ n0 ≤ ba ∧ h0.size ≤ ba ∧ Arv Z h ba kb .byte (6 : Int32) [(.int (0 : Int32)), (.int (0 : Int32)), (.int (0 : Int32)), (.int (0 : Int32)), (.int (0 : Int32)), (.int (0 : Int32))] (.int (0 : Int32))
theorem ef_rm_nf_3 (m : MethodId) (x0 : Int32) : entryFrame m #[(.int x0)] 1 = mkF m 0 #[.val (.int x0)] [] := by first | (simp [entryFrame, mkF, argsToLocals, Value.category, maxLocals]; done) | rfl
set_option maxRecDepth 65536 in
set_option maxHeartbeats 40000000 in
theorem rm_nf_3 (l : Launch) (Z : State) (a0 : Array Value) (hw : ∀ d ∈ tables_1, d.before a0 Z = true) (ws : List Jvm.Cond)  (h0 : Heap) (n0 : Nat) (Z0 : n0 ≤ h0.size)  :
    own_M l Z (⟨"java/lang/StringUTF16", "newBytesFor", "(I)[B"⟩ : MethodName) jdk_52_method_2_code 1 (some (.array .byte)) ws ({ frames := 1, cells := 1, slots := 6, locals := 12 } : Room) #[(.int (3 : Int32))] h0  (Qnf_3 Z h0 n0) := by
  refine own_bodyM pf_16 ?_
  intro p e s m below meth c s₁ hx hby hml hown hnm hlk hret hZ X0 e0
  have N0 : Fr n0 [] := Fr.nil n0
  refine own_go (f' := (mkF m 0 #[.val (.int (3 : Int32))] [])) (fun t k => castTop (ef_rm_nf_3 m (3 : Int32)) k) ?_
  have K1 : Keep h0 h0 [] := Keep.refl _ _
  refine own_iloadN X0 hx (pc' := 1) (hb hby d20_0) rfl rfl ?_
  refine own_cSI X0 hx (pc' := 4) hZ hown (Wd95 hw) (Wd96 hw) (Wd51 hw) (Wd97 hw) (rm_nl_3 l Z a0 hw []   h0 n0 Z0  ) e0 N0 hml pd_2 (hb hby d20_1) 0 [(.int (3 : Int32))] [] (fun T2 L2 X2 e2 N2 => ?_)
  refine own_newP X2 hx (pc' := 6) hZ (aty := .byte) (Wd22 hw) e2 (hb hby d20_4) (by decide) 6 (by decide) (by decide) (by decide) (by decide) rfl (fun T3 h3 kc3 nb3 g3 X3 e3 E3 A3 => ?_)
  have ge_nb3 : n0 ≤ nb3 := Nat.le_trans Z0 (Nat.le_of_eq g3.symm)
  have gk_nb3 : h0.size ≤ nb3 := Nat.le_trans K1.1 (Nat.le_of_eq g3.symm)
  have Z4 : n0 ≤ h3.size := Nat.le_trans Z0 E3.1
  have K5 : Keep h0 h3 [] := K1.ext E3
  have V6a : Arv Z h3 nb3 kc3 .byte (6 : Int32) [] (.int (0 : Int32)) := Arv.new A3 (by decide)
  have V6b : Arv Z h3 nb3 kc3 .byte (6 : Int32) (List.replicate 6 (.int (0 : Int32))) (.int (0 : Int32)) := V6a.pad (pad_rep [] _ 6)
  have V6 : Arv Z h3 nb3 kc3 .byte (6 : Int32) [(.int (0 : Int32)), (.int (0 : Int32)), (.int (0 : Int32)), (.int (0 : Int32)), (.int (0 : Int32)), (.int (0 : Int32))] (.int (0 : Int32)) := V6b
  refine own_retA X3 hx hlk hret rfl rfl rfl (hb hby d20_6) (by decide) (by decide) ?_
  rw [e3]
  exact ⟨N2, K5, nb3, _, rfl, ge_nb3, gk_nb3, V6⟩

def Qnf_4 (Z : State) (h0 : Heap) (n0 : Nat) (v : Option Value) (h : Heap) (L : List Loc) : Prop := Fr n0 L ∧ Keep h0 h [] ∧ ∃ (ba : Addr) (kb : ClassId), v = some (.ref ba) ∧ n0 ≤ ba ∧ h0.size ≤ ba ∧ Arv Z h ba kb .byte (8 : Int32) [(.int (0 : Int32)), (.int (0 : Int32)), (.int (0 : Int32)), (.int (0 : Int32)), (.int (0 : Int32)), (.int (0 : Int32)), (.int (0 : Int32)), (.int (0 : Int32))] (.int (0 : Int32))
theorem ef_rm_nf_4 (m : MethodId) (x0 : Int32) : entryFrame m #[(.int x0)] 1 = mkF m 0 #[.val (.int x0)] [] := by first | (simp [entryFrame, mkF, argsToLocals, Value.category, maxLocals]; done) | rfl
set_option maxRecDepth 65536 in
set_option maxHeartbeats 40000000 in
theorem rm_nf_4 (l : Launch) (Z : State) (a0 : Array Value) (hw : ∀ d ∈ tables_1, d.before a0 Z = true) (ws : List Jvm.Cond)  (h0 : Heap) (n0 : Nat) (Z0 : n0 ≤ h0.size)  :
    own_M l Z (⟨"java/lang/StringUTF16", "newBytesFor", "(I)[B"⟩ : MethodName) jdk_52_method_2_code 1 (some (.array .byte)) ws ({ frames := 1, cells := 1, slots := 8, locals := 12 } : Room) #[(.int (4 : Int32))] h0  (Qnf_4 Z h0 n0) := by
  refine own_bodyM pf_16 ?_
  intro p e s m below meth c s₁ hx hby hml hown hnm hlk hret hZ X0 e0
  have N0 : Fr n0 [] := Fr.nil n0
  refine own_go (f' := (mkF m 0 #[.val (.int (4 : Int32))] [])) (fun t k => castTop (ef_rm_nf_4 m (4 : Int32)) k) ?_
  have K1 : Keep h0 h0 [] := Keep.refl _ _
  refine own_iloadN X0 hx (pc' := 1) (hb hby d20_0) rfl rfl ?_
  refine own_cSI X0 hx (pc' := 4) hZ hown (Wd95 hw) (Wd96 hw) (Wd51 hw) (Wd97 hw) (rm_nl_4 l Z a0 hw []   h0 n0 Z0  ) e0 N0 hml pd_2 (hb hby d20_1) 0 [(.int (4 : Int32))] [] (fun T2 L2 X2 e2 N2 => ?_)
  refine own_newP X2 hx (pc' := 6) hZ (aty := .byte) (Wd22 hw) e2 (hb hby d20_4) (by decide) 8 (by decide) (by decide) (by decide) (by decide) rfl (fun T3 h3 kc3 nb3 g3 X3 e3 E3 A3 => ?_)
  have ge_nb3 : n0 ≤ nb3 := Nat.le_trans Z0 (Nat.le_of_eq g3.symm)
  have gk_nb3 : h0.size ≤ nb3 := Nat.le_trans K1.1 (Nat.le_of_eq g3.symm)
  have Z4 : n0 ≤ h3.size := Nat.le_trans Z0 E3.1
  have K5 : Keep h0 h3 [] := K1.ext E3
  have V6a : Arv Z h3 nb3 kc3 .byte (8 : Int32) [] (.int (0 : Int32)) := Arv.new A3 (by decide)
  have V6b : Arv Z h3 nb3 kc3 .byte (8 : Int32) (List.replicate 8 (.int (0 : Int32))) (.int (0 : Int32)) := V6a.pad (pad_rep [] _ 8)
  have V6 : Arv Z h3 nb3 kc3 .byte (8 : Int32) [(.int (0 : Int32)), (.int (0 : Int32)), (.int (0 : Int32)), (.int (0 : Int32)), (.int (0 : Int32)), (.int (0 : Int32)), (.int (0 : Int32)), (.int (0 : Int32))] (.int (0 : Int32)) := V6b
  refine own_retA X3 hx hlk hret rfl rfl rfl (hb hby d20_6) (by decide) (by decide) ?_
  rw [e3]
  exact ⟨N2, K5, nb3, _, rfl, ge_nb3, gk_nb3, V6⟩

theorem d19_0 : decode jdk_52_method_14_code 0 = .ok (.iload_n 2, 1) := by decide +kernel
theorem d19_1 : decode jdk_52_method_14_code 1 = .ok (.invokestatic 107, 3) := by decide +kernel
theorem d19_4 : decode jdk_52_method_14_code 4 = .ok (.astore_n 3, 1) := by decide +kernel
theorem d19_5 : decode jdk_52_method_14_code 5 = .ok (.iconst 0, 1) := by decide +kernel
theorem d19_6 : decode jdk_52_method_14_code 6 = .ok (.istore 4, 2) := by decide +kernel
theorem d19_8 : decode jdk_52_method_14_code 8 = .ok (.iload 4, 2) := by decide +kernel
theorem d19_10 : decode jdk_52_method_14_code 10 = .ok (.iload_n 2, 1) := by decide +kernel
theorem d19_11 : decode jdk_52_method_14_code 11 = .ok (.if_icmp .ge 21, 3) := by decide +kernel
theorem d19_14 : decode jdk_52_method_14_code 14 = .ok (.aload_n 3, 1) := by decide +kernel
theorem d19_15 : decode jdk_52_method_14_code 15 = .ok (.iload 4, 2) := by decide +kernel
theorem d19_17 : decode jdk_52_method_14_code 17 = .ok (.aload_n 0, 1) := by decide +kernel
theorem d19_18 : decode jdk_52_method_14_code 18 = .ok (.iload_n 1, 1) := by decide +kernel
theorem d19_19 : decode jdk_52_method_14_code 19 = .ok (.caload, 1) := by decide +kernel
theorem d19_20 : decode jdk_52_method_14_code 20 = .ok (.invokestatic 111, 3) := by decide +kernel
theorem d19_23 : decode jdk_52_method_14_code 23 = .ok (.iinc 1 1, 3) := by decide +kernel
theorem d19_26 : decode jdk_52_method_14_code 26 = .ok (.iinc 4 1, 3) := by decide +kernel
theorem d19_29 : decode jdk_52_method_14_code 29 = .ok (.goto (-21), 3) := by decide +kernel
theorem d19_32 : decode jdk_52_method_14_code 32 = .ok (.aload_n 3, 1) := by decide +kernel
theorem d19_33 : decode jdk_52_method_14_code 33 = .ok (.areturn, 1) := by decide +kernel
def Qtb_1 (Z : State) (c0 : Int32) (h0 : Heap) (n0 : Nat) (v : Option Value) (h : Heap) (L : List Loc) : Prop := Fr n0 L ∧ Keep h0 h [] ∧ ∃ (ba : Addr) (kb : ClassId), v = some (.ref ba) ∧ n0 ≤ ba ∧ h0.size ≤ ba ∧ Arv Z h ba kb .byte (2 : Int32) [(.int (own_b0 c0)), (.int (own_b1 c0))] (.int (0 : Int32))
theorem ef_rm_tb_1 (m : MethodId) (x0 : Addr) (x1 : Int32) (x2 : Int32) : entryFrame m #[(.ref x0), (.int x1), (.int x2)] 5 = mkF m 0 #[.val (.ref x0), .val (.int x1), .val (.int x2), .unset, .unset] [] := by first | (simp [entryFrame, mkF, argsToLocals, Value.category, maxLocals]; done) | rfl
theorem pf_17 : plainFor (⟨"java/lang/StringUTF16", "toBytes", "([CII)[B"⟩ : MethodName) = true := by apply plainFor_of_name; first | (simp [plainName, overriddenIn]; done) | decide +kernel
theorem Wd94 {a0 : Array Value} {Z : State} (hw : ∀ d ∈ tables_1, d.before a0 Z = true) : (Jvm.Cond.code ({ cls := "java/lang/StringUTF16", name := "newBytesFor", desc := "(I)[B" } : Jvm.MethodName) jdk_52_method_2_code (1 : Nat) (Option.some (Jvm.ClassFile.FieldType.array Jvm.ClassFile.FieldType.byte))).before a0 Z = true := hw _ (List.mem_of_getElem? (i := 94) rfl)
theorem pd_3 : parseMethodDescriptor "(I)[B" = some ⟨[.int], some (.array .byte)⟩ := by decide +kernel
theorem Wd92 {a0 : Array Value} {Z : State} (hw : ∀ d ∈ tables_1, d.before a0 Z = true) : (Jvm.Cond.methodLink "java/lang/StringUTF16" (107 : Nat) ({ cls := "java/lang/StringUTF16", name := "newBytesFor", desc := "(I)[B" } : Jvm.MethodName)).before a0 Z = true := hw _ (List.mem_of_getElem? (i := 92) rfl)
theorem Wd93 {a0 : Array Value} {Z : State} (hw : ∀ d ∈ tables_1, d.before a0 Z = true) : (Jvm.Cond.static ({ cls := "java/lang/StringUTF16", name := "newBytesFor", desc := "(I)[B" } : Jvm.MethodName)).before a0 Z = true := hw _ (List.mem_of_getElem? (i := 93) rfl)
theorem Wd101 {a0 : Array Value} {Z : State} (hw : ∀ d ∈ tables_1, d.before a0 Z = true) : (Jvm.Cond.code ({ cls := "java/lang/StringUTF16", name := "putChar", desc := "([BII)V" } : Jvm.MethodName) jdk_52_method_4_code (3 : Nat) (Option.none : Option Jvm.ClassFile.FieldType)).before a0 Z = true := hw _ (List.mem_of_getElem? (i := 101) rfl)
theorem pd_4 : parseMethodDescriptor "([BII)V" = some ⟨[(.array .byte), .int, .int], none⟩ := by decide +kernel
theorem Wd99 {a0 : Array Value} {Z : State} (hw : ∀ d ∈ tables_1, d.before a0 Z = true) : (Jvm.Cond.methodLink "java/lang/StringUTF16" (111 : Nat) ({ cls := "java/lang/StringUTF16", name := "putChar", desc := "([BII)V" } : Jvm.MethodName)).before a0 Z = true := hw _ (List.mem_of_getElem? (i := 99) rfl)
theorem Wd100 {a0 : Array Value} {Z : State} (hw : ∀ d ∈ tables_1, d.before a0 Z = true) : (Jvm.Cond.static ({ cls := "java/lang/StringUTF16", name := "putChar", desc := "([BII)V" } : Jvm.MethodName)).before a0 Z = true := hw _ (List.mem_of_getElem? (i := 100) rfl)
set_option maxRecDepth 65536 in
set_option maxHeartbeats 40000000 in
theorem rm_tb_1 (l : Launch) (Z : State) (a0 : Array Value) (hw : ∀ d ∈ tables_1, d.before a0 Z = true) (ws : List Jvm.Cond) (cz : Int32) (sv : Value) (hcz : ¬ cz = (0 : Int32)) (hsv : sv.isRef = true) (ca : Addr) (ka : ClassId) (c0 : Int32) (h0 : Heap) (n0 : Nat) (Z0 : n0 ≤ h0.size) (V_c : Arv Z h0 ca ka .char (1 : Int32) [(.int c0)] (.int (0 : Int32))) (B_ST : own_ST n0 Z h0 cz sv) :
    own_M l Z (⟨"java/lang/StringUTF16", "toBytes", "([CII)[B"⟩ : MethodName) jdk_52_method_14_code 5 (some (.array .byte)) ws ({ frames := 2, cells := 1, slots := 2, locals := 24 } : Room) #[(.ref ca), (.int (0 : Int32)), (.int (1 : Int32))] h0  (Qtb_1 Z c0 h0 n0) := by
  refine own_bodyM pf_17 ?_
  intro p e s m below meth c s₁ hx hby hml hown hnm hlk hret hZ X0 e0
  have N0 : Fr n0 [] := Fr.nil n0
  refine own_go (f' := (mkF m 0 #[.val (.ref ca), .val (.int (0 : Int32)), .val (.int (1 : Int32)), .unset, .unset] [])) (fun t k => castTop (ef_rm_tb_1 m ca (0 : Int32) (1 : Int32)) k) ?_
  have K1 : Keep h0 h0 [] := Keep.refl _ _
  refine own_iloadN X0 hx (pc' := 1) (hb hby d19_0) rfl rfl ?_
  refine own_callS X0 hx (pc' := 4) hZ hown (Wd92 hw) (Wd93 hw) (Wd51 hw) (Wd94 hw) (by decide) (rm_nf_1 l Z a0 hw []   h0 n0 Z0  ) e0 0 (by decide) (by decide) (by decide) (by decide) [(.int (1 : Int32))] [] (by rw [hml]; rfl) (lenOf pd_3 rfl) rfl rfl (Nat.le_of_eq rfl) (hb hby d19_1) rfl (fun v2 T2 L2 X2 hQ2 => ?_)
  obtain ⟨Nq2, K2, ba, kb, rfl, gb2, gz2, V2⟩ := hQ2
  have N3 := Fr.app N0 Nq2
  have ne_ca_ba_4 : ca ≠ ba := Nat.ne_of_lt (Nat.lt_of_lt_of_le V_c.lt gz2)
  have gk_ba := Nat.le_trans K1.1 gz2
  have Z5 : n0 ≤ T2.heap.size := Nat.le_trans Z0 K2.1
  have K6 : Keep h0 T2.heap [] := Keep.trans K1 K2 all0
  have F7 := (B_ST.keep K2 (fun x hx => absurd hx List.not_mem_nil))
  have F8 := (V_c.keep K2 nin0)
  show own_G p.tables e below _ T2 (mkF m 4 #[.val (.ref ca), .val (.int (0 : Int32)), .val (.int (1 : Int32)), .unset, .unset] [(.ref ba)])
  refine own_astoreN X2 hx (pc' := 5) (Ls' := #[.val (.ref ca), .val (.int (0 : Int32)), .val (.int (1 : Int32)), .val (.ref ba), .unset]) (hb hby d19_4) rfl rfl rfl ?_
  refine own_iconst X2 hx (pc' := 6) (0 : Int32) (hb hby d19_5) rfl rfl ?_
  refine own_istore X2 hx (pc' := 8) (Ls' := #[.val (.ref ca), .val (.int (0 : Int32)), .val (.int (1 : Int32)), .val (.ref ba), .val (.int (0 : Int32))]) (hb hby d19_6) rfl rfl ?_
  refine own_iload X2 hx (pc' := 10) (hb hby d19_8) rfl rfl ?_
  refine own_iloadN X2 hx (pc' := 11) (hb hby d19_10) rfl rfl ?_
  refine own_icmpNo X2 hx (pc' := 14) (hb hby d19_11) (tlt (by decide : (0 : Int32) < (1 : Int32))).2.1 rfl ?_
  refine own_aloadN X2 hx (pc' := 15) (hb hby d19_14) rfl rfl rfl ?_
  refine own_iload X2 hx (pc' := 17) (hb hby d19_15) rfl rfl ?_
  refine own_aloadN X2 hx (pc' := 18) (hb hby d19_17) rfl rfl rfl ?_
  refine own_iloadN X2 hx (pc' := 19) (hb hby d19_18) rfl rfl ?_
  obtain ⟨cl9, Ar9, q9, S9, M9, H9, G9⟩ := id F8
  refine own_caload X2 hx (pc' := 20) hZ (v := c0) rfl Ar9 (inb_of S9 ⟨by decide, by decide⟩) (Has.at H9 (inb_of S9 ⟨by decide, by decide⟩) rfl) (hb hby d19_19) rfl ?_
  refine own_callS X2 hx (pc' := 23) hZ hown (Wd99 hw) (Wd100 hw) (Wd51 hw) (Wd101 hw) (by decide) (rm_pc_0 l Z a0 hw [] cz sv hcz hsv ba kb (2 : Int32) [(.int (0 : Int32)), (.int (0 : Int32))] c0 T2.heap n0 Z5 gb2 V2 (by decide) (by decide) (Nat.le_of_ble_eq_true rfl) F7) rfl 0 (by decide) (by decide) (by decide) (by decide) [(.ref ba), (.int (0 : Int32)), (.int c0)] [] (by rw [hml]; rfl) (lenOf pd_4 rfl) rfl rfl (Nat.le_of_eq rfl) (hb hby d19_20) rfl (fun v10 T10 L10 X10 hQ10 => ?_)
  obtain ⟨rfl, Nq10, K10, V10⟩ := hQ10
  have N11 := Fr.app N3 Nq10
  have Z12 : n0 ≤ T10.heap.size := Nat.le_trans Z5 K10.1
  have K13 : Keep h0 T10.heap [] := Keep.trans K6 K10 (allS (Or.inr gk_ba) all0)
  have F14 := (F7.keep K10 (own_allge gb2 (fun x hx => absurd hx List.not_mem_nil)))
  have F15 := (F8.keep K10 (ninS ne_ca_ba_4 nin0))
  have V10 : Arv Z T10.heap ba kb .byte (2 : Int32) [(.int (own_b0 c0)), (.int (own_b1 c0))] (.int (0 : Int32)) := V10
  show own_G p.tables e below _ T10 (mkF m 23 #[.val (.ref ca), .val (.int (0 : Int32)), .val (.int (1 : Int32)), .val (.ref ba), .val (.int (0 : Int32))] [])
  refine own_iinc X10 hx (pc' := 26) (Ls' := #[.val (.ref ca), .val (.int (1 : Int32)), .val (.int (1 : Int32)), .val (.ref ba), .val (.int (0 : Int32))]) (hb hby d19_23) rfl rfl rfl ?_
  refine own_iinc X10 hx (pc' := 29) (Ls' := #[.val (.ref ca), .val (.int (1 : Int32)), .val (.int (1 : Int32)), .val (.ref ba), .val (.int (1 : Int32))]) (hb hby d19_26) rfl rfl rfl ?_
  refine own_goto X10 hx (pc' := 8) (hb hby d19_29) (by decide) (by decide) ?_
  refine own_iload X10 hx (pc' := 10) (hb hby d19_8) rfl rfl ?_
  refine own_iloadN X10 hx (pc' := 11) (hb hby d19_10) rfl rfl ?_
  refine own_icmpYes X10 hx (pc' := 32) (hb hby d19_11) (flt (by decide : ¬ ((1 : Int32) < (1 : Int32)))).2.1 (by decide) (by decide) ?_
  refine own_aloadN X10 hx (pc' := 33) (hb hby d19_32) rfl rfl rfl ?_
  refine own_retA X10 hx hlk hret rfl rfl rfl (hb hby d19_33) (by decide) (by decide) ?_
  exact ⟨N11, K13, ba, _, rfl, gb2, gk_ba, V10⟩

def Qtb_2 (Z : State) (c0 c1 : Int32) (h0 : Heap) (n0 : Nat) (v : Option Value) (h : Heap) (L : List Loc) : Prop := Fr n0 L ∧ Keep h0 h [] ∧ ∃ (ba : Addr) (kb : ClassId), v = some (.ref ba) ∧ n0 ≤ ba ∧ h0.size ≤ ba ∧ Arv Z h ba kb .byte (4 : Int32) [(.int (own_b0 c0)), (.int (own_b1 c0)), (.int (own_b0 c1)), (.int (own_b1 c1))] (.int (0 : Int32))
theorem ef_rm_tb_2 (m : MethodId) (x0 : Addr) (x1 : Int32) (x2 : Int32) : entryFrame m #[(.ref x0), (.int x1), (.int x2)] 5 = mkF m 0 #[.val (.ref x0), .val (.int x1), .val (.int x2), .unset, .unset] [] := by first | (simp [entryFrame, mkF, argsToLocals, Value.category, maxLocals]; done) | rfl
set_option maxRecDepth 65536 in
set_option maxHeartbeats 40000000 in
theorem rm_tb_2 (l : Launch) (Z : State) (a0 : Array Value) (hw : ∀ d ∈ tables_1, d.before a0 Z = true) (ws : List Jvm.Cond) (cz : Int32) (sv : Value) (hcz : ¬ cz = (0 : Int32)) (hsv : sv.isRef = true) (ca : Addr) (ka : ClassId) (c0 c1 : Int32) (h0 : Heap) (n0 : Nat) (Z0 : n0 ≤ h0.size) (V_c : Arv Z h0 ca ka .char (2 : Int32) [(.int c0), (.int c1)] (.int (0 : Int32))) (B_ST : own_ST n0 Z h0 cz sv) :
    own_M l Z (⟨"java/lang/StringUTF16", "toBytes", "([CII)[B"⟩ : MethodName) jdk_52_method_14_code 5 (some (.array .byte)) ws ({ frames := 2, cells := 1, slots := 4, locals := 24 } : Room) #[(.ref ca), (.int (0 : Int32)), (.int (2 : Int32))] h0  (Qtb_2 Z c0 c1 h0 n0) := by
  refine own_bodyM pf_17 ?_
  intro p e s m below meth c s₁ hx hby hml hown hnm hlk hret hZ X0 e0
  have N0 : Fr n0 [] := Fr.nil n0
  refine own_go (f' := (mkF m 0 #[.val (.ref ca), .val (.int (0 : Int32)), .val (.int (2 : Int32)), .unset, .unset] [])) (fun t k => castTop (ef_rm_tb_2 m ca (0 : Int32) (2 : Int32)) k) ?_
  have K1 : Keep h0 h0 [] := Keep.refl _ _
  refine own_iloadN X0 hx (pc' := 1) (hb hby d19_0) rfl rfl ?_
  refine own_callS X0 hx (pc' := 4) hZ hown (Wd92 hw) (Wd93 hw) (Wd51 hw) (Wd94 hw) (by decide) (rm_nf_2 l Z a0 hw []   h0 n0 Z0  ) e0 0 (by decide) (by decide) (by decide) (by decide) [(.int (2 : Int32))] [] (by rw [hml]; rfl) (lenOf pd_3 rfl) rfl rfl (Nat.le_of_eq rfl) (hb hby d19_1) rfl (fun v2 T2 L2 X2 hQ2 => ?_)
  obtain ⟨Nq2, K2, ba, kb, rfl, gb2, gz2, V2⟩ := hQ2
  have N3 := Fr.app N0 Nq2
  have ne_ca_ba_4 : ca ≠ ba := Nat.ne_of_lt (Nat.lt_of_lt_of_le V_c.lt gz2)
  have gk_ba := Nat.le_trans K1.1 gz2
  have Z5 : n0 ≤ T2.heap.size := Nat.le_trans Z0 K2.1
  have K6 : Keep h0 T2.heap [] := Keep.trans K1 K2 all0
  have F7 := (B_ST.keep K2 (fun x hx => absurd hx List.not_mem_nil))
  have F8 := (V_c.keep K2 nin0)
  show own_G p.tables e below _ T2 (mkF m 4 #[.val (.ref ca), .val (.int (0 : Int32)), .val (.int (2 : Int32)), .unset, .unset] [(.ref ba)])
  refine own_astoreN X2 hx (pc' := 5) (Ls' := #[.val (.ref ca), .val (.int (0 : Int32)), .val (.int (2 : Int32)), .val (.ref ba), .unset]) (hb hby d19_4) rfl rfl rfl ?_
  refine own_iconst X2 hx (pc' := 6) (0 : Int32) (hb hby d19_5) rfl rfl ?_
  refine own_istore X2 hx (pc' := 8) (Ls' := #[.val (.ref ca), .val (.int (0 : Int32)), .val (.int (2 : Int32)), .val (.ref ba), .val (.int (0 : Int32))]) (hb hby d19_6) rfl rfl ?_
  refine own_iload X2 hx (pc' := 10) (hb hby d19_8) rfl rfl ?_
  refine own_iloadN X2 hx (pc' := 11) (hb hby d19_10) rfl rfl ?_
  refine own_icmpNo X2 hx (pc' := 14) (hb hby d19_11) (tlt (by decide : (0 : Int32) < (2 : Int32))).2.1 rfl ?_
  refine own_aloadN X2 hx (pc' := 15) (hb hby d19_14) rfl rfl rfl ?_
  refine own_iload X2 hx (pc' := 17) (hb hby d19_15) rfl rfl ?_
  refine own_aloadN X2 hx (pc' := 18) (hb hby d19_17) rfl rfl rfl ?_
  refine own_iloadN X2 hx (pc' := 19) (hb hby d19_18) rfl rfl ?_
  obtain ⟨cl9, Ar9, q9, S9, M9, H9, G9⟩ := id F8
  refine own_caload X2 hx (pc' := 20) hZ (v := c0) rfl Ar9 (inb_of S9 ⟨by decide, by decide⟩) (Has.at H9 (inb_of S9 ⟨by decide, by decide⟩) rfl) (hb hby d19_19) rfl ?_
  refine own_callS X2 hx (pc' := 23) hZ hown (Wd99 hw) (Wd100 hw) (Wd51 hw) (Wd101 hw) (by decide) (rm_pc_0 l Z a0 hw [] cz sv hcz hsv ba kb (4 : Int32) [(.int (0 : Int32)), (.int (0 : Int32)), (.int (0 : Int32)), (.int (0 : Int32))] c0 T2.heap n0 Z5 gb2 V2 (by decide) (by decide) (Nat.le_of_ble_eq_true rfl) F7) rfl 0 (by decide) (by decide) (by decide) (by decide) [(.ref ba), (.int (0 : Int32)), (.int c0)] [] (by rw [hml]; rfl) (lenOf pd_4 rfl) rfl rfl (Nat.le_of_eq rfl) (hb hby d19_20) rfl (fun v10 T10 L10 X10 hQ10 => ?_)
  obtain ⟨rfl, Nq10, K10, V10⟩ := hQ10
  have N11 := Fr.app N3 Nq10
  have Z12 : n0 ≤ T10.heap.size := Nat.le_trans Z5 K10.1
  have K13 : Keep h0 T10.heap [] := Keep.trans K6 K10 (allS (Or.inr gk_ba) all0)
  have F14 := (F7.keep K10 (own_allge gb2 (fun x hx => absurd hx List.not_mem_nil)))
  have F15 := (F8.keep K10 (ninS ne_ca_ba_4 nin0))
  have V10 : Arv Z T10.heap ba kb .byte (4 : Int32) [(.int (own_b0 c0)), (.int (own_b1 c0)), (.int (0 : Int32)), (.int (0 : Int32))] (.int (0 : Int32)) := V10
  show own_G p.tables e below _ T10 (mkF m 23 #[.val (.ref ca), .val (.int (0 : Int32)), .val (.int (2 : Int32)), .val (.ref ba), .val (.int (0 : Int32))] [])
  refine own_iinc X10 hx (pc' := 26) (Ls' := #[.val (.ref ca), .val (.int (1 : Int32)), .val (.int (2 : Int32)), .val (.ref ba), .val (.int (0 : Int32))]) (hb hby d19_23) rfl rfl rfl ?_
  refine own_iinc X10 hx (pc' := 29) (Ls' := #[.val (.ref ca), .val (.int (1 : Int32)), .val (.int (2 : Int32)), .val (.ref ba), .val (.int (1 : Int32))]) (hb hby d19_26) rfl rfl rfl ?_
  refine own_goto X10 hx (pc' := 8) (hb hby d19_29) (by decide) (by decide) ?_
  refine own_iload X10 hx (pc' := 10) (hb hby d19_8) rfl rfl ?_
  refine own_iloadN X10 hx (pc' := 11) (hb hby d19_10) rfl rfl ?_
  refine own_icmpNo X10 hx (pc' := 14) (hb hby d19_11) (tlt (by decide : (1 : Int32) < (2 : Int32))).2.1 rfl ?_
  refine own_aloadN X10 hx (pc' := 15) (hb hby d19_14) rfl rfl rfl ?_
  refine own_iload X10 hx (pc' := 17) (hb hby d19_15) rfl rfl ?_
  refine own_aloadN X10 hx (pc' := 18) (hb hby d19_17) rfl rfl rfl ?_
  refine own_iloadN X10 hx (pc' := 19) (hb hby d19_18) rfl rfl ?_
  obtain ⟨cl16, Ar16, q16, S16, M16, H16, G16⟩ := id F15
  refine own_caload X10 hx (pc' := 20) hZ (v := c1) rfl Ar16 (inb_of S16 ⟨by decide, by decide⟩) (Has.at H16 (inb_of S16 ⟨by decide, by decide⟩) rfl) (hb hby d19_19) rfl ?_
  refine own_callS X10 hx (pc' := 23) hZ hown (Wd99 hw) (Wd100 hw) (Wd51 hw) (Wd101 hw) (by decide) (rm_pc_1 l Z a0 hw [] cz sv hcz hsv ba kb (4 : Int32) [(.int (own_b0 c0)), (.int (own_b1 c0)), (.int (0 : Int32)), (.int (0 : Int32))] c1 T10.heap n0 Z12 gb2 V10 (by decide) (by decide) (Nat.le_of_ble_eq_true rfl) F14) rfl 0 (by decide) (by decide) (by decide) (by decide) [(.ref ba), (.int (1 : Int32)), (.int c1)] [] (by rw [hml]; rfl) (lenOf pd_4 rfl) rfl rfl (Nat.le_of_eq rfl) (hb hby d19_20) rfl (fun v17 T17 L17 X17 hQ17 => ?_)
  obtain ⟨rfl, Nq17, K17, V17⟩ := hQ17
  have N18 := Fr.app N11 Nq17
  have Z19 : n0 ≤ T17.heap.size := Nat.le_trans Z12 K17.1
  have K20 : Keep h0 T17.heap [] := Keep.trans K13 K17 (allS (Or.inr gk_ba) all0)
  have F21 := (F14.keep K17 (own_allge gb2 (fun x hx => absurd hx List.not_mem_nil)))
  have F22 := (F15.keep K17 (ninS ne_ca_ba_4 nin0))
  have V17 : Arv Z T17.heap ba kb .byte (4 : Int32) [(.int (own_b0 c0)), (.int (own_b1 c0)), (.int (own_b0 c1)), (.int (own_b1 c1))] (.int (0 : Int32)) := V17
  show own_G p.tables e below _ T17 (mkF m 23 #[.val (.ref ca), .val (.int (1 : Int32)), .val (.int (2 : Int32)), .val (.ref ba), .val (.int (1 : Int32))] [])
  refine own_iinc X17 hx (pc' := 26) (Ls' := #[.val (.ref ca), .val (.int (2 : Int32)), .val (.int (2 : Int32)), .val (.ref ba), .val (.int (1 : Int32))]) (hb hby d19_23) rfl rfl rfl ?_
  refine own_iinc X17 hx (pc' := 29) (Ls' := #[.val (.ref ca), .val (.int (2 : Int32)), .val (.int (2 : Int32)), .val (.ref ba), .val (.int (2 : Int32))]) (hb hby d19_26) rfl rfl rfl ?_
  refine own_goto X17 hx (pc' := 8) (hb hby d19_29) (by decide) (by decide) ?_
  refine own_iload X17 hx (pc' := 10) (hb hby d19_8) rfl rfl ?_
  refine own_iloadN X17 hx (pc' := 11) (hb hby d19_10) rfl rfl ?_
  refine own_icmpYes X17 hx (pc' := 32) (hb hby d19_11) (flt (by decide : ¬ ((2 : Int32) < (2 : Int32)))).2.1 (by decide) (by decide) ?_
  refine own_aloadN X17 hx (pc' := 33) (hb hby d19_32) rfl rfl rfl ?_
  refine own_retA X17 hx hlk hret rfl rfl rfl (hb hby d19_33) (by decide) (by decide) ?_
  exact ⟨N18, K20, ba, _, rfl, gb2, gk_ba, V17⟩

def Qtb_3 (Z : State) (c0 c1 c2 : Int32) (h0 : Heap) (n0 : Nat) (v : Option Value) (h : Heap) (L : List Loc) : Prop := Fr n0 L ∧ Keep h0 h [] ∧ ∃ (ba : Addr) (kb : ClassId), v = some (.ref ba) ∧ n0 ≤ ba ∧ h0.size ≤ ba ∧ Arv Z h ba kb .byte (6 : Int32) [(.int (own_b0 c0)), (.int (own_b1 c0)), (.int (own_b0 c1)), (.int (own_b1 c1)), (.int (own_b0 c2)), (.int (own_b1 c2))] (.int (0 : Int32))
theorem ef_rm_tb_3 (m : MethodId) (x0 : Addr) (x1 : Int32) (x2 : Int32) : entryFrame m #[(.ref x0), (.int x1), (.int x2)] 5 = mkF m 0 #[.val (.ref x0), .val (.int x1), .val (.int x2), .unset, .unset] [] := by first | (simp [entryFrame, mkF, argsToLocals, Value.category, maxLocals]; done) | rfl
set_option maxRecDepth 65536 in
set_option maxHeartbeats 40000000 in
theorem rm_tb_3 (l : Launch) (Z : State) (a0 : Array Value) (hw : ∀ d ∈ tables_1, d.before a0 Z = true) (ws : List Jvm.Cond) (cz : Int32) (sv : Value) (hcz : ¬ cz = (0 : Int32)) (hsv : sv.isRef = true) (ca : Addr) (ka : ClassId) (c0 c1 c2 : Int32) (h0 : Heap) (n0 : Nat) (Z0 : n0 ≤ h0.size) (V_c : Arv Z h0 ca ka .char (3 : Int32) [(.int c0), (.int c1), (.int c2)] (.int (0 : Int32))) (B_ST : own_ST n0 Z h0 cz sv) :
    own_M l Z (⟨"java/lang/StringUTF16", "toBytes", "([CII)[B"⟩ : MethodName) jdk_52_method_14_code 5 (some (.array .byte)) ws ({ frames := 2, cells := 1, slots := 6, locals := 24 } : Room) #[(.ref ca), (.int (0 : Int32)), (.int (3 : Int32))] h0  (Qtb_3 Z c0 c1 c2 h0 n0) := by
  refine own_bodyM pf_17 ?_
  intro p e s m below meth c s₁ hx hby hml hown hnm hlk hret hZ X0 e0
  have N0 : Fr n0 [] := Fr.nil n0
  refine own_go (f' := (mkF m 0 #[.val (.ref ca), .val (.int (0 : Int32)), .val (.int (3 : Int32)), .unset, .unset] [])) (fun t k => castTop (ef_rm_tb_3 m ca (0 : Int32) (3 : Int32)) k) ?_
  have K1 : Keep h0 h0 [] := Keep.refl _ _
  refine own_iloadN X0 hx (pc' := 1) (hb hby d19_0) rfl rfl ?_
  refine own_callS X0 hx (pc' := 4) hZ hown (Wd92 hw) (Wd93 hw) (Wd51 hw) (Wd94 hw) (by decide) (rm_nf_3 l Z a0 hw []   h0 n0 Z0  ) e0 0 (by decide) (by decide) (by decide) (by decide) [(.int (3 : Int32))] [] (by rw [hml]; rfl) (lenOf pd_3 rfl) rfl rfl (Nat.le_of_eq rfl) (hb hby d19_1) rfl (fun v2 T2 L2 X2 hQ2 => ?_)
  obtain ⟨Nq2, K2, ba, kb, rfl, gb2, gz2, V2⟩ := hQ2
  have N3 := Fr.app N0 Nq2
  have ne_ca_ba_4 : ca ≠ ba := Nat.ne_of_lt (Nat.lt_of_lt_of_le V_c.lt gz2)
  have gk_ba := Nat.le_trans K1.1 gz2
  have Z5 : n0 ≤ T2.heap.size := Nat.le_trans Z0 K2.1
  have K6 : Keep h0 T2.heap [] := Keep.trans K1 K2 all0
  have F7 := (B_ST.keep K2 (fun x hx => absurd hx List.not_mem_nil))
  have F8 := (V_c.keep K2 nin0)
  show own_G p.tables e below _ T2 (mkF m 4 #[.val (.ref ca), .val (.int (0 : Int32)), .val (.int (3 : Int32)), .unset, .unset] [(.ref ba)])
  refine own_astoreN X2 hx (pc' := 5) (Ls' := #[.val (.ref ca), .val (.int (0 : Int32)), .val (.int (3 : Int32)), .val (.ref ba), .unset]) (hb hby d19_4) rfl rfl rfl ?_
  refine own_iconst X2 hx (pc' := 6) (0 : Int32) (hb hby d19_5) rfl rfl ?_
  refine own_istore X2 hx (pc' := 8) (Ls' := #[.val (.ref ca), .val (.int (0 : Int32)), .val (.int (3 : Int32)), .val (.ref ba), .val (.int (0 : Int32))]) (hb hby d19_6) rfl rfl ?_
  refine own_iload X2 hx (pc' := 10) (hb hby d19_8) rfl rfl ?_
  refine own_iloadN X2 hx (pc' := 11) (hb hby d19_10) rfl rfl ?_
  refine own_icmpNo X2 hx (pc' := 14) (hb hby d19_11) (tlt (by decide : (0 : Int32) < (3 : Int32))).2.1 rfl ?_
  refine own_aloadN X2 hx (pc' := 15) (hb hby d19_14) rfl rfl rfl ?_
  refine own_iload X2 hx (pc' := 17) (hb hby d19_15) rfl rfl ?_
  refine own_aloadN X2 hx (pc' := 18) (hb hby d19_17) rfl rfl rfl ?_
  refine own_iloadN X2 hx (pc' := 19) (hb hby d19_18) rfl rfl ?_
  obtain ⟨cl9, Ar9, q9, S9, M9, H9, G9⟩ := id F8
  refine own_caload X2 hx (pc' := 20) hZ (v := c0) rfl Ar9 (inb_of S9 ⟨by decide, by decide⟩) (Has.at H9 (inb_of S9 ⟨by decide, by decide⟩) rfl) (hb hby d19_19) rfl ?_
  refine own_callS X2 hx (pc' := 23) hZ hown (Wd99 hw) (Wd100 hw) (Wd51 hw) (Wd101 hw) (by decide) (rm_pc_0 l Z a0 hw [] cz sv hcz hsv ba kb (6 : Int32) [(.int (0 : Int32)), (.int (0 : Int32)), (.int (0 : Int32)), (.int (0 : Int32)), (.int (0 : Int32)), (.int (0 : Int32))] c0 T2.heap n0 Z5 gb2 V2 (by decide) (by decide) (Nat.le_of_ble_eq_true rfl) F7) rfl 0 (by decide) (by decide) (by decide) (by decide) [(.ref ba), (.int (0 : Int32)), (.int c0)] [] (by rw [hml]; rfl) (lenOf pd_4 rfl) rfl rfl (Nat.le_of_eq rfl) (hb hby d19_20) rfl (fun v10 T10 L10 X10 hQ10 => ?_)
  obtain ⟨rfl, Nq10, K10, V10⟩ := hQ10
  have N11 := Fr.app N3 Nq10
  have Z12 : n0 ≤ T10.heap.size := Nat.le_trans Z5 K10.1
  have K13 : Keep h0 T10.heap [] := Keep.trans K6 K10 (allS (Or.inr gk_ba) all0)
  have F14 := (F7.keep K10 (own_allge gb2 (fun x hx => absurd hx List.not_mem_nil)))
  have F15 := (F8.keep K10 (ninS ne_ca_ba_4 nin0))
  have V10 : Arv Z T10.heap ba kb .byte (6 : Int32) [(.int (own_b0 c0)), (.int (own_b1 c0)), (.int (0 : Int32)), (.int (0 : Int32)), (.int (0 : Int32)), (.int (0 : Int32))] (.int (0 : Int32)) := V10
  show own_G p.tables e below _ T10 (mkF m 23 #[.val (.ref ca), .val (.int (0 : Int32)), .val (.int (3 : Int32)), .val (.ref ba), .val (.int (0 : Int32))] [])
  refine own_iinc X10 hx (pc' := 26) (Ls' := #[.val (.ref ca), .val (.int (1 : Int32)), .val (.int (3 : Int32)), .val (.ref ba), .val (.int (0 : Int32))]) (hb hby d19_23) rfl rfl rfl ?_
  refine own_iinc X10 hx (pc' := 29) (Ls' := #[.val (.ref ca), .val (.int (1 : Int32)), .val (.int (3 : Int32)), .val (.ref ba), .val (.int (1 : Int32))]) (hb hby d19_26) rfl rfl rfl ?_
  refine own_goto X10 hx (pc' := 8) (hb hby d19_29) (by decide) (by decide) ?_
  refine own_iload X10 hx (pc' := 10) (hb hby d19_8) rfl rfl ?_
  refine own_iloadN X10 hx (pc' := 11) (hb hby d19_10) rfl rfl ?_
  refine own_icmpNo X10 hx (pc' := 14) (hb hby d19_11) (tlt (by decide : (1 : Int32) < (3 : Int32))).2.1 rfl ?_
  refine own_aloadN X10 hx (pc' := 15) (hb hby d19_14) rfl rfl rfl ?_
  refine own_iload X10 hx (pc' := 17) (hb hby d19_15) rfl rfl ?_
  refine own_aloadN X10 hx (pc' := 18) (hb hby d19_17) rfl rfl rfl ?_
  refine own_iloadN X10 hx (pc' := 19) (hb hby d19_18) rfl rfl ?_
  obtain ⟨cl16, Ar16, q16, S16, M16, H16, G16⟩ := id F15
  refine own_caload X10 hx (pc' := 20) hZ (v := c1) rfl Ar16 (inb_of S16 ⟨by decide, by decide⟩) (Has.at H16 (inb_of S16 ⟨by decide, by decide⟩) rfl) (hb hby d19_19) rfl ?_
  refine own_callS X10 hx (pc' := 23) hZ hown (Wd99 hw) (Wd100 hw) (Wd51 hw) (Wd101 hw) (by decide) (rm_pc_1 l Z a0 hw [] cz sv hcz hsv ba kb (6 : Int32) [(.int (own_b0 c0)), (.int (own_b1 c0)), (.int (0 : Int32)), (.int (0 : Int32)), (.int (0 : Int32)), (.int (0 : Int32))] c1 T10.heap n0 Z12 gb2 V10 (by decide) (by decide) (Nat.le_of_ble_eq_true rfl) F14) rfl 0 (by decide) (by decide) (by decide) (by decide) [(.ref ba), (.int (1 : Int32)), (.int c1)] [] (by rw [hml]; rfl) (lenOf pd_4 rfl) rfl rfl (Nat.le_of_eq rfl) (hb hby d19_20) rfl (fun v17 T17 L17 X17 hQ17 => ?_)
  obtain ⟨rfl, Nq17, K17, V17⟩ := hQ17
  have N18 := Fr.app N11 Nq17
  have Z19 : n0 ≤ T17.heap.size := Nat.le_trans Z12 K17.1
  have K20 : Keep h0 T17.heap [] := Keep.trans K13 K17 (allS (Or.inr gk_ba) all0)
  have F21 := (F14.keep K17 (own_allge gb2 (fun x hx => absurd hx List.not_mem_nil)))
  have F22 := (F15.keep K17 (ninS ne_ca_ba_4 nin0))
  have V17 : Arv Z T17.heap ba kb .byte (6 : Int32) [(.int (own_b0 c0)), (.int (own_b1 c0)), (.int (own_b0 c1)), (.int (own_b1 c1)), (.int (0 : Int32)), (.int (0 : Int32))] (.int (0 : Int32)) := V17
  show own_G p.tables e below _ T17 (mkF m 23 #[.val (.ref ca), .val (.int (1 : Int32)), .val (.int (3 : Int32)), .val (.ref ba), .val (.int (1 : Int32))] [])
  refine own_iinc X17 hx (pc' := 26) (Ls' := #[.val (.ref ca), .val (.int (2 : Int32)), .val (.int (3 : Int32)), .val (.ref ba), .val (.int (1 : Int32))]) (hb hby d19_23) rfl rfl rfl ?_
  refine own_iinc X17 hx (pc' := 29) (Ls' := #[.val (.ref ca), .val (.int (2 : Int32)), .val (.int (3 : Int32)), .val (.ref ba), .val (.int (2 : Int32))]) (hb hby d19_26) rfl rfl rfl ?_
  refine own_goto X17 hx (pc' := 8) (hb hby d19_29) (by decide) (by decide) ?_
  refine own_iload X17 hx (pc' := 10) (hb hby d19_8) rfl rfl ?_
  refine own_iloadN X17 hx (pc' := 11) (hb hby d19_10) rfl rfl ?_
  refine own_icmpNo X17 hx (pc' := 14) (hb hby d19_11) (tlt (by decide : (2 : Int32) < (3 : Int32))).2.1 rfl ?_
  refine own_aloadN X17 hx (pc' := 15) (hb hby d19_14) rfl rfl rfl ?_
  refine own_iload X17 hx (pc' := 17) (hb hby d19_15) rfl rfl ?_
  refine own_aloadN X17 hx (pc' := 18) (hb hby d19_17) rfl rfl rfl ?_
  refine own_iloadN X17 hx (pc' := 19) (hb hby d19_18) rfl rfl ?_
  obtain ⟨cl23, Ar23, q23, S23, M23, H23, G23⟩ := id F22
  refine own_caload X17 hx (pc' := 20) hZ (v := c2) rfl Ar23 (inb_of S23 ⟨by decide, by decide⟩) (Has.at H23 (inb_of S23 ⟨by decide, by decide⟩) rfl) (hb hby d19_19) rfl ?_
  refine own_callS X17 hx (pc' := 23) hZ hown (Wd99 hw) (Wd100 hw) (Wd51 hw) (Wd101 hw) (by decide) (rm_pc_2 l Z a0 hw [] cz sv hcz hsv ba kb (6 : Int32) [(.int (own_b0 c0)), (.int (own_b1 c0)), (.int (own_b0 c1)), (.int (own_b1 c1)), (.int (0 : Int32)), (.int (0 : Int32))] c2 T17.heap n0 Z19 gb2 V17 (by decide) (by decide) (Nat.le_of_ble_eq_true rfl) F21) rfl 0 (by decide) (by decide) (by decide) (by decide) [(.ref ba), (.int (2 : Int32)), (.int c2)] [] (by rw [hml]; rfl) (lenOf pd_4 rfl) rfl rfl (Nat.le_of_eq rfl) (hb hby d19_20) rfl (fun v24 T24 L24 X24 hQ24 => ?_)
  obtain ⟨rfl, Nq24, K24, V24⟩ := hQ24
  have N25 := Fr.app N18 Nq24
  have Z26 : n0 ≤ T24.heap.size := Nat.le_trans Z19 K24.1
  have K27 : Keep h0 T24.heap [] := Keep.trans K20 K24 (allS (Or.inr gk_ba) all0)
  have F28 := (F21.keep K24 (own_allge gb2 (fun x hx => absurd hx List.not_mem_nil)))
  have F29 := (F22.keep K24 (ninS ne_ca_ba_4 nin0))
  have V24 : Arv Z T24.heap ba kb .byte (6 : Int32) [(.int (own_b0 c0)), (.int (own_b1 c0)), (.int (own_b0 c1)), (.int (own_b1 c1)), (.int (own_b0 c2)), (.int (own_b1 c2))] (.int (0 : Int32)) := V24
  show own_G p.tables e below _ T24 (mkF m 23 #[.val (.ref ca), .val (.int (2 : Int32)), .val (.int (3 : Int32)), .val (.ref ba), .val (.int (2 : Int32))] [])
  refine own_iinc X24 hx (pc' := 26) (Ls' := #[.val (.ref ca), .val (.int (3 : Int32)), .val (.int (3 : Int32)), .val (.ref ba), .val (.int (2 : Int32))]) (hb hby d19_23) rfl rfl rfl ?_
  refine own_iinc X24 hx (pc' := 29) (Ls' := #[.val (.ref ca), .val (.int (3 : Int32)), .val (.int (3 : Int32)), .val (.ref ba), .val (.int (3 : Int32))]) (hb hby d19_26) rfl rfl rfl ?_
  refine own_goto X24 hx (pc' := 8) (hb hby d19_29) (by decide) (by decide) ?_
  refine own_iload X24 hx (pc' := 10) (hb hby d19_8) rfl rfl ?_
  refine own_iloadN X24 hx (pc' := 11) (hb hby d19_10) rfl rfl ?_
  refine own_icmpYes X24 hx (pc' := 32) (hb hby d19_11) (flt (by decide : ¬ ((3 : Int32) < (3 : Int32)))).2.1 (by decide) (by decide) ?_
  refine own_aloadN X24 hx (pc' := 33) (hb hby d19_32) rfl rfl rfl ?_
  refine own_retA X24 hx hlk hret rfl rfl rfl (hb hby d19_33) (by decide) (by decide) ?_
  exact ⟨N25, K27, ba, _, rfl, gb2, gk_ba, V24⟩

def Qtb_4 (Z : State) (c0 c1 c2 c3 : Int32) (h0 : Heap) (n0 : Nat) (v : Option Value) (h : Heap) (L : List Loc) : Prop := Fr n0 L ∧ Keep h0 h [] ∧ ∃ (ba : Addr) (kb : ClassId), v = some (.ref ba) ∧ n0 ≤ ba ∧ h0.size ≤ ba ∧ Arv Z h ba kb .byte (8 : Int32) [(.int (own_b0 c0)), (.int (own_b1 c0)), (.int (own_b0 c1)), (.int (own_b1 c1)), (.int (own_b0 c2)), (.int (own_b1 c2)), (.int (own_b0 c3)), (.int (own_b1 c3))] (.int (0 : Int32))
theorem ef_rm_tb_4 (m : MethodId) (x0 : Addr) (x1 : Int32) (x2 : Int32) : entryFrame m #[(.ref x0), (.int x1), (.int x2)] 5 = mkF m 0 #[.val (.ref x0), .val (.int x1), .val (.int x2), .unset, .unset] [] := by first | (simp [entryFrame, mkF, argsToLocals, Value.category, maxLocals]; done) | rfl
set_option maxRecDepth 65536 in
set_option maxHeartbeats 40000000 in
theorem rm_tb_4 (l : Launch) (Z : State) (a0 : Array Value) (hw : ∀ d ∈ tables_1, d.before a0 Z = true) (ws : List Jvm.Cond) (cz : Int32) (sv : Value) (hcz : ¬ cz = (0 : Int32)) (hsv : sv.isRef = true) (ca : Addr) (ka : ClassId) (c0 c1 c2 c3 : Int32) (h0 : Heap) (n0 : Nat) (Z0 : n0 ≤ h0.size) (V_c : Arv Z h0 ca ka .char (4 : Int32) [(.int c0), (.int c1), (.int c2), (.int c3)] (.int (0 : Int32))) (B_ST : own_ST n0 Z h0 cz sv) :
    own_M l Z (⟨"java/lang/StringUTF16", "toBytes", "([CII)[B"⟩ : MethodName) jdk_52_method_14_code 5 (some (.array .byte)) ws ({ frames := 2, cells := 1, slots := 8, locals := 24 } : Room) #[(.ref ca), (.int (0 : Int32)), (.int (4 : Int32))] h0  (Qtb_4 Z c0 c1 c2 c3 h0 n0) := by
  refine own_bodyM pf_17 ?_
  intro p e s m below meth c s₁ hx hby hml hown hnm hlk hret hZ X0 e0
  have N0 : Fr n0 [] := Fr.nil n0
  refine own_go (f' := (mkF m 0 #[.val (.ref ca), .val (.int (0 : Int32)), .val (.int (4 : Int32)), .unset, .unset] [])) (fun t k => castTop (ef_rm_tb_4 m ca (0 : Int32) (4 : Int32)) k) ?_
  have K1 : Keep h0 h0 [] := Keep.refl _ _
  refine own_iloadN X0 hx (pc' := 1) (hb hby d19_0) rfl rfl ?_
  refine own_callS X0 hx (pc' := 4) hZ hown (Wd92 hw) (Wd93 hw) (Wd51 hw) (Wd94 hw) (by decide) (rm_nf_4 l Z a0 hw []   h0 n0 Z0  ) e0 0 (by decide) (by decide) (by decide) (by decide) [(.int (4 : Int32))] [] (by rw [hml]; rfl) (lenOf pd_3 rfl) rfl rfl (Nat.le_of_eq rfl) (hb hby d19_1) rfl (fun v2 T2 L2 X2 hQ2 => ?_)
  obtain ⟨Nq2, K2, ba, kb, rfl, gb2, gz2, V2⟩ := hQ2
  have N3 := Fr.app N0 Nq2
  have ne_ca_ba_4 : ca ≠ ba := Nat.ne_of_lt (Nat.lt_of_lt_of_le V_c.lt gz2)
  have gk_ba := Nat.le_trans K1.1 gz2
  have Z5 : n0 ≤ T2.heap.size := Nat.le_trans Z0 K2.1
  have K6 : Keep h0 T2.heap [] := Keep.trans K1 K2 all0
  have F7 := (B_ST.keep K2 (fun x hx => absurd hx List.not_mem_nil))
  have F8 := (V_c.keep K2 nin0)
  show own_G p.tables e below _ T2 (mkF m 4 #[.val (.ref ca), .val (.int (0 : Int32)), .val (.int (4 : Int32)), .unset, .unset] [(.ref ba)])
  refine own_astoreN X2 hx (pc' := 5) (Ls' := #[.val (.ref ca), .val (.int (0 : Int32)), .val (.int (4 : Int32)), .val (.ref ba), .unset]) (hb hby d19_4) rfl rfl rfl ?_
  refine own_iconst X2 hx (pc' := 6) (0 : Int32) (hb hby d19_5) rfl rfl ?_
  refine own_istore X2 hx (pc' := 8) (Ls' := #[.val (.ref ca), .val (.int (0 : Int32)), .val (.int (4 : Int32)), .val (.ref ba), .val (.int (0 : Int32))]) (hb hby d19_6) rfl rfl ?_
  refine own_iload X2 hx (pc' := 10) (hb hby d19_8) rfl rfl ?_
  refine own_iloadN X2 hx (pc' := 11) (hb hby d19_10) rfl rfl ?_
  refine own_icmpNo X2 hx (pc' := 14) (hb hby d19_11) (tlt (by decide : (0 : Int32) < (4 : Int32))).2.1 rfl ?_
  refine own_aloadN X2 hx (pc' := 15) (hb hby d19_14) rfl rfl rfl ?_
  refine own_iload X2 hx (pc' := 17) (hb hby d19_15) rfl rfl ?_
  refine own_aloadN X2 hx (pc' := 18) (hb hby d19_17) rfl rfl rfl ?_
  refine own_iloadN X2 hx (pc' := 19) (hb hby d19_18) rfl rfl ?_
  obtain ⟨cl9, Ar9, q9, S9, M9, H9, G9⟩ := id F8
  refine own_caload X2 hx (pc' := 20) hZ (v := c0) rfl Ar9 (inb_of S9 ⟨by decide, by decide⟩) (Has.at H9 (inb_of S9 ⟨by decide, by decide⟩) rfl) (hb hby d19_19) rfl ?_
  refine own_callS X2 hx (pc' := 23) hZ hown (Wd99 hw) (Wd100 hw) (Wd51 hw) (Wd101 hw) (by decide) (rm_pc_0 l Z a0 hw [] cz sv hcz hsv ba kb (8 : Int32) [(.int (0 : Int32)), (.int (0 : Int32)), (.int (0 : Int32)), (.int (0 : Int32)), (.int (0 : Int32)), (.int (0 : Int32)), (.int (0 : Int32)), (.int (0 : Int32))] c0 T2.heap n0 Z5 gb2 V2 (by decide) (by decide) (Nat.le_of_ble_eq_true rfl) F7) rfl 0 (by decide) (by decide) (by decide) (by decide) [(.ref ba), (.int (0 : Int32)), (.int c0)] [] (by rw [hml]; rfl) (lenOf pd_4 rfl) rfl rfl (Nat.le_of_eq rfl) (hb hby d19_20) rfl (fun v10 T10 L10 X10 hQ10 => ?_)
  obtain ⟨rfl, Nq10, K10, V10⟩ := hQ10
  have N11 := Fr.app N3 Nq10
  have Z12 : n0 ≤ T10.heap.size := Nat.le_trans Z5 K10.1
  have K13 : Keep h0 T10.heap [] := Keep.trans K6 K10 (allS (Or.inr gk_ba) all0)
  have F14 := (F7.keep K10 (own_allge gb2 (fun x hx => absurd hx List.not_mem_nil)))
  have F15 := (F8.keep K10 (ninS ne_ca_ba_4 nin0))
  have V10 : Arv Z T10.heap ba kb .byte (8 : Int32) [(.int (own_b0 c0)), (.int (own_b1 c0)), (.int (0 : Int32)), (.int (0 : Int32)), (.int (0 : Int32)), (.int (0 : Int32)), (.int (0 : Int32)), (.int (0 : Int32))] (.int (0 : Int32)) := V10
  show own_G p.tables e below _ T10 (mkF m 23 #[.val (.ref ca), .val (.int (0 : Int32)), .val (.int (4 : Int32)), .val (.ref ba), .val (.int (0 : Int32))] [])
  refine own_iinc X10 hx (pc' := 26) (Ls' := #[.val (.ref ca), .val (.int (1 : Int32)), .val (.int (4 : Int32)), .val (.ref ba), .val (.int (0 : Int32))]) (hb hby d19_23) rfl rfl rfl ?_
  refine own_iinc X10 hx (pc' := 29) (Ls' := #[.val (.ref ca), .val (.int (1 : Int32)), .val (.int (4 : Int32)), .val (.ref ba), .val (.int (1 : Int32))]) (hb hby d19_26) rfl rfl rfl ?_
  refine own_goto X10 hx (pc' := 8) (hb hby d19_29) (by decide) (by decide) ?_
  refine own_iload X10 hx (pc' := 10) (hb hby d19_8) rfl rfl ?_
  refine own_iloadN X10 hx (pc' := 11) (hb hby d19_10) rfl rfl ?_
  refine own_icmpNo X10 hx (pc' := 14) (hb hby d19_11) (tlt (by decide : (1 : Int32) < (4 : Int32))).2.1 rfl ?_
  refine own_aloadN X10 hx (pc' := 15) (hb hby d19_14) rfl rfl rfl ?_
  refine own_iload X10 hx (pc' := 17) (hb hby d19_15) rfl rfl ?_
  refine own_aloadN X10 hx (pc' := 18) (hb hby d19_17) rfl rfl rfl ?_
  refine own_iloadN X10 hx (pc' := 19) (hb hby d19_18) rfl rfl ?_
  obtain ⟨cl16, Ar16, q16, S16, M16, H16, G16⟩ := id F15
  refine own_caload X10 hx (pc' := 20) hZ (v := c1) rfl Ar16 (inb_of S16 ⟨by decide, by decide⟩) (Has.at H16 (inb_of S16 ⟨by decide, by decide⟩) rfl) (hb hby d19_19) rfl ?_
  refine own_callS X10 hx (pc' := 23) hZ hown (Wd99 hw) (Wd100 hw) (Wd51 hw) (Wd101 hw) (by decide) (rm_pc_1 l Z a0 hw [] cz sv hcz hsv ba kb (8 : Int32) [(.int (own_b0 c0)), (.int (own_b1 c0)), (.int (0 : Int32)), (.int (0 : Int32)), (.int (0 : Int32)), (.int (0 : Int32)), (.int (0 : Int32)), (.int (0 : Int32))] c1 T10.heap n0 Z12 gb2 V10 (by decide) (by decide) (Nat.le_of_ble_eq_true rfl) F14) rfl 0 (by decide) (by decide) (by decide) (by decide) [(.ref ba), (.int (1 : Int32)), (.int c1)] [] (by rw [hml]; rfl) (lenOf pd_4 rfl) rfl rfl (Nat.le_of_eq rfl) (hb hby d19_20) rfl (fun v17 T17 L17 X17 hQ17 => ?_)
  obtain ⟨rfl, Nq17, K17, V17⟩ := hQ17
  have N18 := Fr.app N11 Nq17
  have Z19 : n0 ≤ T17.heap.size := Nat.le_trans Z12 K17.1
  have K20 : Keep h0 T17.heap [] := Keep.trans K13 K17 (allS (Or.inr gk_ba) all0)
  have F21 := (F14.keep K17 (own_allge gb2 (fun x hx => absurd hx List.not_mem_nil)))
  have F22 := (F15.keep K17 (ninS ne_ca_ba_4 nin0))
  have V17 : Arv Z T17.heap ba kb .byte (8 : Int32) [(.int (own_b0 c0)), (.int (own_b1 c0)), (.int (own_b0 c1)), (.int (own_b1 c1)), (.int (0 : Int32)), (.int (0 : Int32)), (.int (0 : Int32)), (.int (0 : Int32))] (.int (0 : Int32)) := V17
  show own_G p.tables e below _ T17 (mkF m 23 #[.val (.ref ca), .val (.int (1 : Int32)), .val (.int (4 : Int32)), .val (.ref ba), .val (.int (1 : Int32))] [])
  refine own_iinc X17 hx (pc' := 26) (Ls' := #[.val (.ref ca), .val (.int (2 : Int32)), .val (.int (4 : Int32)), .val (.ref ba), .val (.int (1 : Int32))]) (hb hby d19_23) rfl rfl rfl ?_
  refine own_iinc X17 hx (pc' := 29) (Ls' := #[.val (.ref ca), .val (.int (2 : Int32)), .val (.int (4 : Int32)), .val (.ref ba), .val (.int (2 : Int32))]) (hb hby d19_26) rfl rfl rfl ?_
  refine own_goto X17 hx (pc' := 8) (hb hby d19_29) (by decide) (by decide) ?_
  refine own_iload X17 hx (pc' := 10) (hb hby d19_8) rfl rfl ?_
  refine own_iloadN X17 hx (pc' := 11) (hb hby d19_10) rfl rfl ?_
  refine own_icmpNo X17 hx (pc' := 14) (hb hby d19_11) (tlt (by decide : (2 : Int32) < (4 : Int32))).2.1 rfl ?_
  refine own_aloadN X17 hx (pc' := 15) (hb hby d19_14) rfl rfl rfl ?_
  refine own_iload X17 hx (pc' := 17) (hb hby d19_15) rfl rfl ?_
  refine own_aloadN X17 hx (pc' := 18) (hb hby d19_17) rfl rfl rfl ?_
  refine own_iloadN X17 hx (pc' := 19) (hb hby d19_18) rfl rfl ?_
  obtain ⟨cl23, Ar23, q23, S23, M23, H23, G23⟩ := id F22
  refine own_caload X17 hx (pc' := 20) hZ (v := c2) rfl Ar23 (inb_of S23 ⟨by decide, by decide⟩) (Has.at H23 (inb_of S23 ⟨by decide, by decide⟩) rfl) (hb hby d19_19) rfl ?_
  refine own_callS X17 hx (pc' := 23) hZ hown (Wd99 hw) (Wd100 hw) (Wd51 hw) (Wd101 hw) (by decide) (rm_pc_2 l Z a0 hw [] cz sv hcz hsv ba kb (8 : Int32) [(.int (own_b0 c0)), (.int (own_b1 c0)), (.int (own_b0 c1)), (.int (own_b1 c1)), (.int (0 : Int32)), (.int (0 : Int32)), (.int (0 : Int32)), (.int (0 : Int32))] c2 T17.heap n0 Z19 gb2 V17 (by decide) (by decide) (Nat.le_of_ble_eq_true rfl) F21) rfl 0 (by decide) (by decide) (by decide) (by decide) [(.ref ba), (.int (2 : Int32)), (.int c2)] [] (by rw [hml]; rfl) (lenOf pd_4 rfl) rfl rfl (Nat.le_of_eq rfl) (hb hby d19_20) rfl (fun v24 T24 L24 X24 hQ24 => ?_)
  obtain ⟨rfl, Nq24, K24, V24⟩ := hQ24
  have N25 := Fr.app N18 Nq24
  have Z26 : n0 ≤ T24.heap.size := Nat.le_trans Z19 K24.1
  have K27 : Keep h0 T24.heap [] := Keep.trans K20 K24 (allS (Or.inr gk_ba) all0)
  have F28 := (F21.keep K24 (own_allge gb2 (fun x hx => absurd hx List.not_mem_nil)))
  have F29 := (F22.keep K24 (ninS ne_ca_ba_4 nin0))
  have V24 : Arv Z T24.heap ba kb .byte (8 : Int32) [(.int (own_b0 c0)), (.int (own_b1 c0)), (.int (own_b0 c1)), (.int (own_b1 c1)), (.int (own_b0 c2)), (.int (own_b1 c2)), (.int (0 : Int32)), (.int (0 : Int32))] (.int (0 : Int32)) := V24
  show own_G p.tables e below _ T24 (mkF m 23 #[.val (.ref ca), .val (.int (2 : Int32)), .val (.int (4 : Int32)), .val (.ref ba), .val (.int (2 : Int32))] [])
  refine own_iinc X24 hx (pc' := 26) (Ls' := #[.val (.ref ca), .val (.int (3 : Int32)), .val (.int (4 : Int32)), .val (.ref ba), .val (.int (2 : Int32))]) (hb hby d19_23) rfl rfl rfl ?_
  refine own_iinc X24 hx (pc' := 29) (Ls' := #[.val (.ref ca), .val (.int (3 : Int32)), .val (.int (4 : Int32)), .val (.ref ba), .val (.int (3 : Int32))]) (hb hby d19_26) rfl rfl rfl ?_
  refine own_goto X24 hx (pc' := 8) (hb hby d19_29) (by decide) (by decide) ?_
  refine own_iload X24 hx (pc' := 10) (hb hby d19_8) rfl rfl ?_
  refine own_iloadN X24 hx (pc' := 11) (hb hby d19_10) rfl rfl ?_
  refine own_icmpNo X24 hx (pc' := 14) (hb hby d19_11) (tlt (by decide : (3 : Int32) < (4 : Int32))).2.1 rfl ?_
  refine own_aloadN X24 hx (pc' := 15) (hb hby d19_14) rfl rfl rfl ?_
  refine own_iload X24 hx (pc' := 17) (hb hby d19_15) rfl rfl ?_
  refine own_aloadN X24 hx (pc' := 18) (hb hby d19_17) rfl rfl rfl ?_
  refine own_iloadN X24 hx (pc' := 19) (hb hby d19_18) rfl rfl ?_
  obtain ⟨cl30, Ar30, q30, S30, M30, H30, G30⟩ := id F29
  refine own_caload X24 hx (pc' := 20) hZ (v := c3) rfl Ar30 (inb_of S30 ⟨by decide, by decide⟩) (Has.at H30 (inb_of S30 ⟨by decide, by decide⟩) rfl) (hb hby d19_19) rfl ?_
  refine own_callS X24 hx (pc' := 23) hZ hown (Wd99 hw) (Wd100 hw) (Wd51 hw) (Wd101 hw) (by decide) (rm_pc_3 l Z a0 hw [] cz sv hcz hsv ba kb (8 : Int32) [(.int (own_b0 c0)), (.int (own_b1 c0)), (.int (own_b0 c1)), (.int (own_b1 c1)), (.int (own_b0 c2)), (.int (own_b1 c2)), (.int (0 : Int32)), (.int (0 : Int32))] c3 T24.heap n0 Z26 gb2 V24 (by decide) (by decide) (Nat.le_of_ble_eq_true rfl) F28) rfl 0 (by decide) (by decide) (by decide) (by decide) [(.ref ba), (.int (3 : Int32)), (.int c3)] [] (by rw [hml]; rfl) (lenOf pd_4 rfl) rfl rfl (Nat.le_of_eq rfl) (hb hby d19_20) rfl (fun v31 T31 L31 X31 hQ31 => ?_)
  obtain ⟨rfl, Nq31, K31, V31⟩ := hQ31
  have N32 := Fr.app N25 Nq31
  have Z33 : n0 ≤ T31.heap.size := Nat.le_trans Z26 K31.1
  have K34 : Keep h0 T31.heap [] := Keep.trans K27 K31 (allS (Or.inr gk_ba) all0)
  have F35 := (F28.keep K31 (own_allge gb2 (fun x hx => absurd hx List.not_mem_nil)))
  have F36 := (F29.keep K31 (ninS ne_ca_ba_4 nin0))
  have V31 : Arv Z T31.heap ba kb .byte (8 : Int32) [(.int (own_b0 c0)), (.int (own_b1 c0)), (.int (own_b0 c1)), (.int (own_b1 c1)), (.int (own_b0 c2)), (.int (own_b1 c2)), (.int (own_b0 c3)), (.int (own_b1 c3))] (.int (0 : Int32)) := V31
  show own_G p.tables e below _ T31 (mkF m 23 #[.val (.ref ca), .val (.int (3 : Int32)), .val (.int (4 : Int32)), .val (.ref ba), .val (.int (3 : Int32))] [])
  refine own_iinc X31 hx (pc' := 26) (Ls' := #[.val (.ref ca), .val (.int (4 : Int32)), .val (.int (4 : Int32)), .val (.ref ba), .val (.int (3 : Int32))]) (hb hby d19_23) rfl rfl rfl ?_
  refine own_iinc X31 hx (pc' := 29) (Ls' := #[.val (.ref ca), .val (.int (4 : Int32)), .val (.int (4 : Int32)), .val (.ref ba), .val (.int (4 : Int32))]) (hb hby d19_26) rfl rfl rfl ?_
  refine own_goto X31 hx (pc' := 8) (hb hby d19_29) (by decide) (by decide) ?_
  refine own_iload X31 hx (pc' := 10) (hb hby d19_8) rfl rfl ?_
  refine own_iloadN X31 hx (pc' := 11) (hb hby d19_10) rfl rfl ?_
  refine own_icmpYes X31 hx (pc' := 32) (hb hby d19_11) (flt (by decide : ¬ ((4 : Int32) < (4 : Int32)))).2.1 (by decide) (by decide) ?_
  refine own_aloadN X31 hx (pc' := 33) (hb hby d19_32) rfl rfl rfl ?_
  refine own_retA X31 hx hlk hret rfl rfl rfl (hb hby d19_33) (by decide) (by decide) ?_
  exact ⟨N32, K34, ba, _, rfl, gb2, gk_ba, V31⟩

theorem d10_0 : decode jdk_52_method_21_code 0 = .ok (.iconst 0, 1) := by decide +kernel
theorem d10_1 : decode jdk_52_method_21_code 1 = .ok (.istore 5, 2) := by decide +kernel
theorem d10_3 : decode jdk_52_method_21_code 3 = .ok (.iload 5, 2) := by decide +kernel
theorem d10_5 : decode jdk_52_method_21_code 5 = .ok (.iload 4, 2) := by decide +kernel
theorem d10_7 : decode jdk_52_method_21_code 7 = .ok (.if_icmp .ge 37, 3) := by decide +kernel
theorem d10_10 : decode jdk_52_method_21_code 10 = .ok (.aload_n 0, 1) := by decide +kernel
theorem d10_11 : decode jdk_52_method_21_code 11 = .ok (.iload_n 1, 1) := by decide +kernel
theorem d10_12 : decode jdk_52_method_21_code 12 = .ok (.caload, 1) := by decide +kernel
theorem d10_13 : decode jdk_52_method_21_code 13 = .ok (.istore 6, 2) := by decide +kernel
theorem d10_15 : decode jdk_52_method_21_code 15 = .ok (.iload 6, 2) := by decide +kernel
theorem d10_17 : decode jdk_52_method_21_code 17 = .ok (.sipush 255, 3) := by decide +kernel
theorem d10_20 : decode jdk_52_method_21_code 20 = .ok (.if_icmp .le 6, 3) := by decide +kernel
theorem d10_23 : decode jdk_52_method_21_code 23 = .ok (.iload 5, 2) := by decide +kernel
theorem d10_25 : decode jdk_52_method_21_code 25 = .ok (.ireturn, 1) := by decide +kernel
theorem d10_26 : decode jdk_52_method_21_code 26 = .ok (.aload_n 2, 1) := by decide +kernel
theorem d10_27 : decode jdk_52_method_21_code 27 = .ok (.iload_n 3, 1) := by decide +kernel
theorem d10_28 : decode jdk_52_method_21_code 28 = .ok (.iload 6, 2) := by decide +kernel
theorem d10_30 : decode jdk_52_method_21_code 30 = .ok (.i2b, 1) := by decide +kernel
theorem d10_31 : decode jdk_52_method_21_code 31 = .ok (.bastore, 1) := by decide +kernel
theorem d10_32 : decode jdk_52_method_21_code 32 = .ok (.iinc 1 1, 3) := by decide +kernel
theorem d10_35 : decode jdk_52_method_21_code 35 = .ok (.iinc 3 1, 3) := by decide +kernel
theorem d10_38 : decode jdk_52_method_21_code 38 = .ok (.iinc 5 1, 3) := by decide +kernel
theorem d10_41 : decode jdk_52_method_21_code 41 = .ok (.goto (-38), 3) := by decide +kernel
theorem d10_44 : decode jdk_52_method_21_code 44 = .ok (.iload 4, 2) := by decide +kernel
theorem d10_46 : decode jdk_52_method_21_code 46 = .ok (.ireturn, 1) := by decide +kernel
def Qc5_1 (Z : State) (ba : Addr) (kb : ClassId) (c0 : Int32) (h0 : Heap) (n0 : Nat) (v : Option Value) (h : Heap) (L : List Loc) : Prop := Fr n0 L ∧ Keep h0 h [ba] ∧ ((v = some (.int (1 : Int32)) ∧ (¬ (255 : Int32) < c0) ∧ Arv Z h ba kb .byte (1 : Int32) [(.int (own_lb c0))] (.int (0 : Int32))) ∨ (v = some (.int (0 : Int32)) ∧ (255 : Int32) < c0))
theorem ef_rm_c5_1 (m : MethodId) (x0 : Addr) (x1 : Int32) (x2 : Addr) (x3 : Int32) (x4 : Int32) : entryFrame m #[(.ref x0), (.int x1), (.ref x2), (.int x3), (.int x4)] 7 = mkF m 0 #[.val (.ref x0), .val (.int x1), .val (.ref x2), .val (.int x3), .val (.int x4), .unset, .unset] [] := by first | (simp [entryFrame, mkF, argsToLocals, Value.category, maxLocals]; done) | rfl
theorem pf_18 : plainFor (⟨"java/lang/StringUTF16", "compress", "([CI[BII)I"⟩ : MethodName) = true := by apply plainFor_of_name; first | (simp [plainName, overriddenIn]; done) | decide +kernel
set_option maxRecDepth 65536 in
set_option maxHeartbeats 40000000 in
theorem rm_c5_1 (l : Launch) (Z : State) (a0 : Array Value) (hw : ∀ d ∈ tables_1, d.before a0 Z = true) (ws : List Jvm.Cond) (ca ba : Addr) (ka kb : ClassId) (c0 : Int32) (h0 : Heap) (n0 : Nat) (Z0 : n0 ≤ h0.size) (g_b : n0 ≤ ba) (nab : ca ≠ ba) (V_c : Arv Z h0 ca ka .char (1 : Int32) [(.int c0)] (.int (0 : Int32))) (V_b : Arv Z h0 ba kb .byte (1 : Int32) [(.int (0 : Int32))] (.int (0 : Int32))) :
    own_M l Z (⟨"java/lang/StringUTF16", "compress", "([CI[BII)I"⟩ : MethodName) jdk_52_method_21_code 7 (some .int) ws ({ frames := 0, cells := 0, slots := 0, locals := 0 } : Room) #[(.ref ca), (.int (0 : Int32)), (.ref ba), (.int (0 : Int32)), (.int (1 : Int32))] h0  (Qc5_1 Z ba kb c0 h0 n0) := by
  refine own_bodyM pf_18 ?_
  intro p e s m below meth c s₁ hx hby hml hown hnm hlk hret hZ X0 e0
  have N0 : Fr n0 [] := Fr.nil n0
  refine own_go (f' := (mkF m 0 #[.val (.ref ca), .val (.int (0 : Int32)), .val (.ref ba), .val (.int (0 : Int32)), .val (.int (1 : Int32)), .unset, .unset] [])) (fun t k => castTop (ef_rm_c5_1 m ca (0 : Int32) ba (0 : Int32) (1 : Int32)) k) ?_
  have K1 : Keep h0 h0 [ba] := Keep.refl _ _
  refine own_iconst X0 hx (pc' := 1) (0 : Int32) (hb hby d10_0) rfl rfl ?_
  refine own_istore X0 hx (pc' := 3) (Ls' := #[.val (.ref ca), .val (.int (0 : Int32)), .val (.ref ba), .val (.int (0 : Int32)), .val (.int (1 : Int32)), .val (.int (0 : Int32)), .unset]) (hb hby d10_1) rfl rfl ?_
  refine own_iload X0 hx (pc' := 5) (hb hby d10_3) rfl rfl ?_
  refine own_iload X0 hx (pc' := 7) (hb hby d10_5) rfl rfl ?_
  refine own_icmpNo X0 hx (pc' := 10) (hb hby d10_7) (tlt (by decide : (0 : Int32) < (1 : Int32))).2.1 rfl ?_
  refine own_aloadN X0 hx (pc' := 11) (hb hby d10_10) rfl rfl rfl ?_
  refine own_iloadN X0 hx (pc' := 12) (hb hby d10_11) rfl rfl ?_
  obtain ⟨cl2, Ar2, q2, S2, M2, H2, G2⟩ := id V_c
  refine own_caload X0 hx (pc' := 13) hZ (v := c0) e0 Ar2 (inb_of S2 ⟨by decide, by decide⟩) (Has.at H2 (inb_of S2 ⟨by decide, by decide⟩) rfl) (hb hby d10_12) rfl ?_
  refine own_istore X0 hx (pc' := 15) (Ls' := #[.val (.ref ca), .val (.int (0 : Int32)), .val (.ref ba), .val (.int (0 : Int32)), .val (.int (1 : Int32)), .val (.int (0 : Int32)), .val (.int c0)]) (hb hby d10_13) rfl rfl ?_
  refine own_iload X0 hx (pc' := 17) (hb hby d10_15) rfl rfl ?_
  refine own_sipush X0 hx (pc' := 20) (255 : Int32) (hb hby d10_17) rfl rfl ?_
  by_cases hc20_3 : (255 : Int32) < c0
  · skip
    refine own_icmpNo X0 hx (pc' := 23) (hb hby d10_20) (tlt hc20_3).2.2.2 rfl ?_
    refine own_iload X0 hx (pc' := 25) (hb hby d10_23) rfl rfl ?_
    refine own_retI X0 hx hlk hret (hb hby d10_25) (by decide) (by decide) ?_
    rw [e0]
    exact ⟨N0, K1, Or.inr ⟨rfl, hc20_3⟩⟩
  · skip
    refine own_icmpYes X0 hx (pc' := 26) (hb hby d10_20) (flt hc20_3).2.2.2 (by decide) (by decide) ?_
    refine own_aloadN X0 hx (pc' := 27) (hb hby d10_26) rfl rfl rfl ?_
    refine own_iloadN X0 hx (pc' := 28) (hb hby d10_27) rfl rfl ?_
    refine own_iload X0 hx (pc' := 30) (hb hby d10_28) rfl rfl ?_
    refine own_i2b X0 hx (pc' := 31) (hb hby d10_30) rfl ?_
    obtain ⟨cl4, Ar4, q4, S4, M4, H4, G4⟩ := id V_b
    refine own_stB X0 hx (pc' := 32) hZ e0 Ar4 (inb_of S4 ⟨by decide, by decide⟩) (hb hby d10_31) rfl (fun T5 h5 X5 e5 W5 => ?_)
    have N6 := Fr.snoc X5 N0 g_b
    have Z7 : n0 ≤ h5.size := Nat.le_trans Z0 (Nat.le_of_eq (Wr.size W5).symm)
    have K8 : Keep h0 h5 [ba] := K1.wr W5 (Or.inl (List.mem_of_getElem? (i := 0) rfl))
    have F9 := (V_c.other W5 nab)
    have F10 : Arv Z h5 ba kb .byte (1 : Int32) [(.int (nar .byte (c0.toInt8.toInt32)))] (.int (0 : Int32)) := (Arv.set Ar4 q4 S4 M4 H4 G4 (fits_nar_byte _) W5 0 rfl (Nat.le_of_ble_eq_true rfl))
    refine own_iinc X5 hx (pc' := 35) (Ls' := #[.val (.ref ca), .val (.int (1 : Int32)), .val (.ref ba), .val (.int (0 : Int32)), .val (.int (1 : Int32)), .val (.int (0 : Int32)), .val (.int c0)]) (hb hby d10_32) rfl rfl rfl ?_
    refine own_iinc X5 hx (pc' := 38) (Ls' := #[.val (.ref ca), .val (.int (1 : Int32)), .val (.ref ba), .val (.int (1 : Int32)), .val (.int (1 : Int32)), .val (.int (0 : Int32)), .val (.int c0)]) (hb hby d10_35) rfl rfl rfl ?_
    refine own_iinc X5 hx (pc' := 41) (Ls' := #[.val (.ref ca), .val (.int (1 : Int32)), .val (.ref ba), .val (.int (1 : Int32)), .val (.int (1 : Int32)), .val (.int (1 : Int32)), .val (.int c0)]) (hb hby d10_38) rfl rfl rfl ?_
    refine own_goto X5 hx (pc' := 3) (hb hby d10_41) (by decide) (by decide) ?_
    refine own_iload X5 hx (pc' := 5) (hb hby d10_3) rfl rfl ?_
    refine own_iload X5 hx (pc' := 7) (hb hby d10_5) rfl rfl ?_
    refine own_icmpYes X5 hx (pc' := 44) (hb hby d10_7) (flt (by decide : ¬ ((1 : Int32) < (1 : Int32)))).2.1 (by decide) (by decide) ?_
    refine own_iload X5 hx (pc' := 46) (hb hby d10_44) rfl rfl ?_
    refine own_retI X5 hx hlk hret (hb hby d10_46) (by decide) (by decide) ?_
    rw [e5]
    exact ⟨N6, K8, Or.inl ⟨rfl, hc20_3, F10⟩⟩

def Qc5_2 (Z : State) (ba : Addr) (kb : ClassId) (c0 c1 : Int32) (h0 : Heap) (n0 : Nat) (v : Option Value) (h : Heap) (L : List Loc) : Prop := Fr n0 L ∧ Keep h0 h [ba] ∧ ((v = some (.int (2 : Int32)) ∧ (¬ (255 : Int32) < c0 ∧ ¬ (255 : Int32) < c1) ∧ Arv Z h ba kb .byte (2 : Int32) [(.int (own_lb c0)), (.int (own_lb c1))] (.int (0 : Int32))) ∨ (v = some (.int (0 : Int32)) ∧ (255 : Int32) < c0) ∨ (v = some (.int (1 : Int32)) ∧ (255 : Int32) < c1))
theorem ef_rm_c5_2 (m : MethodId) (x0 : Addr) (x1 : Int32) (x2 : Addr) (x3 : Int32) (x4 : Int32) : entryFrame m #[(.ref x0), (.int x1), (.ref x2), (.int x3), (.int x4)] 7 = mkF m 0 #[.val (.ref x0), .val (.int x1), .val (.ref x2), .val (.int x3), .val (.int x4), .unset, .unset] [] := by first | (simp [entryFrame, mkF, argsToLocals, Value.category, maxLocals]; done) | rfl
set_option maxRecDepth 65536 in
set_option maxHeartbeats 40000000 in
theorem rm_c5_2 (l : Launch) (Z : State) (a0 : Array Value) (hw : ∀ d ∈ tables_1, d.before a0 Z = true) (ws : List Jvm.Cond) (ca ba : Addr) (ka kb : ClassId) (c0 c1 : Int32) (h0 : Heap) (n0 : Nat) (Z0 : n0 ≤ h0.size) (g_b : n0 ≤ ba) (nab : ca ≠ ba) (V_c : Arv Z h0 ca ka .char (2 : Int32) [(.int c0), (.int c1)] (.int (0 : Int32))) (V_b : Arv Z h0 ba kb .byte (2 : Int32) [(.int (0 : Int32)), (.int (0 : Int32))] (.int (0 : Int32))) :
    own_M l Z (⟨"java/lang/StringUTF16", "compress", "([CI[BII)I"⟩ : MethodName) jdk_52_method_21_code 7 (some .int) ws ({ frames := 0, cells := 0, slots := 0, locals := 0 } : Room) #[(.ref ca), (.int (0 : Int32)), (.ref ba), (.int (0 : Int32)), (.int (2 : Int32))] h0  (Qc5_2 Z ba kb c0 c1 h0 n0) := by
  refine own_bodyM pf_18 ?_
  intro p e s m below meth c s₁ hx hby hml hown hnm hlk hret hZ X0 e0
  have N0 : Fr n0 [] := Fr.nil n0
  refine own_go (f' := (mkF m 0 #[.val (.ref ca), .val (.int (0 : Int32)), .val (.ref ba), .val (.int (0 : Int32)), .val (.int (2 : Int32)), .unset, .unset] [])) (fun t k => castTop (ef_rm_c5_2 m ca (0 : Int32) ba (0 : Int32) (2 : Int32)) k) ?_
  have K1 : Keep h0 h0 [ba] := Keep.refl _ _
  refine own_iconst X0 hx (pc' := 1) (0 : Int32) (hb hby d10_0) rfl rfl ?_
  refine own_istore X0 hx (pc' := 3) (Ls' := #[.val (.ref ca), .val (.int (0 : Int32)), .val (.ref ba), .val (.int (0 : Int32)), .val (.int (2 : Int32)), .val (.int (0 : Int32)), .unset]) (hb hby d10_1) rfl rfl ?_
  refine own_iload X0 hx (pc' := 5) (hb hby d10_3) rfl rfl ?_
  refine own_iload X0 hx (pc' := 7) (hb hby d10_5) rfl rfl ?_
  refine own_icmpNo X0 hx (pc' := 10) (hb hby d10_7) (tlt (by decide : (0 : Int32) < (2 : Int32))).2.1 rfl ?_
  refine own_aloadN X0 hx (pc' := 11) (hb hby d10_10) rfl rfl rfl ?_
  refine own_iloadN X0 hx (pc' := 12) (hb hby d10_11) rfl rfl ?_
  obtain ⟨cl2, Ar2, q2, S2, M2, H2, G2⟩ := id V_c
  refine own_caload X0 hx (pc' := 13) hZ (v := c0) e0 Ar2 (inb_of S2 ⟨by decide, by decide⟩) (Has.at H2 (inb_of S2 ⟨by decide, by decide⟩) rfl) (hb hby d10_12) rfl ?_
  refine own_istore X0 hx (pc' := 15) (Ls' := #[.val (.ref ca), .val (.int (0 : Int32)), .val (.ref ba), .val (.int (0 : Int32)), .val (.int (2 : Int32)), .val (.int (0 : Int32)), .val (.int c0)]) (hb hby d10_13) rfl rfl ?_
  refine own_iload X0 hx (pc' := 17) (hb hby d10_15) rfl rfl ?_
  refine own_sipush X0 hx (pc' := 20) (255 : Int32) (hb hby d10_17) rfl rfl ?_
  by_cases hc20_3 : (255 : Int32) < c0
  · skip
    refine own_icmpNo X0 hx (pc' := 23) (hb hby d10_20) (tlt hc20_3).2.2.2 rfl ?_
    refine own_iload X0 hx (pc' := 25) (hb hby d10_23) rfl rfl ?_
    refine own_retI X0 hx hlk hret (hb hby d10_25) (by decide) (by decide) ?_
    rw [e0]
    exact ⟨N0, K1, Or.inr (Or.inl ⟨rfl, hc20_3⟩)⟩
  · skip
    refine own_icmpYes X0 hx (pc' := 26) (hb hby d10_20) (flt hc20_3).2.2.2 (by decide) (by decide) ?_
    refine own_aloadN X0 hx (pc' := 27) (hb hby d10_26) rfl rfl rfl ?_
    refine own_iloadN X0 hx (pc' := 28) (hb hby d10_27) rfl rfl ?_
    refine own_iload X0 hx (pc' := 30) (hb hby d10_28) rfl rfl ?_
    refine own_i2b X0 hx (pc' := 31) (hb hby d10_30) rfl ?_
    obtain ⟨cl4, Ar4, q4, S4, M4, H4, G4⟩ := id V_b
    refine own_stB X0 hx (pc' := 32) hZ e0 Ar4 (inb_of S4 ⟨by decide, by decide⟩) (hb hby d10_31) rfl (fun T5 h5 X5 e5 W5 => ?_)
    have N6 := Fr.snoc X5 N0 g_b
    have Z7 : n0 ≤ h5.size := Nat.le_trans Z0 (Nat.le_of_eq (Wr.size W5).symm)
    have K8 : Keep h0 h5 [ba] := K1.wr W5 (Or.inl (List.mem_of_getElem? (i := 0) rfl))
    have F9 := (V_c.other W5 nab)
    have F10 : Arv Z h5 ba kb .byte (2 : Int32) [(.int (nar .byte (c0.toInt8.toInt32))), (.int (0 : Int32))] (.int (0 : Int32)) := (Arv.set Ar4 q4 S4 M4 H4 G4 (fits_nar_byte _) W5 0 rfl (Nat.le_of_ble_eq_true rfl))
    refine own_iinc X5 hx (pc' := 35) (Ls' := #[.val (.ref ca), .val (.int (1 : Int32)), .val (.ref ba), .val (.int (0 : Int32)), .val (.int (2 : Int32)), .val (.int (0 : Int32)), .val (.int c0)]) (hb hby d10_32) rfl rfl rfl ?_
    refine own_iinc X5 hx (pc' := 38) (Ls' := #[.val (.ref ca), .val (.int (1 : Int32)), .val (.ref ba), .val (.int (1 : Int32)), .val (.int (2 : Int32)), .val (.int (0 : Int32)), .val (.int c0)]) (hb hby d10_35) rfl rfl rfl ?_
    refine own_iinc X5 hx (pc' := 41) (Ls' := #[.val (.ref ca), .val (.int (1 : Int32)), .val (.ref ba), .val (.int (1 : Int32)), .val (.int (2 : Int32)), .val (.int (1 : Int32)), .val (.int c0)]) (hb hby d10_38) rfl rfl rfl ?_
    refine own_goto X5 hx (pc' := 3) (hb hby d10_41) (by decide) (by decide) ?_
    refine own_iload X5 hx (pc' := 5) (hb hby d10_3) rfl rfl ?_
    refine own_iload X5 hx (pc' := 7) (hb hby d10_5) rfl rfl ?_
    refine own_icmpNo X5 hx (pc' := 10) (hb hby d10_7) (tlt (by decide : (1 : Int32) < (2 : Int32))).2.1 rfl ?_
    refine own_aloadN X5 hx (pc' := 11) (hb hby d10_10) rfl rfl rfl ?_
    refine own_iloadN X5 hx (pc' := 12) (hb hby d10_11) rfl rfl ?_
    obtain ⟨cl11, Ar11, q11, S11, M11, H11, G11⟩ := id F9
    refine own_caload X5 hx (pc' := 13) hZ (v := c1) e5 Ar11 (inb_of S11 ⟨by decide, by decide⟩) (Has.at H11 (inb_of S11 ⟨by decide, by decide⟩) rfl) (hb hby d10_12) rfl ?_
    refine own_istore X5 hx (pc' := 15) (Ls' := #[.val (.ref ca), .val (.int (1 : Int32)), .val (.ref ba), .val (.int (1 : Int32)), .val (.int (2 : Int32)), .val (.int (1 : Int32)), .val (.int c1)]) (hb hby d10_13) rfl rfl ?_
    refine own_iload X5 hx (pc' := 17) (hb hby d10_15) rfl rfl ?_
    refine own_sipush X5 hx (pc' := 20) (255 : Int32) (hb hby d10_17) rfl rfl ?_
    by_cases hc20_12 : (255 : Int32) < c1
    · skip
      refine own_icmpNo X5 hx (pc' := 23) (hb hby d10_20) (tlt hc20_12).2.2.2 rfl ?_
      refine own_iload X5 hx (pc' := 25) (hb hby d10_23) rfl rfl ?_
      refine own_retI X5 hx hlk hret (hb hby d10_25) (by decide) (by decide) ?_
      rw [e5]
      exact ⟨N6, K8, Or.inr (Or.inr ⟨rfl, hc20_12⟩)⟩
    · skip
      refine own_icmpYes X5 hx (pc' := 26) (hb hby d10_20) (flt hc20_12).2.2.2 (by decide) (by decide) ?_
      refine own_aloadN X5 hx (pc' := 27) (hb hby d10_26) rfl rfl rfl ?_
      refine own_iloadN X5 hx (pc' := 28) (hb hby d10_27) rfl rfl ?_
      refine own_iload X5 hx (pc' := 30) (hb hby d10_28) rfl rfl ?_
      refine own_i2b X5 hx (pc' := 31) (hb hby d10_30) rfl ?_
      obtain ⟨cl13, Ar13, q13, S13, M13, H13, G13⟩ := id F10
      refine own_stB X5 hx (pc' := 32) hZ e5 Ar13 (inb_of S13 ⟨by decide, by decide⟩) (hb hby d10_31) rfl (fun T14 h14 X14 e14 W14 => ?_)
      have N15 := Fr.snoc X14 N6 g_b
      have Z16 : n0 ≤ h14.size := Nat.le_trans Z7 (Nat.le_of_eq (Wr.size W14).symm)
      have K17 : Keep h0 h14 [ba] := K8.wr W14 (Or.inl (List.mem_of_getElem? (i := 0) rfl))
      have F18 := (F9.other W14 nab)
      have F19 : Arv Z h14 ba kb .byte (2 : Int32) [(.int (nar .byte (c0.toInt8.toInt32))), (.int (nar .byte (c1.toInt8.toInt32)))] (.int (0 : Int32)) := (Arv.set Ar13 q13 S13 M13 H13 G13 (fits_nar_byte _) W14 1 rfl (Nat.le_of_ble_eq_true rfl))
      refine own_iinc X14 hx (pc' := 35) (Ls' := #[.val (.ref ca), .val (.int (2 : Int32)), .val (.ref ba), .val (.int (1 : Int32)), .val (.int (2 : Int32)), .val (.int (1 : Int32)), .val (.int c1)]) (hb hby d10_32) rfl rfl rfl ?_
      refine own_iinc X14 hx (pc' := 38) (Ls' := #[.val (.ref ca), .val (.int (2 : Int32)), .val (.ref ba), .val (.int (2 : Int32)), .val (.int (2 : Int32)), .val (.int (1 : Int32)), .val (.int c1)]) (hb hby d10_35) rfl rfl rfl ?_
      refine own_iinc X14 hx (pc' := 41) (Ls' := #[.val (.ref ca), .val (.int (2 : Int32)), .val (.ref ba), .val (.int (2 : Int32)), .val (.int (2 : Int32)), .val (.int (2 : Int32)), .val (.int c1)]) (hb hby d10_38) rfl rfl rfl ?_
      refine own_goto X14 hx (pc' := 3) (hb hby d10_41) (by decide) (by decide) ?_
      refine own_iload X14 hx (pc' := 5) (hb hby d10_3) rfl rfl ?_
      refine own_iload X14 hx (pc' := 7) (hb hby d10_5) rfl rfl ?_
      refine own_icmpYes X14 hx (pc' := 44) (hb hby d10_7) (flt (by decide : ¬ ((2 : Int32) < (2 : Int32)))).2.1 (by decide) (by decide) ?_
      refine own_iload X14 hx (pc' := 46) (hb hby d10_44) rfl rfl ?_
      refine own_retI X14 hx hlk hret (hb hby d10_46) (by decide) (by decide) ?_
      rw [e14]
      exact ⟨N15, K17, Or.inl ⟨rfl, ⟨hc20_3, hc20_12⟩, F19⟩⟩

def Qc5_3 (Z : State) (ba : Addr) (kb : ClassId) (c0 c1 c2 : Int32) (h0 : Heap) (n0 : Nat) (v : Option Value) (h : Heap) (L : List Loc) : Prop := Fr n0 L ∧ Keep h0 h [ba] ∧ ((v = some (.int (3 : Int32)) ∧ (¬ (255 : Int32) < c0 ∧ ¬ (255 : Int32) < c1 ∧ ¬ (255 : Int32) < c2) ∧ Arv Z h ba kb .byte (3 : Int32) [(.int (own_lb c0)), (.int (own_lb c1)), (.int (own_lb c2))] (.int (0 : Int32))) ∨ (v = some (.int (0 : Int32)) ∧ (255 : Int32) < c0) ∨ (v = some (.int (1 : Int32)) ∧ (255 : Int32) < c1) ∨ (v = some (.int (2 : Int32)) ∧ (255 : Int32) < c2))
theorem ef_rm_c5_3 (m : MethodId) (x0 : Addr) (x1 : Int32) (x2 : Addr) (x3 : Int32) (x4 : Int32) : entryFrame m #[(.ref x0), (.int x1), (.ref x2), (.int x3), (.int x4)] 7 = mkF m 0 #[.val (.ref x0), .val (.int x1), .val (.ref x2), .val (.int x3), .val (.int x4), .unset, .unset] [] := by first | (simp [entryFrame, mkF, argsToLocals, Value.category, maxLocals]; done) | rfl
set_option maxRecDepth 65536 in
set_option maxHeartbeats 40000000 in
theorem rm_c5_3 (l : Launch) (Z : State) (a0 : Array Value) (hw : ∀ d ∈ tables_1, d.before a0 Z = true) (ws : List Jvm.Cond) (ca ba : Addr) (ka kb : ClassId) (c0 c1 c2 : Int32) (h0 : Heap) (n0 : Nat) (Z0 : n0 ≤ h0.size) (g_b : n0 ≤ ba) (nab : ca ≠ ba) (V_c : Arv Z h0 ca ka .char (3 : Int32) [(.int c0), (.int c1), (.int c2)] (.int (0 : Int32))) (V_b : Arv Z h0 ba kb .byte (3 : Int32) [(.int (0 : Int32)), (.int (0 : Int32)), (.int (0 : Int32))] (.int (0 : Int32))) :
    own_M l Z (⟨"java/lang/StringUTF16", "compress", "([CI[BII)I"⟩ : MethodName) jdk_52_method_21_code 7 (some .int) ws ({ frames := 0, cells := 0, slots := 0, locals := 0 } : Room) #[(.ref ca), (.int (0 : Int32)), (.ref ba), (.int (0 : Int32)), (.int (3 : Int32))] h0  (Qc5_3 Z ba kb c0 c1 c2 h0 n0) := by
  refine own_bodyM pf_18 ?_
  intro p e s m below meth c s₁ hx hby hml hown hnm hlk hret hZ X0 e0
  have N0 : Fr n0 [] := Fr.nil n0
  refine own_go (f' := (mkF m 0 #[.val (.ref ca), .val (.int (0 : Int32)), .val (.ref ba), .val (.int (0 : Int32)), .val (.int (3 : Int32)), .unset, .unset] [])) (fun t k => castTop (ef_rm_c5_3 m ca (0 : Int32) ba (0 : Int32) (3 : Int32)) k) ?_
  have K1 : Keep h0 h0 [ba] := Keep.refl _ _
  refine own_iconst X0 hx (pc' := 1) (0 : Int32) (hb hby d10_0) rfl rfl ?_
  refine own_istore X0 hx (pc' := 3) (Ls' := #[.val (.ref ca), .val (.int (0 : Int32)), .val (.ref ba), .val (.int (0 : Int32)), .val (.int (3 : Int32)), .val (.int (0 : Int32)), .unset]) (hb hby d10_1) rfl rfl ?_
  refine own_iload X0 hx (pc' := 5) (hb hby d10_3) rfl rfl ?_
  refine own_iload X0 hx (pc' := 7) (hb hby d10_5) rfl rfl ?_
  refine own_icmpNo X0 hx (pc' := 10) (hb hby d10_7) (tlt (by decide : (0 : Int32) < (3 : Int32))).2.1 rfl ?_
  refine own_aloadN X0 hx (pc' := 11) (hb hby d10_10) rfl rfl rfl ?_
  refine own_iloadN X0 hx (pc' := 12) (hb hby d10_11) rfl rfl ?_
  obtain ⟨cl2, Ar2, q2, S2, M2, H2, G2⟩ := id V_c
  refine own_caload X0 hx (pc' := 13) hZ (v := c0) e0 Ar2 (inb_of S2 ⟨by decide, by decide⟩) (Has.at H2 (inb_of S2 ⟨by decide, by decide⟩) rfl) (hb hby d10_12) rfl ?_
  refine own_istore X0 hx (pc' := 15) (Ls' := #[.val (.ref ca), .val (.int (0 : Int32)), .val (.ref ba), .val (.int (0 : Int32)), .val (.int (3 : Int32)), .val (.int (0 : Int32)), .val (.int c0)]) (hb hby d10_13) rfl rfl ?_
  refine own_iload X0 hx (pc' := 17) (hb hby d10_15) rfl rfl ?_
  refine own_sipush X0 hx (pc' := 20) (255 : Int32) (hb hby d10_17) rfl rfl ?_
  by_cases hc20_3 : (255 : Int32) < c0
  · skip
    refine own_icmpNo X0 hx (pc' := 23) (hb hby d10_20) (tlt hc20_3).2.2.2 rfl ?_
    refine own_iload X0 hx (pc' := 25) (hb hby d10_23) rfl rfl ?_
    refine own_retI X0 hx hlk hret (hb hby d10_25) (by decide) (by decide) ?_
    rw [e0]
    exact ⟨N0, K1, Or.inr (Or.inl ⟨rfl, hc20_3⟩)⟩
  · skip
    refine own_icmpYes X0 hx (pc' := 26) (hb hby d10_20) (flt hc20_3).2.2.2 (by decide) (by decide) ?_
    refine own_aloadN X0 hx (pc' := 27) (hb hby d10_26) rfl rfl rfl ?_
    refine own_iloadN X0 hx (pc' := 28) (hb hby d10_27) rfl rfl ?_
    refine own_iload X0 hx (pc' := 30) (hb hby d10_28) rfl rfl ?_
    refine own_i2b X0 hx (pc' := 31) (hb hby d10_30) rfl ?_
    obtain ⟨cl4, Ar4, q4, S4, M4, H4, G4⟩ := id V_b
    refine own_stB X0 hx (pc' := 32) hZ e0 Ar4 (inb_of S4 ⟨by decide, by decide⟩) (hb hby d10_31) rfl (fun T5 h5 X5 e5 W5 => ?_)
    have N6 := Fr.snoc X5 N0 g_b
    have Z7 : n0 ≤ h5.size := Nat.le_trans Z0 (Nat.le_of_eq (Wr.size W5).symm)
    have K8 : Keep h0 h5 [ba] := K1.wr W5 (Or.inl (List.mem_of_getElem? (i := 0) rfl))
    have F9 := (V_c.other W5 nab)
    have F10 : Arv Z h5 ba kb .byte (3 : Int32) [(.int (nar .byte (c0.toInt8.toInt32))), (.int (0 : Int32)), (.int (0 : Int32))] (.int (0 : Int32)) := (Arv.set Ar4 q4 S4 M4 H4 G4 (fits_nar_byte _) W5 0 rfl (Nat.le_of_ble_eq_true rfl))
    refine own_iinc X5 hx (pc' := 35) (Ls' := #[.val (.ref ca), .val (.int (1 : Int32)), .val (.ref ba), .val (.int (0 : Int32)), .val (.int (3 : Int32)), .val (.int (0 : Int32)), .val (.int c0)]) (hb hby d10_32) rfl rfl rfl ?_
    refine own_iinc X5 hx (pc' := 38) (Ls' := #[.val (.ref ca), .val (.int (1 : Int32)), .val (.ref ba), .val (.int (1 : Int32)), .val (.int (3 : Int32)), .val (.int (0 : Int32)), .val (.int c0)]) (hb hby d10_35) rfl rfl rfl ?_
    refine own_iinc X5 hx (pc' := 41) (Ls' := #[.val (.ref ca), .val (.int (1 : Int32)), .val (.ref ba), .val (.int (1 : Int32)), .val (.int (3 : Int32)), .val (.int (1 : Int32)), .val (.int c0)]) (hb hby d10_38) rfl rfl rfl ?_
    refine own_goto X5 hx (pc' := 3) (hb hby d10_41) (by decide) (by decide) ?_
    refine own_iload X5 hx (pc' := 5) (hb hby d10_3) rfl rfl ?_
    refine own_iload X5 hx (pc' := 7) (hb hby d10_5) rfl rfl ?_
    refine own_icmpNo X5 hx (pc' := 10) (hb hby d10_7) (tlt (by decide : (1 : Int32) < (3 : Int32))).2.1 rfl ?_
    refine own_aloadN X5 hx (pc' := 11) (hb hby d10_10) rfl rfl rfl ?_
    refine own_iloadN X5 hx (pc' := 12) (hb hby d10_11) rfl rfl ?_
    obtain ⟨cl11, Ar11, q11, S11, M11, H11, G11⟩ := id F9
    refine own_caload X5 hx (pc' := 13) hZ (v := c1) e5 Ar11 (inb_of S11 ⟨by decide, by decide⟩) (Has.at H11 (inb_of S11 ⟨by decide, by decide⟩) rfl) (hb hby d10_12) rfl ?_
    refine own_istore X5 hx (pc' := 15) (Ls' := #[.val (.ref ca), .val (.int (1 : Int32)), .val (.ref ba), .val (.int (1 : Int32)), .val (.int (3 : Int32)), .val (.int (1 : Int32)), .val (.int c1)]) (hb hby d10_13) rfl rfl ?_
    refine own_iload X5 hx (pc' := 17) (hb hby d10_15) rfl rfl ?_
    refine own_sipush X5 hx (pc' := 20) (255 : Int32) (hb hby d10_17) rfl rfl ?_
    by_cases hc20_12 : (255 : Int32) < c1
    · skip
      refine own_icmpNo X5 hx (pc' := 23) (hb hby d10_20) (tlt hc20_12).2.2.2 rfl ?_
      refine own_iload X5 hx (pc' := 25) (hb hby d10_23) rfl rfl ?_
      refine own_retI X5 hx hlk hret (hb hby d10_25) (by decide) (by decide) ?_
      rw [e5]
      exact ⟨N6, K8, Or.inr (Or.inr (Or.inl ⟨rfl, hc20_12⟩))⟩
    · skip
      refine own_icmpYes X5 hx (pc' := 26) (hb hby d10_20) (flt hc20_12).2.2.2 (by decide) (by decide) ?_
      refine own_aloadN X5 hx (pc' := 27) (hb hby d10_26) rfl rfl rfl ?_
      refine own_iloadN X5 hx (pc' := 28) (hb hby d10_27) rfl rfl ?_
      refine own_iload X5 hx (pc' := 30) (hb hby d10_28) rfl rfl ?_
      refine own_i2b X5 hx (pc' := 31) (hb hby d10_30) rfl ?_
      obtain ⟨cl13, Ar13, q13, S13, M13, H13, G13⟩ := id F10
      refine own_stB X5 hx (pc' := 32) hZ e5 Ar13 (inb_of S13 ⟨by decide, by decide⟩) (hb hby d10_31) rfl (fun T14 h14 X14 e14 W14 => ?_)
      have N15 := Fr.snoc X14 N6 g_b
      have Z16 : n0 ≤ h14.size := Nat.le_trans Z7 (Nat.le_of_eq (Wr.size W14).symm)
      have K17 : Keep h0 h14 [ba] := K8.wr W14 (Or.inl (List.mem_of_getElem? (i := 0) rfl))
      have F18 := (F9.other W14 nab)
      have F19 : Arv Z h14 ba kb .byte (3 : Int32) [(.int (nar .byte (c0.toInt8.toInt32))), (.int (nar .byte (c1.toInt8.toInt32))), (.int (0 : Int32))] (.int (0 : Int32)) := (Arv.set Ar13 q13 S13 M13 H13 G13 (fits_nar_byte _) W14 1 rfl (Nat.le_of_ble_eq_true rfl))
      refine own_iinc X14 hx (pc' := 35) (Ls' := #[.val (.ref ca), .val (.int (2 : Int32)), .val (.ref ba), .val (.int (1 : Int32)), .val (.int (3 : Int32)), .val (.int (1 : Int32)), .val (.int c1)]) (hb hby d10_32) rfl rfl rfl ?_
      refine own_iinc X14 hx (pc' := 38) (Ls' := #[.val (.ref ca), .val (.int (2 : Int32)), .val (.ref ba), .val (.int (2 : Int32)), .val (.int (3 : Int32)), .val (.int (1 : Int32)), .val (.int c1)]) (hb hby d10_35) rfl rfl rfl ?_
      refine own_iinc X14 hx (pc' := 41) (Ls' := #[.val (.ref ca), .val (.int (2 : Int32)), .val (.ref ba), .val (.int (2 : Int32)), .val (.int (3 : Int32)), .val (.int (2 : Int32)), .val (.int c1)]) (hb hby d10_38) rfl rfl rfl ?_
      refine own_goto X14 hx (pc' := 3) (hb hby d10_41) (by decide) (by decide) ?_
      refine own_iload X14 hx (pc' := 5) (hb hby d10_3) rfl rfl ?_
      refine own_iload X14 hx (pc' := 7) (hb hby d10_5) rfl rfl ?_
      refine own_icmpNo X14 hx (pc' := 10) (hb hby d10_7) (tlt (by decide : (2 : Int32) < (3 : Int32))).2.1 rfl ?_
      refine own_aloadN X14 hx (pc' := 11) (hb hby d10_10) rfl rfl rfl ?_
      refine own_iloadN X14 hx (pc' := 12) (hb hby d10_11) rfl rfl ?_
      obtain ⟨cl20, Ar20, q20, S20, M20, H20, G20⟩ := id F18
      refine own_caload X14 hx (pc' := 13) hZ (v := c2) e14 Ar20 (inb_of S20 ⟨by decide, by decide⟩) (Has.at H20 (inb_of S20 ⟨by decide, by decide⟩) rfl) (hb hby d10_12) rfl ?_
      refine own_istore X14 hx (pc' := 15) (Ls' := #[.val (.ref ca), .val (.int (2 : Int32)), .val (.ref ba), .val (.int (2 : Int32)), .val (.int (3 : Int32)), .val (.int (2 : Int32)), .val (.int c2)]) (hb hby d10_13) rfl rfl ?_
      refine own_iload X14 hx (pc' := 17) (hb hby d10_15) rfl rfl ?_
      refine own_sipush X14 hx (pc' := 20) (255 : Int32) (hb hby d10_17) rfl rfl ?_
      by_cases hc20_21 : (255 : Int32) < c2
      · skip
        refine own_icmpNo X14 hx (pc' := 23) (hb hby d10_20) (tlt hc20_21).2.2.2 rfl ?_
        refine own_iload X14 hx (pc' := 25) (hb hby d10_23) rfl rfl ?_
        refine own_retI X14 hx hlk hret (hb hby d10_25) (by decide) (by decide) ?_
        rw [e14]
        exact ⟨N15, K17, Or.inr (Or.inr (Or.inr ⟨rfl, hc20_21⟩))⟩
      · skip
        refine own_icmpYes X14 hx (pc' := 26) (hb hby d10_20) (flt hc20_21).2.2.2 (by decide) (by decide) ?_
        refine own_aloadN X14 hx (pc' := 27) (hb hby d10_26) rfl rfl rfl ?_
        refine own_iloadN X14 hx (pc' := 28) (hb hby d10_27) rfl rfl ?_
        refine own_iload X14 hx (pc' := 30) (hb hby d10_28) rfl rfl ?_
        refine own_i2b X14 hx (pc' := 31) (hb hby d10_30) rfl ?_
        obtain ⟨cl22, Ar22, q22, S22, M22, H22, G22⟩ := id F19
        refine own_stB X14 hx (pc' := 32) hZ e14 Ar22 (inb_of S22 ⟨by decide, by decide⟩) (hb hby d10_31) rfl (fun T23 h23 X23 e23 W23 => ?_)
        have N24 := Fr.snoc X23 N15 g_b
        have Z25 : n0 ≤ h23.size := Nat.le_trans Z16 (Nat.le_of_eq (Wr.size W23).symm)
        have K26 : Keep h0 h23 [ba] := K17.wr W23 (Or.inl (List.mem_of_getElem? (i := 0) rfl))
        have F27 := (F18.other W23 nab)
        have F28 : Arv Z h23 ba kb .byte (3 : Int32) [(.int (nar .byte (c0.toInt8.toInt32))), (.int (nar .byte (c1.toInt8.toInt32))), (.int (nar .byte (c2.toInt8.toInt32)))] (.int (0 : Int32)) := (Arv.set Ar22 q22 S22 M22 H22 G22 (fits_nar_byte _) W23 2 rfl (Nat.le_of_ble_eq_true rfl))
        refine own_iinc X23 hx (pc' := 35) (Ls' := #[.val (.ref ca), .val (.int (3 : Int32)), .val (.ref ba), .val (.int (2 : Int32)), .val (.int (3 : Int32)), .val (.int (2 : Int32)), .val (.int c2)]) (hb hby d10_32) rfl rfl rfl ?_
        refine own_iinc X23 hx (pc' := 38) (Ls' := #[.val (.ref ca), .val (.int (3 : Int32)), .val (.ref ba), .val (.int (3 : Int32)), .val (.int (3 : Int32)), .val (.int (2 : Int32)), .val (.int c2)]) (hb hby d10_35) rfl rfl rfl ?_
        refine own_iinc X23 hx (pc' := 41) (Ls' := #[.val (.ref ca), .val (.int (3 : Int32)), .val (.ref ba), .val (.int (3 : Int32)), .val (.int (3 : Int32)), .val (.int (3 : Int32)), .val (.int c2)]) (hb hby d10_38) rfl rfl rfl ?_
        refine own_goto X23 hx (pc' := 3) (hb hby d10_41) (by decide) (by decide) ?_
        refine own_iload X23 hx (pc' := 5) (hb hby d10_3) rfl rfl ?_
        refine own_iload X23 hx (pc' := 7) (hb hby d10_5) rfl rfl ?_
        refine own_icmpYes X23 hx (pc' := 44) (hb hby d10_7) (flt (by decide : ¬ ((3 : Int32) < (3 : Int32)))).2.1 (by decide) (by decide) ?_
        refine own_iload X23 hx (pc' := 46) (hb hby d10_44) rfl rfl ?_
        refine own_retI X23 hx hlk hret (hb hby d10_46) (by decide) (by decide) ?_
        rw [e23]
        exact ⟨N24, K26, Or.inl ⟨rfl, ⟨hc20_3, hc20_12, hc20_21⟩, F28⟩⟩

def Qc5_4 (Z : State) (ba : Addr) (kb : ClassId) (c0 c1 c2 c3 : Int32) (h0 : Heap) (n0 : Nat) (v : Option Value) (h : Heap) (L : List Loc) : Prop := Fr n0 L ∧ Keep h0 h [ba] ∧ ((v = some (.int (4 : Int32)) ∧ (¬ (255 : Int32) < c0 ∧ ¬ (255 : Int32) < c1 ∧ ¬ (255 : Int32) < c2 ∧ ¬ (255 : Int32) < c3) ∧ Arv Z h ba kb .byte (4 : Int32) [(.int (own_lb c0)), (.int (own_lb c1)), (.int (own_lb c2)), (.int (own_lb c3))] (.int (0 : Int32))) ∨ (v = some (.int (0 : Int32)) ∧ (255 : Int32) < c0) ∨ (v = some (.int (1 : Int32)) ∧ (255 : Int32) < c1) ∨ (v = some (.int (2 : Int32)) ∧ (255 : Int32) < c2) ∨ (v = some (.int (3 : Int32)) ∧ (255 : Int32) < c3))
theorem ef_rm_c5_4 (m : MethodId) (x0 : Addr) (x1 : Int32) (x2 : Addr) (x3 : Int32) (x4 : Int32) : entryFrame m #[(.ref x0), (.int x1), (.ref x2), (.int x3), (.int x4)] 7 = mkF m 0 #[.val (.ref x0), .val (.int x1), .val (.ref x2), .val (.int x3), .val (.int x4), .unset, .unset] [] := by first | (simp [entryFrame, mkF, argsToLocals, Value.category, maxLocals]; done) | rfl
set_option maxRecDepth 65536 in
set_option maxHeartbeats 40000000 in
theorem rm_c5_4 (l : Launch) (Z : State) (a0 : Array Value) (hw : ∀ d ∈ tables_1, d.before a0 Z = true) (ws : List Jvm.Cond) (ca ba : Addr) (ka kb : ClassId) (c0 c1 c2 c3 : Int32) (h0 : Heap) (n0 : Nat) (Z0 : n0 ≤ h0.size) (g_b : n0 ≤ ba) (nab : ca ≠ ba) (V_c : Arv Z h0 ca ka .char (4 : Int32) [(.int c0), (.int c1), (.int c2), (.int c3)] (.int (0 : Int32))) (V_b : Arv Z h0 ba kb .byte (4 : Int32) [(.int (0 : Int32)), (.int (0 : Int32)), (.int (0 : Int32)), (.int (0 : Int32))] (.int (0 : Int32))) :
    own_M l Z (⟨"java/lang/StringUTF16", "compress", "([CI[BII)I"⟩ : MethodName) jdk_52_method_21_code 7 (some .int) ws ({ frames := 0, cells := 0, slots := 0, locals := 0 } : Room) #[(.ref ca), (.int (0 : Int32)), (.ref ba), (.int (0 : Int32)), (.int (4 : Int32))] h0  (Qc5_4 Z ba kb c0 c1 c2 c3 h0 n0) := by
  refine own_bodyM pf_18 ?_
  intro p e s m below meth c s₁ hx hby hml hown hnm hlk hret hZ X0 e0
  have N0 : Fr n0 [] := Fr.nil n0
  refine own_go (f' := (mkF m 0 #[.val (.ref ca), .val (.int (0 : Int32)), .val (.ref ba), .val (.int (0 : Int32)), .val (.int (4 : Int32)), .unset, .unset] [])) (fun t k => castTop (ef_rm_c5_4 m ca (0 : Int32) ba (0 : Int32) (4 : Int32)) k) ?_
  have K1 : Keep h0 h0 [ba] := Keep.refl _ _
  refine own_iconst X0 hx (pc' := 1) (0 : Int32) (hb hby d10_0) rfl rfl ?_
  refine own_istore X0 hx (pc' := 3) (Ls' := #[.val (.ref ca), .val (.int (0 : Int32)), .val (.ref ba), .val (.int (0 : Int32)), .val (.int (4 : Int32)), .val (.int (0 : Int32)), .unset]) (hb hby d10_1) rfl rfl ?_
  refine own_iload X0 hx (pc' := 5) (hb hby d10_3) rfl rfl ?_
  refine own_iload X0 hx (pc' := 7) (hb hby d10_5) rfl rfl ?_
  refine own_icmpNo X0 hx (pc' := 10) (hb hby d10_7) (tlt (by decide : (0 : Int32) < (4 : Int32))).2.1 rfl ?_
  refine own_aloadN X0 hx (pc' := 11) (hb hby d10_10) rfl rfl rfl ?_
  refine own_iloadN X0 hx (pc' := 12) (hb hby d10_11) rfl rfl ?_
  obtain ⟨cl2, Ar2, q2, S2, M2, H2, G2⟩ := id V_c
  refine own_caload X0 hx (pc' := 13) hZ (v := c0) e0 Ar2 (inb_of S2 ⟨by decide, by decide⟩) (Has.at H2 (inb_of S2 ⟨by decide, by decide⟩) rfl) (hb hby d10_12) rfl ?_
  refine own_istore X0 hx (pc' := 15) (Ls' := #[.val (.ref ca), .val (.int (0 : Int32)), .val (.ref ba), .val (.int (0 : Int32)), .val (.int (4 : Int32)), .val (.int (0 : Int32)), .val (.int c0)]) (hb hby d10_13) rfl rfl ?_
  refine own_iload X0 hx (pc' := 17) (hb hby d10_15) rfl rfl ?_
  refine own_sipush X0 hx (pc' := 20) (255 : Int32) (hb hby d10_17) rfl rfl ?_
  by_cases hc20_3 : (255 : Int32) < c0
  · skip
    refine own_icmpNo X0 hx (pc' := 23) (hb hby d10_20) (tlt hc20_3).2.2.2 rfl ?_
    refine own_iload X0 hx (pc' := 25) (hb hby d10_23) rfl rfl ?_
    refine own_retI X0 hx hlk hret (hb hby d10_25) (by decide) (by decide) ?_
    rw [e0]
    exact ⟨N0, K1, Or.inr (Or.inl ⟨rfl, hc20_3⟩)⟩
  · skip
    refine own_icmpYes X0 hx (pc' := 26) (hb hby d10_20) (flt hc20_3).2.2.2 (by decide) (by decide) ?_
    refine own_aloadN X0 hx (pc' := 27) (hb hby d10_26) rfl rfl rfl ?_
    refine own_iloadN X0 hx (pc' := 28) (hb hby d10_27) rfl rfl ?_
    refine own_iload X0 hx (pc' := 30) (hb hby d10_28) rfl rfl ?_
    refine own_i2b X0 hx (pc' := 31) (hb hby d10_30) rfl ?_
    obtain ⟨cl4, Ar4, q4, S4, M4, H4, G4⟩ := id V_b
    refine own_stB X0 hx (pc' := 32) hZ e0 Ar4 (inb_of S4 ⟨by decide, by decide⟩) (hb hby d10_31) rfl (fun T5 h5 X5 e5 W5 => ?_)
    have N6 := Fr.snoc X5 N0 g_b
    have Z7 : n0 ≤ h5.size := Nat.le_trans Z0 (Nat.le_of_eq (Wr.size W5).symm)
    have K8 : Keep h0 h5 [ba] := K1.wr W5 (Or.inl (List.mem_of_getElem? (i := 0) rfl))
    have F9 := (V_c.other W5 nab)
    have F10 : Arv Z h5 ba kb .byte (4 : Int32) [(.int (nar .byte (c0.toInt8.toInt32))), (.int (0 : Int32)), (.int (0 : Int32)), (.int (0 : Int32))] (.int (0 : Int32)) := (Arv.set Ar4 q4 S4 M4 H4 G4 (fits_nar_byte _) W5 0 rfl (Nat.le_of_ble_eq_true rfl))
    refine own_iinc X5 hx (pc' := 35) (Ls' := #[.val (.ref ca), .val (.int (1 : Int32)), .val (.ref ba), .val (.int (0 : Int32)), .val (.int (4 : Int32)), .val (.int (0 : Int32)), .val (.int c0)]) (hb hby d10_32) rfl rfl rfl ?_
    refine own_iinc X5 hx (pc' := 38) (Ls' := #[.val (.ref ca), .val (.int (1 : Int32)), .val (.ref ba), .val (.int (1 : Int32)), .val (.int (4 : Int32)), .val (.int (0 : Int32)), .val (.int c0)]) (hb hby d10_35) rfl rfl rfl ?_
    refine own_iinc X5 hx (pc' := 41) (Ls' := #[.val (.ref ca), .val (.int (1 : Int32)), .val (.ref ba), .val (.int (1 : Int32)), .val (.int (4 : Int32)), .val (.int (1 : Int32)), .val (.int c0)]) (hb hby d10_38) rfl rfl rfl ?_
    refine own_goto X5 hx (pc' := 3) (hb hby d10_41) (by decide) (by decide) ?_
    refine own_iload X5 hx (pc' := 5) (hb hby d10_3) rfl rfl ?_
    refine own_iload X5 hx (pc' := 7) (hb hby d10_5) rfl rfl ?_
    refine own_icmpNo X5 hx (pc' := 10) (hb hby d10_7) (tlt (by decide : (1 : Int32) < (4 : Int32))).2.1 rfl ?_
    refine own_aloadN X5 hx (pc' := 11) (hb hby d10_10) rfl rfl rfl ?_
    refine own_iloadN X5 hx (pc' := 12) (hb hby d10_11) rfl rfl ?_
    obtain ⟨cl11, Ar11, q11, S11, M11, H11, G11⟩ := id F9
    refine own_caload X5 hx (pc' := 13) hZ (v := c1) e5 Ar11 (inb_of S11 ⟨by decide, by decide⟩) (Has.at H11 (inb_of S11 ⟨by decide, by decide⟩) rfl) (hb hby d10_12) rfl ?_
    refine own_istore X5 hx (pc' := 15) (Ls' := #[.val (.ref ca), .val (.int (1 : Int32)), .val (.ref ba), .val (.int (1 : Int32)), .val (.int (4 : Int32)), .val (.int (1 : Int32)), .val (.int c1)]) (hb hby d10_13) rfl rfl ?_
    refine own_iload X5 hx (pc' := 17) (hb hby d10_15) rfl rfl ?_
    refine own_sipush X5 hx (pc' := 20) (255 : Int32) (hb hby d10_17) rfl rfl ?_
    by_cases hc20_12 : (255 : Int32) < c1
    · skip
      refine own_icmpNo X5 hx (pc' := 23) (hb hby d10_20) (tlt hc20_12).2.2.2 rfl ?_
      refine own_iload X5 hx (pc' := 25) (hb hby d10_23) rfl rfl ?_
      refine own_retI X5 hx hlk hret (hb hby d10_25) (by decide) (by decide) ?_
      rw [e5]
      exact ⟨N6, K8, Or.inr (Or.inr (Or.inl ⟨rfl, hc20_12⟩))⟩
    · skip
      refine own_icmpYes X5 hx (pc' := 26) (hb hby d10_20) (flt hc20_12).2.2.2 (by decide) (by decide) ?_
      refine own_aloadN X5 hx (pc' := 27) (hb hby d10_26) rfl rfl rfl ?_
      refine own_iloadN X5 hx (pc' := 28) (hb hby d10_27) rfl rfl ?_
      refine own_iload X5 hx (pc' := 30) (hb hby d10_28) rfl rfl ?_
      refine own_i2b X5 hx (pc' := 31) (hb hby d10_30) rfl ?_
      obtain ⟨cl13, Ar13, q13, S13, M13, H13, G13⟩ := id F10
      refine own_stB X5 hx (pc' := 32) hZ e5 Ar13 (inb_of S13 ⟨by decide, by decide⟩) (hb hby d10_31) rfl (fun T14 h14 X14 e14 W14 => ?_)
      have N15 := Fr.snoc X14 N6 g_b
      have Z16 : n0 ≤ h14.size := Nat.le_trans Z7 (Nat.le_of_eq (Wr.size W14).symm)
      have K17 : Keep h0 h14 [ba] := K8.wr W14 (Or.inl (List.mem_of_getElem? (i := 0) rfl))
      have F18 := (F9.other W14 nab)
      have F19 : Arv Z h14 ba kb .byte (4 : Int32) [(.int (nar .byte (c0.toInt8.toInt32))), (.int (nar .byte (c1.toInt8.toInt32))), (.int (0 : Int32)), (.int (0 : Int32))] (.int (0 : Int32)) := (Arv.set Ar13 q13 S13 M13 H13 G13 (fits_nar_byte _) W14 1 rfl (Nat.le_of_ble_eq_true rfl))
      refine own_iinc X14 hx (pc' := 35) (Ls' := #[.val (.ref ca), .val (.int (2 : Int32)), .val (.ref ba), .val (.int (1 : Int32)), .val (.int (4 : Int32)), .val (.int (1 : Int32)), .val (.int c1)]) (hb hby d10_32) rfl rfl rfl ?_
      refine own_iinc X14 hx (pc' := 38) (Ls' := #[.val (.ref ca), .val (.int (2 : Int32)), .val (.ref ba), .val (.int (2 : Int32)), .val (.int (4 : Int32)), .val (.int (1 : Int32)), .val (.int c1)]) (hb hby d10_35) rfl rfl rfl ?_
      refine own_iinc X14 hx (pc' := 41) (Ls' := #[.val (.ref ca), .val (.int (2 : Int32)), .val (.ref ba), .val (.int (2 : Int32)), .val (.int (4 : Int32)), .val (.int (2 : Int32)), .val (.int c1)]) (hb hby d10_38) rfl rfl rfl ?_
      refine own_goto X14 hx (pc' := 3) (hb hby d10_41) (by decide) (by decide) ?_
      refine own_iload X14 hx (pc' := 5) (hb hby d10_3) rfl rfl ?_
      refine own_iload X14 hx (pc' := 7) (hb hby d10_5) rfl rfl ?_
      refine own_icmpNo X14 hx (pc' := 10) (hb hby d10_7) (tlt (by decide : (2 : Int32) < (4 : Int32))).2.1 rfl ?_
      refine own_aloadN X14 hx (pc' := 11) (hb hby d10_10) rfl rfl rfl ?_
      refine own_iloadN X14 hx (pc' := 12) (hb hby d10_11) rfl rfl ?_
      obtain ⟨cl20, Ar20, q20, S20, M20, H20, G20⟩ := id F18
      refine own_caload X14 hx (pc' := 13) hZ (v := c2) e14 Ar20 (inb_of S20 ⟨by decide, by decide⟩) (Has.at H20 (inb_of S20 ⟨by decide, by decide⟩) rfl) (hb hby d10_12) rfl ?_
      refine own_istore X14 hx (pc' := 15) (Ls' := #[.val (.ref ca), .val (.int (2 : Int32)), .val (.ref ba), .val (.int (2 : Int32)), .val (.int (4 : Int32)), .val (.int (2 : Int32)), .val (.int c2)]) (hb hby d10_13) rfl rfl ?_
      refine own_iload X14 hx (pc' := 17) (hb hby d10_15) rfl rfl ?_
      refine own_sipush X14 hx (pc' := 20) (255 : Int32) (hb hby d10_17) rfl rfl ?_
      by_cases hc20_21 : (255 : Int32) < c2
      · skip
        refine own_icmpNo X14 hx (pc' := 23) (hb hby d10_20) (tlt hc20_21).2.2.2 rfl ?_
        refine own_iload X14 hx (pc' := 25) (hb hby d10_23) rfl rfl ?_
        refine own_retI X14 hx hlk hret (hb hby d10_25) (by decide) (by decide) ?_
        rw [e14]
        exact ⟨N15, K17, Or.inr (Or.inr (Or.inr (Or.inl ⟨rfl, hc20_21⟩)))⟩
      · skip
        refine own_icmpYes X14 hx (pc' := 26) (hb hby d10_20) (flt hc20_21).2.2.2 (by decide) (by decide) ?_
        refine own_aloadN X14 hx (pc' := 27) (hb hby d10_26) rfl rfl rfl ?_
        refine own_iloadN X14 hx (pc' := 28) (hb hby d10_27) rfl rfl ?_
        refine own_iload X14 hx (pc' := 30) (hb hby d10_28) rfl rfl ?_
        refine own_i2b X14 hx (pc' := 31) (hb hby d10_30) rfl ?_
        obtain ⟨cl22, Ar22, q22, S22, M22, H22, G22⟩ := id F19
        refine own_stB X14 hx (pc' := 32) hZ e14 Ar22 (inb_of S22 ⟨by decide, by decide⟩) (hb hby d10_31) rfl (fun T23 h23 X23 e23 W23 => ?_)
        have N24 := Fr.snoc X23 N15 g_b
        have Z25 : n0 ≤ h23.size := Nat.le_trans Z16 (Nat.le_of_eq (Wr.size W23).symm)
        have K26 : Keep h0 h23 [ba] := K17.wr W23 (Or.inl (List.mem_of_getElem? (i := 0) rfl))
        have F27 := (F18.other W23 nab)
        have F28 : Arv Z h23 ba kb .byte (4 : Int32) [(.int (nar .byte (c0.toInt8.toInt32))), (.int (nar .byte (c1.toInt8.toInt32))), (.int (nar .byte (c2.toInt8.toInt32))), (.int (0 : Int32))] (.int (0 : Int32)) := (Arv.set Ar22 q22 S22 M22 H22 G22 (fits_nar_byte _) W23 2 rfl (Nat.le_of_ble_eq_true rfl))
        refine own_iinc X23 hx (pc' := 35) (Ls' := #[.val (.ref ca), .val (.int (3 : Int32)), .val (.ref ba), .val (.int (2 : Int32)), .val (.int (4 : Int32)), .val (.int (2 : Int32)), .val (.int c2)]) (hb hby d10_32) rfl rfl rfl ?_
        refine own_iinc X23 hx (pc' := 38) (Ls' := #[.val (.ref ca), .val (.int (3 : Int32)), .val (.ref ba), .val (.int (3 : Int32)), .val (.int (4 : Int32)), .val (.int (2 : Int32)), .val (.int c2)]) (hb hby d10_35) rfl rfl rfl ?_
        refine own_iinc X23 hx (pc' := 41) (Ls' := #[.val (.ref ca), .val (.int (3 : Int32)), .val (.ref ba), .val (.int (3 : Int32)), .val (.int (4 : Int32)), .val (.int (3 : Int32)), .val (.int c2)]) (hb hby d10_38) rfl rfl rfl ?_
        refine own_goto X23 hx (pc' := 3) (hb hby d10_41) (by decide) (by decide) ?_
        refine own_iload X23 hx (pc' := 5) (hb hby d10_3) rfl rfl ?_
        refine own_iload X23 hx (pc' := 7) (hb hby d10_5) rfl rfl ?_
        refine own_icmpNo X23 hx (pc' := 10) (hb hby d10_7) (tlt (by decide : (3 : Int32) < (4 : Int32))).2.1 rfl ?_
        refine own_aloadN X23 hx (pc' := 11) (hb hby d10_10) rfl rfl rfl ?_
        refine own_iloadN X23 hx (pc' := 12) (hb hby d10_11) rfl rfl ?_
        obtain ⟨cl29, Ar29, q29, S29, M29, H29, G29⟩ := id F27
        refine own_caload X23 hx (pc' := 13) hZ (v := c3) e23 Ar29 (inb_of S29 ⟨by decide, by decide⟩) (Has.at H29 (inb_of S29 ⟨by decide, by decide⟩) rfl) (hb hby d10_12) rfl ?_
        refine own_istore X23 hx (pc' := 15) (Ls' := #[.val (.ref ca), .val (.int (3 : Int32)), .val (.ref ba), .val (.int (3 : Int32)), .val (.int (4 : Int32)), .val (.int (3 : Int32)), .val (.int c3)]) (hb hby d10_13) rfl rfl ?_
        refine own_iload X23 hx (pc' := 17) (hb hby d10_15) rfl rfl ?_
        refine own_sipush X23 hx (pc' := 20) (255 : Int32) (hb hby d10_17) rfl rfl ?_
        by_cases hc20_30 : (255 : Int32) < c3
        · skip
          refine own_icmpNo X23 hx (pc' := 23) (hb hby d10_20) (tlt hc20_30).2.2.2 rfl ?_
          refine own_iload X23 hx (pc' := 25) (hb hby d10_23) rfl rfl ?_
          refine own_retI X23 hx hlk hret (hb hby d10_25) (by decide) (by decide) ?_
          rw [e23]
          exact ⟨N24, K26, Or.inr (Or.inr (Or.inr (Or.inr ⟨rfl, hc20_30⟩)))⟩
        · skip
          refine own_icmpYes X23 hx (pc' := 26) (hb hby d10_20) (flt hc20_30).2.2.2 (by decide) (by decide) ?_
          refine own_aloadN X23 hx (pc' := 27) (hb hby d10_26) rfl rfl rfl ?_
          refine own_iloadN X23 hx (pc' := 28) (hb hby d10_27) rfl rfl ?_
          refine own_iload X23 hx (pc' := 30) (hb hby d10_28) rfl rfl ?_
          refine own_i2b X23 hx (pc' := 31) (hb hby d10_30) rfl ?_
          obtain ⟨cl31, Ar31, q31, S31, M31, H31, G31⟩ := id F28
          refine own_stB X23 hx (pc' := 32) hZ e23 Ar31 (inb_of S31 ⟨by decide, by decide⟩) (hb hby d10_31) rfl (fun T32 h32 X32 e32 W32 => ?_)
          have N33 := Fr.snoc X32 N24 g_b
          have Z34 : n0 ≤ h32.size := Nat.le_trans Z25 (Nat.le_of_eq (Wr.size W32).symm)
          have K35 : Keep h0 h32 [ba] := K26.wr W32 (Or.inl (List.mem_of_getElem? (i := 0) rfl))
          have F36 := (F27.other W32 nab)
          have F37 : Arv Z h32 ba kb .byte (4 : Int32) [(.int (nar .byte (c0.toInt8.toInt32))), (.int (nar .byte (c1.toInt8.toInt32))), (.int (nar .byte (c2.toInt8.toInt32))), (.int (nar .byte (c3.toInt8.toInt32)))] (.int (0 : Int32)) := (Arv.set Ar31 q31 S31 M31 H31 G31 (fits_nar_byte _) W32 3 rfl (Nat.le_of_ble_eq_true rfl))
          refine own_iinc X32 hx (pc' := 35) (Ls' := #[.val (.ref ca), .val (.int (4 : Int32)), .val (.ref ba), .val (.int (3 : Int32)), .val (.int (4 : Int32)), .val (.int (3 : Int32)), .val (.int c3)]) (hb hby d10_32) rfl rfl rfl ?_
          refine own_iinc X32 hx (pc' := 38) (Ls' := #[.val (.ref ca), .val (.int (4 : Int32)), .val (.ref ba), .val (.int (4 : Int32)), .val (.int (4 : Int32)), .val (.int (3 : Int32)), .val (.int c3)]) (hb hby d10_35) rfl rfl rfl ?_
          refine own_iinc X32 hx (pc' := 41) (Ls' := #[.val (.ref ca), .val (.int (4 : Int32)), .val (.ref ba), .val (.int (4 : Int32)), .val (.int (4 : Int32)), .val (.int (4 : Int32)), .val (.int c3)]) (hb hby d10_38) rfl rfl rfl ?_
          refine own_goto X32 hx (pc' := 3) (hb hby d10_41) (by decide) (by decide) ?_
          refine own_iload X32 hx (pc' := 5) (hb hby d10_3) rfl rfl ?_
          refine own_iload X32 hx (pc' := 7) (hb hby d10_5) rfl rfl ?_
          refine own_icmpYes X32 hx (pc' := 44) (hb hby d10_7) (flt (by decide : ¬ ((4 : Int32) < (4 : Int32)))).2.1 (by decide) (by decide) ?_
          refine own_iload X32 hx (pc' := 46) (hb hby d10_44) rfl rfl ?_
          refine own_retI X32 hx hlk hret (hb hby d10_46) (by decide) (by decide) ?_
          rw [e32]
          exact ⟨N33, K35, Or.inl ⟨rfl, ⟨hc20_3, hc20_12, hc20_21, hc20_30⟩, F37⟩⟩

theorem d9_0 : decode jdk_52_method_16_code 0 = .ok (.iload_n 2, 1) := by decide +kernel
theorem d9_1 : decode jdk_52_method_16_code 1 = .ok (.newarray .byte, 2) := by decide +kernel
theorem d9_3 : decode jdk_52_method_16_code 3 = .ok (.astore_n 3, 1) := by decide +kernel
theorem d9_4 : decode jdk_52_method_16_code 4 = .ok (.aload_n 0, 1) := by decide +kernel
theorem d9_5 : decode jdk_52_method_16_code 5 = .ok (.iload_n 1, 1) := by decide +kernel
theorem d9_6 : decode jdk_52_method_16_code 6 = .ok (.aload_n 3, 1) := by decide +kernel
theorem d9_7 : decode jdk_52_method_16_code 7 = .ok (.iconst 0, 1) := by decide +kernel
theorem d9_8 : decode jdk_52_method_16_code 8 = .ok (.iload_n 2, 1) := by decide +kernel
theorem d9_9 : decode jdk_52_method_16_code 9 = .ok (.invokestatic 115, 3) := by decide +kernel
theorem d9_12 : decode jdk_52_method_16_code 12 = .ok (.istore 4, 2) := by decide +kernel
theorem d9_14 : decode jdk_52_method_16_code 14 = .ok (.iload 4, 2) := by decide +kernel
theorem d9_16 : decode jdk_52_method_16_code 16 = .ok (.iload_n 2, 1) := by decide +kernel
theorem d9_17 : decode jdk_52_method_16_code 17 = .ok (.if_icmp .eq 40, 3) := by decide +kernel
theorem d9_20 : decode jdk_52_method_16_code 20 = .ok (.aload_n 0, 1) := by decide +kernel
theorem d9_21 : decode jdk_52_method_16_code 21 = .ok (.iload_n 1, 1) := by decide +kernel
theorem d9_22 : decode jdk_52_method_16_code 22 = .ok (.iload_n 2, 1) := by decide +kernel
theorem d9_23 : decode jdk_52_method_16_code 23 = .ok (.invokestatic 119, 3) := by decide +kernel
theorem d9_26 : decode jdk_52_method_16_code 26 = .ok (.astore 5, 2) := by decide +kernel
theorem d9_28 : decode jdk_52_method_16_code 28 = .ok (.aload 5, 2) := by decide +kernel
theorem d9_30 : decode jdk_52_method_16_code 30 = .ok (.iload 4, 2) := by decide +kernel
theorem d9_32 : decode jdk_52_method_16_code 32 = .ok (.invokestatic 71, 3) := by decide +kernel
theorem d9_35 : decode jdk_52_method_16_code 35 = .ok (.sipush 255, 3) := by decide +kernel
theorem d9_38 : decode jdk_52_method_16_code 38 = .ok (.if_icmp .gt 16, 3) := by decide +kernel
theorem d9_41 : decode jdk_52_method_16_code 41 = .ok (.aload 5, 2) := by decide +kernel
theorem d9_43 : decode jdk_52_method_16_code 43 = .ok (.iconst 0, 1) := by decide +kernel
theorem d9_44 : decode jdk_52_method_16_code 44 = .ok (.aload_n 3, 1) := by decide +kernel
theorem d9_45 : decode jdk_52_method_16_code 45 = .ok (.iconst 0, 1) := by decide +kernel
theorem d9_46 : decode jdk_52_method_16_code 46 = .ok (.iload_n 2, 1) := by decide +kernel
theorem d9_47 : decode jdk_52_method_16_code 47 = .ok (.invokestatic 123, 3) := by decide +kernel
theorem d9_50 : decode jdk_52_method_16_code 50 = .ok (.iload_n 2, 1) := by decide +kernel
theorem d9_51 : decode jdk_52_method_16_code 51 = .ok (.if_icmp .eq 6, 3) := by decide +kernel
theorem d9_54 : decode jdk_52_method_16_code 54 = .ok (.aload 5, 2) := by decide +kernel
theorem d9_56 : decode jdk_52_method_16_code 56 = .ok (.areturn, 1) := by decide +kernel
theorem d9_57 : decode jdk_52_method_16_code 57 = .ok (.aload_n 3, 1) := by decide +kernel
theorem d9_58 : decode jdk_52_method_16_code 58 = .ok (.areturn, 1) := by decide +kernel
def Qc3_1 (Z : State) (c0 : Int32) (h0 : Heap) (n0 : Nat) (v : Option Value) (h : Heap) (L : List Loc) : Prop := Fr n0 L ∧ Keep h0 h [] ∧ ∃ (ba : Addr) (kb : ClassId), v = some (.ref ba) ∧ n0 ≤ ba ∧ h0.size ≤ ba ∧ (((¬ (255 : Int32) < c0) ∧ Arv Z h ba kb .byte (1 : Int32) [(.int (own_lb c0))] (.int (0 : Int32))) ∨ Arv Z h ba kb .byte (2 : Int32) [(.int (own_b0 c0)), (.int (own_b1 c0))] (.int (0 : Int32)))
theorem ef_rm_c3_1 (m : MethodId) (x0 : Addr) (x1 : Int32) (x2 : Int32) : entryFrame m #[(.ref x0), (.int x1), (.int x2)] 6 = mkF m 0 #[.val (.ref x0), .val (.int x1), .val (.int x2), .unset, .unset, .unset] [] := by first | (simp [entryFrame, mkF, argsToLocals, Value.category, maxLocals]; done) | rfl
theorem pf_19 : plainFor (⟨"java/lang/StringUTF16", "compress", "([CII)[B"⟩ : MethodName) = true := by apply plainFor_of_name; first | (simp [plainName, overriddenIn]; done) | decide +kernel
theorem Wd55 {a0 : Array Value} {Z : State} (hw : ∀ d ∈ tables_1, d.before a0 Z = true) : (Jvm.Cond.code ({ cls := "java/lang/StringUTF16", name := "compress", desc := "([CI[BII)I" } : Jvm.MethodName) jdk_52_method_21_code (7 : Nat) (Option.some Jvm.ClassFile.FieldType.int)).before a0 Z = true := hw _ (List.mem_of_getElem? (i := 55) rfl)
theorem pd_5 : parseMethodDescriptor "([CI[BII)I" = some ⟨[(.array .char), .int, (.array .byte), .int, .int], some .int⟩ := by decide +kernel
theorem Wd53 {a0 : Array Value} {Z : State} (hw : ∀ d ∈ tables_1, d.before a0 Z = true) : (Jvm.Cond.methodLink "java/lang/StringUTF16" (115 : Nat) ({ cls := "java/lang/StringUTF16", name := "compress", desc := "([CI[BII)I" } : Jvm.MethodName)).before a0 Z = true := hw _ (List.mem_of_getElem? (i := 53) rfl)
theorem Wd54 {a0 : Array Value} {Z : State} (hw : ∀ d ∈ tables_1, d.before a0 Z = true) : (Jvm.Cond.static ({ cls := "java/lang/StringUTF16", name := "compress", desc := "([CI[BII)I" } : Jvm.MethodName)).before a0 Z = true := hw _ (List.mem_of_getElem? (i := 54) rfl)
theorem Wd91 {a0 : Array Value} {Z : State} (hw : ∀ d ∈ tables_1, d.before a0 Z = true) : (Jvm.Cond.code ({ cls := "java/lang/StringUTF16", name := "toBytes", desc := "([CII)[B" } : Jvm.MethodName) jdk_52_method_14_code (5 : Nat) (Option.some (Jvm.ClassFile.FieldType.array Jvm.ClassFile.FieldType.byte))).before a0 Z = true := hw _ (List.mem_of_getElem? (i := 91) rfl)
theorem pd_6 : parseMethodDescriptor "([CII)[B" = some ⟨[(.array .char), .int, .int], some (.array .byte)⟩ := by decide +kernel
theorem Wd89 {a0 : Array Value} {Z : State} (hw : ∀ d ∈ tables_1, d.before a0 Z = true) : (Jvm.Cond.methodLink "java/lang/StringUTF16" (119 : Nat) ({ cls := "java/lang/StringUTF16", name := "toBytes", desc := "([CII)[B" } : Jvm.MethodName)).before a0 Z = true := hw _ (List.mem_of_getElem? (i := 89) rfl)
theorem Wd90 {a0 : Array Value} {Z : State} (hw : ∀ d ∈ tables_1, d.before a0 Z = true) : (Jvm.Cond.static ({ cls := "java/lang/StringUTF16", name := "toBytes", desc := "([CII)[B" } : Jvm.MethodName)).before a0 Z = true := hw _ (List.mem_of_getElem? (i := 90) rfl)
theorem Wd107 {a0 : Array Value} {Z : State} (hw : ∀ d ∈ tables_1, d.before a0 Z = true) : (Jvm.Cond.code ({ cls := "java/lang/StringUTF16", name := "getChar", desc := "([BI)C" } : Jvm.MethodName) jdk_52_method_5_code (2 : Nat) (Option.some Jvm.ClassFile.FieldType.char)).before a0 Z = true := hw _ (List.mem_of_getElem? (i := 107) rfl)
theorem pd_7 : parseMethodDescriptor "([BI)C" = some ⟨[(.array .byte), .int], some .char⟩ := by decide +kernel
theorem Wd105 {a0 : Array Value} {Z : State} (hw : ∀ d ∈ tables_1, d.before a0 Z = true) : (Jvm.Cond.methodLink "java/lang/StringUTF16" (71 : Nat) ({ cls := "java/lang/StringUTF16", name := "getChar", desc := "([BI)C" } : Jvm.MethodName)).before a0 Z = true := hw _ (List.mem_of_getElem? (i := 105) rfl)
theorem Wd106 {a0 : Array Value} {Z : State} (hw : ∀ d ∈ tables_1, d.before a0 Z = true) : (Jvm.Cond.static ({ cls := "java/lang/StringUTF16", name := "getChar", desc := "([BI)C" } : Jvm.MethodName)).before a0 Z = true := hw _ (List.mem_of_getElem? (i := 106) rfl)
set_option maxRecDepth 65536 in
set_option maxHeartbeats 40000000 in
theorem rm_c3_1 (l : Launch) (Z : State) (a0 : Array Value) (hw : ∀ d ∈ tables_1, d.before a0 Z = true) (ws : List Jvm.Cond) (cz : Int32) (sv : Value) (hcz : ¬ cz = (0 : Int32)) (hsv : sv.isRef = true) (ca : Addr) (ka : ClassId) (c0 : Int32) (h0 : Heap) (n0 : Nat) (Z0 : n0 ≤ h0.size) (rc0 : own_ch c0) (V_c : Arv Z h0 ca ka .char (1 : Int32) [(.int c0)] (.int (0 : Int32))) (B_ST : own_ST n0 Z h0 cz sv) :
    own_M l Z (⟨"java/lang/StringUTF16", "compress", "([CII)[B"⟩ : MethodName) jdk_52_method_16_code 6 (some (.array .byte)) ws ({ frames := 3, cells := 2, slots := 3, locals := 40 } : Room) #[(.ref ca), (.int (0 : Int32)), (.int (1 : Int32))] h0  (Qc3_1 Z c0 h0 n0) := by
  refine own_bodyM pf_19 ?_
  intro p e s m below meth c s₁ hx hby hml hown hnm hlk hret hZ X0 e0
  have N0 : Fr n0 [] := Fr.nil n0
  refine own_go (f' := (mkF m 0 #[.val (.ref ca), .val (.int (0 : Int32)), .val (.int (1 : Int32)), .unset, .unset, .unset] [])) (fun t k => castTop (ef_rm_c3_1 m ca (0 : Int32) (1 : Int32)) k) ?_
  have K1 : Keep h0 h0 [] := Keep.refl _ _
  refine own_iloadN X0 hx (pc' := 1) (hb hby d9_0) rfl rfl ?_
  refine own_newP X0 hx (pc' := 3) hZ (aty := .byte) (Wd22 hw) e0 (hb hby d9_1) (by decide) 1 (by decide) (by decide) (by decide) (by decide) rfl (fun T2 h2 kc2 nb2 g2 X2 e2 E2 A2 => ?_)
  have ne_ca_nb2_3 : ca ≠ nb2 := Nat.ne_of_lt (Nat.lt_of_lt_of_le V_c.lt (Nat.le_of_eq g2.symm))
  have ge_nb2 : n0 ≤ nb2 := Nat.le_trans Z0 (Nat.le_of_eq g2.symm)
  have gk_nb2 : h0.size ≤ nb2 := Nat.le_trans K1.1 (Nat.le_of_eq g2.symm)
  have Z4 : n0 ≤ h2.size := Nat.le_trans Z0 E2.1
  have K5 : Keep h0 h2 [] := K1.ext E2
  have F6 := (B_ST.ext E2)
  have F7 := (V_c.ext E2)
  have V8a : Arv Z h2 nb2 kc2 .byte (1 : Int32) [] (.int (0 : Int32)) := Arv.new A2 (by decide)
  have V8b : Arv Z h2 nb2 kc2 .byte (1 : Int32) (List.replicate 1 (.int (0 : Int32))) (.int (0 : Int32)) := V8a.pad (pad_rep [] _ 1)
  have V8 : Arv Z h2 nb2 kc2 .byte (1 : Int32) [(.int (0 : Int32))] (.int (0 : Int32)) := V8b
  refine own_astoreN X2 hx (pc' := 4) (Ls' := #[.val (.ref ca), .val (.int (0 : Int32)), .val (.int (1 : Int32)), .val (.ref nb2), .unset, .unset]) (hb hby d9_3) rfl rfl rfl ?_
  refine own_aloadN X2 hx (pc' := 5) (hb hby d9_4) rfl rfl rfl ?_
  refine own_iloadN X2 hx (pc' := 6) (hb hby d9_5) rfl rfl ?_
  refine own_aloadN X2 hx (pc' := 7) (hb hby d9_6) rfl rfl rfl ?_
  refine own_iconst X2 hx (pc' := 8) (0 : Int32) (hb hby d9_7) rfl rfl ?_
  refine own_iloadN X2 hx (pc' := 9) (hb hby d9_8) rfl rfl ?_
  refine own_callS X2 hx (pc' := 12) hZ hown (Wd53 hw) (Wd54 hw) (Wd51 hw) (Wd55 hw) (by decide) (rm_c5_1 l Z a0 hw []  ca nb2 ka kc2 c0 h2 n0 Z4 ge_nb2 ne_ca_nb2_3 F7 V8 ) e2 0 (by decide) (by decide) (by decide) (by decide) [(.ref ca), (.int (0 : Int32)), (.ref nb2), (.int (0 : Int32)), (.int (1 : Int32))] [] (by rw [hml]; rfl) (lenOf pd_5 rfl) rfl rfl (Nat.le_of_eq rfl) (hb hby d9_9) rfl (fun v9 T9 L9 X9 hQ9 => ?_)
  obtain ⟨Nq9, K9, hor⟩ := hQ9
  have N10 := Fr.app N0 Nq9
  have Z11 : n0 ≤ T9.heap.size := Nat.le_trans Z4 K9.1
  have K12 : Keep h0 T9.heap [] := Keep.trans K5 K9 (allS (Or.inr gk_nb2) all0)
  have F13 := (F6.keep K9 (own_allge ge_nb2 (fun x hx => absurd hx List.not_mem_nil)))
  have F14 := (F7.keep K9 (ninS ne_ca_nb2_3 nin0))
  rcases hor with ⟨rfl, hl, V9⟩ | ⟨rfl, hg⟩
  · skip
    show own_G p.tables e below _ T9 (mkF m 12 #[.val (.ref ca), .val (.int (0 : Int32)), .val (.int (1 : Int32)), .val (.ref nb2), .unset, .unset] [(.int (1 : Int32))])
    refine own_istore X9 hx (pc' := 14) (Ls' := #[.val (.ref ca), .val (.int (0 : Int32)), .val (.int (1 : Int32)), .val (.ref nb2), .val (.int (1 : Int32)), .unset]) (hb hby d9_12) rfl rfl ?_
    refine own_iload X9 hx (pc' := 16) (hb hby d9_14) rfl rfl ?_
    refine own_iloadN X9 hx (pc' := 17) (hb hby d9_16) rfl rfl ?_
    refine own_icmpYes X9 hx (pc' := 57) (hb hby d9_17) (teq rfl).1 (by decide) (by decide) ?_
    refine own_aloadN X9 hx (pc' := 58) (hb hby d9_57) rfl rfl rfl ?_
    refine own_retA X9 hx hlk hret rfl rfl rfl (hb hby d9_58) (by decide) (by decide) ?_
    exact ⟨N10, K12, nb2, _, rfl, ge_nb2, gk_nb2, Or.inl ⟨hl, V9⟩⟩
  · skip
    show own_G p.tables e below _ T9 (mkF m 12 #[.val (.ref ca), .val (.int (0 : Int32)), .val (.int (1 : Int32)), .val (.ref nb2), .unset, .unset] [(.int (0 : Int32))])
    refine own_istore X9 hx (pc' := 14) (Ls' := #[.val (.ref ca), .val (.int (0 : Int32)), .val (.int (1 : Int32)), .val (.ref nb2), .val (.int (0 : Int32)), .unset]) (hb hby d9_12) rfl rfl ?_
    refine own_iload X9 hx (pc' := 16) (hb hby d9_14) rfl rfl ?_
    refine own_iloadN X9 hx (pc' := 17) (hb hby d9_16) rfl rfl ?_
    refine own_icmpNo X9 hx (pc' := 20) (hb hby d9_17) (feq (by decide : ¬ ((0 : Int32) = (1 : Int32)))).1 rfl ?_
    refine own_aloadN X9 hx (pc' := 21) (hb hby d9_20) rfl rfl rfl ?_
    refine own_iloadN X9 hx (pc' := 22) (hb hby d9_21) rfl rfl ?_
    refine own_iloadN X9 hx (pc' := 23) (hb hby d9_22) rfl rfl ?_
    refine own_callS X9 hx (pc' := 26) hZ hown (Wd89 hw) (Wd90 hw) (Wd51 hw) (Wd91 hw) (by decide) (rm_tb_1 l Z a0 hw [] cz sv hcz hsv ca ka c0 T9.heap n0 Z11 F14 F13) rfl 0 (by decide) (by decide) (by decide) (by decide) [(.ref ca), (.int (0 : Int32)), (.int (1 : Int32))] [] (by rw [hml]; rfl) (lenOf pd_6 rfl) rfl rfl (Nat.le_of_eq rfl) (hb hby d9_23) rfl (fun v15 T15 L15 X15 hQ15 => ?_)
    obtain ⟨Nq15, K15, ba15, kb15, rfl, gb15, gz15, V15⟩ := hQ15
    have N16 := Fr.app N10 Nq15
    have ne_ca_ba15_17 : ca ≠ ba15 := Nat.ne_of_lt (Nat.lt_of_lt_of_le F14.lt gz15)
    have gk_ba15 := Nat.le_trans K12.1 gz15
    have Z18 : n0 ≤ T15.heap.size := Nat.le_trans Z11 K15.1
    have K19 : Keep h0 T15.heap [] := Keep.trans K12 K15 all0
    have F20 := (F13.keep K15 (fun x hx => absurd hx List.not_mem_nil))
    have F21 := (F14.keep K15 nin0)
    show own_G p.tables e below _ T15 (mkF m 26 #[.val (.ref ca), .val (.int (0 : Int32)), .val (.int (1 : Int32)), .val (.ref nb2), .val (.int (0 : Int32)), .unset] [(.ref ba15)])
    refine own_astore X15 hx (pc' := 28) (Ls' := #[.val (.ref ca), .val (.int (0 : Int32)), .val (.int (1 : Int32)), .val (.ref nb2), .val (.int (0 : Int32)), .val (.ref ba15)]) (hb hby d9_26) rfl rfl rfl ?_
    refine own_aload X15 hx (pc' := 30) (hb hby d9_28) rfl rfl rfl ?_
    refine own_iload X15 hx (pc' := 32) (hb hby d9_30) rfl rfl ?_
    refine own_cSI X15 hx (pc' := 35) hZ hown (Wd105 hw) (Wd106 hw) (Wd51 hw) (Wd107 hw) (rm_gc_0 l Z a0 hw [] cz sv hcz hsv ba15 kb15 (2 : Int32) [(.int (own_b0 c0)), (.int (own_b1 c0))] c0 T15.heap n0 Z18 V15 (by decide) (by decide) rfl rfl rc0 F20) rfl N16 hml pd_7 (hb hby d9_32) 0 [(.ref ba15), (.int (0 : Int32))] [] (fun T22 L22 X22 e22 N22 => ?_)
    refine own_sipush X22 hx (pc' := 38) (255 : Int32) (hb hby d9_35) rfl rfl ?_
    refine own_icmpYes X22 hx (pc' := 54) (hb hby d9_38) (tlt hg).2.2.1 (by decide) (by decide) ?_
    refine own_aload X22 hx (pc' := 56) (hb hby d9_54) rfl rfl rfl ?_
    refine own_retA X22 hx hlk hret rfl rfl rfl (hb hby d9_56) (by decide) (by decide) ?_
    rw [e22]
    exact ⟨N22, K19, ba15, _, rfl, gb15, gk_ba15, Or.inr V15⟩

def Qc3_2 (Z : State) (c0 c1 : Int32) (h0 : Heap) (n0 : Nat) (v : Option Value) (h : Heap) (L : List Loc) : Prop := Fr n0 L ∧ Keep h0 h [] ∧ ∃ (ba : Addr) (kb : ClassId), v = some (.ref ba) ∧ n0 ≤ ba ∧ h0.size ≤ ba ∧ (((¬ (255 : Int32) < c0 ∧ ¬ (255 : Int32) < c1) ∧ Arv Z h ba kb .byte (2 : Int32) [(.int (own_lb c0)), (.int (own_lb c1))] (.int (0 : Int32))) ∨ Arv Z h ba kb .byte (4 : Int32) [(.int (own_b0 c0)), (.int (own_b1 c0)), (.int (own_b0 c1)), (.int (own_b1 c1))] (.int (0 : Int32)))
theorem ef_rm_c3_2 (m : MethodId) (x0 : Addr) (x1 : Int32) (x2 : Int32) : entryFrame m #[(.ref x0), (.int x1), (.int x2)] 6 = mkF m 0 #[.val (.ref x0), .val (.int x1), .val (.int x2), .unset, .unset, .unset] [] := by first | (simp [entryFrame, mkF, argsToLocals, Value.category, maxLocals]; done) | rfl
set_option maxRecDepth 65536 in
set_option maxHeartbeats 40000000 in
theorem rm_c3_2 (l : Launch) (Z : State) (a0 : Array Value) (hw : ∀ d ∈ tables_1, d.before a0 Z = true) (ws : List Jvm.Cond) (cz : Int32) (sv : Value) (hcz : ¬ cz = (0 : Int32)) (hsv : sv.isRef = true) (ca : Addr) (ka : ClassId) (c0 c1 : Int32) (h0 : Heap) (n0 : Nat) (Z0 : n0 ≤ h0.size) (rc0 : own_ch c0) (rc1 : own_ch c1) (V_c : Arv Z h0 ca ka .char (2 : Int32) [(.int c0), (.int c1)] (.int (0 : Int32))) (B_ST : own_ST n0 Z h0 cz sv) :
    own_M l Z (⟨"java/lang/StringUTF16", "compress", "([CII)[B"⟩ : MethodName) jdk_52_method_16_code 6 (some (.array .byte)) ws ({ frames := 3, cells := 2, slots := 6, locals := 40 } : Room) #[(.ref ca), (.int (0 : Int32)), (.int (2 : Int32))] h0  (Qc3_2 Z c0 c1 h0 n0) := by
  refine own_bodyM pf_19 ?_
  intro p e s m below meth c s₁ hx hby hml hown hnm hlk hret hZ X0 e0
  have N0 : Fr n0 [] := Fr.nil n0
  refine own_go (f' := (mkF m 0 #[.val (.ref ca), .val (.int (0 : Int32)), .val (.int (2 : Int32)), .unset, .unset, .unset] [])) (fun t k => castTop (ef_rm_c3_2 m ca (0 : Int32) (2 : Int32)) k) ?_
  have K1 : Keep h0 h0 [] := Keep.refl _ _
  refine own_iloadN X0 hx (pc' := 1) (hb hby d9_0) rfl rfl ?_
  refine own_newP X0 hx (pc' := 3) hZ (aty := .byte) (Wd22 hw) e0 (hb hby d9_1) (by decide) 2 (by decide) (by decide) (by decide) (by decide) rfl (fun T2 h2 kc2 nb2 g2 X2 e2 E2 A2 => ?_)
  have ne_ca_nb2_3 : ca ≠ nb2 := Nat.ne_of_lt (Nat.lt_of_lt_of_le V_c.lt (Nat.le_of_eq g2.symm))
  have ge_nb2 : n0 ≤ nb2 := Nat.le_trans Z0 (Nat.le_of_eq g2.symm)
  have gk_nb2 : h0.size ≤ nb2 := Nat.le_trans K1.1 (Nat.le_of_eq g2.symm)
  have Z4 : n0 ≤ h2.size := Nat.le_trans Z0 E2.1
  have K5 : Keep h0 h2 [] := K1.ext E2
  have F6 := (B_ST.ext E2)
  have F7 := (V_c.ext E2)
  have V8a : Arv Z h2 nb2 kc2 .byte (2 : Int32) [] (.int (0 : Int32)) := Arv.new A2 (by decide)
  have V8b : Arv Z h2 nb2 kc2 .byte (2 : Int32) (List.replicate 2 (.int (0 : Int32))) (.int (0 : Int32)) := V8a.pad (pad_rep [] _ 2)
  have V8 : Arv Z h2 nb2 kc2 .byte (2 : Int32) [(.int (0 : Int32)), (.int (0 : Int32))] (.int (0 : Int32)) := V8b
  refine own_astoreN X2 hx (pc' := 4) (Ls' := #[.val (.ref ca), .val (.int (0 : Int32)), .val (.int (2 : Int32)), .val (.ref nb2), .unset, .unset]) (hb hby d9_3) rfl rfl rfl ?_
  refine own_aloadN X2 hx (pc' := 5) (hb hby d9_4) rfl rfl rfl ?_
  refine own_iloadN X2 hx (pc' := 6) (hb hby d9_5) rfl rfl ?_
  refine own_aloadN X2 hx (pc' := 7) (hb hby d9_6) rfl rfl rfl ?_
  refine own_iconst X2 hx (pc' := 8) (0 : Int32) (hb hby d9_7) rfl rfl ?_
  refine own_iloadN X2 hx (pc' := 9) (hb hby d9_8) rfl rfl ?_
  refine own_callS X2 hx (pc' := 12) hZ hown (Wd53 hw) (Wd54 hw) (Wd51 hw) (Wd55 hw) (by decide) (rm_c5_2 l Z a0 hw []  ca nb2 ka kc2 c0 c1 h2 n0 Z4 ge_nb2 ne_ca_nb2_3 F7 V8 ) e2 0 (by decide) (by decide) (by decide) (by decide) [(.ref ca), (.int (0 : Int32)), (.ref nb2), (.int (0 : Int32)), (.int (2 : Int32))] [] (by rw [hml]; rfl) (lenOf pd_5 rfl) rfl rfl (Nat.le_of_eq rfl) (hb hby d9_9) rfl (fun v9 T9 L9 X9 hQ9 => ?_)
  obtain ⟨Nq9, K9, hor⟩ := hQ9
  have N10 := Fr.app N0 Nq9
  have Z11 : n0 ≤ T9.heap.size := Nat.le_trans Z4 K9.1
  have K12 : Keep h0 T9.heap [] := Keep.trans K5 K9 (allS (Or.inr gk_nb2) all0)
  have F13 := (F6.keep K9 (own_allge ge_nb2 (fun x hx => absurd hx List.not_mem_nil)))
  have F14 := (F7.keep K9 (ninS ne_ca_nb2_3 nin0))
  rcases hor with ⟨rfl, hl, V9⟩ | ⟨rfl, hg⟩ | ⟨rfl, hg⟩
  · skip
    show own_G p.tables e below _ T9 (mkF m 12 #[.val (.ref ca), .val (.int (0 : Int32)), .val (.int (2 : Int32)), .val (.ref nb2), .unset, .unset] [(.int (2 : Int32))])
    refine own_istore X9 hx (pc' := 14) (Ls' := #[.val (.ref ca), .val (.int (0 : Int32)), .val (.int (2 : Int32)), .val (.ref nb2), .val (.int (2 : Int32)), .unset]) (hb hby d9_12) rfl rfl ?_
    refine own_iload X9 hx (pc' := 16) (hb hby d9_14) rfl rfl ?_
    refine own_iloadN X9 hx (pc' := 17) (hb hby d9_16) rfl rfl ?_
    refine own_icmpYes X9 hx (pc' := 57) (hb hby d9_17) (teq rfl).1 (by decide) (by decide) ?_
    refine own_aloadN X9 hx (pc' := 58) (hb hby d9_57) rfl rfl rfl ?_
    refine own_retA X9 hx hlk hret rfl rfl rfl (hb hby d9_58) (by decide) (by decide) ?_
    exact ⟨N10, K12, nb2, _, rfl, ge_nb2, gk_nb2, Or.inl ⟨hl, V9⟩⟩
  · skip
    show own_G p.tables e below _ T9 (mkF m 12 #[.val (.ref ca), .val (.int (0 : Int32)), .val (.int (2 : Int32)), .val (.ref nb2), .unset, .unset] [(.int (0 : Int32))])
    refine own_istore X9 hx (pc' := 14) (Ls' := #[.val (.ref ca), .val (.int (0 : Int32)), .val (.int (2 : Int32)), .val (.ref nb2), .val (.int (0 : Int32)), .unset]) (hb hby d9_12) rfl rfl ?_
    refine own_iload X9 hx (pc' := 16) (hb hby d9_14) rfl rfl ?_
    refine own_iloadN X9 hx (pc' := 17) (hb hby d9_16) rfl rfl ?_
    refine own_icmpNo X9 hx (pc' := 20) (hb hby d9_17) (feq (by decide : ¬ ((0 : Int32) = (2 : Int32)))).1 rfl ?_
    refine own_aloadN X9 hx (pc' := 21) (hb hby d9_20) rfl rfl rfl ?_
    refine own_iloadN X9 hx (pc' := 22) (hb hby d9_21) rfl rfl ?_
    refine own_iloadN X9 hx (pc' := 23) (hb hby d9_22) rfl rfl ?_
    refine own_callS X9 hx (pc' := 26) hZ hown (Wd89 hw) (Wd90 hw) (Wd51 hw) (Wd91 hw) (by decide) (rm_tb_2 l Z a0 hw [] cz sv hcz hsv ca ka c0 c1 T9.heap n0 Z11 F14 F13) rfl 0 (by decide) (by decide) (by decide) (by decide) [(.ref ca), (.int (0 : Int32)), (.int (2 : Int32))] [] (by rw [hml]; rfl) (lenOf pd_6 rfl) rfl rfl (Nat.le_of_eq rfl) (hb hby d9_23) rfl (fun v15 T15 L15 X15 hQ15 => ?_)
    obtain ⟨Nq15, K15, ba15, kb15, rfl, gb15, gz15, V15⟩ := hQ15
    have N16 := Fr.app N10 Nq15
    have ne_ca_ba15_17 : ca ≠ ba15 := Nat.ne_of_lt (Nat.lt_of_lt_of_le F14.lt gz15)
    have gk_ba15 := Nat.le_trans K12.1 gz15
    have Z18 : n0 ≤ T15.heap.size := Nat.le_trans Z11 K15.1
    have K19 : Keep h0 T15.heap [] := Keep.trans K12 K15 all0
    have F20 := (F13.keep K15 (fun x hx => absurd hx List.not_mem_nil))
    have F21 := (F14.keep K15 nin0)
    show own_G p.tables e below _ T15 (mkF m 26 #[.val (.ref ca), .val (.int (0 : Int32)), .val (.int (2 : Int32)), .val (.ref nb2), .val (.int (0 : Int32)), .unset] [(.ref ba15)])
    refine own_astore X15 hx (pc' := 28) (Ls' := #[.val (.ref ca), .val (.int (0 : Int32)), .val (.int (2 : Int32)), .val (.ref nb2), .val (.int (0 : Int32)), .val (.ref ba15)]) (hb hby d9_26) rfl rfl rfl ?_
    refine own_aload X15 hx (pc' := 30) (hb hby d9_28) rfl rfl rfl ?_
    refine own_iload X15 hx (pc' := 32) (hb hby d9_30) rfl rfl ?_
    refine own_cSI X15 hx (pc' := 35) hZ hown (Wd105 hw) (Wd106 hw) (Wd51 hw) (Wd107 hw) (rm_gc_0 l Z a0 hw [] cz sv hcz hsv ba15 kb15 (4 : Int32) [(.int (own_b0 c0)), (.int (own_b1 c0)), (.int (own_b0 c1)), (.int (own_b1 c1))] c0 T15.heap n0 Z18 V15 (by decide) (by decide) rfl rfl rc0 F20) rfl N16 hml pd_7 (hb hby d9_32) 0 [(.ref ba15), (.int (0 : Int32))] [] (fun T22 L22 X22 e22 N22 => ?_)
    refine own_sipush X22 hx (pc' := 38) (255 : Int32) (hb hby d9_35) rfl rfl ?_
    refine own_icmpYes X22 hx (pc' := 54) (hb hby d9_38) (tlt hg).2.2.1 (by decide) (by decide) ?_
    refine own_aload X22 hx (pc' := 56) (hb hby d9_54) rfl rfl rfl ?_
    refine own_retA X22 hx hlk hret rfl rfl rfl (hb hby d9_56) (by decide) (by decide) ?_
    rw [e22]
    exact ⟨N22, K19, ba15, _, rfl, gb15, gk_ba15, Or.inr V15⟩
  · skip
    show own_G p.tables e below _ T9 (mkF m 12 #[.val (.ref ca), .val (.int (0 : Int32)), .val (.int (2 : Int32)), .val (.ref nb2), .unset, .unset] [(.int (1 : Int32))])
    refine own_istore X9 hx (pc' := 14) (Ls' := #[.val (.ref ca), .val (.int (0 : Int32)), .val (.int (2 : Int32)), .val (.ref nb2), .val (.int (1 : Int32)), .unset]) (hb hby d9_12) rfl rfl ?_
    refine own_iload X9 hx (pc' := 16) (hb hby d9_14) rfl rfl ?_
    refine own_iloadN X9 hx (pc' := 17) (hb hby d9_16) rfl rfl ?_
    refine own_icmpNo X9 hx (pc' := 20) (hb hby d9_17) (feq (by decide : ¬ ((1 : Int32) = (2 : Int32)))).1 rfl ?_
    refine own_aloadN X9 hx (pc' := 21) (hb hby d9_20) rfl rfl rfl ?_
    refine own_iloadN X9 hx (pc' := 22) (hb hby d9_21) rfl rfl ?_
    refine own_iloadN X9 hx (pc' := 23) (hb hby d9_22) rfl rfl ?_
    refine own_callS X9 hx (pc' := 26) hZ hown (Wd89 hw) (Wd90 hw) (Wd51 hw) (Wd91 hw) (by decide) (rm_tb_2 l Z a0 hw [] cz sv hcz hsv ca ka c0 c1 T9.heap n0 Z11 F14 F13) rfl 0 (by decide) (by decide) (by decide) (by decide) [(.ref ca), (.int (0 : Int32)), (.int (2 : Int32))] [] (by rw [hml]; rfl) (lenOf pd_6 rfl) rfl rfl (Nat.le_of_eq rfl) (hb hby d9_23) rfl (fun v23 T23 L23 X23 hQ23 => ?_)
    obtain ⟨Nq23, K23, ba23, kb23, rfl, gb23, gz23, V23⟩ := hQ23
    have N24 := Fr.app N10 Nq23
    have ne_ca_ba23_25 : ca ≠ ba23 := Nat.ne_of_lt (Nat.lt_of_lt_of_le F14.lt gz23)
    have gk_ba23 := Nat.le_trans K12.1 gz23
    have Z26 : n0 ≤ T23.heap.size := Nat.le_trans Z11 K23.1
    have K27 : Keep h0 T23.heap [] := Keep.trans K12 K23 all0
    have F28 := (F13.keep K23 (fun x hx => absurd hx List.not_mem_nil))
    have F29 := (F14.keep K23 nin0)
    show own_G p.tables e below _ T23 (mkF m 26 #[.val (.ref ca), .val (.int (0 : Int32)), .val (.int (2 : Int32)), .val (.ref nb2), .val (.int (1 : Int32)), .unset] [(.ref ba23)])
    refine own_astore X23 hx (pc' := 28) (Ls' := #[.val (.ref ca), .val (.int (0 : Int32)), .val (.int (2 : Int32)), .val (.ref nb2), .val (.int (1 : Int32)), .val (.ref ba23)]) (hb hby d9_26) rfl rfl rfl ?_
    refine own_aload X23 hx (pc' := 30) (hb hby d9_28) rfl rfl rfl ?_
    refine own_iload X23 hx (pc' := 32) (hb hby d9_30) rfl rfl ?_
    refine own_cSI X23 hx (pc' := 35) hZ hown (Wd105 hw) (Wd106 hw) (Wd51 hw) (Wd107 hw) (rm_gc_1 l Z a0 hw [] cz sv hcz hsv ba23 kb23 (4 : Int32) [(.int (own_b0 c0)), (.int (own_b1 c0)), (.int (own_b0 c1)), (.int (own_b1 c1))] c1 T23.heap n0 Z26 V23 (by decide) (by decide) rfl rfl rc1 F28) rfl N24 hml pd_7 (hb hby d9_32) 0 [(.ref ba23), (.int (1 : Int32))] [] (fun T30 L30 X30 e30 N30 => ?_)
    refine own_sipush X30 hx (pc' := 38) (255 : Int32) (hb hby d9_35) rfl rfl ?_
    refine own_icmpYes X30 hx (pc' := 54) (hb hby d9_38) (tlt hg).2.2.1 (by decide) (by decide) ?_
    refine own_aload X30 hx (pc' := 56) (hb hby d9_54) rfl rfl rfl ?_
    refine own_retA X30 hx hlk hret rfl rfl rfl (hb hby d9_56) (by decide) (by decide) ?_
    rw [e30]
    exact ⟨N30, K27, ba23, _, rfl, gb23, gk_ba23, Or.inr V23⟩

def Qc3_3 (Z : State) (c0 c1 c2 : Int32) (h0 : Heap) (n0 : Nat) (v : Option Value) (h : Heap) (L : List Loc) : Prop := Fr n0 L ∧ Keep h0 h [] ∧ ∃ (ba : Addr) (kb : ClassId), v = some (.ref ba) ∧ n0 ≤ ba ∧ h0.size ≤ ba ∧ (((¬ (255 : Int32) < c0 ∧ ¬ (255 : Int32) < c1 ∧ ¬ (255 : Int32) < c2) ∧ Arv Z h ba kb .byte (3 : Int32) [(.int (own_lb c0)), (.int (own_lb c1)), (.int (own_lb c2))] (.int (0 : Int32))) ∨ Arv Z h ba kb .byte (6 : Int32) [(.int (own_b0 c0)), (.int (own_b1 c0)), (.int (own_b0 c1)), (.int (own_b1 c1)), (.int (own_b0 c2)), (.int (own_b1 c2))] (.int (0 : Int32)))
theorem ef_rm_c3_3 (m : MethodId) (x0 : Addr) (x1 : Int32) (x2 : Int32) : entryFrame m #[(.ref x0), (.int x1), (.int x2)] 6 = mkF m 0 #[.val (.ref x0), .val (.int x1), .val (.int x2), .unset, .unset, .unset] [] := by first | (simp [entryFrame, mkF, argsToLocals, Value.category, maxLocals]; done) | rfl
set_option maxRecDepth 65536 in
set_option maxHeartbeats 40000000 in
theorem rm_c3_3 (l : Launch) (Z : State) (a0 : Array Value) (hw : ∀ d ∈ tables_1, d.before a0 Z = true) (ws : List Jvm.Cond) (cz : Int32) (sv : Value) (hcz : ¬ cz = (0 : Int32)) (hsv : sv.isRef = true) (ca : Addr) (ka : ClassId) (c0 c1 c2 : Int32) (h0 : Heap) (n0 : Nat) (Z0 : n0 ≤ h0.size) (rc0 : own_ch c0) (rc1 : own_ch c1) (rc2 : own_ch c2) (V_c : Arv Z h0 ca ka .char (3 : Int32) [(.int c0), (.int c1), (.int c2)] (.int (0 : Int32))) (B_ST : own_ST n0 Z h0 cz sv) :
    own_M l Z (⟨"java/lang/StringUTF16", "compress", "([CII)[B"⟩ : MethodName) jdk_52_method_16_code 6 (some (.array .byte)) ws ({ frames := 3, cells := 2, slots := 9, locals := 40 } : Room) #[(.ref ca), (.int (0 : Int32)), (.int (3 : Int32))] h0  (Qc3_3 Z c0 c1 c2 h0 n0) := by
  refine own_bodyM pf_19 ?_
  intro p e s m below meth c s₁ hx hby hml hown hnm hlk hret hZ X0 e0
  have N0 : Fr n0 [] := Fr.nil n0
  refine own_go (f' := (mkF m 0 #[.val (.ref ca), .val (.int (0 : Int32)), .val (.int (3 : Int32)), .unset, .unset, .unset] [])) (fun t k => castTop (ef_rm_c3_3 m ca (0 : Int32) (3 : Int32)) k) ?_
  have K1 : Keep h0 h0 [] := Keep.refl _ _
  refine own_iloadN X0 hx (pc' := 1) (hb hby d9_0) rfl rfl ?_
  refine own_newP X0 hx (pc' := 3) hZ (aty := .byte) (Wd22 hw) e0 (hb hby d9_1) (by decide) 3 (by decide) (by decide) (by decide) (by decide) rfl (fun T2 h2 kc2 nb2 g2 X2 e2 E2 A2 => ?_)
  have ne_ca_nb2_3 : ca ≠ nb2 := Nat.ne_of_lt (Nat.lt_of_lt_of_le V_c.lt (Nat.le_of_eq g2.symm))
  have ge_nb2 : n0 ≤ nb2 := Nat.le_trans Z0 (Nat.le_of_eq g2.symm)
  have gk_nb2 : h0.size ≤ nb2 := Nat.le_trans K1.1 (Nat.le_of_eq g2.symm)
  have Z4 : n0 ≤ h2.size := Nat.le_trans Z0 E2.1
  have K5 : Keep h0 h2 [] := K1.ext E2
  have F6 := (B_ST.ext E2)
  have F7 := (V_c.ext E2)
  have V8a : Arv Z h2 nb2 kc2 .byte (3 : Int32) [] (.int (0 : Int32)) := Arv.new A2 (by decide)
  have V8b : Arv Z h2 nb2 kc2 .byte (3 : Int32) (List.replicate 3 (.int (0 : Int32))) (.int (0 : Int32)) := V8a.pad (pad_rep [] _ 3)
  have V8 : Arv Z h2 nb2 kc2 .byte (3 : Int32) [(.int (0 : Int32)), (.int (0 : Int32)), (.int (0 : Int32))] (.int (0 : Int32)) := V8b
  refine own_astoreN X2 hx (pc' := 4) (Ls' := #[.val (.ref ca), .val (.int (0 : Int32)), .val (.int (3 : Int32)), .val (.ref nb2), .unset, .unset]) (hb hby d9_3) rfl rfl rfl ?_
  refine own_aloadN X2 hx (pc' := 5) (hb hby d9_4) rfl rfl rfl ?_
  refine own_iloadN X2 hx (pc' := 6) (hb hby d9_5) rfl rfl ?_
  refine own_aloadN X2 hx (pc' := 7) (hb hby d9_6) rfl rfl rfl ?_
  refine own_iconst X2 hx (pc' := 8) (0 : Int32) (hb hby d9_7) rfl rfl ?_
  refine own_iloadN X2 hx (pc' := 9) (hb hby d9_8) rfl rfl ?_
  refine own_callS X2 hx (pc' := 12) hZ hown (Wd53 hw) (Wd54 hw) (Wd51 hw) (Wd55 hw) (by decide) (rm_c5_3 l Z a0 hw []  ca nb2 ka kc2 c0 c1 c2 h2 n0 Z4 ge_nb2 ne_ca_nb2_3 F7 V8 ) e2 0 (by decide) (by decide) (by decide) (by decide) [(.ref ca), (.int (0 : Int32)), (.ref nb2), (.int (0 : Int32)), (.int (3 : Int32))] [] (by rw [hml]; rfl) (lenOf pd_5 rfl) rfl rfl (Nat.le_of_eq rfl) (hb hby d9_9) rfl (fun v9 T9 L9 X9 hQ9 => ?_)
  obtain ⟨Nq9, K9, hor⟩ := hQ9
  have N10 := Fr.app N0 Nq9
  have Z11 : n0 ≤ T9.heap.size := Nat.le_trans Z4 K9.1
  have K12 : Keep h0 T9.heap [] := Keep.trans K5 K9 (allS (Or.inr gk_nb2) all0)
  have F13 := (F6.keep K9 (own_allge ge_nb2 (fun x hx => absurd hx List.not_mem_nil)))
  have F14 := (F7.keep K9 (ninS ne_ca_nb2_3 nin0))
  rcases hor with ⟨rfl, hl, V9⟩ | ⟨rfl, hg⟩ | ⟨rfl, hg⟩ | ⟨rfl, hg⟩
  · skip
    show own_G p.tables e below _ T9 (mkF m 12 #[.val (.ref ca), .val (.int (0 : Int32)), .val (.int (3 : Int32)), .val (.ref nb2), .unset, .unset] [(.int (3 : Int32))])
    refine own_istore X9 hx (pc' := 14) (Ls' := #[.val (.ref ca), .val (.int (0 : Int32)), .val (.int (3 : Int32)), .val (.ref nb2), .val (.int (3 : Int32)), .unset]) (hb hby d9_12) rfl rfl ?_
    refine own_iload X9 hx (pc' := 16) (hb hby d9_14) rfl rfl ?_
    refine own_iloadN X9 hx (pc' := 17) (hb hby d9_16) rfl rfl ?_
    refine own_icmpYes X9 hx (pc' := 57) (hb hby d9_17) (teq rfl).1 (by decide) (by decide) ?_
    refine own_aloadN X9 hx (pc' := 58) (hb hby d9_57) rfl rfl rfl ?_
    refine own_retA X9 hx hlk hret rfl rfl rfl (hb hby d9_58) (by decide) (by decide) ?_
    exact ⟨N10, K12, nb2, _, rfl, ge_nb2, gk_nb2, Or.inl ⟨hl, V9⟩⟩
  · skip
    show own_G p.tables e below _ T9 (mkF m 12 #[.val (.ref ca), .val (.int (0 : Int32)), .val (.int (3 : Int32)), .val (.ref nb2), .unset, .unset] [(.int (0 : Int32))])
    refine own_istore X9 hx (pc' := 14) (Ls' := #[.val (.ref ca), .val (.int (0 : Int32)), .val (.int (3 : Int32)), .val (.ref nb2), .val (.int (0 : Int32)), .unset]) (hb hby d9_12) rfl rfl ?_
    refine own_iload X9 hx (pc' := 16) (hb hby d9_14) rfl rfl ?_
    refine own_iloadN X9 hx (pc' := 17) (hb hby d9_16) rfl rfl ?_
    refine own_icmpNo X9 hx (pc' := 20) (hb hby d9_17) (feq (by decide : ¬ ((0 : Int32) = (3 : Int32)))).1 rfl ?_
    refine own_aloadN X9 hx (pc' := 21) (hb hby d9_20) rfl rfl rfl ?_
    refine own_iloadN X9 hx (pc' := 22) (hb hby d9_21) rfl rfl ?_
    refine own_iloadN X9 hx (pc' := 23) (hb hby d9_22) rfl rfl ?_
    refine own_callS X9 hx (pc' := 26) hZ hown (Wd89 hw) (Wd90 hw) (Wd51 hw) (Wd91 hw) (by decide) (rm_tb_3 l Z a0 hw [] cz sv hcz hsv ca ka c0 c1 c2 T9.heap n0 Z11 F14 F13) rfl 0 (by decide) (by decide) (by decide) (by decide) [(.ref ca), (.int (0 : Int32)), (.int (3 : Int32))] [] (by rw [hml]; rfl) (lenOf pd_6 rfl) rfl rfl (Nat.le_of_eq rfl) (hb hby d9_23) rfl (fun v15 T15 L15 X15 hQ15 => ?_)
    obtain ⟨Nq15, K15, ba15, kb15, rfl, gb15, gz15, V15⟩ := hQ15
    have N16 := Fr.app N10 Nq15
    have ne_ca_ba15_17 : ca ≠ ba15 := Nat.ne_of_lt (Nat.lt_of_lt_of_le F14.lt gz15)
    have gk_ba15 := Nat.le_trans K12.1 gz15
    have Z18 : n0 ≤ T15.heap.size := Nat.le_trans Z11 K15.1
    have K19 : Keep h0 T15.heap [] := Keep.trans K12 K15 all0
    have F20 := (F13.keep K15 (fun x hx => absurd hx List.not_mem_nil))
    have F21 := (F14.keep K15 nin0)
    show own_G p.tables e below _ T15 (mkF m 26 #[.val (.ref ca), .val (.int (0 : Int32)), .val (.int (3 : Int32)), .val (.ref nb2), .val (.int (0 : Int32)), .unset] [(.ref ba15)])
    refine own_astore X15 hx (pc' := 28) (Ls' := #[.val (.ref ca), .val (.int (0 : Int32)), .val (.int (3 : Int32)), .val (.ref nb2), .val (.int (0 : Int32)), .val (.ref ba15)]) (hb hby d9_26) rfl rfl rfl ?_
    refine own_aload X15 hx (pc' := 30) (hb hby d9_28) rfl rfl rfl ?_
    refine own_iload X15 hx (pc' := 32) (hb hby d9_30) rfl rfl ?_
    refine own_cSI X15 hx (pc' := 35) hZ hown (Wd105 hw) (Wd106 hw) (Wd51 hw) (Wd107 hw) (rm_gc_0 l Z a0 hw [] cz sv hcz hsv ba15 kb15 (6 : Int32) [(.int (own_b0 c0)), (.int (own_b1 c0)), (.int (own_b0 c1)), (.int (own_b1 c1)), (.int (own_b0 c2)), (.int (own_b1 c2))] c0 T15.heap n0 Z18 V15 (by decide) (by decide) rfl rfl rc0 F20) rfl N16 hml pd_7 (hb hby d9_32) 0 [(.ref ba15), (.int (0 : Int32))] [] (fun T22 L22 X22 e22 N22 => ?_)
    refine own_sipush X22 hx (pc' := 38) (255 : Int32) (hb hby d9_35) rfl rfl ?_
    refine own_icmpYes X22 hx (pc' := 54) (hb hby d9_38) (tlt hg).2.2.1 (by decide) (by decide) ?_
    refine own_aload X22 hx (pc' := 56) (hb hby d9_54) rfl rfl rfl ?_
    refine own_retA X22 hx hlk hret rfl rfl rfl (hb hby d9_56) (by decide) (by decide) ?_
    rw [e22]
    exact ⟨N22, K19, ba15, _, rfl, gb15, gk_ba15, Or.inr V15⟩
  · skip
    show own_G p.tables e below _ T9 (mkF m 12 #[.val (.ref ca), .val (.int (0 : Int32)), .val (.int (3 : Int32)), .val (.ref nb2), .unset, .unset] [(.int (1 : Int32))])
    refine own_istore X9 hx (pc' := 14) (Ls' := #[.val (.ref ca), .val (.int (0 : Int32)), .val (.int (3 : Int32)), .val (.ref nb2), .val (.int (1 : Int32)), .unset]) (hb hby d9_12) rfl rfl ?_
    refine own_iload X9 hx (pc' := 16) (hb hby d9_14) rfl rfl ?_
    refine own_iloadN X9 hx (pc' := 17) (hb hby d9_16) rfl rfl ?_
    refine own_icmpNo X9 hx (pc' := 20) (hb hby d9_17) (feq (by decide : ¬ ((1 : Int32) = (3 : Int32)))).1 rfl ?_
    refine own_aloadN X9 hx (pc' := 21) (hb hby d9_20) rfl rfl rfl ?_
    refine own_iloadN X9 hx (pc' := 22) (hb hby d9_21) rfl rfl ?_
    refine own_iloadN X9 hx (pc' := 23) (hb hby d9_22) rfl rfl ?_
    refine own_callS X9 hx (pc' := 26) hZ hown (Wd89 hw) (Wd90 hw) (Wd51 hw) (Wd91 hw) (by decide) (rm_tb_3 l Z a0 hw [] cz sv hcz hsv ca ka c0 c1 c2 T9.heap n0 Z11 F14 F13) rfl 0 (by decide) (by decide) (by decide) (by decide) [(.ref ca), (.int (0 : Int32)), (.int (3 : Int32))] [] (by rw [hml]; rfl) (lenOf pd_6 rfl) rfl rfl (Nat.le_of_eq rfl) (hb hby d9_23) rfl (fun v23 T23 L23 X23 hQ23 => ?_)
    obtain ⟨Nq23, K23, ba23, kb23, rfl, gb23, gz23, V23⟩ := hQ23
    have N24 := Fr.app N10 Nq23
    have ne_ca_ba23_25 : ca ≠ ba23 := Nat.ne_of_lt (Nat.lt_of_lt_of_le F14.lt gz23)
    have gk_ba23 := Nat.le_trans K12.1 gz23
    have Z26 : n0 ≤ T23.heap.size := Nat.le_trans Z11 K23.1
    have K27 : Keep h0 T23.heap [] := Keep.trans K12 K23 all0
    have F28 := (F13.keep K23 (fun x hx => absurd hx List.not_mem_nil))
    have F29 := (F14.keep K23 nin0)
    show own_G p.tables e below _ T23 (mkF m 26 #[.val (.ref ca), .val (.int (0 : Int32)), .val (.int (3 : Int32)), .val (.ref nb2), .val (.int (1 : Int32)), .unset] [(.ref ba23)])
    refine own_astore X23 hx (pc' := 28) (Ls' := #[.val (.ref ca), .val (.int (0 : Int32)), .val (.int (3 : Int32)), .val (.ref nb2), .val (.int (1 : Int32)), .val (.ref ba23)]) (hb hby d9_26) rfl rfl rfl ?_
    refine own_aload X23 hx (pc' := 30) (hb hby d9_28) rfl rfl rfl ?_
    refine own_iload X23 hx (pc' := 32) (hb hby d9_30) rfl rfl ?_
    refine own_cSI X23 hx (pc' := 35) hZ hown (Wd105 hw) (Wd106 hw) (Wd51 hw) (Wd107 hw) (rm_gc_1 l Z a0 hw [] cz sv hcz hsv ba23 kb23 (6 : Int32) [(.int (own_b0 c0)), (.int (own_b1 c0)), (.int (own_b0 c1)), (.int (own_b1 c1)), (.int (own_b0 c2)), (.int (own_b1 c2))] c1 T23.heap n0 Z26 V23 (by decide) (by decide) rfl rfl rc1 F28) rfl N24 hml pd_7 (hb hby d9_32) 0 [(.ref ba23), (.int (1 : Int32))] [] (fun T30 L30 X30 e30 N30 => ?_)
    refine own_sipush X30 hx (pc' := 38) (255 : Int32) (hb hby d9_35) rfl rfl ?_
    refine own_icmpYes X30 hx (pc' := 54) (hb hby d9_38) (tlt hg).2.2.1 (by decide) (by decide) ?_
    refine own_aload X30 hx (pc' := 56) (hb hby d9_54) rfl rfl rfl ?_
    refine own_retA X30 hx hlk hret rfl rfl rfl (hb hby d9_56) (by decide) (by decide) ?_
    rw [e30]
    exact ⟨N30, K27, ba23, _, rfl, gb23, gk_ba23, Or.inr V23⟩
  · skip
    show own_G p.tables e below _ T9 (mkF m 12 #[.val (.ref ca), .val (.int (0 : Int32)), .val (.int (3 : Int32)), .val (.ref nb2), .unset, .unset] [(.int (2 : Int32))])
    refine own_istore X9 hx (pc' := 14) (Ls' := #[.val (.ref ca), .val (.int (0 : Int32)), .val (.int (3 : Int32)), .val (.ref nb2), .val (.int (2 : Int32)), .unset]) (hb hby d9_12) rfl rfl ?_
    refine own_iload X9 hx (pc' := 16) (hb hby d9_14) rfl rfl ?_
    refine own_iloadN X9 hx (pc' := 17) (hb hby d9_16) rfl rfl ?_
    refine own_icmpNo X9 hx (pc' := 20) (hb hby d9_17) (feq (by decide : ¬ ((2 : Int32) = (3 : Int32)))).1 rfl ?_
    refine own_aloadN X9 hx (pc' := 21) (hb hby d9_20) rfl rfl rfl ?_
    refine own_iloadN X9 hx (pc' := 22) (hb hby d9_21) rfl rfl ?_
    refine own_iloadN X9 hx (pc' := 23) (hb hby d9_22) rfl rfl ?_
    refine own_callS X9 hx (pc' := 26) hZ hown (Wd89 hw) (Wd90 hw) (Wd51 hw) (Wd91 hw) (by decide) (rm_tb_3 l Z a0 hw [] cz sv hcz hsv ca ka c0 c1 c2 T9.heap n0 Z11 F14 F13) rfl 0 (by decide) (by decide) (by decide) (by decide) [(.ref ca), (.int (0 : Int32)), (.int (3 : Int32))] [] (by rw [hml]; rfl) (lenOf pd_6 rfl) rfl rfl (Nat.le_of_eq rfl) (hb hby d9_23) rfl (fun v31 T31 L31 X31 hQ31 => ?_)
    obtain ⟨Nq31, K31, ba31, kb31, rfl, gb31, gz31, V31⟩ := hQ31
    have N32 := Fr.app N10 Nq31
    have ne_ca_ba31_33 : ca ≠ ba31 := Nat.ne_of_lt (Nat.lt_of_lt_of_le F14.lt gz31)
    have gk_ba31 := Nat.le_trans K12.1 gz31
    have Z34 : n0 ≤ T31.heap.size := Nat.le_trans Z11 K31.1
    have K35 : Keep h0 T31.heap [] := Keep.trans K12 K31 all0
    have F36 := (F13.keep K31 (fun x hx => absurd hx List.not_mem_nil))
    have F37 := (F14.keep K31 nin0)
    show own_G p.tables e below _ T31 (mkF m 26 #[.val (.ref ca), .val (.int (0 : Int32)), .val (.int (3 : Int32)), .val (.ref nb2), .val (.int (2 : Int32)), .unset] [(.ref ba31)])
    refine own_astore X31 hx (pc' := 28) (Ls' := #[.val (.ref ca), .val (.int (0 : Int32)), .val (.int (3 : Int32)), .val (.ref nb2), .val (.int (2 : Int32)), .val (.ref ba31)]) (hb hby d9_26) rfl rfl rfl ?_
    refine own_aload X31 hx (pc' := 30) (hb hby d9_28) rfl rfl rfl ?_
    refine own_iload X31 hx (pc' := 32) (hb hby d9_30) rfl rfl ?_
    refine own_cSI X31 hx (pc' := 35) hZ hown (Wd105 hw) (Wd106 hw) (Wd51 hw) (Wd107 hw) (rm_gc_2 l Z a0 hw [] cz sv hcz hsv ba31 kb31 (6 : Int32) [(.int (own_b0 c0)), (.int (own_b1 c0)), (.int (own_b0 c1)), (.int (own_b1 c1)), (.int (own_b0 c2)), (.int (own_b1 c2))] c2 T31.heap n0 Z34 V31 (by decide) (by decide) rfl rfl rc2 F36) rfl N32 hml pd_7 (hb hby d9_32) 0 [(.ref ba31), (.int (2 : Int32))] [] (fun T38 L38 X38 e38 N38 => ?_)
    refine own_sipush X38 hx (pc' := 38) (255 : Int32) (hb hby d9_35) rfl rfl ?_
    refine own_icmpYes X38 hx (pc' := 54) (hb hby d9_38) (tlt hg).2.2.1 (by decide) (by decide) ?_
    refine own_aload X38 hx (pc' := 56) (hb hby d9_54) rfl rfl rfl ?_
    refine own_retA X38 hx hlk hret rfl rfl rfl (hb hby d9_56) (by decide) (by decide) ?_
    rw [e38]
    exact ⟨N38, K35, ba31, _, rfl, gb31, gk_ba31, Or.inr V31⟩

def Qc3_4 (Z : State) (c0 c1 c2 c3 : Int32) (h0 : Heap) (n0 : Nat) (v : Option Value) (h : Heap) (L : List Loc) : Prop := Fr n0 L ∧ Keep h0 h [] ∧ ∃ (ba : Addr) (kb : ClassId), v = some (.ref ba) ∧ n0 ≤ ba ∧ h0.size ≤ ba ∧ (((¬ (255 : Int32) < c0 ∧ ¬ (255 : Int32) < c1 ∧ ¬ (255 : Int32) < c2 ∧ ¬ (255 : Int32) < c3) ∧ Arv Z h ba kb .byte (4 : Int32) [(.int (own_lb c0)), (.int (own_lb c1)), (.int (own_lb c2)), (.int (own_lb c3))] (.int (0 : Int32))) ∨ Arv Z h ba kb .byte (8 : Int32) [(.int (own_b0 c0)), (.int (own_b1 c0)), (.int (own_b0 c1)), (.int (own_b1 c1)), (.int (own_b0 c2)), (.int (own_b1 c2)), (.int (own_b0 c3)), (.int (own_b1 c3))] (.int (0 : Int32)))
theorem ef_rm_c3_4 (m : MethodId) (x0 : Addr) (x1 : Int32) (x2 : Int32) : entryFrame m #[(.ref x0), (.int x1), (.int x2)] 6 = mkF m 0 #[.val (.ref x0), .val (.int x1), .val (.int x2), .unset, .unset, .unset] [] := by first | (simp [entryFrame, mkF, argsToLocals, Value.category, maxLocals]; done) | rfl
set_option maxRecDepth 65536 in
set_option maxHeartbeats 40000000 in
theorem rm_c3_4 (l : Launch) (Z : State) (a0 : Array Value) (hw : ∀ d ∈ tables_1, d.before a0 Z = true) (ws : List Jvm.Cond) (cz : Int32) (sv : Value) (hcz : ¬ cz = (0 : Int32)) (hsv : sv.isRef = true) (ca : Addr) (ka : ClassId) (c0 c1 c2 c3 : Int32) (h0 : Heap) (n0 : Nat) (Z0 : n0 ≤ h0.size) (rc0 : own_ch c0) (rc1 : own_ch c1) (rc2 : own_ch c2) (rc3 : own_ch c3) (V_c : Arv Z h0 ca ka .char (4 : Int32) [(.int c0), (.int c1), (.int c2), (.int c3)] (.int (0 : Int32))) (B_ST : own_ST n0 Z h0 cz sv) :
    own_M l Z (⟨"java/lang/StringUTF16", "compress", "([CII)[B"⟩ : MethodName) jdk_52_method_16_code 6 (some (.array .byte)) ws ({ frames := 3, cells := 2, slots := 12, locals := 40 } : Room) #[(.ref ca), (.int (0 : Int32)), (.int (4 : Int32))] h0  (Qc3_4 Z c0 c1 c2 c3 h0 n0) := by
  refine own_bodyM pf_19 ?_
  intro p e s m below meth c s₁ hx hby hml hown hnm hlk hret hZ X0 e0
  have N0 : Fr n0 [] := Fr.nil n0
  refine own_go (f' := (mkF m 0 #[.val (.ref ca), .val (.int (0 : Int32)), .val (.int (4 : Int32)), .unset, .unset, .unset] [])) (fun t k => castTop (ef_rm_c3_4 m ca (0 : Int32) (4 : Int32)) k) ?_
  have K1 : Keep h0 h0 [] := Keep.refl _ _
  refine own_iloadN X0 hx (pc' := 1) (hb hby d9_0) rfl rfl ?_
  refine own_newP X0 hx (pc' := 3) hZ (aty := .byte) (Wd22 hw) e0 (hb hby d9_1) (by decide) 4 (by decide) (by decide) (by decide) (by decide) rfl (fun T2 h2 kc2 nb2 g2 X2 e2 E2 A2 => ?_)
  have ne_ca_nb2_3 : ca ≠ nb2 := Nat.ne_of_lt (Nat.lt_of_lt_of_le V_c.lt (Nat.le_of_eq g2.symm))
  have ge_nb2 : n0 ≤ nb2 := Nat.le_trans Z0 (Nat.le_of_eq g2.symm)
  have gk_nb2 : h0.size ≤ nb2 := Nat.le_trans K1.1 (Nat.le_of_eq g2.symm)
  have Z4 : n0 ≤ h2.size := Nat.le_trans Z0 E2.1
  have K5 : Keep h0 h2 [] := K1.ext E2
  have F6 := (B_ST.ext E2)
  have F7 := (V_c.ext E2)
  have V8a : Arv Z h2 nb2 kc2 .byte (4 : Int32) [] (.int (0 : Int32)) := Arv.new A2 (by decide)
  have V8b : Arv Z h2 nb2 kc2 .byte (4 : Int32) (List.replicate 4 (.int (0 : Int32))) (.int (0 : Int32)) := V8a.pad (pad_rep [] _ 4)
  have V8 : Arv Z h2 nb2 kc2 .byte (4 : Int32) [(.int (0 : Int32)), (.int (0 : Int32)), (.int (0 : Int32)), (.int (0 : Int32))] (.int (0 : Int32)) := V8b
  refine own_astoreN X2 hx (pc' := 4) (Ls' := #[.val (.ref ca), .val (.int (0 : Int32)), .val (.int (4 : Int32)), .val (.ref nb2), .unset, .unset]) (hb hby d9_3) rfl rfl rfl ?_
  refine own_aloadN X2 hx (pc' := 5) (hb hby d9_4) rfl rfl rfl ?_
  refine own_iloadN X2 hx (pc' := 6) (hb hby d9_5) rfl rfl ?_
  refine own_aloadN X2 hx (pc' := 7) (hb hby d9_6) rfl rfl rfl ?_
  refine own_iconst X2 hx (pc' := 8) (0 : Int32) (hb hby d9_7) rfl rfl ?_
  refine own_iloadN X2 hx (pc' := 9) (hb hby d9_8) rfl rfl ?_
  refine own_callS X2 hx (pc' := 12) hZ hown (Wd53 hw) (Wd54 hw) (Wd51 hw) (Wd55 hw) (by decide) (rm_c5_4 l Z a0 hw []  ca nb2 ka kc2 c0 c1 c2 c3 h2 n0 Z4 ge_nb2 ne_ca_nb2_3 F7 V8 ) e2 0 (by decide) (by decide) (by decide) (by decide) [(.ref ca), (.int (0 : Int32)), (.ref nb2), (.int (0 : Int32)), (.int (4 : Int32))] [] (by rw [hml]; rfl) (lenOf pd_5 rfl) rfl rfl (Nat.le_of_eq rfl) (hb hby d9_9) rfl (fun v9 T9 L9 X9 hQ9 => ?_)
  obtain ⟨Nq9, K9, hor⟩ := hQ9
  have N10 := Fr.app N0 Nq9
  have Z11 : n0 ≤ T9.heap.size := Nat.le_trans Z4 K9.1
  have K12 : Keep h0 T9.heap [] := Keep.trans K5 K9 (allS (Or.inr gk_nb2) all0)
  have F13 := (F6.keep K9 (own_allge ge_nb2 (fun x hx => absurd hx List.not_mem_nil)))
  have F14 := (F7.keep K9 (ninS ne_ca_nb2_3 nin0))
  rcases hor with ⟨rfl, hl, V9⟩ | ⟨rfl, hg⟩ | ⟨rfl, hg⟩ | ⟨rfl, hg⟩ | ⟨rfl, hg⟩
  · skip
    show own_G p.tables e below _ T9 (mkF m 12 #[.val (.ref ca), .val (.int (0 : Int32)), .val (.int (4 : Int32)), .val (.ref nb2), .unset, .unset] [(.int (4 : Int32))])
    refine own_istore X9 hx (pc' := 14) (Ls' := #[.val (.ref ca), .val (.int (0 : Int32)), .val (.int (4 : Int32)), .val (.ref nb2), .val (.int (4 : Int32)), .unset]) (hb hby d9_12) rfl rfl ?_
    refine own_iload X9 hx (pc' := 16) (hb hby d9_14) rfl rfl ?_
    refine own_iloadN X9 hx (pc' := 17) (hb hby d9_16) rfl rfl ?_
    refine own_icmpYes X9 hx (pc' := 57) (hb hby d9_17) (teq rfl).1 (by decide) (by decide) ?_
    refine own_aloadN X9 hx (pc' := 58) (hb hby d9_57) rfl rfl rfl ?_
    refine own_retA X9 hx hlk hret rfl rfl rfl (hb hby d9_58) (by decide) (by decide) ?_
    exact ⟨N10, K12, nb2, _, rfl, ge_nb2, gk_nb2, Or.inl ⟨hl, V9⟩⟩
  · skip
    show own_G p.tables e below _ T9 (mkF m 12 #[.val (.ref ca), .val (.int (0 : Int32)), .val (.int (4 : Int32)), .val (.ref nb2), .unset, .unset] [(.int (0 : Int32))])
    refine own_istore X9 hx (pc' := 14) (Ls' := #[.val (.ref ca), .val (.int (0 : Int32)), .val (.int (4 : Int32)), .val (.ref nb2), .val (.int (0 : Int32)), .unset]) (hb hby d9_12) rfl rfl ?_
    refine own_iload X9 hx (pc' := 16) (hb hby d9_14) rfl rfl ?_
    refine own_iloadN X9 hx (pc' := 17) (hb hby d9_16) rfl rfl ?_
    refine own_icmpNo X9 hx (pc' := 20) (hb hby d9_17) (feq (by decide : ¬ ((0 : Int32) = (4 : Int32)))).1 rfl ?_
    refine own_aloadN X9 hx (pc' := 21) (hb hby d9_20) rfl rfl rfl ?_
    refine own_iloadN X9 hx (pc' := 22) (hb hby d9_21) rfl rfl ?_
    refine own_iloadN X9 hx (pc' := 23) (hb hby d9_22) rfl rfl ?_
    refine own_callS X9 hx (pc' := 26) hZ hown (Wd89 hw) (Wd90 hw) (Wd51 hw) (Wd91 hw) (by decide) (rm_tb_4 l Z a0 hw [] cz sv hcz hsv ca ka c0 c1 c2 c3 T9.heap n0 Z11 F14 F13) rfl 0 (by decide) (by decide) (by decide) (by decide) [(.ref ca), (.int (0 : Int32)), (.int (4 : Int32))] [] (by rw [hml]; rfl) (lenOf pd_6 rfl) rfl rfl (Nat.le_of_eq rfl) (hb hby d9_23) rfl (fun v15 T15 L15 X15 hQ15 => ?_)
    obtain ⟨Nq15, K15, ba15, kb15, rfl, gb15, gz15, V15⟩ := hQ15
    have N16 := Fr.app N10 Nq15
    have ne_ca_ba15_17 : ca ≠ ba15 := Nat.ne_of_lt (Nat.lt_of_lt_of_le F14.lt gz15)
    have gk_ba15 := Nat.le_trans K12.1 gz15
    have Z18 : n0 ≤ T15.heap.size := Nat.le_trans Z11 K15.1
    have K19 : Keep h0 T15.heap [] := Keep.trans K12 K15 all0
    have F20 := (F13.keep K15 (fun x hx => absurd hx List.not_mem_nil))
    have F21 := (F14.keep K15 nin0)
    show own_G p.tables e below _ T15 (mkF m 26 #[.val (.ref ca), .val (.int (0 : Int32)), .val (.int (4 : Int32)), .val (.ref nb2), .val (.int (0 : Int32)), .unset] [(.ref ba15)])
    refine own_astore X15 hx (pc' := 28) (Ls' := #[.val (.ref ca), .val (.int (0 : Int32)), .val (.int (4 : Int32)), .val (.ref nb2), .val (.int (0 : Int32)), .val (.ref ba15)]) (hb hby d9_26) rfl rfl rfl ?_
    refine own_aload X15 hx (pc' := 30) (hb hby d9_28) rfl rfl rfl ?_
    refine own_iload X15 hx (pc' := 32) (hb hby d9_30) rfl rfl ?_
    refine own_cSI X15 hx (pc' := 35) hZ hown (Wd105 hw) (Wd106 hw) (Wd51 hw) (Wd107 hw) (rm_gc_0 l Z a0 hw [] cz sv hcz hsv ba15 kb15 (8 : Int32) [(.int (own_b0 c0)), (.int (own_b1 c0)), (.int (own_b0 c1)), (.int (own_b1 c1)), (.int (own_b0 c2)), (.int (own_b1 c2)), (.int (own_b0 c3)), (.int (own_b1 c3))] c0 T15.heap n0 Z18 V15 (by decide) (by decide) rfl rfl rc0 F20) rfl N16 hml pd_7 (hb hby d9_32) 0 [(.ref ba15), (.int (0 : Int32))] [] (fun T22 L22 X22 e22 N22 => ?_)
    refine own_sipush X22 hx (pc' := 38) (255 : Int32) (hb hby d9_35) rfl rfl ?_
    refine own_icmpYes X22 hx (pc' := 54) (hb hby d9_38) (tlt hg).2.2.1 (by decide) (by decide) ?_
    refine own_aload X22 hx (pc' := 56) (hb hby d9_54) rfl rfl rfl ?_
    refine own_retA X22 hx hlk hret rfl rfl rfl (hb hby d9_56) (by decide) (by decide) ?_
    rw [e22]
    exact ⟨N22, K19, ba15, _, rfl, gb15, gk_ba15, Or.inr V15⟩
  · skip
    show own_G p.tables e below _ T9 (mkF m 12 #[.val (.ref ca), .val (.int (0 : Int32)), .val (.int (4 : Int32)), .val (.ref nb2), .unset, .unset] [(.int (1 : Int32))])
    refine own_istore X9 hx (pc' := 14) (Ls' := #[.val (.ref ca), .val (.int (0 : Int32)), .val (.int (4 : Int32)), .val (.ref nb2), .val (.int (1 : Int32)), .unset]) (hb hby d9_12) rfl rfl ?_
    refine own_iload X9 hx (pc' := 16) (hb hby d9_14) rfl rfl ?_
    refine own_iloadN X9 hx (pc' := 17) (hb hby d9_16) rfl rfl ?_
    refine own_icmpNo X9 hx (pc' := 20) (hb hby d9_17) (feq (by decide : ¬ ((1 : Int32) = (4 : Int32)))).1 rfl ?_
    refine own_aloadN X9 hx (pc' := 21) (hb hby d9_20) rfl rfl rfl ?_
    refine own_iloadN X9 hx (pc' := 22) (hb hby d9_21) rfl rfl ?_
    refine own_iloadN X9 hx (pc' := 23) (hb hby d9_22) rfl rfl ?_
    refine own_callS X9 hx (pc' := 26) hZ hown (Wd89 hw) (Wd90 hw) (Wd51 hw) (Wd91 hw) (by decide) (rm_tb_4 l Z a0 hw [] cz sv hcz hsv ca ka c0 c1 c2 c3 T9.heap n0 Z11 F14 F13) rfl 0 (by decide) (by decide) (by decide) (by decide) [(.ref ca), (.int (0 : Int32)), (.int (4 : Int32))] [] (by rw [hml]; rfl) (lenOf pd_6 rfl) rfl rfl (Nat.le_of_eq rfl) (hb hby d9_23) rfl (fun v23 T23 L23 X23 hQ23 => ?_)
    obtain ⟨Nq23, K23, ba23, kb23, rfl, gb23, gz23, V23⟩ := hQ23
    have N24 := Fr.app N10 Nq23
    have ne_ca_ba23_25 : ca ≠ ba23 := Nat.ne_of_lt (Nat.lt_of_lt_of_le F14.lt gz23)
    have gk_ba23 := Nat.le_trans K12.1 gz23
    have Z26 : n0 ≤ T23.heap.size := Nat.le_trans Z11 K23.1
    have K27 : Keep h0 T23.heap [] := Keep.trans K12 K23 all0
    have F28 := (F13.keep K23 (fun x hx => absurd hx List.not_mem_nil))
    have F29 := (F14.keep K23 nin0)
    show own_G p.tables e below _ T23 (mkF m 26 #[.val (.ref ca), .val (.int (0 : Int32)), .val (.int (4 : Int32)), .val (.ref nb2), .val (.int (1 : Int32)), .unset] [(.ref ba23)])
    refine own_astore X23 hx (pc' := 28) (Ls' := #[.val (.ref ca), .val (.int (0 : Int32)), .val (.int (4 : Int32)), .val (.ref nb2), .val (.int (1 : Int32)), .val (.ref ba23)]) (hb hby d9_26) rfl rfl rfl ?_
    refine own_aload X23 hx (pc' := 30) (hb hby d9_28) rfl rfl rfl ?_
    refine own_iload X23 hx (pc' := 32) (hb hby d9_30) rfl rfl ?_
    refine own_cSI X23 hx (pc' := 35) hZ hown (Wd105 hw) (Wd106 hw) (Wd51 hw) (Wd107 hw) (rm_gc_1 l Z a0 hw [] cz sv hcz hsv ba23 kb23 (8 : Int32) [(.int (own_b0 c0)), (.int (own_b1 c0)), (.int (own_b0 c1)), (.int (own_b1 c1)), (.int (own_b0 c2)), (.int (own_b1 c2)), (.int (own_b0 c3)), (.int (own_b1 c3))] c1 T23.heap n0 Z26 V23 (by decide) (by decide) rfl rfl rc1 F28) rfl N24 hml pd_7 (hb hby d9_32) 0 [(.ref ba23), (.int (1 : Int32))] [] (fun T30 L30 X30 e30 N30 => ?_)
    refine own_sipush X30 hx (pc' := 38) (255 : Int32) (hb hby d9_35) rfl rfl ?_
    refine own_icmpYes X30 hx (pc' := 54) (hb hby d9_38) (tlt hg).2.2.1 (by decide) (by decide) ?_
    refine own_aload X30 hx (pc' := 56) (hb hby d9_54) rfl rfl rfl ?_
    refine own_retA X30 hx hlk hret rfl rfl rfl (hb hby d9_56) (by decide) (by decide) ?_
    rw [e30]
    exact ⟨N30, K27, ba23, _, rfl, gb23, gk_ba23, Or.inr V23⟩
  · skip
    show own_G p.tables e below _ T9 (mkF m 12 #[.val (.ref ca), .val (.int (0 : Int32)), .val (.int (4 : Int32)), .val (.ref nb2), .unset, .unset] [(.int (2 : Int32))])
    refine own_istore X9 hx (pc' := 14) (Ls' := #[.val (.ref ca), .val (.int (0 : Int32)), .val (.int (4 : Int32)), .val (.ref nb2), .val (.int (2 : Int32)), .unset]) (hb hby d9_12) rfl rfl ?_
    refine own_iload X9 hx (pc' := 16) (hb hby d9_14) rfl rfl ?_
    refine own_iloadN X9 hx (pc' := 17) (hb hby d9_16) rfl rfl ?_
    refine own_icmpNo X9 hx (pc' := 20) (hb hby d9_17) (feq (by decide : ¬ ((2 : Int32) = (4 : Int32)))).1 rfl ?_
    refine own_aloadN X9 hx (pc' := 21) (hb hby d9_20) rfl rfl rfl ?_
    refine own_iloadN X9 hx (pc' := 22) (hb hby d9_21) rfl rfl ?_
    refine own_iloadN X9 hx (pc' := 23) (hb hby d9_22) rfl rfl ?_
    refine own_callS X9 hx (pc' := 26) hZ hown (Wd89 hw) (Wd90 hw) (Wd51 hw) (Wd91 hw) (by decide) (rm_tb_4 l Z a0 hw [] cz sv hcz hsv ca ka c0 c1 c2 c3 T9.heap n0 Z11 F14 F13) rfl 0 (by decide) (by decide) (by decide) (by decide) [(.ref ca), (.int (0 : Int32)), (.int (4 : Int32))] [] (by rw [hml]; rfl) (lenOf pd_6 rfl) rfl rfl (Nat.le_of_eq rfl) (hb hby d9_23) rfl (fun v31 T31 L31 X31 hQ31 => ?_)
    obtain ⟨Nq31, K31, ba31, kb31, rfl, gb31, gz31, V31⟩ := hQ31
    have N32 := Fr.app N10 Nq31
    have ne_ca_ba31_33 : ca ≠ ba31 := Nat.ne_of_lt (Nat.lt_of_lt_of_le F14.lt gz31)
    have gk_ba31 := Nat.le_trans K12.1 gz31
    have Z34 : n0 ≤ T31.heap.size := Nat.le_trans Z11 K31.1
    have K35 : Keep h0 T31.heap [] := Keep.trans K12 K31 all0
    have F36 := (F13.keep K31 (fun x hx => absurd hx List.not_mem_nil))
    have F37 := (F14.keep K31 nin0)
    show own_G p.tables e below _ T31 (mkF m 26 #[.val (.ref ca), .val (.int (0 : Int32)), .val (.int (4 : Int32)), .val (.ref nb2), .val (.int (2 : Int32)), .unset] [(.ref ba31)])
    refine own_astore X31 hx (pc' := 28) (Ls' := #[.val (.ref ca), .val (.int (0 : Int32)), .val (.int (4 : Int32)), .val (.ref nb2), .val (.int (2 : Int32)), .val (.ref ba31)]) (hb hby d9_26) rfl rfl rfl ?_
    refine own_aload X31 hx (pc' := 30) (hb hby d9_28) rfl rfl rfl ?_
    refine own_iload X31 hx (pc' := 32) (hb hby d9_30) rfl rfl ?_
    refine own_cSI X31 hx (pc' := 35) hZ hown (Wd105 hw) (Wd106 hw) (Wd51 hw) (Wd107 hw) (rm_gc_2 l Z a0 hw [] cz sv hcz hsv ba31 kb31 (8 : Int32) [(.int (own_b0 c0)), (.int (own_b1 c0)), (.int (own_b0 c1)), (.int (own_b1 c1)), (.int (own_b0 c2)), (.int (own_b1 c2)), (.int (own_b0 c3)), (.int (own_b1 c3))] c2 T31.heap n0 Z34 V31 (by decide) (by decide) rfl rfl rc2 F36) rfl N32 hml pd_7 (hb hby d9_32) 0 [(.ref ba31), (.int (2 : Int32))] [] (fun T38 L38 X38 e38 N38 => ?_)
    refine own_sipush X38 hx (pc' := 38) (255 : Int32) (hb hby d9_35) rfl rfl ?_
    refine own_icmpYes X38 hx (pc' := 54) (hb hby d9_38) (tlt hg).2.2.1 (by decide) (by decide) ?_
    refine own_aload X38 hx (pc' := 56) (hb hby d9_54) rfl rfl rfl ?_
    refine own_retA X38 hx hlk hret rfl rfl rfl (hb hby d9_56) (by decide) (by decide) ?_
    rw [e38]
    exact ⟨N38, K35, ba31, _, rfl, gb31, gk_ba31, Or.inr V31⟩
  · skip
    show own_G p.tables e below _ T9 (mkF m 12 #[.val (.ref ca), .val (.int (0 : Int32)), .val (.int (4 : Int32)), .val (.ref nb2), .unset, .unset] [(.int (3 : Int32))])
    refine own_istore X9 hx (pc' := 14) (Ls' := #[.val (.ref ca), .val (.int (0 : Int32)), .val (.int (4 : Int32)), .val (.ref nb2), .val (.int (3 : Int32)), .unset]) (hb hby d9_12) rfl rfl ?_
    refine own_iload X9 hx (pc' := 16) (hb hby d9_14) rfl rfl ?_
    refine own_iloadN X9 hx (pc' := 17) (hb hby d9_16) rfl rfl ?_
    refine own_icmpNo X9 hx (pc' := 20) (hb hby d9_17) (feq (by decide : ¬ ((3 : Int32) = (4 : Int32)))).1 rfl ?_
    refine own_aloadN X9 hx (pc' := 21) (hb hby d9_20) rfl rfl rfl ?_
    refine own_iloadN X9 hx (pc' := 22) (hb hby d9_21) rfl rfl ?_
    refine own_iloadN X9 hx (pc' := 23) (hb hby d9_22) rfl rfl ?_
    refine own_callS X9 hx (pc' := 26) hZ hown (Wd89 hw) (Wd90 hw) (Wd51 hw) (Wd91 hw) (by decide) (rm_tb_4 l Z a0 hw [] cz sv hcz hsv ca ka c0 c1 c2 c3 T9.heap n0 Z11 F14 F13) rfl 0 (by decide) (by decide) (by decide) (by decide) [(.ref ca), (.int (0 : Int32)), (.int (4 : Int32))] [] (by rw [hml]; rfl) (lenOf pd_6 rfl) rfl rfl (Nat.le_of_eq rfl) (hb hby d9_23) rfl (fun v39 T39 L39 X39 hQ39 => ?_)
    obtain ⟨Nq39, K39, ba39, kb39, rfl, gb39, gz39, V39⟩ := hQ39
    have N40 := Fr.app N10 Nq39
    have ne_ca_ba39_41 : ca ≠ ba39 := Nat.ne_of_lt (Nat.lt_of_lt_of_le F14.lt gz39)
    have gk_ba39 := Nat.le_trans K12.1 gz39
    have Z42 : n0 ≤ T39.heap.size := Nat.le_trans Z11 K39.1
    have K43 : Keep h0 T39.heap [] := Keep.trans K12 K39 all0
    have F44 := (F13.keep K39 (fun x hx => absurd hx List.not_mem_nil))
    have F45 := (F14.keep K39 nin0)
    show own_G p.tables e below _ T39 (mkF m 26 #[.val (.ref ca), .val (.int (0 : Int32)), .val (.int (4 : Int32)), .val (.ref nb2), .val (.int (3 : Int32)), .unset] [(.ref ba39)])
    refine own_astore X39 hx (pc' := 28) (Ls' := #[.val (.ref ca), .val (.int (0 : Int32)), .val (.int (4 : Int32)), .val (.ref nb2), .val (.int (3 : Int32)), .val (.ref ba39)]) (hb hby d9_26) rfl rfl rfl ?_
    refine own_aload X39 hx (pc' := 30) (hb hby d9_28) rfl rfl rfl ?_
    refine own_iload X39 hx (pc' := 32) (hb hby d9_30) rfl rfl ?_
    refine own_cSI X39 hx (pc' := 35) hZ hown (Wd105 hw) (Wd106 hw) (Wd51 hw) (Wd107 hw) (rm_gc_3 l Z a0 hw [] cz sv hcz hsv ba39 kb39 (8 : Int32) [(.int (own_b0 c0)), (.int (own_b1 c0)), (.int (own_b0 c1)), (.int (own_b1 c1)), (.int (own_b0 c2)), (.int (own_b1 c2)), (.int (own_b0 c3)), (.int (own_b1 c3))] c3 T39.heap n0 Z42 V39 (by decide) (by decide) rfl rfl rc3 F44) rfl N40 hml pd_7 (hb hby d9_32) 0 [(.ref ba39), (.int (3 : Int32))] [] (fun T46 L46 X46 e46 N46 => ?_)
    refine own_sipush X46 hx (pc' := 38) (255 : Int32) (hb hby d9_35) rfl rfl ?_
    refine own_icmpYes X46 hx (pc' := 54) (hb hby d9_38) (tlt hg).2.2.1 (by decide) (by decide) ?_
    refine own_aload X46 hx (pc' := 56) (hb hby d9_54) rfl rfl rfl ?_
    refine own_retA X46 hx hlk hret rfl rfl rfl (hb hby d9_56) (by decide) (by decide) ?_
    rw [e46]
    exact ⟨N46, K43, ba39, _, rfl, gb39, gk_ba39, Or.inr V39⟩

theorem d11_0 : decode jdk_52_method_15_code 0 = .ok (.iload_n 1, 1) := by decide +kernel
theorem d11_1 : decode jdk_52_method_15_code 1 = .ok (.aload_n 0, 1) := by decide +kernel
theorem d11_2 : decode jdk_52_method_15_code 2 = .ok (.arraylength, 1) := by decide +kernel
theorem d11_3 : decode jdk_52_method_15_code 3 = .ok (.isub, 1) := by decide +kernel
theorem d11_4 : decode jdk_52_method_15_code 4 = .ok (.bipush 31, 2) := by decide +kernel
theorem d11_6 : decode jdk_52_method_15_code 6 = .ok (.iushr, 1) := by decide +kernel
theorem d11_7 : decode jdk_52_method_15_code 7 = .ok (.i2b, 1) := by decide +kernel
theorem d11_8 : decode jdk_52_method_15_code 8 = .ok (.ireturn, 1) := by decide +kernel
theorem ef_rm_cfl (m : MethodId) (x0 : Addr) (x1 : Int32) : entryFrame m #[(.ref x0), (.int x1)] 2 = mkF m 0 #[.val (.ref x0), .val (.int x1)] [] := by first | (simp [entryFrame, mkF, argsToLocals, Value.category, maxLocals]; done) | rfl
theorem pf_20 : plainFor (⟨"java/lang/StringUTF16", "coderFromArrayLen", "([BI)B"⟩ : MethodName) = true := by apply plainFor_of_name; first | (simp [plainName, overriddenIn]; done) | decide +kernel
set_option maxRecDepth 65536 in
set_option maxHeartbeats 40000000 in
theorem rm_cfl (l : Launch) (Z : State) (a0 : Array Value) (hw : ∀ d ∈ tables_1, d.before a0 Z = true) (ws : List Jvm.Cond) (ba : Addr) (kb : ClassId) (z q1 : Int32) (vs : List Value) (h0 : Heap) (n0 : Nat) (Z0 : n0 ≤ h0.size) (V_b : Arv Z h0 ba kb .byte z vs (.int (0 : Int32))) :
    own_M l Z (⟨"java/lang/StringUTF16", "coderFromArrayLen", "([BI)B"⟩ : MethodName) jdk_52_method_15_code 2 (some .byte) ws ({ frames := 0, cells := 0, slots := 0, locals := 0 } : Room) #[(.ref ba), (.int q1)] h0  (Qint (own_cfl q1 z) h0 n0) := by
  refine own_bodyM pf_20 ?_
  intro p e s m below meth c s₁ hx hby hml hown hnm hlk hret hZ X0 e0
  have N0 : Fr n0 [] := Fr.nil n0
  refine own_go (f' := (mkF m 0 #[.val (.ref ba), .val (.int q1)] [])) (fun t k => castTop (ef_rm_cfl m ba q1) k) ?_
  refine own_iloadN X0 hx (pc' := 1) (hb hby d11_0) rfl rfl ?_
  refine own_aloadN X0 hx (pc' := 2) (hb hby d11_1) rfl rfl rfl ?_
  obtain ⟨cl1, Ar1, q1, S1, M1, H1, G1⟩ := id V_b
  refine own_len X0 hx (pc' := 3) hZ e0 Ar1 S1 M1 (hb hby d11_2) rfl ?_
  refine own_isub X0 hx (pc' := 4) (hb hby d11_3) rfl rfl ?_
  refine own_bipush X0 hx (pc' := 6) (31 : Int32) (hb hby d11_4) rfl rfl ?_
  refine own_iushr X0 hx (pc' := 7) (hb hby d11_6) rfl ?_
  refine own_i2b X0 hx (pc' := 8) (hb hby d11_7) rfl ?_
  refine own_retN X0 hx hlk hret (by simp) (hb hby d11_8) (by decide) (by decide) ?_
  exact ⟨rfl, N0, e0⟩

theorem d3_0 : decode jdk_42_method_149_code 0 = .ok (.aload_n 0, 1) := by decide +kernel
theorem d3_1 : decode jdk_42_method_149_code 1 = .ok (.invokespecial 1, 3) := by decide +kernel
theorem d3_4 : decode jdk_42_method_149_code 4 = .ok (.iload_n 3, 1) := by decide +kernel
theorem d3_5 : decode jdk_42_method_149_code 5 = .ok (.ifCond .ne 22, 3) := by decide +kernel
theorem d3_8 : decode jdk_42_method_149_code 8 = .ok (.aload_n 0, 1) := by decide +kernel
theorem d3_9 : decode jdk_42_method_149_code 9 = .ok (.ldc 7, 2) := by decide +kernel
theorem d3_11 : decode jdk_42_method_149_code 11 = .ok (.getfield 9, 3) := by decide +kernel
theorem d3_14 : decode jdk_42_method_149_code 14 = .ok (.putfield 9, 3) := by decide +kernel
theorem d3_17 : decode jdk_42_method_149_code 17 = .ok (.aload_n 0, 1) := by decide +kernel
theorem d3_18 : decode jdk_42_method_149_code 18 = .ok (.ldc 7, 2) := by decide +kernel
theorem d3_20 : decode jdk_42_method_149_code 20 = .ok (.getfield 15, 3) := by decide +kernel
theorem d3_23 : decode jdk_42_method_149_code 23 = .ok (.putfield 15, 3) := by decide +kernel
theorem d3_26 : decode jdk_42_method_149_code 26 = .ok (.return_, 1) := by decide +kernel
theorem d3_27 : decode jdk_42_method_149_code 27 = .ok (.getstatic 38, 3) := by decide +kernel
theorem d3_30 : decode jdk_42_method_149_code 30 = .ok (.ifCond .eq 28, 3) := by decide +kernel
theorem d3_33 : decode jdk_42_method_149_code 33 = .ok (.aload_n 1, 1) := by decide +kernel
theorem d3_34 : decode jdk_42_method_149_code 34 = .ok (.iload_n 2, 1) := by decide +kernel
theorem d3_35 : decode jdk_42_method_149_code 35 = .ok (.iload_n 3, 1) := by decide +kernel
theorem d3_36 : decode jdk_42_method_149_code 36 = .ok (.invokestatic 177, 3) := by decide +kernel
theorem d3_39 : decode jdk_42_method_149_code 39 = .ok (.astore 5, 2) := by decide +kernel
theorem d3_41 : decode jdk_42_method_149_code 41 = .ok (.aload_n 0, 1) := by decide +kernel
theorem d3_42 : decode jdk_42_method_149_code 42 = .ok (.aload 5, 2) := by decide +kernel
theorem d3_44 : decode jdk_42_method_149_code 44 = .ok (.iload_n 3, 1) := by decide +kernel
theorem d3_45 : decode jdk_42_method_149_code 45 = .ok (.invokestatic 47, 3) := by decide +kernel
theorem d3_48 : decode jdk_42_method_149_code 48 = .ok (.putfield 15, 3) := by decide +kernel
theorem d3_51 : decode jdk_42_method_149_code 51 = .ok (.aload_n 0, 1) := by decide +kernel
theorem d3_52 : decode jdk_42_method_149_code 52 = .ok (.aload 5, 2) := by decide +kernel
theorem d3_54 : decode jdk_42_method_149_code 54 = .ok (.putfield 9, 3) := by decide +kernel
theorem d3_57 : decode jdk_42_method_149_code 57 = .ok (.return_, 1) := by decide +kernel
theorem d3_58 : decode jdk_42_method_149_code 58 = .ok (.aload_n 0, 1) := by decide +kernel
theorem d3_59 : decode jdk_42_method_149_code 59 = .ok (.iconst 1, 1) := by decide +kernel
theorem d3_60 : decode jdk_42_method_149_code 60 = .ok (.putfield 15, 3) := by decide +kernel
theorem d3_63 : decode jdk_42_method_149_code 63 = .ok (.aload_n 0, 1) := by decide +kernel
theorem d3_64 : decode jdk_42_method_149_code 64 = .ok (.aload_n 1, 1) := by decide +kernel
theorem d3_65 : decode jdk_42_method_149_code 65 = .ok (.iload_n 2, 1) := by decide +kernel
theorem d3_66 : decode jdk_42_method_149_code 66 = .ok (.iload_n 3, 1) := by decide +kernel
theorem d3_67 : decode jdk_42_method_149_code 67 = .ok (.invokestatic 180, 3) := by decide +kernel
theorem d3_70 : decode jdk_42_method_149_code 70 = .ok (.putfield 9, 3) := by decide +kernel
theorem d3_73 : decode jdk_42_method_149_code 73 = .ok (.return_, 1) := by decide +kernel
theorem d2_0 : decode jdk_42_method_3_code 0 = .ok (.aload_n 0, 1) := by decide +kernel
theorem d2_1 : decode jdk_42_method_3_code 1 = .ok (.aload_n 1, 1) := by decide +kernel
theorem d2_2 : decode jdk_42_method_3_code 2 = .ok (.iconst 0, 1) := by decide +kernel
theorem d2_3 : decode jdk_42_method_3_code 3 = .ok (.aload_n 1, 1) := by decide +kernel
theorem d2_4 : decode jdk_42_method_3_code 4 = .ok (.arraylength, 1) := by decide +kernel
theorem d2_5 : decode jdk_42_method_3_code 5 = .ok (.aconst_null, 1) := by decide +kernel
theorem d2_6 : decode jdk_42_method_3_code 6 = .ok (.invokespecial 27, 3) := by decide +kernel
theorem d2_9 : decode jdk_42_method_3_code 9 = .ok (.return_, 1) := by decide +kernel
def Qin_1 (Z : State) (so : Addr) (c0 : Int32) (h0 : Heap) (n0 : Nat) (v : Option Value) (h : Heap) (L : List Loc) : Prop := v = none ∧ Fr n0 L ∧ Keep h0 h [so] ∧ ∃ (ba : Addr) (kb : ClassId), Fld Z h so "java/lang/String" "value" "[B" (.ref ba) ∧ ((Fld Z h so "java/lang/String" "coder" "B" (.int (0 : Int32)) ∧ (¬ (255 : Int32) < c0) ∧ Arv Z h ba kb .byte (1 : Int32) [(.int (own_lb c0))] (.int (0 : Int32))) ∨ (Fld Z h so "java/lang/String" "coder" "B" (.int (1 : Int32)) ∧ Arv Z h ba kb .byte (2 : Int32) [(.int (own_b0 c0)), (.int (own_b1 c0))] (.int (0 : Int32))))
theorem ef_rm_i2_1 (m : MethodId) (x0 : Addr) (x1 : Addr) (x2 : Int32) (x3 : Int32) : entryFrame m #[(.ref x0), (.ref x1), (.int x2), (.int x3), .null] 6 = mkF m 0 #[.val (.ref x0), .val (.ref x1), .val (.int x2), .val (.int x3), .val .null, .unset] [] := by first | (simp [entryFrame, mkF, argsToLocals, Value.category, maxLocals]; done) | rfl
theorem pf_21 : plainFor (⟨"java/lang/String", "<init>", "([CIILjava/lang/Void;)V"⟩ : MethodName) = true := by apply plainFor_of_name; first | (simp [plainName, overriddenIn]; done) | decide +kernel
theorem Wd18 {a0 : Array Value} {Z : State} (hw : ∀ d ∈ tables_1, d.before a0 Z = true) : (Jvm.Cond.methodLink "java/lang/String" (1 : Nat) ({ cls := "java/lang/Object", name := "<init>", desc := "()V" } : Jvm.MethodName)).before a0 Z = true := hw _ (List.mem_of_getElem? (i := 18) rfl)
theorem Wd19 {a0 : Array Value} {Z : State} (hw : ∀ d ∈ tables_1, d.before a0 Z = true) : (Jvm.Cond.instanceMethod ({ cls := "java/lang/Object", name := "<init>", desc := "()V" } : Jvm.MethodName)).before a0 Z = true := hw _ (List.mem_of_getElem? (i := 19) rfl)
theorem Wd20 {a0 : Array Value} {Z : State} (hw : ∀ d ∈ tables_1, d.before a0 Z = true) : (Jvm.Cond.code ({ cls := "java/lang/Object", name := "<init>", desc := "()V" } : Jvm.MethodName) object_method_1_code (1 : Nat) (Option.none : Option Jvm.ClassFile.FieldType)).before a0 Z = true := hw _ (List.mem_of_getElem? (i := 20) rfl)
theorem Wd52 {a0 : Array Value} {Z : State} (hw : ∀ d ∈ tables_1, d.before a0 Z = true) : (Jvm.Cond.code ({ cls := "java/lang/StringUTF16", name := "compress", desc := "([CII)[B" } : Jvm.MethodName) jdk_52_method_16_code (6 : Nat) (Option.some (Jvm.ClassFile.FieldType.array Jvm.ClassFile.FieldType.byte))).before a0 Z = true := hw _ (List.mem_of_getElem? (i := 52) rfl)
theorem Wd49 {a0 : Array Value} {Z : State} (hw : ∀ d ∈ tables_1, d.before a0 Z = true) : (Jvm.Cond.methodLink "java/lang/String" (177 : Nat) ({ cls := "java/lang/StringUTF16", name := "compress", desc := "([CII)[B" } : Jvm.MethodName)).before a0 Z = true := hw _ (List.mem_of_getElem? (i := 49) rfl)
theorem Wd50 {a0 : Array Value} {Z : State} (hw : ∀ d ∈ tables_1, d.before a0 Z = true) : (Jvm.Cond.static ({ cls := "java/lang/StringUTF16", name := "compress", desc := "([CII)[B" } : Jvm.MethodName)).before a0 Z = true := hw _ (List.mem_of_getElem? (i := 50) rfl)
theorem Wd58 {a0 : Array Value} {Z : State} (hw : ∀ d ∈ tables_1, d.before a0 Z = true) : (Jvm.Cond.code ({ cls := "java/lang/StringUTF16", name := "coderFromArrayLen", desc := "([BI)B" } : Jvm.MethodName) jdk_52_method_15_code (2 : Nat) (Option.some Jvm.ClassFile.FieldType.byte)).before a0 Z = true := hw _ (List.mem_of_getElem? (i := 58) rfl)
theorem pd_8 : parseMethodDescriptor "([BI)B" = some ⟨[(.array .byte), .int], some .byte⟩ := by decide +kernel
theorem Wd56 {a0 : Array Value} {Z : State} (hw : ∀ d ∈ tables_1, d.before a0 Z = true) : (Jvm.Cond.methodLink "java/lang/String" (47 : Nat) ({ cls := "java/lang/StringUTF16", name := "coderFromArrayLen", desc := "([BI)B" } : Jvm.MethodName)).before a0 Z = true := hw _ (List.mem_of_getElem? (i := 56) rfl)
theorem Wd57 {a0 : Array Value} {Z : State} (hw : ∀ d ∈ tables_1, d.before a0 Z = true) : (Jvm.Cond.static ({ cls := "java/lang/StringUTF16", name := "coderFromArrayLen", desc := "([BI)B" } : Jvm.MethodName)).before a0 Z = true := hw _ (List.mem_of_getElem? (i := 57) rfl)
theorem Wd24 {a0 : Array Value} {Z : State} (hw : ∀ d ∈ tables_1, d.before a0 Z = true) : (Jvm.Cond.laysFinal "java/lang/String" "java/lang/String" "coder" "B").before a0 Z = true := hw _ (List.mem_of_getElem? (i := 24) rfl)
theorem Wd9 {a0 : Array Value} {Z : State} (hw : ∀ d ∈ tables_1, d.before a0 Z = true) : (Jvm.Cond.instantiable "java/lang/String" (4 : Nat)).before a0 Z = true := hw _ (List.mem_of_getElem? (i := 9) rfl)
theorem Wd23 {a0 : Array Value} {Z : State} (hw : ∀ d ∈ tables_1, d.before a0 Z = true) : (Jvm.Cond.laysFinal "java/lang/String" "java/lang/String" "value" "[B").before a0 Z = true := hw _ (List.mem_of_getElem? (i := 23) rfl)
set_option maxRecDepth 65536 in
set_option maxHeartbeats 40000000 in
theorem rm_i2_1 (l : Launch) (Z : State) (a0 : Array Value) (hw : ∀ d ∈ tables_1, d.before a0 Z = true) (ws : List Jvm.Cond) (cz : Int32) (sv : Value) (hcz : ¬ cz = (0 : Int32)) (hsv : sv.isRef = true) (so ca : Addr) (ka : ClassId) (c0 : Int32) (h0 : Heap) (n0 : Nat) (Z0 : n0 ≤ h0.size) (g_s : n0 ≤ so) (E_s : Exa Z h0 so "java/lang/String") (F_c : Fld Z h0 so "java/lang/String" "coder" "B" (.int (0 : Int32))) (F_v : Fld Z h0 so "java/lang/String" "value" "[B" .null) (rc0 : own_ch c0) (V_c : Arv Z h0 ca ka .char (1 : Int32) [(.int c0)] (.int (0 : Int32))) (B_ST : own_ST n0 Z h0 cz sv) :
    own_M l Z (⟨"java/lang/String", "<init>", "([CIILjava/lang/Void;)V"⟩ : MethodName) jdk_42_method_149_code 6 none ws ({ frames := 4, cells := 2, slots := 3, locals := 57 } : Room) #[(.ref so), (.ref ca), (.int (0 : Int32)), (.int (1 : Int32)), .null] h0  (Qin_1 Z so c0 h0 n0) := by
  refine own_bodyM pf_21 ?_
  intro p e s m below meth c s₁ hx hby hml hown hnm hlk hret hZ X0 e0
  have N0 : Fr n0 [] := Fr.nil n0
  refine own_go (f' := (mkF m 0 #[.val (.ref so), .val (.ref ca), .val (.int (0 : Int32)), .val (.int (1 : Int32)), .val .null, .unset] [])) (fun t k => castTop (ef_rm_i2_1 m so ca (0 : Int32) (1 : Int32)) k) ?_
  have K1 : Keep h0 h0 [so] := Keep.refl _ _
  refine own_aloadN X0 hx (pc' := 1) (hb hby d3_0) rfl rfl rfl ?_
  refine own_initO X0 hx (pc' := 4) hZ hown (Wd18 hw) (Wd19 hw) (Wd20 hw) e0 (by rw [hml]; rfl) (hb hby d3_1) (by decide) 0 (Nat.le_of_eq rfl) (by decide) rfl (fun T2 X2 e2 => ?_)
  refine own_iloadN X2 hx (pc' := 5) (hb hby d3_4) rfl rfl ?_
  refine own_ifYes X2 hx (pc' := 27) (hb hby d3_5) (feq (by decide : ¬ ((1 : Int32) = (0 : Int32)))).2 (by decide) (by decide) ?_
  refine own_getS X2 hx (pc' := 30) hZ hown (host := "") (Or.inl (Wd48 hw)) Via.refl e2 (own_SB.sta B_ST.1) (hb hby d3_27) rfl (fun T3 X3 e3 => ?_)
  refine own_ifNo X3 hx (pc' := 33) (hb hby d3_30) (feq (id hcz)).1 rfl ?_
  refine own_aloadN X3 hx (pc' := 34) (hb hby d3_33) rfl rfl rfl ?_
  refine own_iloadN X3 hx (pc' := 35) (hb hby d3_34) rfl rfl ?_
  refine own_iloadN X3 hx (pc' := 36) (hb hby d3_35) rfl rfl ?_
  refine own_callS X3 hx (pc' := 39) hZ hown (Wd49 hw) (Wd50 hw) (Wd51 hw) (Wd52 hw) (by decide) (rm_c3_1 l Z a0 hw [] cz sv hcz hsv ca ka c0 h0 n0 Z0 rc0 V_c B_ST) e3 0 (by decide) (by decide) (by decide) (by decide) [(.ref ca), (.int (0 : Int32)), (.int (1 : Int32))] [] (by rw [hml]; rfl) (lenOf pd_6 rfl) rfl rfl (Nat.le_of_eq rfl) (hb hby d3_36) rfl (fun v4 T4 L4 X4 hQ4 => ?_)
  obtain ⟨Nq4, K4, ba4, kb4, rfl, gb4, gz4, hor⟩ := hQ4
  have N5 := Fr.app N0 Nq4
  have ne_so_ba4_6 : so ≠ ba4 := Nat.ne_of_lt (Nat.lt_of_lt_of_le E_s.lt gz4)
  have gk_ba4 := Nat.le_trans K1.1 gz4
  have Z7 : n0 ≤ T4.heap.size := Nat.le_trans Z0 K4.1
  have K8 : Keep h0 T4.heap [so] := Keep.trans K1 K4 all0
  have F9 := (B_ST.keep K4 (fun x hx => absurd hx List.not_mem_nil))
  have F10 := (Exa.keep E_s K4)
  have F11 := (F_c.keep K4 nin0)
  have F12 := (F_v.keep K4 nin0)
  rcases hor with ⟨hl, V4⟩ | V4
  · skip
    show own_G p.tables e below _ T4 (mkF m 39 #[.val (.ref so), .val (.ref ca), .val (.int (0 : Int32)), .val (.int (1 : Int32)), .val .null, .unset] [(.ref ba4)])
    refine own_astore X4 hx (pc' := 41) (Ls' := #[.val (.ref so), .val (.ref ca), .val (.int (0 : Int32)), .val (.int (1 : Int32)), .val .null, .val (.ref ba4)]) (hb hby d3_39) rfl rfl rfl ?_
    refine own_aloadN X4 hx (pc' := 42) (hb hby d3_41) rfl rfl rfl ?_
    refine own_aload X4 hx (pc' := 44) (hb hby d3_42) rfl rfl rfl ?_
    refine own_iloadN X4 hx (pc' := 45) (hb hby d3_44) rfl rfl ?_
    refine own_cSI X4 hx (pc' := 48) hZ hown (Wd56 hw) (Wd57 hw) (Wd51 hw) (Wd58 hw) (rm_cfl l Z a0 hw []  ba4 kb4 (1 : Int32) (1 : Int32) [(.int (own_lb c0))] T4.heap n0 Z7 V4 ) rfl N5 hml pd_8 (hb hby d3_45) 1 [(.ref ba4), (.int (1 : Int32))] [(.ref so)] (fun T13 L13 X13 e13 N13 => ?_)
    rw [show own_cfl (1 : Int32) (1 : Int32) = (0 : Int32) from by decide]
    refine own_putFN X13 hx (pc' := 51) hZ (ty := .byte) (.int (0 : Int32)) hown (Wd28 hw) Via.refl e13 F11 F10 (Or.inr ⟨(Wd24 hw), rfl, hnm⟩) (Wd9 hw) (by decide) rfl rfl (hb hby d3_48) rfl (fun T14 h14 X14 e14 W14 => ?_)
    have N15 := Fr.snoc X14 N13 g_s
    have Z16 : n0 ≤ h14.size := Nat.le_trans Z7 (Nat.le_of_eq (Wr.size W14).symm)
    have K17 : Keep h0 h14 [so] := K8.wr W14 (Or.inl (List.mem_of_getElem? (i := 0) rfl))
    have F18 := (F9.wr W14 g_s)
    have F19 := (Exa.wr W14 F10)
    have F20 := (Fld.same W14 F11)
    have F21 := (Fld.other W14 F12 (Or.inr (slot_ne (Or.inr (Wd23 hw)) (Or.inr (Wd24 hw)) (by decide) (t := (.array .byte)) (t' := .byte) (by decide) (by decide))))
    have F22 := (V4.other W14 (Ne.symm ne_so_ba4_6))
    refine own_aloadN X14 hx (pc' := 52) (hb hby d3_51) rfl rfl rfl ?_
    refine own_aload X14 hx (pc' := 54) (hb hby d3_52) rfl rfl rfl ?_
    refine own_putF X14 hx (pc' := 57) hZ (ty := (.array .byte)) hown (host := "") (Or.inl (Wd27 hw)) Via.refl e14 F21 F19 (Or.inr ⟨(Wd23 hw), rfl, hnm⟩) (Wd9 hw) (by decide) rfl rfl (hb hby d3_54) rfl (fun T23 h23 X23 e23 W23 => ?_)
    have N24 := Fr.snoc X23 N15 g_s
    have Z25 : n0 ≤ h23.size := Nat.le_trans Z16 (Nat.le_of_eq (Wr.size W23).symm)
    have K26 : Keep h0 h23 [so] := K17.wr W23 (Or.inl (List.mem_of_getElem? (i := 0) rfl))
    have F27 := (F18.wr W23 g_s)
    have F28 := (Exa.wr W23 F19)
    have F29 := (Fld.other W23 F20 (Or.inr (slot_ne (Or.inr (Wd24 hw)) (Or.inr (Wd23 hw)) (by decide) (t := .byte) (t' := (.array .byte)) (by decide) (by decide))))
    have F30 := (Fld.same W23 F21)
    have F31 := (F22.other W23 (Ne.symm ne_so_ba4_6))
    refine own_retV X23 hx hlk hret (hb hby d3_57) (by decide) (by decide) ?_
    rw [e23]
    exact ⟨rfl, N24, K26, ba4, _, F30, Or.inl ⟨F29, hl, F31⟩⟩
  · skip
    show own_G p.tables e below _ T4 (mkF m 39 #[.val (.ref so), .val (.ref ca), .val (.int (0 : Int32)), .val (.int (1 : Int32)), .val .null, .unset] [(.ref ba4)])
    refine own_astore X4 hx (pc' := 41) (Ls' := #[.val (.ref so), .val (.ref ca), .val (.int (0 : Int32)), .val (.int (1 : Int32)), .val .null, .val (.ref ba4)]) (hb hby d3_39) rfl rfl rfl ?_
    refine own_aloadN X4 hx (pc' := 42) (hb hby d3_41) rfl rfl rfl ?_
    refine own_aload X4 hx (pc' := 44) (hb hby d3_42) rfl rfl rfl ?_
    refine own_iloadN X4 hx (pc' := 45) (hb hby d3_44) rfl rfl ?_
    refine own_cSI X4 hx (pc' := 48) hZ hown (Wd56 hw) (Wd57 hw) (Wd51 hw) (Wd58 hw) (rm_cfl l Z a0 hw []  ba4 kb4 (2 : Int32) (1 : Int32) [(.int (own_b0 c0)), (.int (own_b1 c0))] T4.heap n0 Z7 V4 ) rfl N5 hml pd_8 (hb hby d3_45) 1 [(.ref ba4), (.int (1 : Int32))] [(.ref so)] (fun T32 L32 X32 e32 N32 => ?_)
    rw [show own_cfl (1 : Int32) (2 : Int32) = (1 : Int32) from by decide]
    refine own_putFN X32 hx (pc' := 51) hZ (ty := .byte) (.int (1 : Int32)) hown (Wd28 hw) Via.refl e32 F11 F10 (Or.inr ⟨(Wd24 hw), rfl, hnm⟩) (Wd9 hw) (by decide) rfl rfl (hb hby d3_48) rfl (fun T33 h33 X33 e33 W33 => ?_)
    have N34 := Fr.snoc X33 N32 g_s
    have Z35 : n0 ≤ h33.size := Nat.le_trans Z7 (Nat.le_of_eq (Wr.size W33).symm)
    have K36 : Keep h0 h33 [so] := K8.wr W33 (Or.inl (List.mem_of_getElem? (i := 0) rfl))
    have F37 := (F9.wr W33 g_s)
    have F38 := (Exa.wr W33 F10)
    have F39 := (Fld.same W33 F11)
    have F40 := (Fld.other W33 F12 (Or.inr (slot_ne (Or.inr (Wd23 hw)) (Or.inr (Wd24 hw)) (by decide) (t := (.array .byte)) (t' := .byte) (by decide) (by decide))))
    have F41 := (V4.other W33 (Ne.symm ne_so_ba4_6))
    refine own_aloadN X33 hx (pc' := 52) (hb hby d3_51) rfl rfl rfl ?_
    refine own_aload X33 hx (pc' := 54) (hb hby d3_52) rfl rfl rfl ?_
    refine own_putF X33 hx (pc' := 57) hZ (ty := (.array .byte)) hown (host := "") (Or.inl (Wd27 hw)) Via.refl e33 F40 F38 (Or.inr ⟨(Wd23 hw), rfl, hnm⟩) (Wd9 hw) (by decide) rfl rfl (hb hby d3_54) rfl (fun T42 h42 X42 e42 W42 => ?_)
    have N43 := Fr.snoc X42 N34 g_s
    have Z44 : n0 ≤ h42.size := Nat.le_trans Z35 (Nat.le_of_eq (Wr.size W42).symm)
    have K45 : Keep h0 h42 [so] := K36.wr W42 (Or.inl (List.mem_of_getElem? (i := 0) rfl))
    have F46 := (F37.wr W42 g_s)
    have F47 := (Exa.wr W42 F38)
    have F48 := (Fld.other W42 F39 (Or.inr (slot_ne (Or.inr (Wd24 hw)) (Or.inr (Wd23 hw)) (by decide) (t := .byte) (t' := (.array .byte)) (by decide) (by decide))))
    have F49 := (Fld.same W42 F40)
    have F50 := (F41.other W42 (Ne.symm ne_so_ba4_6))
    refine own_retV X42 hx hlk hret (hb hby d3_57) (by decide) (by decide) ?_
    rw [e42]
    exact ⟨rfl, N43, K45, ba4, _, F49, Or.inr ⟨F48, F50⟩⟩

theorem ef_rm_i1_1 (m : MethodId) (x0 : Addr) (x1 : Addr) : entryFrame m #[(.ref x0), (.ref x1)] 2 = mkF m 0 #[.val (.ref x0), .val (.ref x1)] [] := by first | (simp [entryFrame, mkF, argsToLocals, Value.category, maxLocals]; done) | rfl
theorem pf_22 : plainFor (⟨"java/lang/String", "<init>", "([C)V"⟩ : MethodName) = true := by apply plainFor_of_name; first | (simp [plainName, overriddenIn]; done) | decide +kernel
theorem Wd17 {a0 : Array Value} {Z : State} (hw : ∀ d ∈ tables_1, d.before a0 Z = true) : (Jvm.Cond.code ({ cls := "java/lang/String", name := "<init>", desc := "([CIILjava/lang/Void;)V" } : Jvm.MethodName) jdk_42_method_149_code (6 : Nat) (Option.none : Option Jvm.ClassFile.FieldType)).before a0 Z = true := hw _ (List.mem_of_getElem? (i := 17) rfl)
theorem pd_9 : parseMethodDescriptor "([CIILjava/lang/Void;)V" = some ⟨[(.array .char), .int, .int, (.object "java/lang/Void")], none⟩ := by decide +kernel
theorem Wd14 {a0 : Array Value} {Z : State} (hw : ∀ d ∈ tables_1, d.before a0 Z = true) : (Jvm.Cond.methodLink "java/lang/String" (27 : Nat) ({ cls := "java/lang/String", name := "<init>", desc := "([CIILjava/lang/Void;)V" } : Jvm.MethodName)).before a0 Z = true := hw _ (List.mem_of_getElem? (i := 14) rfl)
theorem Wd15 {a0 : Array Value} {Z : State} (hw : ∀ d ∈ tables_1, d.before a0 Z = true) : (Jvm.Cond.instanceMethod ({ cls := "java/lang/String", name := "<init>", desc := "([CIILjava/lang/Void;)V" } : Jvm.MethodName)).before a0 Z = true := hw _ (List.mem_of_getElem? (i := 15) rfl)
set_option maxRecDepth 65536 in
set_option maxHeartbeats 40000000 in
theorem rm_i1_1 (l : Launch) (Z : State) (a0 : Array Value) (hw : ∀ d ∈ tables_1, d.before a0 Z = true) (ws : List Jvm.Cond) (cz : Int32) (sv : Value) (hcz : ¬ cz = (0 : Int32)) (hsv : sv.isRef = true) (so ca : Addr) (ka : ClassId) (c0 : Int32) (h0 : Heap) (n0 : Nat) (Z0 : n0 ≤ h0.size) (g_s : n0 ≤ so) (E_s : Exa Z h0 so "java/lang/String") (F_c : Fld Z h0 so "java/lang/String" "coder" "B" (.int (0 : Int32))) (F_v : Fld Z h0 so "java/lang/String" "value" "[B" .null) (rc0 : own_ch c0) (V_c : Arv Z h0 ca ka .char (1 : Int32) [(.int c0)] (.int (0 : Int32))) (B_ST : own_ST n0 Z h0 cz sv) :
    own_M l Z (⟨"java/lang/String", "<init>", "([C)V"⟩ : MethodName) jdk_42_method_3_code 2 none ws ({ frames := 5, cells := 2, slots := 3, locals := 74 } : Room) #[(.ref so), (.ref ca)] h0  (Qin_1 Z so c0 h0 n0) := by
  refine own_bodyM pf_22 ?_
  intro p e s m below meth c s₁ hx hby hml hown hnm hlk hret hZ X0 e0
  have N0 : Fr n0 [] := Fr.nil n0
  refine own_go (f' := (mkF m 0 #[.val (.ref so), .val (.ref ca)] [])) (fun t k => castTop (ef_rm_i1_1 m so ca) k) ?_
  refine own_aloadN X0 hx (pc' := 1) (hb hby d2_0) rfl rfl rfl ?_
  refine own_aloadN X0 hx (pc' := 2) (hb hby d2_1) rfl rfl rfl ?_
  refine own_iconst X0 hx (pc' := 3) (0 : Int32) (hb hby d2_2) rfl rfl ?_
  refine own_aloadN X0 hx (pc' := 4) (hb hby d2_3) rfl rfl rfl ?_
  obtain ⟨cl1, Ar1, q1, S1, M1, H1, G1⟩ := id V_c
  refine own_len X0 hx (pc' := 5) hZ e0 Ar1 S1 M1 (hb hby d2_4) rfl ?_
  refine own_aconstNull X0 hx (pc' := 6) (hb hby d2_5) rfl ?_
  refine own_callI X0 hx (pc' := 9) hZ rfl hown (Wd14 hw) (Wd15 hw) (Wd17 hw) (Wd10 hw) (by decide) (rm_i2_1 l Z a0 hw [] cz sv hcz hsv so ca ka c0 h0 n0 Z0 g_s E_s F_c F_v rc0 V_c B_ST) e0 (b := so) 0 (by decide) (by decide) (by decide) (by decide) [(.ref ca), (.int (0 : Int32)), (.int (1 : Int32)), .null] [] (by rw [hml]; rfl) (lenOf pd_9 rfl) rfl rfl (Nat.le_of_eq rfl) (hb hby d2_6) rfl (fun v2 T2 L2 X2 hQ2 => ?_)
  obtain ⟨rfl, Nq2, K2, hf2⟩ := hQ2
  have N3 := Fr.app N0 Nq2
  have hQf := And.intro (rfl : (none : Option Value) = none) (And.intro N3 (And.intro K2 hf2))
  show own_G p.tables e below _ T2 (mkF m 9 #[.val (.ref so), .val (.ref ca)] [])
  refine own_retV X2 hx hlk hret (hb hby d2_9) (by decide) (by decide) ?_
  exact hQf

def Qin_2 (Z : State) (so : Addr) (c0 c1 : Int32) (h0 : Heap) (n0 : Nat) (v : Option Value) (h : Heap) (L : List Loc) : Prop := v = none ∧ Fr n0 L ∧ Keep h0 h [so] ∧ ∃ (ba : Addr) (kb : ClassId), Fld Z h so "java/lang/String" "value" "[B" (.ref ba) ∧ ((Fld Z h so "java/lang/String" "coder" "B" (.int (0 : Int32)) ∧ (¬ (255 : Int32) < c0 ∧ ¬ (255 : Int32) < c1) ∧ Arv Z h ba kb .byte (2 : Int32) [(.int (own_lb c0)), (.int (own_lb c1))] (.int (0 : Int32))) ∨ (Fld Z h so "java/lang/String" "coder" "B" (.int (1 : Int32)) ∧ Arv Z h ba kb .byte (4 : Int32) [(.int (own_b0 c0)), (.int (own_b1 c0)), (.int (own_b0 c1)), (.int (own_b1 c1))] (.int (0 : Int32))))
theorem ef_rm_i2_2 (m : MethodId) (x0 : Addr) (x1 : Addr) (x2 : Int32) (x3 : Int32) : entryFrame m #[(.ref x0), (.ref x1), (.int x2), (.int x3), .null] 6 = mkF m 0 #[.val (.ref x0), .val (.ref x1), .val (.int x2), .val (.int x3), .val .null, .unset] [] := by first | (simp [entryFrame, mkF, argsToLocals, Value.category, maxLocals]; done) | rfl
set_option maxRecDepth 65536 in
set_option maxHeartbeats 40000000 in
theorem rm_i2_2 (l : Launch) (Z : State) (a0 : Array Value) (hw : ∀ d ∈ tables_1, d.before a0 Z = true) (ws : List Jvm.Cond) (cz : Int32) (sv : Value) (hcz : ¬ cz = (0 : Int32)) (hsv : sv.isRef = true) (so ca : Addr) (ka : ClassId) (c0 c1 : Int32) (h0 : Heap) (n0 : Nat) (Z0 : n0 ≤ h0.size) (g_s : n0 ≤ so) (E_s : Exa Z h0 so "java/lang/String") (F_c : Fld Z h0 so "java/lang/String" "coder" "B" (.int (0 : Int32))) (F_v : Fld Z h0 so "java/lang/String" "value" "[B" .null) (rc0 : own_ch c0) (rc1 : own_ch c1) (V_c : Arv Z h0 ca ka .char (2 : Int32) [(.int c0), (.int c1)] (.int (0 : Int32))) (B_ST : own_ST n0 Z h0 cz sv) :
    own_M l Z (⟨"java/lang/String", "<init>", "([CIILjava/lang/Void;)V"⟩ : MethodName) jdk_42_method_149_code 6 none ws ({ frames := 4, cells := 2, slots := 6, locals := 57 } : Room) #[(.ref so), (.ref ca), (.int (0 : Int32)), (.int (2 : Int32)), .null] h0  (Qin_2 Z so c0 c1 h0 n0) := by
  refine own_bodyM pf_21 ?_
  intro p e s m below meth c s₁ hx hby hml hown hnm hlk hret hZ X0 e0
  have N0 : Fr n0 [] := Fr.nil n0
  refine own_go (f' := (mkF m 0 #[.val (.ref so), .val (.ref ca), .val (.int (0 : Int32)), .val (.int (2 : Int32)), .val .null, .unset] [])) (fun t k => castTop (ef_rm_i2_2 m so ca (0 : Int32) (2 : Int32)) k) ?_
  have K1 : Keep h0 h0 [so] := Keep.refl _ _
  refine own_aloadN X0 hx (pc' := 1) (hb hby d3_0) rfl rfl rfl ?_
  refine own_initO X0 hx (pc' := 4) hZ hown (Wd18 hw) (Wd19 hw) (Wd20 hw) e0 (by rw [hml]; rfl) (hb hby d3_1) (by decide) 0 (Nat.le_of_eq rfl) (by decide) rfl (fun T2 X2 e2 => ?_)
  refine own_iloadN X2 hx (pc' := 5) (hb hby d3_4) rfl rfl ?_
  refine own_ifYes X2 hx (pc' := 27) (hb hby d3_5) (feq (by decide : ¬ ((2 : Int32) = (0 : Int32)))).2 (by decide) (by decide) ?_
  refine own_getS X2 hx (pc' := 30) hZ hown (host := "") (Or.inl (Wd48 hw)) Via.refl e2 (own_SB.sta B_ST.1) (hb hby d3_27) rfl (fun T3 X3 e3 => ?_)
  refine own_ifNo X3 hx (pc' := 33) (hb hby d3_30) (feq (id hcz)).1 rfl ?_
  refine own_aloadN X3 hx (pc' := 34) (hb hby d3_33) rfl rfl rfl ?_
  refine own_iloadN X3 hx (pc' := 35) (hb hby d3_34) rfl rfl ?_
  refine own_iloadN X3 hx (pc' := 36) (hb hby d3_35) rfl rfl ?_
  refine own_callS X3 hx (pc' := 39) hZ hown (Wd49 hw) (Wd50 hw) (Wd51 hw) (Wd52 hw) (by decide) (rm_c3_2 l Z a0 hw [] cz sv hcz hsv ca ka c0 c1 h0 n0 Z0 rc0 rc1 V_c B_ST) e3 0 (by decide) (by decide) (by decide) (by decide) [(.ref ca), (.int (0 : Int32)), (.int (2 : Int32))] [] (by rw [hml]; rfl) (lenOf pd_6 rfl) rfl rfl (Nat.le_of_eq rfl) (hb hby d3_36) rfl (fun v4 T4 L4 X4 hQ4 => ?_)
  obtain ⟨Nq4, K4, ba4, kb4, rfl, gb4, gz4, hor⟩ := hQ4
  have N5 := Fr.app N0 Nq4
  have ne_so_ba4_6 : so ≠ ba4 := Nat.ne_of_lt (Nat.lt_of_lt_of_le E_s.lt gz4)
  have gk_ba4 := Nat.le_trans K1.1 gz4
  have Z7 : n0 ≤ T4.heap.size := Nat.le_trans Z0 K4.1
  have K8 : Keep h0 T4.heap [so] := Keep.trans K1 K4 all0
  have F9 := (B_ST.keep K4 (fun x hx => absurd hx List.not_mem_nil))
  have F10 := (Exa.keep E_s K4)
  have F11 := (F_c.keep K4 nin0)
  have F12 := (F_v.keep K4 nin0)
  rcases hor with ⟨hl, V4⟩ | V4
  · skip
    show own_G p.tables e below _ T4 (mkF m 39 #[.val (.ref so), .val (.ref ca), .val (.int (0 : Int32)), .val (.int (2 : Int32)), .val .null, .unset] [(.ref ba4)])
    refine own_astore X4 hx (pc' := 41) (Ls' := #[.val (.ref so), .val (.ref ca), .val (.int (0 : Int32)), .val (.int (2 : Int32)), .val .null, .val (.ref ba4)]) (hb hby d3_39) rfl rfl rfl ?_
    refine own_aloadN X4 hx (pc' := 42) (hb hby d3_41) rfl rfl rfl ?_
    refine own_aload X4 hx (pc' := 44) (hb hby d3_42) rfl rfl rfl ?_
    refine own_iloadN X4 hx (pc' := 45) (hb hby d3_44) rfl rfl ?_
    refine own_cSI X4 hx (pc' := 48) hZ hown (Wd56 hw) (Wd57 hw) (Wd51 hw) (Wd58 hw) (rm_cfl l Z a0 hw []  ba4 kb4 (2 : Int32) (2 : Int32) [(.int (own_lb c0)), (.int (own_lb c1))] T4.heap n0 Z7 V4 ) rfl N5 hml pd_8 (hb hby d3_45) 1 [(.ref ba4), (.int (2 : Int32))] [(.ref so)] (fun T13 L13 X13 e13 N13 => ?_)
    rw [show own_cfl (2 : Int32) (2 : Int32) = (0 : Int32) from by decide]
    refine own_putFN X13 hx (pc' := 51) hZ (ty := .byte) (.int (0 : Int32)) hown (Wd28 hw) Via.refl e13 F11 F10 (Or.inr ⟨(Wd24 hw), rfl, hnm⟩) (Wd9 hw) (by decide) rfl rfl (hb hby d3_48) rfl (fun T14 h14 X14 e14 W14 => ?_)
    have N15 := Fr.snoc X14 N13 g_s
    have Z16 : n0 ≤ h14.size := Nat.le_trans Z7 (Nat.le_of_eq (Wr.size W14).symm)
    have K17 : Keep h0 h14 [so] := K8.wr W14 (Or.inl (List.mem_of_getElem? (i := 0) rfl))
    have F18 := (F9.wr W14 g_s)
    have F19 := (Exa.wr W14 F10)
    have F20 := (Fld.same W14 F11)
    have F21 := (Fld.other W14 F12 (Or.inr (slot_ne (Or.inr (Wd23 hw)) (Or.inr (Wd24 hw)) (by decide) (t := (.array .byte)) (t' := .byte) (by decide) (by decide))))
    have F22 := (V4.other W14 (Ne.symm ne_so_ba4_6))
    refine own_aloadN X14 hx (pc' := 52) (hb hby d3_51) rfl rfl rfl ?_
    refine own_aload X14 hx (pc' := 54) (hb hby d3_52) rfl rfl rfl ?_
    refine own_putF X14 hx (pc' := 57) hZ (ty := (.array .byte)) hown (host := "") (Or.inl (Wd27 hw)) Via.refl e14 F21 F19 (Or.inr ⟨(Wd23 hw), rfl, hnm⟩) (Wd9 hw) (by decide) rfl rfl (hb hby d3_54) rfl (fun T23 h23 X23 e23 W23 => ?_)
    have N24 := Fr.snoc X23 N15 g_s
    have Z25 : n0 ≤ h23.size := Nat.le_trans Z16 (Nat.le_of_eq (Wr.size W23).symm)
    have K26 : Keep h0 h23 [so] := K17.wr W23 (Or.inl (List.mem_of_getElem? (i := 0) rfl))
    have F27 := (F18.wr W23 g_s)
    have F28 := (Exa.wr W23 F19)
    have F29 := (Fld.other W23 F20 (Or.inr (slot_ne (Or.inr (Wd24 hw)) (Or.inr (Wd23 hw)) (by decide) (t := .byte) (t' := (.array .byte)) (by decide) (by decide))))
    have F30 := (Fld.same W23 F21)
    have F31 := (F22.other W23 (Ne.symm ne_so_ba4_6))
    refine own_retV X23 hx hlk hret (hb hby d3_57) (by decide) (by decide) ?_
    rw [e23]
    exact ⟨rfl, N24, K26, ba4, _, F30, Or.inl ⟨F29, hl, F31⟩⟩
  · skip
    show own_G p.tables e below _ T4 (mkF m 39 #[.val (.ref so), .val (.ref ca), .val (.int (0 : Int32)), .val (.int (2 : Int32)), .val .null, .unset] [(.ref ba4)])
    refine own_astore X4 hx (pc' := 41) (Ls' := #[.val (.ref so), .val (.ref ca), .val (.int (0 : Int32)), .val (.int (2 : Int32)), .val .null, .val (.ref ba4)]) (hb hby d3_39) rfl rfl rfl ?_
    refine own_aloadN X4 hx (pc' := 42) (hb hby d3_41) rfl rfl rfl ?_
    refine own_aload X4 hx (pc' := 44) (hb hby d3_42) rfl rfl rfl ?_
    refine own_iloadN X4 hx (pc' := 45) (hb hby d3_44) rfl rfl ?_
    refine own_cSI X4 hx (pc' := 48) hZ hown (Wd56 hw) (Wd57 hw) (Wd51 hw) (Wd58 hw) (rm_cfl l Z a0 hw []  ba4 kb4 (4 : Int32) (2 : Int32) [(.int (own_b0 c0)), (.int (own_b1 c0)), (.int (own_b0 c1)), (.int (own_b1 c1))] T4.heap n0 Z7 V4 ) rfl N5 hml pd_8 (hb hby d3_45) 1 [(.ref ba4), (.int (2 : Int32))] [(.ref so)] (fun T32 L32 X32 e32 N32 => ?_)
    rw [show own_cfl (2 : Int32) (4 : Int32) = (1 : Int32) from by decide]
    refine own_putFN X32 hx (pc' := 51) hZ (ty := .byte) (.int (1 : Int32)) hown (Wd28 hw) Via.refl e32 F11 F10 (Or.inr ⟨(Wd24 hw), rfl, hnm⟩) (Wd9 hw) (by decide) rfl rfl (hb hby d3_48) rfl (fun T33 h33 X33 e33 W33 => ?_)
    have N34 := Fr.snoc X33 N32 g_s
    have Z35 : n0 ≤ h33.size := Nat.le_trans Z7 (Nat.le_of_eq (Wr.size W33).symm)
    have K36 : Keep h0 h33 [so] := K8.wr W33 (Or.inl (List.mem_of_getElem? (i := 0) rfl))
    have F37 := (F9.wr W33 g_s)
    have F38 := (Exa.wr W33 F10)
    have F39 := (Fld.same W33 F11)
    have F40 := (Fld.other W33 F12 (Or.inr (slot_ne (Or.inr (Wd23 hw)) (Or.inr (Wd24 hw)) (by decide) (t := (.array .byte)) (t' := .byte) (by decide) (by decide))))
    have F41 := (V4.other W33 (Ne.symm ne_so_ba4_6))
    refine own_aloadN X33 hx (pc' := 52) (hb hby d3_51) rfl rfl rfl ?_
    refine own_aload X33 hx (pc' := 54) (hb hby d3_52) rfl rfl rfl ?_
    refine own_putF X33 hx (pc' := 57) hZ (ty := (.array .byte)) hown (host := "") (Or.inl (Wd27 hw)) Via.refl e33 F40 F38 (Or.inr ⟨(Wd23 hw), rfl, hnm⟩) (Wd9 hw) (by decide) rfl rfl (hb hby d3_54) rfl (fun T42 h42 X42 e42 W42 => ?_)
    have N43 := Fr.snoc X42 N34 g_s
    have Z44 : n0 ≤ h42.size := Nat.le_trans Z35 (Nat.le_of_eq (Wr.size W42).symm)
    have K45 : Keep h0 h42 [so] := K36.wr W42 (Or.inl (List.mem_of_getElem? (i := 0) rfl))
    have F46 := (F37.wr W42 g_s)
    have F47 := (Exa.wr W42 F38)
    have F48 := (Fld.other W42 F39 (Or.inr (slot_ne (Or.inr (Wd24 hw)) (Or.inr (Wd23 hw)) (by decide) (t := .byte) (t' := (.array .byte)) (by decide) (by decide))))
    have F49 := (Fld.same W42 F40)
    have F50 := (F41.other W42 (Ne.symm ne_so_ba4_6))
    refine own_retV X42 hx hlk hret (hb hby d3_57) (by decide) (by decide) ?_
    rw [e42]
    exact ⟨rfl, N43, K45, ba4, _, F49, Or.inr ⟨F48, F50⟩⟩

theorem ef_rm_i1_2 (m : MethodId) (x0 : Addr) (x1 : Addr) : entryFrame m #[(.ref x0), (.ref x1)] 2 = mkF m 0 #[.val (.ref x0), .val (.ref x1)] [] := by first | (simp [entryFrame, mkF, argsToLocals, Value.category, maxLocals]; done) | rfl
set_option maxRecDepth 65536 in
set_option maxHeartbeats 40000000 in
theorem rm_i1_2 (l : Launch) (Z : State) (a0 : Array Value) (hw : ∀ d ∈ tables_1, d.before a0 Z = true) (ws : List Jvm.Cond) (cz : Int32) (sv : Value) (hcz : ¬ cz = (0 : Int32)) (hsv : sv.isRef = true) (so ca : Addr) (ka : ClassId) (c0 c1 : Int32) (h0 : Heap) (n0 : Nat) (Z0 : n0 ≤ h0.size) (g_s : n0 ≤ so) (E_s : Exa Z h0 so "java/lang/String") (F_c : Fld Z h0 so "java/lang/String" "coder" "B" (.int (0 : Int32))) (F_v : Fld Z h0 so "java/lang/String" "value" "[B" .null) (rc0 : own_ch c0) (rc1 : own_ch c1) (V_c : Arv Z h0 ca ka .char (2 : Int32) [(.int c0), (.int c1)] (.int (0 : Int32))) (B_ST : own_ST n0 Z h0 cz sv) :
    own_M l Z (⟨"java/lang/String", "<init>", "([C)V"⟩ : MethodName) jdk_42_method_3_code 2 none ws ({ frames := 5, cells := 2, slots := 6, locals := 74 } : Room) #[(.ref so), (.ref ca)] h0  (Qin_2 Z so c0 c1 h0 n0) := by
  refine own_bodyM pf_22 ?_
  intro p e s m below meth c s₁ hx hby hml hown hnm hlk hret hZ X0 e0
  have N0 : Fr n0 [] := Fr.nil n0
  refine own_go (f' := (mkF m 0 #[.val (.ref so), .val (.ref ca)] [])) (fun t k => castTop (ef_rm_i1_2 m so ca) k) ?_
  refine own_aloadN X0 hx (pc' := 1) (hb hby d2_0) rfl rfl rfl ?_
  refine own_aloadN X0 hx (pc' := 2) (hb hby d2_1) rfl rfl rfl ?_
  refine own_iconst X0 hx (pc' := 3) (0 : Int32) (hb hby d2_2) rfl rfl ?_
  refine own_aloadN X0 hx (pc' := 4) (hb hby d2_3) rfl rfl rfl ?_
  obtain ⟨cl1, Ar1, q1, S1, M1, H1, G1⟩ := id V_c
  refine own_len X0 hx (pc' := 5) hZ e0 Ar1 S1 M1 (hb hby d2_4) rfl ?_
  refine own_aconstNull X0 hx (pc' := 6) (hb hby d2_5) rfl ?_
  refine own_callI X0 hx (pc' := 9) hZ rfl hown (Wd14 hw) (Wd15 hw) (Wd17 hw) (Wd10 hw) (by decide) (rm_i2_2 l Z a0 hw [] cz sv hcz hsv so ca ka c0 c1 h0 n0 Z0 g_s E_s F_c F_v rc0 rc1 V_c B_ST) e0 (b := so) 0 (by decide) (by decide) (by decide) (by decide) [(.ref ca), (.int (0 : Int32)), (.int (2 : Int32)), .null] [] (by rw [hml]; rfl) (lenOf pd_9 rfl) rfl rfl (Nat.le_of_eq rfl) (hb hby d2_6) rfl (fun v2 T2 L2 X2 hQ2 => ?_)
  obtain ⟨rfl, Nq2, K2, hf2⟩ := hQ2
  have N3 := Fr.app N0 Nq2
  have hQf := And.intro (rfl : (none : Option Value) = none) (And.intro N3 (And.intro K2 hf2))
  show own_G p.tables e below _ T2 (mkF m 9 #[.val (.ref so), .val (.ref ca)] [])
  refine own_retV X2 hx hlk hret (hb hby d2_9) (by decide) (by decide) ?_
  exact hQf

def Qin_3 (Z : State) (so : Addr) (c0 c1 c2 : Int32) (h0 : Heap) (n0 : Nat) (v : Option Value) (h : Heap) (L : List Loc) : Prop := v = none ∧ Fr n0 L ∧ Keep h0 h [so] ∧ ∃ (ba : Addr) (kb : ClassId), Fld Z h so "java/lang/String" "value" "[B" (.ref ba) ∧ ((Fld Z h so "java/lang/String" "coder" "B" (.int (0 : Int32)) ∧ (¬ (255 : Int32) < c0 ∧ ¬ (255 : Int32) < c1 ∧ ¬ (255 : Int32) < c2) ∧ Arv Z h ba kb .byte (3 : Int32) [(.int (own_lb c0)), (.int (own_lb c1)), (.int (own_lb c2))] (.int (0 : Int32))) ∨ (Fld Z h so "java/lang/String" "coder" "B" (.int (1 : Int32)) ∧ Arv Z h ba kb .byte (6 : Int32) [(.int (own_b0 c0)), (.int (own_b1 c0)), (.int (own_b0 c1)), (.int (own_b1 c1)), (.int (own_b0 c2)), (.int (own_b1 c2))] (.int (0 : Int32))))
theorem ef_rm_i2_3 (m : MethodId) (x0 : Addr) (x1 : Addr) (x2 : Int32) (x3 : Int32) : entryFrame m #[(.ref x0), (.ref x1), (.int x2), (.int x3), .null] 6 = mkF m 0 #[.val (.ref x0), .val (.ref x1), .val (.int x2), .val (.int x3), .val .null, .unset] [] := by first | (simp [entryFrame, mkF, argsToLocals, Value.category, maxLocals]; done) | rfl
set_option maxRecDepth 65536 in
set_option maxHeartbeats 40000000 in
theorem rm_i2_3 (l : Launch) (Z : State) (a0 : Array Value) (hw : ∀ d ∈ tables_1, d.before a0 Z = true) (ws : List Jvm.Cond) (cz : Int32) (sv : Value) (hcz : ¬ cz = (0 : Int32)) (hsv : sv.isRef = true) (so ca : Addr) (ka : ClassId) (c0 c1 c2 : Int32) (h0 : Heap) (n0 : Nat) (Z0 : n0 ≤ h0.size) (g_s : n0 ≤ so) (E_s : Exa Z h0 so "java/lang/String") (F_c : Fld Z h0 so "java/lang/String" "coder" "B" (.int (0 : Int32))) (F_v : Fld Z h0 so "java/lang/String" "value" "[B" .null) (rc0 : own_ch c0) (rc1 : own_ch c1) (rc2 : own_ch c2) (V_c : Arv Z h0 ca ka .char (3 : Int32) [(.int c0), (.int c1), (.int c2)] (.int (0 : Int32))) (B_ST : own_ST n0 Z h0 cz sv) :
    own_M l Z (⟨"java/lang/String", "<init>", "([CIILjava/lang/Void;)V"⟩ : MethodName) jdk_42_method_149_code 6 none ws ({ frames := 4, cells := 2, slots := 9, locals := 57 } : Room) #[(.ref so), (.ref ca), (.int (0 : Int32)), (.int (3 : Int32)), .null] h0  (Qin_3 Z so c0 c1 c2 h0 n0) := by
  refine own_bodyM pf_21 ?_
  intro p e s m below meth c s₁ hx hby hml hown hnm hlk hret hZ X0 e0
  have N0 : Fr n0 [] := Fr.nil n0
  refine own_go (f' := (mkF m 0 #[.val (.ref so), .val (.ref ca), .val (.int (0 : Int32)), .val (.int (3 : Int32)), .val .null, .unset] [])) (fun t k => castTop (ef_rm_i2_3 m so ca (0 : Int32) (3 : Int32)) k) ?_
  have K1 : Keep h0 h0 [so] := Keep.refl _ _
  refine own_aloadN X0 hx (pc' := 1) (hb hby d3_0) rfl rfl rfl ?_
  refine own_initO X0 hx (pc' := 4) hZ hown (Wd18 hw) (Wd19 hw) (Wd20 hw) e0 (by rw [hml]; rfl) (hb hby d3_1) (by decide) 0 (Nat.le_of_eq rfl) (by decide) rfl (fun T2 X2 e2 => ?_)
  refine own_iloadN X2 hx (pc' := 5) (hb hby d3_4) rfl rfl ?_
  refine own_ifYes X2 hx (pc' := 27) (hb hby d3_5) (feq (by decide : ¬ ((3 : Int32) = (0 : Int32)))).2 (by decide) (by decide) ?_
  refine own_getS X2 hx (pc' := 30) hZ hown (host := "") (Or.inl (Wd48 hw)) Via.refl e2 (own_SB.sta B_ST.1) (hb hby d3_27) rfl (fun T3 X3 e3 => ?_)
  refine own_ifNo X3 hx (pc' := 33) (hb hby d3_30) (feq (id hcz)).1 rfl ?_
  refine own_aloadN X3 hx (pc' := 34) (hb hby d3_33) rfl rfl rfl ?_
  refine own_iloadN X3 hx (pc' := 35) (hb hby d3_34) rfl rfl ?_
  refine own_iloadN X3 hx (pc' := 36) (hb hby d3_35) rfl rfl ?_
  refine own_callS X3 hx (pc' := 39) hZ hown (Wd49 hw) (Wd50 hw) (Wd51 hw) (Wd52 hw) (by decide) (rm_c3_3 l Z a0 hw [] cz sv hcz hsv ca ka c0 c1 c2 h0 n0 Z0 rc0 rc1 rc2 V_c B_ST) e3 0 (by decide) (by decide) (by decide) (by decide) [(.ref ca), (.int (0 : Int32)), (.int (3 : Int32))] [] (by rw [hml]; rfl) (lenOf pd_6 rfl) rfl rfl (Nat.le_of_eq rfl) (hb hby d3_36) rfl (fun v4 T4 L4 X4 hQ4 => ?_)
  obtain ⟨Nq4, K4, ba4, kb4, rfl, gb4, gz4, hor⟩ := hQ4
  have N5 := Fr.app N0 Nq4
  have ne_so_ba4_6 : so ≠ ba4 := Nat.ne_of_lt (Nat.lt_of_lt_of_le E_s.lt gz4)
  have gk_ba4 := Nat.le_trans K1.1 gz4
  have Z7 : n0 ≤ T4.heap.size := Nat.le_trans Z0 K4.1
  have K8 : Keep h0 T4.heap [so] := Keep.trans K1 K4 all0
  have F9 := (B_ST.keep K4 (fun x hx => absurd hx List.not_mem_nil))
  have F10 := (Exa.keep E_s K4)
  have F11 := (F_c.keep K4 nin0)
  have F12 := (F_v.keep K4 nin0)
  rcases hor with ⟨hl, V4⟩ | V4
  · skip
    show own_G p.tables e below _ T4 (mkF m 39 #[.val (.ref so), .val (.ref ca), .val (.int (0 : Int32)), .val (.int (3 : Int32)), .val .null, .unset] [(.ref ba4)])
    refine own_astore X4 hx (pc' := 41) (Ls' := #[.val (.ref so), .val (.ref ca), .val (.int (0 : Int32)), .val (.int (3 : Int32)), .val .null, .val (.ref ba4)]) (hb hby d3_39) rfl rfl rfl ?_
    refine own_aloadN X4 hx (pc' := 42) (hb hby d3_41) rfl rfl rfl ?_
    refine own_aload X4 hx (pc' := 44) (hb hby d3_42) rfl rfl rfl ?_
    refine own_iloadN X4 hx (pc' := 45) (hb hby d3_44) rfl rfl ?_
    refine own_cSI X4 hx (pc' := 48) hZ hown (Wd56 hw) (Wd57 hw) (Wd51 hw) (Wd58 hw) (rm_cfl l Z a0 hw []  ba4 kb4 (3 : Int32) (3 : Int32) [(.int (own_lb c0)), (.int (own_lb c1)), (.int (own_lb c2))] T4.heap n0 Z7 V4 ) rfl N5 hml pd_8 (hb hby d3_45) 1 [(.ref ba4), (.int (3 : Int32))] [(.ref so)] (fun T13 L13 X13 e13 N13 => ?_)
    rw [show own_cfl (3 : Int32) (3 : Int32) = (0 : Int32) from by decide]
    refine own_putFN X13 hx (pc' := 51) hZ (ty := .byte) (.int (0 : Int32)) hown (Wd28 hw) Via.refl e13 F11 F10 (Or.inr ⟨(Wd24 hw), rfl, hnm⟩) (Wd9 hw) (by decide) rfl rfl (hb hby d3_48) rfl (fun T14 h14 X14 e14 W14 => ?_)
    have N15 := Fr.snoc X14 N13 g_s
    have Z16 : n0 ≤ h14.size := Nat.le_trans Z7 (Nat.le_of_eq (Wr.size W14).symm)
    have K17 : Keep h0 h14 [so] := K8.wr W14 (Or.inl (List.mem_of_getElem? (i := 0) rfl))
    have F18 := (F9.wr W14 g_s)
    have F19 := (Exa.wr W14 F10)
    have F20 := (Fld.same W14 F11)
    have F21 := (Fld.other W14 F12 (Or.inr (slot_ne (Or.inr (Wd23 hw)) (Or.inr (Wd24 hw)) (by decide) (t := (.array .byte)) (t' := .byte) (by decide) (by decide))))
    have F22 := (V4.other W14 (Ne.symm ne_so_ba4_6))
    refine own_aloadN X14 hx (pc' := 52) (hb hby d3_51) rfl rfl rfl ?_
    refine own_aload X14 hx (pc' := 54) (hb hby d3_52) rfl rfl rfl ?_
    refine own_putF X14 hx (pc' := 57) hZ (ty := (.array .byte)) hown (host := "") (Or.inl (Wd27 hw)) Via.refl e14 F21 F19 (Or.inr ⟨(Wd23 hw), rfl, hnm⟩) (Wd9 hw) (by decide) rfl rfl (hb hby d3_54) rfl (fun T23 h23 X23 e23 W23 => ?_)
    have N24 := Fr.snoc X23 N15 g_s
    have Z25 : n0 ≤ h23.size := Nat.le_trans Z16 (Nat.le_of_eq (Wr.size W23).symm)
    have K26 : Keep h0 h23 [so] := K17.wr W23 (Or.inl (List.mem_of_getElem? (i := 0) rfl))
    have F27 := (F18.wr W23 g_s)
    have F28 := (Exa.wr W23 F19)
    have F29 := (Fld.other W23 F20 (Or.inr (slot_ne (Or.inr (Wd24 hw)) (Or.inr (Wd23 hw)) (by decide) (t := .byte) (t' := (.array .byte)) (by decide) (by decide))))
    have F30 := (Fld.same W23 F21)
    have F31 := (F22.other W23 (Ne.symm ne_so_ba4_6))
    refine own_retV X23 hx hlk hret (hb hby d3_57) (by decide) (by decide) ?_
    rw [e23]
    exact ⟨rfl, N24, K26, ba4, _, F30, Or.inl ⟨F29, hl, F31⟩⟩
  · skip
    show own_G p.tables e below _ T4 (mkF m 39 #[.val (.ref so), .val (.ref ca), .val (.int (0 : Int32)), .val (.int (3 : Int32)), .val .null, .unset] [(.ref ba4)])
    refine own_astore X4 hx (pc' := 41) (Ls' := #[.val (.ref so), .val (.ref ca), .val (.int (0 : Int32)), .val (.int (3 : Int32)), .val .null, .val (.ref ba4)]) (hb hby d3_39) rfl rfl rfl ?_
    refine own_aloadN X4 hx (pc' := 42) (hb hby d3_41) rfl rfl rfl ?_
    refine own_aload X4 hx (pc' := 44) (hb hby d3_42) rfl rfl rfl ?_
    refine own_iloadN X4 hx (pc' := 45) (hb hby d3_44) rfl rfl ?_
    refine own_cSI X4 hx (pc' := 48) hZ hown (Wd56 hw) (Wd57 hw) (Wd51 hw) (Wd58 hw) (rm_cfl l Z a0 hw []  ba4 kb4 (6 : Int32) (3 : Int32) [(.int (own_b0 c0)), (.int (own_b1 c0)), (.int (own_b0 c1)), (.int (own_b1 c1)), (.int (own_b0 c2)), (.int (own_b1 c2))] T4.heap n0 Z7 V4 ) rfl N5 hml pd_8 (hb hby d3_45) 1 [(.ref ba4), (.int (3 : Int32))] [(.ref so)] (fun T32 L32 X32 e32 N32 => ?_)
    rw [show own_cfl (3 : Int32) (6 : Int32) = (1 : Int32) from by decide]
    refine own_putFN X32 hx (pc' := 51) hZ (ty := .byte) (.int (1 : Int32)) hown (Wd28 hw) Via.refl e32 F11 F10 (Or.inr ⟨(Wd24 hw), rfl, hnm⟩) (Wd9 hw) (by decide) rfl rfl (hb hby d3_48) rfl (fun T33 h33 X33 e33 W33 => ?_)
    have N34 := Fr.snoc X33 N32 g_s
    have Z35 : n0 ≤ h33.size := Nat.le_trans Z7 (Nat.le_of_eq (Wr.size W33).symm)
    have K36 : Keep h0 h33 [so] := K8.wr W33 (Or.inl (List.mem_of_getElem? (i := 0) rfl))
    have F37 := (F9.wr W33 g_s)
    have F38 := (Exa.wr W33 F10)
    have F39 := (Fld.same W33 F11)
    have F40 := (Fld.other W33 F12 (Or.inr (slot_ne (Or.inr (Wd23 hw)) (Or.inr (Wd24 hw)) (by decide) (t := (.array .byte)) (t' := .byte) (by decide) (by decide))))
    have F41 := (V4.other W33 (Ne.symm ne_so_ba4_6))
    refine own_aloadN X33 hx (pc' := 52) (hb hby d3_51) rfl rfl rfl ?_
    refine own_aload X33 hx (pc' := 54) (hb hby d3_52) rfl rfl rfl ?_
    refine own_putF X33 hx (pc' := 57) hZ (ty := (.array .byte)) hown (host := "") (Or.inl (Wd27 hw)) Via.refl e33 F40 F38 (Or.inr ⟨(Wd23 hw), rfl, hnm⟩) (Wd9 hw) (by decide) rfl rfl (hb hby d3_54) rfl (fun T42 h42 X42 e42 W42 => ?_)
    have N43 := Fr.snoc X42 N34 g_s
    have Z44 : n0 ≤ h42.size := Nat.le_trans Z35 (Nat.le_of_eq (Wr.size W42).symm)
    have K45 : Keep h0 h42 [so] := K36.wr W42 (Or.inl (List.mem_of_getElem? (i := 0) rfl))
    have F46 := (F37.wr W42 g_s)
    have F47 := (Exa.wr W42 F38)
    have F48 := (Fld.other W42 F39 (Or.inr (slot_ne (Or.inr (Wd24 hw)) (Or.inr (Wd23 hw)) (by decide) (t := .byte) (t' := (.array .byte)) (by decide) (by decide))))
    have F49 := (Fld.same W42 F40)
    have F50 := (F41.other W42 (Ne.symm ne_so_ba4_6))
    refine own_retV X42 hx hlk hret (hb hby d3_57) (by decide) (by decide) ?_
    rw [e42]
    exact ⟨rfl, N43, K45, ba4, _, F49, Or.inr ⟨F48, F50⟩⟩

theorem ef_rm_i1_3 (m : MethodId) (x0 : Addr) (x1 : Addr) : entryFrame m #[(.ref x0), (.ref x1)] 2 = mkF m 0 #[.val (.ref x0), .val (.ref x1)] [] := by first | (simp [entryFrame, mkF, argsToLocals, Value.category, maxLocals]; done) | rfl
set_option maxRecDepth 65536 in
set_option maxHeartbeats 40000000 in
theorem rm_i1_3 (l : Launch) (Z : State) (a0 : Array Value) (hw : ∀ d ∈ tables_1, d.before a0 Z = true) (ws : List Jvm.Cond) (cz : Int32) (sv : Value) (hcz : ¬ cz = (0 : Int32)) (hsv : sv.isRef = true) (so ca : Addr) (ka : ClassId) (c0 c1 c2 : Int32) (h0 : Heap) (n0 : Nat) (Z0 : n0 ≤ h0.size) (g_s : n0 ≤ so) (E_s : Exa Z h0 so "java/lang/String") (F_c : Fld Z h0 so "java/lang/String" "coder" "B" (.int (0 : Int32))) (F_v : Fld Z h0 so "java/lang/String" "value" "[B" .null) (rc0 : own_ch c0) (rc1 : own_ch c1) (rc2 : own_ch c2) (V_c : Arv Z h0 ca ka .char (3 : Int32) [(.int c0), (.int c1), (.int c2)] (.int (0 : Int32))) (B_ST : own_ST n0 Z h0 cz sv) :
    own_M l Z (⟨"java/lang/String", "<init>", "([C)V"⟩ : MethodName) jdk_42_method_3_code 2 none ws ({ frames := 5, cells := 2, slots := 9, locals := 74 } : Room) #[(.ref so), (.ref ca)] h0  (Qin_3 Z so c0 c1 c2 h0 n0) := by
  refine own_bodyM pf_22 ?_
  intro p e s m below meth c s₁ hx hby hml hown hnm hlk hret hZ X0 e0
  have N0 : Fr n0 [] := Fr.nil n0
  refine own_go (f' := (mkF m 0 #[.val (.ref so), .val (.ref ca)] [])) (fun t k => castTop (ef_rm_i1_3 m so ca) k) ?_
  refine own_aloadN X0 hx (pc' := 1) (hb hby d2_0) rfl rfl rfl ?_
  refine own_aloadN X0 hx (pc' := 2) (hb hby d2_1) rfl rfl rfl ?_
  refine own_iconst X0 hx (pc' := 3) (0 : Int32) (hb hby d2_2) rfl rfl ?_
  refine own_aloadN X0 hx (pc' := 4) (hb hby d2_3) rfl rfl rfl ?_
  obtain ⟨cl1, Ar1, q1, S1, M1, H1, G1⟩ := id V_c
  refine own_len X0 hx (pc' := 5) hZ e0 Ar1 S1 M1 (hb hby d2_4) rfl ?_
  refine own_aconstNull X0 hx (pc' := 6) (hb hby d2_5) rfl ?_
  refine own_callI X0 hx (pc' := 9) hZ rfl hown (Wd14 hw) (Wd15 hw) (Wd17 hw) (Wd10 hw) (by decide) (rm_i2_3 l Z a0 hw [] cz sv hcz hsv so ca ka c0 c1 c2 h0 n0 Z0 g_s E_s F_c F_v rc0 rc1 rc2 V_c B_ST) e0 (b := so) 0 (by decide) (by decide) (by decide) (by decide) [(.ref ca), (.int (0 : Int32)), (.int (3 : Int32)), .null] [] (by rw [hml]; rfl) (lenOf pd_9 rfl) rfl rfl (Nat.le_of_eq rfl) (hb hby d2_6) rfl (fun v2 T2 L2 X2 hQ2 => ?_)
  obtain ⟨rfl, Nq2, K2, hf2⟩ := hQ2
  have N3 := Fr.app N0 Nq2
  have hQf := And.intro (rfl : (none : Option Value) = none) (And.intro N3 (And.intro K2 hf2))
  show own_G p.tables e below _ T2 (mkF m 9 #[.val (.ref so), .val (.ref ca)] [])
  refine own_retV X2 hx hlk hret (hb hby d2_9) (by decide) (by decide) ?_
  exact hQf

def Qin_4 (Z : State) (so : Addr) (c0 c1 c2 c3 : Int32) (h0 : Heap) (n0 : Nat) (v : Option Value) (h : Heap) (L : List Loc) : Prop := v = none ∧ Fr n0 L ∧ Keep h0 h [so] ∧ ∃ (ba : Addr) (kb : ClassId), Fld Z h so "java/lang/String" "value" "[B" (.ref ba) ∧ ((Fld Z h so "java/lang/String" "coder" "B" (.int (0 : Int32)) ∧ (¬ (255 : Int32) < c0 ∧ ¬ (255 : Int32) < c1 ∧ ¬ (255 : Int32) < c2 ∧ ¬ (255 : Int32) < c3) ∧ Arv Z h ba kb .byte (4 : Int32) [(.int (own_lb c0)), (.int (own_lb c1)), (.int (own_lb c2)), (.int (own_lb c3))] (.int (0 : Int32))) ∨ (Fld Z h so "java/lang/String" "coder" "B" (.int (1 : Int32)) ∧ Arv Z h ba kb .byte (8 : Int32) [(.int (own_b0 c0)), (.int (own_b1 c0)), (.int (own_b0 c1)), (.int (own_b1 c1)), (.int (own_b0 c2)), (.int (own_b1 c2)), (.int (own_b0 c3)), (.int (own_b1 c3))] (.int (0 : Int32))))
theorem ef_rm_i2_4 (m : MethodId) (x0 : Addr) (x1 : Addr) (x2 : Int32) (x3 : Int32) : entryFrame m #[(.ref x0), (.ref x1), (.int x2), (.int x3), .null] 6 = mkF m 0 #[.val (.ref x0), .val (.ref x1), .val (.int x2), .val (.int x3), .val .null, .unset] [] := by first | (simp [entryFrame, mkF, argsToLocals, Value.category, maxLocals]; done) | rfl
set_option maxRecDepth 65536 in
set_option maxHeartbeats 40000000 in
theorem rm_i2_4 (l : Launch) (Z : State) (a0 : Array Value) (hw : ∀ d ∈ tables_1, d.before a0 Z = true) (ws : List Jvm.Cond) (cz : Int32) (sv : Value) (hcz : ¬ cz = (0 : Int32)) (hsv : sv.isRef = true) (so ca : Addr) (ka : ClassId) (c0 c1 c2 c3 : Int32) (h0 : Heap) (n0 : Nat) (Z0 : n0 ≤ h0.size) (g_s : n0 ≤ so) (E_s : Exa Z h0 so "java/lang/String") (F_c : Fld Z h0 so "java/lang/String" "coder" "B" (.int (0 : Int32))) (F_v : Fld Z h0 so "java/lang/String" "value" "[B" .null) (rc0 : own_ch c0) (rc1 : own_ch c1) (rc2 : own_ch c2) (rc3 : own_ch c3) (V_c : Arv Z h0 ca ka .char (4 : Int32) [(.int c0), (.int c1), (.int c2), (.int c3)] (.int (0 : Int32))) (B_ST : own_ST n0 Z h0 cz sv) :
    own_M l Z (⟨"java/lang/String", "<init>", "([CIILjava/lang/Void;)V"⟩ : MethodName) jdk_42_method_149_code 6 none ws ({ frames := 4, cells := 2, slots := 12, locals := 57 } : Room) #[(.ref so), (.ref ca), (.int (0 : Int32)), (.int (4 : Int32)), .null] h0  (Qin_4 Z so c0 c1 c2 c3 h0 n0) := by
  refine own_bodyM pf_21 ?_
  intro p e s m below meth c s₁ hx hby hml hown hnm hlk hret hZ X0 e0
  have N0 : Fr n0 [] := Fr.nil n0
  refine own_go (f' := (mkF m 0 #[.val (.ref so), .val (.ref ca), .val (.int (0 : Int32)), .val (.int (4 : Int32)), .val .null, .unset] [])) (fun t k => castTop (ef_rm_i2_4 m so ca (0 : Int32) (4 : Int32)) k) ?_
  have K1 : Keep h0 h0 [so] := Keep.refl _ _
  refine own_aloadN X0 hx (pc' := 1) (hb hby d3_0) rfl rfl rfl ?_
  refine own_initO X0 hx (pc' := 4) hZ hown (Wd18 hw) (Wd19 hw) (Wd20 hw) e0 (by rw [hml]; rfl) (hb hby d3_1) (by decide) 0 (Nat.le_of_eq rfl) (by decide) rfl (fun T2 X2 e2 => ?_)
  refine own_iloadN X2 hx (pc' := 5) (hb hby d3_4) rfl rfl ?_
  refine own_ifYes X2 hx (pc' := 27) (hb hby d3_5) (feq (by decide : ¬ ((4 : Int32) = (0 : Int32)))).2 (by decide) (by decide) ?_
  refine own_getS X2 hx (pc' := 30) hZ hown (host := "") (Or.inl (Wd48 hw)) Via.refl e2 (own_SB.sta B_ST.1) (hb hby d3_27) rfl (fun T3 X3 e3 => ?_)
  refine own_ifNo X3 hx (pc' := 33) (hb hby d3_30) (feq (id hcz)).1 rfl ?_
  refine own_aloadN X3 hx (pc' := 34) (hb hby d3_33) rfl rfl rfl ?_
  refine own_iloadN X3 hx (pc' := 35) (hb hby d3_34) rfl rfl ?_
  refine own_iloadN X3 hx (pc' := 36) (hb hby d3_35) rfl rfl ?_
  refine own_callS X3 hx (pc' := 39) hZ hown (Wd49 hw) (Wd50 hw) (Wd51 hw) (Wd52 hw) (by decide) (rm_c3_4 l Z a0 hw [] cz sv hcz hsv ca ka c0 c1 c2 c3 h0 n0 Z0 rc0 rc1 rc2 rc3 V_c B_ST) e3 0 (by decide) (by decide) (by decide) (by decide) [(.ref ca), (.int (0 : Int32)), (.int (4 : Int32))] [] (by rw [hml]; rfl) (lenOf pd_6 rfl) rfl rfl (Nat.le_of_eq rfl) (hb hby d3_36) rfl (fun v4 T4 L4 X4 hQ4 => ?_)
  obtain ⟨Nq4, K4, ba4, kb4, rfl, gb4, gz4, hor⟩ := hQ4
  have N5 := Fr.app N0 Nq4
  have ne_so_ba4_6 : so ≠ ba4 := Nat.ne_of_lt (Nat.lt_of_lt_of_le E_s.lt gz4)
  have gk_ba4 := Nat.le_trans K1.1 gz4
  have Z7 : n0 ≤ T4.heap.size := Nat.le_trans Z0 K4.1
  have K8 : Keep h0 T4.heap [so] := Keep.trans K1 K4 all0
  have F9 := (B_ST.keep K4 (fun x hx => absurd hx List.not_mem_nil))
  have F10 := (Exa.keep E_s K4)
  have F11 := (F_c.keep K4 nin0)
  have F12 := (F_v.keep K4 nin0)
  rcases hor with ⟨hl, V4⟩ | V4
  · skip
    show own_G p.tables e below _ T4 (mkF m 39 #[.val (.ref so), .val (.ref ca), .val (.int (0 : Int32)), .val (.int (4 : Int32)), .val .null, .unset] [(.ref ba4)])
    refine own_astore X4 hx (pc' := 41) (Ls' := #[.val (.ref so), .val (.ref ca), .val (.int (0 : Int32)), .val (.int (4 : Int32)), .val .null, .val (.ref ba4)]) (hb hby d3_39) rfl rfl rfl ?_
    refine own_aloadN X4 hx (pc' := 42) (hb hby d3_41) rfl rfl rfl ?_
    refine own_aload X4 hx (pc' := 44) (hb hby d3_42) rfl rfl rfl ?_
    refine own_iloadN X4 hx (pc' := 45) (hb hby d3_44) rfl rfl ?_
    refine own_cSI X4 hx (pc' := 48) hZ hown (Wd56 hw) (Wd57 hw) (Wd51 hw) (Wd58 hw) (rm_cfl l Z a0 hw []  ba4 kb4 (4 : Int32) (4 : Int32) [(.int (own_lb c0)), (.int (own_lb c1)), (.int (own_lb c2)), (.int (own_lb c3))] T4.heap n0 Z7 V4 ) rfl N5 hml pd_8 (hb hby d3_45) 1 [(.ref ba4), (.int (4 : Int32))] [(.ref so)] (fun T13 L13 X13 e13 N13 => ?_)
    rw [show own_cfl (4 : Int32) (4 : Int32) = (0 : Int32) from by decide]
    refine own_putFN X13 hx (pc' := 51) hZ (ty := .byte) (.int (0 : Int32)) hown (Wd28 hw) Via.refl e13 F11 F10 (Or.inr ⟨(Wd24 hw), rfl, hnm⟩) (Wd9 hw) (by decide) rfl rfl (hb hby d3_48) rfl (fun T14 h14 X14 e14 W14 => ?_)
    have N15 := Fr.snoc X14 N13 g_s
    have Z16 : n0 ≤ h14.size := Nat.le_trans Z7 (Nat.le_of_eq (Wr.size W14).symm)
    have K17 : Keep h0 h14 [so] := K8.wr W14 (Or.inl (List.mem_of_getElem? (i := 0) rfl))
    have F18 := (F9.wr W14 g_s)
    have F19 := (Exa.wr W14 F10)
    have F20 := (Fld.same W14 F11)
    have F21 := (Fld.other W14 F12 (Or.inr (slot_ne (Or.inr (Wd23 hw)) (Or.inr (Wd24 hw)) (by decide) (t := (.array .byte)) (t' := .byte) (by decide) (by decide))))
    have F22 := (V4.other W14 (Ne.symm ne_so_ba4_6))
    refine own_aloadN X14 hx (pc' := 52) (hb hby d3_51) rfl rfl rfl ?_
    refine own_aload X14 hx (pc' := 54) (hb hby d3_52) rfl rfl rfl ?_
    refine own_putF X14 hx (pc' := 57) hZ (ty := (.array .byte)) hown (host := "") (Or.inl (Wd27 hw)) Via.refl e14 F21 F19 (Or.inr ⟨(Wd23 hw), rfl, hnm⟩) (Wd9 hw) (by decide) rfl rfl (hb hby d3_54) rfl (fun T23 h23 X23 e23 W23 => ?_)
    have N24 := Fr.snoc X23 N15 g_s
    have Z25 : n0 ≤ h23.size := Nat.le_trans Z16 (Nat.le_of_eq (Wr.size W23).symm)
    have K26 : Keep h0 h23 [so] := K17.wr W23 (Or.inl (List.mem_of_getElem? (i := 0) rfl))
    have F27 := (F18.wr W23 g_s)
    have F28 := (Exa.wr W23 F19)
    have F29 := (Fld.other W23 F20 (Or.inr (slot_ne (Or.inr (Wd24 hw)) (Or.inr (Wd23 hw)) (by decide) (t := .byte) (t' := (.array .byte)) (by decide) (by decide))))
    have F30 := (Fld.same W23 F21)
    have F31 := (F22.other W23 (Ne.symm ne_so_ba4_6))
    refine own_retV X23 hx hlk hret (hb hby d3_57) (by decide) (by decide) ?_
    rw [e23]
    exact ⟨rfl, N24, K26, ba4, _, F30, Or.inl ⟨F29, hl, F31⟩⟩
  · skip
    show own_G p.tables e below _ T4 (mkF m 39 #[.val (.ref so), .val (.ref ca), .val (.int (0 : Int32)), .val (.int (4 : Int32)), .val .null, .unset] [(.ref ba4)])
    refine own_astore X4 hx (pc' := 41) (Ls' := #[.val (.ref so), .val (.ref ca), .val (.int (0 : Int32)), .val (.int (4 : Int32)), .val .null, .val (.ref ba4)]) (hb hby d3_39) rfl rfl rfl ?_
    refine own_aloadN X4 hx (pc' := 42) (hb hby d3_41) rfl rfl rfl ?_
    refine own_aload X4 hx (pc' := 44) (hb hby d3_42) rfl rfl rfl ?_
    refine own_iloadN X4 hx (pc' := 45) (hb hby d3_44) rfl rfl ?_
    refine own_cSI X4 hx (pc' := 48) hZ hown (Wd56 hw) (Wd57 hw) (Wd51 hw) (Wd58 hw) (rm_cfl l Z a0 hw []  ba4 kb4 (8 : Int32) (4 : Int32) [(.int (own_b0 c0)), (.int (own_b1 c0)), (.int (own_b0 c1)), (.int (own_b1 c1)), (.int (own_b0 c2)), (.int (own_b1 c2)), (.int (own_b0 c3)), (.int (own_b1 c3))] T4.heap n0 Z7 V4 ) rfl N5 hml pd_8 (hb hby d3_45) 1 [(.ref ba4), (.int (4 : Int32))] [(.ref so)] (fun T32 L32 X32 e32 N32 => ?_)
    rw [show own_cfl (4 : Int32) (8 : Int32) = (1 : Int32) from by decide]
    refine own_putFN X32 hx (pc' := 51) hZ (ty := .byte) (.int (1 : Int32)) hown (Wd28 hw) Via.refl e32 F11 F10 (Or.inr ⟨(Wd24 hw), rfl, hnm⟩) (Wd9 hw) (by decide) rfl rfl (hb hby d3_48) rfl (fun T33 h33 X33 e33 W33 => ?_)
    have N34 := Fr.snoc X33 N32 g_s
    have Z35 : n0 ≤ h33.size := Nat.le_trans Z7 (Nat.le_of_eq (Wr.size W33).symm)
    have K36 : Keep h0 h33 [so] := K8.wr W33 (Or.inl (List.mem_of_getElem? (i := 0) rfl))
    have F37 := (F9.wr W33 g_s)
    have F38 := (Exa.wr W33 F10)
    have F39 := (Fld.same W33 F11)
    have F40 := (Fld.other W33 F12 (Or.inr (slot_ne (Or.inr (Wd23 hw)) (Or.inr (Wd24 hw)) (by decide) (t := (.array .byte)) (t' := .byte) (by decide) (by decide))))
    have F41 := (V4.other W33 (Ne.symm ne_so_ba4_6))
    refine own_aloadN X33 hx (pc' := 52) (hb hby d3_51) rfl rfl rfl ?_
    refine own_aload X33 hx (pc' := 54) (hb hby d3_52) rfl rfl rfl ?_
    refine own_putF X33 hx (pc' := 57) hZ (ty := (.array .byte)) hown (host := "") (Or.inl (Wd27 hw)) Via.refl e33 F40 F38 (Or.inr ⟨(Wd23 hw), rfl, hnm⟩) (Wd9 hw) (by decide) rfl rfl (hb hby d3_54) rfl (fun T42 h42 X42 e42 W42 => ?_)
    have N43 := Fr.snoc X42 N34 g_s
    have Z44 : n0 ≤ h42.size := Nat.le_trans Z35 (Nat.le_of_eq (Wr.size W42).symm)
    have K45 : Keep h0 h42 [so] := K36.wr W42 (Or.inl (List.mem_of_getElem? (i := 0) rfl))
    have F46 := (F37.wr W42 g_s)
    have F47 := (Exa.wr W42 F38)
    have F48 := (Fld.other W42 F39 (Or.inr (slot_ne (Or.inr (Wd24 hw)) (Or.inr (Wd23 hw)) (by decide) (t := .byte) (t' := (.array .byte)) (by decide) (by decide))))
    have F49 := (Fld.same W42 F40)
    have F50 := (F41.other W42 (Ne.symm ne_so_ba4_6))
    refine own_retV X42 hx hlk hret (hb hby d3_57) (by decide) (by decide) ?_
    rw [e42]
    exact ⟨rfl, N43, K45, ba4, _, F49, Or.inr ⟨F48, F50⟩⟩

theorem ef_rm_i1_4 (m : MethodId) (x0 : Addr) (x1 : Addr) : entryFrame m #[(.ref x0), (.ref x1)] 2 = mkF m 0 #[.val (.ref x0), .val (.ref x1)] [] := by first | (simp [entryFrame, mkF, argsToLocals, Value.category, maxLocals]; done) | rfl
set_option maxRecDepth 65536 in
set_option maxHeartbeats 40000000 in
theorem rm_i1_4 (l : Launch) (Z : State) (a0 : Array Value) (hw : ∀ d ∈ tables_1, d.before a0 Z = true) (ws : List Jvm.Cond) (cz : Int32) (sv : Value) (hcz : ¬ cz = (0 : Int32)) (hsv : sv.isRef = true) (so ca : Addr) (ka : ClassId) (c0 c1 c2 c3 : Int32) (h0 : Heap) (n0 : Nat) (Z0 : n0 ≤ h0.size) (g_s : n0 ≤ so) (E_s : Exa Z h0 so "java/lang/String") (F_c : Fld Z h0 so "java/lang/String" "coder" "B" (.int (0 : Int32))) (F_v : Fld Z h0 so "java/lang/String" "value" "[B" .null) (rc0 : own_ch c0) (rc1 : own_ch c1) (rc2 : own_ch c2) (rc3 : own_ch c3) (V_c : Arv Z h0 ca ka .char (4 : Int32) [(.int c0), (.int c1), (.int c2), (.int c3)] (.int (0 : Int32))) (B_ST : own_ST n0 Z h0 cz sv) :
    own_M l Z (⟨"java/lang/String", "<init>", "([C)V"⟩ : MethodName) jdk_42_method_3_code 2 none ws ({ frames := 5, cells := 2, slots := 12, locals := 74 } : Room) #[(.ref so), (.ref ca)] h0  (Qin_4 Z so c0 c1 c2 c3 h0 n0) := by
  refine own_bodyM pf_22 ?_
  intro p e s m below meth c s₁ hx hby hml hown hnm hlk hret hZ X0 e0
  have N0 : Fr n0 [] := Fr.nil n0
  refine own_go (f' := (mkF m 0 #[.val (.ref so), .val (.ref ca)] [])) (fun t k => castTop (ef_rm_i1_4 m so ca) k) ?_
  refine own_aloadN X0 hx (pc' := 1) (hb hby d2_0) rfl rfl rfl ?_
  refine own_aloadN X0 hx (pc' := 2) (hb hby d2_1) rfl rfl rfl ?_
  refine own_iconst X0 hx (pc' := 3) (0 : Int32) (hb hby d2_2) rfl rfl ?_
  refine own_aloadN X0 hx (pc' := 4) (hb hby d2_3) rfl rfl rfl ?_
  obtain ⟨cl1, Ar1, q1, S1, M1, H1, G1⟩ := id V_c
  refine own_len X0 hx (pc' := 5) hZ e0 Ar1 S1 M1 (hb hby d2_4) rfl ?_
  refine own_aconstNull X0 hx (pc' := 6) (hb hby d2_5) rfl ?_
  refine own_callI X0 hx (pc' := 9) hZ rfl hown (Wd14 hw) (Wd15 hw) (Wd17 hw) (Wd10 hw) (by decide) (rm_i2_4 l Z a0 hw [] cz sv hcz hsv so ca ka c0 c1 c2 c3 h0 n0 Z0 g_s E_s F_c F_v rc0 rc1 rc2 rc3 V_c B_ST) e0 (b := so) 0 (by decide) (by decide) (by decide) (by decide) [(.ref ca), (.int (0 : Int32)), (.int (4 : Int32)), .null] [] (by rw [hml]; rfl) (lenOf pd_9 rfl) rfl rfl (Nat.le_of_eq rfl) (hb hby d2_6) rfl (fun v2 T2 L2 X2 hQ2 => ?_)
  obtain ⟨rfl, Nq2, K2, hf2⟩ := hQ2
  have N3 := Fr.app N0 Nq2
  have hQf := And.intro (rfl : (none : Option Value) = none) (And.intro N3 (And.intro K2 hf2))
  show own_G p.tables e below _ T2 (mkF m 9 #[.val (.ref so), .val (.ref ca)] [])
  refine own_retV X2 hx hlk hret (hb hby d2_9) (by decide) (by decide) ?_
  exact hQf

theorem d25_0 : decode jdk_52_method_7_code 0 = .ok (.getstatic 44, 3) := by decide +kernel
theorem d25_3 : decode jdk_52_method_7_code 3 = .ok (.ifCond .ne 16, 3) := by decide +kernel
theorem d25_6 : decode jdk_52_method_7_code 6 = .ok (.iload_n 1, 1) := by decide +kernel
theorem d25_7 : decode jdk_52_method_7_code 7 = .ok (.iload_n 2, 1) := by decide +kernel
theorem d25_8 : decode jdk_52_method_7_code 8 = .ok (.if_icmp .lt 11, 3) := by decide +kernel
theorem d25_11 : decode jdk_52_method_7_code 11 = .ok (.new 52, 3) := by decide +kernel
theorem d25_14 : decode jdk_52_method_7_code 14 = .ok (.dup, 1) := by decide +kernel
theorem d25_15 : decode jdk_52_method_7_code 15 = .ok (.invokespecial 66, 3) := by decide +kernel
theorem d25_18 : decode jdk_52_method_7_code 18 = .ok (.athrow, 1) := by decide +kernel
theorem d25_19 : decode jdk_52_method_7_code 19 = .ok (.iload_n 3, 1) := by decide +kernel
theorem d25_20 : decode jdk_52_method_7_code 20 = .ok (.ifCond .eq 8, 3) := by decide +kernel
theorem d25_23 : decode jdk_52_method_7_code 23 = .ok (.iload_n 1, 1) := by decide +kernel
theorem d25_24 : decode jdk_52_method_7_code 24 = .ok (.aload_n 0, 1) := by decide +kernel
theorem d25_25 : decode jdk_52_method_7_code 25 = .ok (.invokestatic 67, 3) := by decide +kernel
theorem d25_28 : decode jdk_52_method_7_code 28 = .ok (.aload_n 0, 1) := by decide +kernel
theorem d25_29 : decode jdk_52_method_7_code 29 = .ok (.iload_n 1, 1) := by decide +kernel
theorem d25_30 : decode jdk_52_method_7_code 30 = .ok (.invokestatic 71, 3) := by decide +kernel
theorem d25_33 : decode jdk_52_method_7_code 33 = .ok (.istore 4, 2) := by decide +kernel
theorem d25_35 : decode jdk_52_method_7_code 35 = .ok (.iload 4, 2) := by decide +kernel
theorem d25_37 : decode jdk_52_method_7_code 37 = .ok (.invokestatic 75, 3) := by decide +kernel
theorem d25_40 : decode jdk_52_method_7_code 40 = .ok (.ifCond .eq 43, 3) := by decide +kernel
theorem d25_43 : decode jdk_52_method_7_code 43 = .ok (.iinc 1 1, 3) := by decide +kernel
theorem d25_46 : decode jdk_52_method_7_code 46 = .ok (.iload_n 1, 1) := by decide +kernel
theorem d25_47 : decode jdk_52_method_7_code 47 = .ok (.iload_n 2, 1) := by decide +kernel
theorem d25_48 : decode jdk_52_method_7_code 48 = .ok (.if_icmp .ge 35, 3) := by decide +kernel
theorem d25_51 : decode jdk_52_method_7_code 51 = .ok (.iload_n 3, 1) := by decide +kernel
theorem d25_52 : decode jdk_52_method_7_code 52 = .ok (.ifCond .eq 8, 3) := by decide +kernel
theorem d25_55 : decode jdk_52_method_7_code 55 = .ok (.iload_n 1, 1) := by decide +kernel
theorem d25_56 : decode jdk_52_method_7_code 56 = .ok (.aload_n 0, 1) := by decide +kernel
theorem d25_57 : decode jdk_52_method_7_code 57 = .ok (.invokestatic 67, 3) := by decide +kernel
theorem d25_60 : decode jdk_52_method_7_code 60 = .ok (.aload_n 0, 1) := by decide +kernel
theorem d25_61 : decode jdk_52_method_7_code 61 = .ok (.iload_n 1, 1) := by decide +kernel
theorem d25_62 : decode jdk_52_method_7_code 62 = .ok (.invokestatic 71, 3) := by decide +kernel
theorem d25_65 : decode jdk_52_method_7_code 65 = .ok (.istore 5, 2) := by decide +kernel
theorem d25_67 : decode jdk_52_method_7_code 67 = .ok (.iload 5, 2) := by decide +kernel
theorem d25_69 : decode jdk_52_method_7_code 69 = .ok (.invokestatic 81, 3) := by decide +kernel
theorem d25_72 : decode jdk_52_method_7_code 72 = .ok (.ifCond .eq 11, 3) := by decide +kernel
theorem d25_75 : decode jdk_52_method_7_code 75 = .ok (.iload 4, 2) := by decide +kernel
theorem d25_77 : decode jdk_52_method_7_code 77 = .ok (.iload 5, 2) := by decide +kernel
theorem d25_79 : decode jdk_52_method_7_code 79 = .ok (.invokestatic 84, 3) := by decide +kernel
theorem d25_82 : decode jdk_52_method_7_code 82 = .ok (.ireturn, 1) := by decide +kernel
theorem d25_83 : decode jdk_52_method_7_code 83 = .ok (.iload 4, 2) := by decide +kernel
theorem d25_85 : decode jdk_52_method_7_code 85 = .ok (.ireturn, 1) := by decide +kernel
theorem d24_0 : decode jdk_52_method_8_code 0 = .ok (.aload_n 0, 1) := by decide +kernel
theorem d24_1 : decode jdk_52_method_8_code 1 = .ok (.iload_n 1, 1) := by decide +kernel
theorem d24_2 : decode jdk_52_method_8_code 2 = .ok (.iload_n 2, 1) := by decide +kernel
theorem d24_3 : decode jdk_52_method_8_code 3 = .ok (.iconst 0, 1) := by decide +kernel
theorem d24_4 : decode jdk_52_method_8_code 4 = .ok (.invokestatic 88, 3) := by decide +kernel
theorem d24_7 : decode jdk_52_method_8_code 7 = .ok (.ireturn, 1) := by decide +kernel
theorem d14_0 : decode jdk_42_method_57_code 0 = .ok (.aload_n 0, 1) := by decide +kernel
theorem d14_1 : decode jdk_42_method_57_code 1 = .ok (.invokevirtual 492, 3) := by decide +kernel
theorem d14_4 : decode jdk_42_method_57_code 4 = .ok (.ifCond .eq 23, 3) := by decide +kernel
theorem d14_7 : decode jdk_42_method_57_code 7 = .ok (.iload_n 1, 1) := by decide +kernel
theorem d14_8 : decode jdk_42_method_57_code 8 = .ok (.aload_n 0, 1) := by decide +kernel
theorem d14_9 : decode jdk_42_method_57_code 9 = .ok (.getfield 9, 3) := by decide +kernel
theorem d14_12 : decode jdk_42_method_57_code 12 = .ok (.arraylength, 1) := by decide +kernel
theorem d14_13 : decode jdk_42_method_57_code 13 = .ok (.invokestatic 499, 3) := by decide +kernel
theorem d14_16 : decode jdk_42_method_57_code 16 = .ok (.aload_n 0, 1) := by decide +kernel
theorem d14_17 : decode jdk_42_method_57_code 17 = .ok (.getfield 9, 3) := by decide +kernel
theorem d14_20 : decode jdk_42_method_57_code 20 = .ok (.iload_n 1, 1) := by decide +kernel
theorem d14_21 : decode jdk_42_method_57_code 21 = .ok (.baload, 1) := by decide +kernel
theorem d14_22 : decode jdk_42_method_57_code 22 = .ok (.sipush 255, 3) := by decide +kernel
theorem d14_25 : decode jdk_42_method_57_code 25 = .ok (.iand, 1) := by decide +kernel
theorem d14_26 : decode jdk_42_method_57_code 26 = .ok (.ireturn, 1) := by decide +kernel
theorem d14_27 : decode jdk_42_method_57_code 27 = .ok (.aload_n 0, 1) := by decide +kernel
theorem d14_28 : decode jdk_42_method_57_code 28 = .ok (.getfield 9, 3) := by decide +kernel
theorem d14_31 : decode jdk_42_method_57_code 31 = .ok (.arraylength, 1) := by decide +kernel
theorem d14_32 : decode jdk_42_method_57_code 32 = .ok (.iconst 1, 1) := by decide +kernel
theorem d14_33 : decode jdk_42_method_57_code 33 = .ok (.ishr, 1) := by decide +kernel
theorem d14_34 : decode jdk_42_method_57_code 34 = .ok (.istore_n 2, 1) := by decide +kernel
theorem d14_35 : decode jdk_42_method_57_code 35 = .ok (.iload_n 1, 1) := by decide +kernel
theorem d14_36 : decode jdk_42_method_57_code 36 = .ok (.iload_n 2, 1) := by decide +kernel
theorem d14_37 : decode jdk_42_method_57_code 37 = .ok (.invokestatic 499, 3) := by decide +kernel
theorem d14_40 : decode jdk_42_method_57_code 40 = .ok (.aload_n 0, 1) := by decide +kernel
theorem d14_41 : decode jdk_42_method_57_code 41 = .ok (.getfield 9, 3) := by decide +kernel
theorem d14_44 : decode jdk_42_method_57_code 44 = .ok (.iload_n 1, 1) := by decide +kernel
theorem d14_45 : decode jdk_42_method_57_code 45 = .ok (.iload_n 2, 1) := by decide +kernel
theorem d14_46 : decode jdk_42_method_57_code 46 = .ok (.invokestatic 502, 3) := by decide +kernel
theorem d14_49 : decode jdk_42_method_57_code 49 = .ok (.ireturn, 1) := by decide +kernel
theorem ef_rm_p4_l_0 (m : MethodId) (x0 : Addr) (x1 : Int32) (x2 : Int32) (x3 : Int32) : entryFrame m #[(.ref x0), (.int x1), (.int x2), (.int x3)] 6 = mkF m 0 #[.val (.ref x0), .val (.int x1), .val (.int x2), .val (.int x3), .unset, .unset] [] := by first | (simp [entryFrame, mkF, argsToLocals, Value.category, maxLocals]; done) | rfl
theorem pf_23 : plainFor (⟨"java/lang/StringUTF16", "codePointAt", "([BIIZ)I"⟩ : MethodName) = true := by apply plainFor_of_name; first | (simp [plainName, overriddenIn]; done) | decide +kernel
theorem Wd116 {a0 : Array Value} {Z : State} (hw : ∀ d ∈ tables_1, d.before a0 Z = true) : (Jvm.Cond.code ({ cls := "java/lang/Character", name := "isHighSurrogate", desc := "(C)Z" } : Jvm.MethodName) jdk_89_method_14_code (1 : Nat) (Option.some Jvm.ClassFile.FieldType.boolean)).before a0 Z = true := hw _ (List.mem_of_getElem? (i := 116) rfl)
theorem Wd86 {a0 : Array Value} {Z : State} (hw : ∀ d ∈ tables_1, d.before a0 Z = true) : (Jvm.Cond.initialized "java/lang/Character").before a0 Z = true := hw _ (List.mem_of_getElem? (i := 86) rfl)
theorem pd_10 : parseMethodDescriptor "(C)Z" = some ⟨[.char], some .boolean⟩ := by decide +kernel
theorem Wd114 {a0 : Array Value} {Z : State} (hw : ∀ d ∈ tables_1, d.before a0 Z = true) : (Jvm.Cond.methodLink "java/lang/StringUTF16" (75 : Nat) ({ cls := "java/lang/Character", name := "isHighSurrogate", desc := "(C)Z" } : Jvm.MethodName)).before a0 Z = true := hw _ (List.mem_of_getElem? (i := 114) rfl)
theorem Wd115 {a0 : Array Value} {Z : State} (hw : ∀ d ∈ tables_1, d.before a0 Z = true) : (Jvm.Cond.static ({ cls := "java/lang/Character", name := "isHighSurrogate", desc := "(C)Z" } : Jvm.MethodName)).before a0 Z = true := hw _ (List.mem_of_getElem? (i := 115) rfl)
set_option maxRecDepth 65536 in
set_option maxHeartbeats 40000000 in
theorem rm_p4_l_0 (l : Launch) (Z : State) (a0 : Array Value) (hw : ∀ d ∈ tables_1, d.before a0 Z = true) (ws : List Jvm.Cond) (cz : Int32) (sv : Value) (hcz : ¬ cz = (0 : Int32)) (hsv : sv.isRef = true) (ba : Addr) (kb : ClassId) (z : Int32) (vs : List Value) (q2 : Int32) (uc : Int32) (h0 : Heap) (n0 : Nat) (Z0 : n0 ≤ h0.size) (hq : ¬ (1 : Int32) < q2) (V_b : Arv Z h0 ba kb .byte z vs (.int (0 : Int32))) (rc : own_ch uc) (h1 : (¬ (0 : Int32) < (0 : Int32) ∧ (0 : Int32) < z)) (h2 : (¬ (1 : Int32) < (0 : Int32) ∧ (1 : Int32) < z)) (x1 : vs.getD 0 (.int (0 : Int32)) = (.int (own_b0 uc))) (x2 : vs.getD 1 (.int (0 : Int32)) = (.int (own_b1 uc))) (B_ST : own_ST n0 Z h0 cz sv) :
    own_M l Z (⟨"java/lang/StringUTF16", "codePointAt", "([BIIZ)I"⟩ : MethodName) jdk_52_method_7_code 6 (some .int) ws ({ frames := 1, cells := 0, slots := 0, locals := 13 } : Room) #[(.ref ba), (.int (0 : Int32)), (.int q2), (.int (0 : Int32))] h0  (Qint uc h0 n0) := by
  refine own_bodyM pf_23 ?_
  intro p e s m below meth c s₁ hx hby hml hown hnm hlk hret hZ X0 e0
  have N0 : Fr n0 [] := Fr.nil n0
  refine own_go (f' := (mkF m 0 #[.val (.ref ba), .val (.int (0 : Int32)), .val (.int q2), .val (.int (0 : Int32)), .unset, .unset] [])) (fun t k => castTop (ef_rm_p4_l_0 m ba (0 : Int32) q2 (0 : Int32)) k) ?_
  refine own_getS X0 hx (pc' := 3) hZ hown (host := "") (Or.inl (Wd102 hw)) Via.refl e0 (own_SB.sta B_ST.2.1) (hb hby d25_0) rfl (fun T1 X1 e1 => ?_)
  refine own_ifYes X1 hx (pc' := 19) (hb hby d25_3) (feq (by decide : ¬ ((1 : Int32) = (0 : Int32)))).2 (by decide) (by decide) ?_
  refine own_iloadN X1 hx (pc' := 20) (hb hby d25_19) rfl rfl ?_
  refine own_ifYes X1 hx (pc' := 28) (hb hby d25_20) (teq rfl).1 (by decide) (by decide) ?_
  refine own_aloadN X1 hx (pc' := 29) (hb hby d25_28) rfl rfl rfl ?_
  refine own_iloadN X1 hx (pc' := 30) (hb hby d25_29) rfl rfl ?_
  refine own_cSI X1 hx (pc' := 33) hZ hown (Wd105 hw) (Wd106 hw) (Wd51 hw) (Wd107 hw) (rm_gc_0 l Z a0 hw [] cz sv hcz hsv ba kb z vs uc h0 n0 Z0 V_b h1 h2 x1 x2 rc B_ST) e1 N0 hml pd_7 (hb hby d25_30) 0 [(.ref ba), (.int (0 : Int32))] [] (fun T2 L2 X2 e2 N2 => ?_)
  refine own_istore X2 hx (pc' := 35) (Ls' := #[.val (.ref ba), .val (.int (0 : Int32)), .val (.int q2), .val (.int (0 : Int32)), .val (.int uc), .unset]) (hb hby d25_33) rfl rfl ?_
  refine own_iload X2 hx (pc' := 37) (hb hby d25_35) rfl rfl ?_
  refine own_cSI X2 hx (pc' := 40) hZ hown (Wd114 hw) (Wd115 hw) (Wd86 hw) (Wd116 hw) (rm_ih l Z a0 hw []  uc h0 n0 Z0  ) e2 N2 hml pd_10 (hb hby d25_37) 0 [(.int uc)] [] (fun T3 L3 X3 e3 N3 => ?_)
  by_cases hc40_4 : (own_hiI uc) = (0 : Int32)
  · skip
    refine own_ifYes X3 hx (pc' := 83) (hb hby d25_40) (teq hc40_4).1 (by decide) (by decide) ?_
    refine own_iload X3 hx (pc' := 85) (hb hby d25_83) rfl rfl ?_
    refine own_retI X3 hx hlk hret (hb hby d25_85) (by decide) (by decide) ?_
    exact ⟨rfl, N3, e3⟩
  · skip
    refine own_ifNo X3 hx (pc' := 43) (hb hby d25_40) (feq hc40_4).1 rfl ?_
    refine own_iinc X3 hx (pc' := 46) (Ls' := #[.val (.ref ba), .val (.int (1 : Int32)), .val (.int q2), .val (.int (0 : Int32)), .val (.int uc), .unset]) (hb hby d25_43) rfl rfl rfl ?_
    refine own_iloadN X3 hx (pc' := 47) (hb hby d25_46) rfl rfl ?_
    refine own_iloadN X3 hx (pc' := 48) (hb hby d25_47) rfl rfl ?_
    refine own_icmpYes X3 hx (pc' := 83) (hb hby d25_48) (flt hq).2.1 (by decide) (by decide) ?_
    refine own_iload X3 hx (pc' := 85) (hb hby d25_83) rfl rfl ?_
    refine own_retI X3 hx hlk hret (hb hby d25_85) (by decide) (by decide) ?_
    exact ⟨rfl, N3, e3⟩

theorem ef_rm_p3_l_0 (m : MethodId) (x0 : Addr) (x1 : Int32) (x2 : Int32) : entryFrame m #[(.ref x0), (.int x1), (.int x2)] 3 = mkF m 0 #[.val (.ref x0), .val (.int x1), .val (.int x2)] [] := by first | (simp [entryFrame, mkF, argsToLocals, Value.category, maxLocals]; done) | rfl
theorem pf_24 : plainFor (⟨"java/lang/StringUTF16", "codePointAt", "([BII)I"⟩ : MethodName) = true := by apply plainFor_of_name; first | (simp [plainName, overriddenIn]; done) | decide +kernel
theorem Wd113 {a0 : Array Value} {Z : State} (hw : ∀ d ∈ tables_1, d.before a0 Z = true) : (Jvm.Cond.code ({ cls := "java/lang/StringUTF16", name := "codePointAt", desc := "([BIIZ)I" } : Jvm.MethodName) jdk_52_method_7_code (6 : Nat) (Option.some Jvm.ClassFile.FieldType.int)).before a0 Z = true := hw _ (List.mem_of_getElem? (i := 113) rfl)
theorem pd_11 : parseMethodDescriptor "([BIIZ)I" = some ⟨[(.array .byte), .int, .int, .boolean], some .int⟩ := by decide +kernel
theorem Wd111 {a0 : Array Value} {Z : State} (hw : ∀ d ∈ tables_1, d.before a0 Z = true) : (Jvm.Cond.methodLink "java/lang/StringUTF16" (88 : Nat) ({ cls := "java/lang/StringUTF16", name := "codePointAt", desc := "([BIIZ)I" } : Jvm.MethodName)).before a0 Z = true := hw _ (List.mem_of_getElem? (i := 111) rfl)
theorem Wd112 {a0 : Array Value} {Z : State} (hw : ∀ d ∈ tables_1, d.before a0 Z = true) : (Jvm.Cond.static ({ cls := "java/lang/StringUTF16", name := "codePointAt", desc := "([BIIZ)I" } : Jvm.MethodName)).before a0 Z = true := hw _ (List.mem_of_getElem? (i := 112) rfl)
set_option maxRecDepth 65536 in
set_option maxHeartbeats 40000000 in
theorem rm_p3_l_0 (l : Launch) (Z : State) (a0 : Array Value) (hw : ∀ d ∈ tables_1, d.before a0 Z = true) (ws : List Jvm.Cond) (cz : Int32) (sv : Value) (hcz : ¬ cz = (0 : Int32)) (hsv : sv.isRef = true) (ba : Addr) (kb : ClassId) (z : Int32) (vs : List Value) (q2 : Int32) (uc : Int32) (h0 : Heap) (n0 : Nat) (Z0 : n0 ≤ h0.size) (hq : ¬ (1 : Int32) < q2) (V_b : Arv Z h0 ba kb .byte z vs (.int (0 : Int32))) (rc : own_ch uc) (h1 : (¬ (0 : Int32) < (0 : Int32) ∧ (0 : Int32) < z)) (h2 : (¬ (1 : Int32) < (0 : Int32) ∧ (1 : Int32) < z)) (x1 : vs.getD 0 (.int (0 : Int32)) = (.int (own_b0 uc))) (x2 : vs.getD 1 (.int (0 : Int32)) = (.int (own_b1 uc))) (B_ST : own_ST n0 Z h0 cz sv) :
    own_M l Z (⟨"java/lang/StringUTF16", "codePointAt", "([BII)I"⟩ : MethodName) jdk_52_method_8_code 3 (some .int) ws ({ frames := 2, cells := 0, slots := 0, locals := 30 } : Room) #[(.ref ba), (.int (0 : Int32)), (.int q2)] h0  (Qint uc h0 n0) := by
  refine own_bodyM pf_24 ?_
  intro p e s m below meth c s₁ hx hby hml hown hnm hlk hret hZ X0 e0
  have N0 : Fr n0 [] := Fr.nil n0
  refine own_go (f' := (mkF m 0 #[.val (.ref ba), .val (.int (0 : Int32)), .val (.int q2)] [])) (fun t k => castTop (ef_rm_p3_l_0 m ba (0 : Int32) q2) k) ?_
  refine own_aloadN X0 hx (pc' := 1) (hb hby d24_0) rfl rfl rfl ?_
  refine own_iloadN X0 hx (pc' := 2) (hb hby d24_1) rfl rfl ?_
  refine own_iloadN X0 hx (pc' := 3) (hb hby d24_2) rfl rfl ?_
  refine own_iconst X0 hx (pc' := 4) (0 : Int32) (hb hby d24_3) rfl rfl ?_
  refine own_cSI X0 hx (pc' := 7) hZ hown (Wd111 hw) (Wd112 hw) (Wd51 hw) (Wd113 hw) (rm_p4_l_0 l Z a0 hw [] cz sv hcz hsv ba kb z vs q2 uc h0 n0 Z0 hq V_b rc h1 h2 x1 x2 B_ST) e0 N0 hml pd_11 (hb hby d24_4) 0 [(.ref ba), (.int (0 : Int32)), (.int q2), (.int (0 : Int32))] [] (fun T1 L1 X1 e1 N1 => ?_)
  refine own_retI X1 hx hlk hret (hb hby d24_7) (by decide) (by decide) ?_
  exact ⟨rfl, N1, e1⟩

theorem ef_rm_pu_l_0 (m : MethodId) (x0 : Addr) (x1 : Int32) : entryFrame m #[(.ref x0), (.int x1)] 3 = mkF m 0 #[.val (.ref x0), .val (.int x1), .unset] [] := by first | (simp [entryFrame, mkF, argsToLocals, Value.category, maxLocals]; done) | rfl
theorem pf_25 : plainFor (⟨"java/lang/String", "codePointAt", "(I)I"⟩ : MethodName) = true := by apply plainFor_of_name; first | (simp [plainName, overriddenIn]; done) | decide +kernel
theorem Wd74 {a0 : Array Value} {Z : State} (hw : ∀ d ∈ tables_1, d.before a0 Z = true) : (Jvm.Cond.code ({ cls := "java/lang/String", name := "isLatin1", desc := "()Z" } : Jvm.MethodName) jdk_42_method_154_code (1 : Nat) (Option.some Jvm.ClassFile.FieldType.boolean)).before a0 Z = true := hw _ (List.mem_of_getElem? (i := 74) rfl)
theorem pd_12 : parseMethodDescriptor "()Z" = some ⟨[], some .boolean⟩ := by decide +kernel
theorem Wd70 {a0 : Array Value} {Z : State} (hw : ∀ d ∈ tables_1, d.before a0 Z = true) : (Jvm.Cond.methodLink "java/lang/String" (492 : Nat) ({ cls := "java/lang/String", name := "isLatin1", desc := "()Z" } : Jvm.MethodName)).before a0 Z = true := hw _ (List.mem_of_getElem? (i := 70) rfl)
theorem Wd72 {a0 : Array Value} {Z : State} (hw : ∀ d ∈ tables_1, d.before a0 Z = true) : (Jvm.Cond.instanceMethod ({ cls := "java/lang/String", name := "isLatin1", desc := "()Z" } : Jvm.MethodName)).before a0 Z = true := hw _ (List.mem_of_getElem? (i := 72) rfl)
theorem Wd73 {a0 : Array Value} {Z : State} (hw : ∀ d ∈ tables_1, d.before a0 Z = true) : (Jvm.Cond.selects "java/lang/String" ({ cls := "java/lang/String", name := "isLatin1", desc := "()Z" } : Jvm.MethodName) ({ cls := "java/lang/String", name := "isLatin1", desc := "()Z" } : Jvm.MethodName)).before a0 Z = true := hw _ (List.mem_of_getElem? (i := 73) rfl)
theorem Wd77 {a0 : Array Value} {Z : State} (hw : ∀ d ∈ tables_1, d.before a0 Z = true) : (Jvm.Cond.code ({ cls := "java/lang/String", name := "checkIndex", desc := "(II)V" } : Jvm.MethodName) jdk_42_method_155_code (2 : Nat) (Option.none : Option Jvm.ClassFile.FieldType)).before a0 Z = true := hw _ (List.mem_of_getElem? (i := 77) rfl)
theorem pd_13 : parseMethodDescriptor "(II)V" = some ⟨[.int, .int], none⟩ := by decide +kernel
theorem Wd75 {a0 : Array Value} {Z : State} (hw : ∀ d ∈ tables_1, d.before a0 Z = true) : (Jvm.Cond.methodLink "java/lang/String" (499 : Nat) ({ cls := "java/lang/String", name := "checkIndex", desc := "(II)V" } : Jvm.MethodName)).before a0 Z = true := hw _ (List.mem_of_getElem? (i := 75) rfl)
theorem Wd76 {a0 : Array Value} {Z : State} (hw : ∀ d ∈ tables_1, d.before a0 Z = true) : (Jvm.Cond.static ({ cls := "java/lang/String", name := "checkIndex", desc := "(II)V" } : Jvm.MethodName)).before a0 Z = true := hw _ (List.mem_of_getElem? (i := 76) rfl)
theorem Wd110 {a0 : Array Value} {Z : State} (hw : ∀ d ∈ tables_1, d.before a0 Z = true) : (Jvm.Cond.code ({ cls := "java/lang/StringUTF16", name := "codePointAt", desc := "([BII)I" } : Jvm.MethodName) jdk_52_method_8_code (3 : Nat) (Option.some Jvm.ClassFile.FieldType.int)).before a0 Z = true := hw _ (List.mem_of_getElem? (i := 110) rfl)
theorem pd_14 : parseMethodDescriptor "([BII)I" = some ⟨[(.array .byte), .int, .int], some .int⟩ := by decide +kernel
theorem Wd108 {a0 : Array Value} {Z : State} (hw : ∀ d ∈ tables_1, d.before a0 Z = true) : (Jvm.Cond.methodLink "java/lang/String" (502 : Nat) ({ cls := "java/lang/StringUTF16", name := "codePointAt", desc := "([BII)I" } : Jvm.MethodName)).before a0 Z = true := hw _ (List.mem_of_getElem? (i := 108) rfl)
theorem Wd109 {a0 : Array Value} {Z : State} (hw : ∀ d ∈ tables_1, d.before a0 Z = true) : (Jvm.Cond.static ({ cls := "java/lang/StringUTF16", name := "codePointAt", desc := "([BII)I" } : Jvm.MethodName)).before a0 Z = true := hw _ (List.mem_of_getElem? (i := 109) rfl)
set_option maxRecDepth 65536 in
set_option maxHeartbeats 40000000 in
theorem rm_pu_l_0 (l : Launch) (Z : State) (a0 : Array Value) (hw : ∀ d ∈ tables_1, d.before a0 Z = true) (ws : List Jvm.Cond) (cz : Int32) (sv : Value) (hcz : ¬ cz = (0 : Int32)) (hsv : sv.isRef = true) (so : Addr) (ba : Addr) (kb : ClassId) (z : Int32) (vs : List Value) (q2 : Int32) (uc : Int32) (h0 : Heap) (n0 : Nat) (Z0 : n0 ≤ h0.size) (E_s : Exa Z h0 so "java/lang/String") (F_c : Fld Z h0 so "java/lang/String" "coder" "B" (.int (1 : Int32))) (F_v : Fld Z h0 so "java/lang/String" "value" "[B" (.ref ba)) (hzq : (z >>> ((1 : Int32) &&& 31)) = q2) (hi : (0 : Int32) < q2) (hq : ¬ (1 : Int32) < q2) (V_b : Arv Z h0 ba kb .byte z vs (.int (0 : Int32))) (rc : own_ch uc) (h1 : (¬ (0 : Int32) < (0 : Int32) ∧ (0 : Int32) < z)) (h2 : (¬ (1 : Int32) < (0 : Int32) ∧ (1 : Int32) < z)) (x1 : vs.getD 0 (.int (0 : Int32)) = (.int (own_b0 uc))) (x2 : vs.getD 1 (.int (0 : Int32)) = (.int (own_b1 uc))) (B_ST : own_ST n0 Z h0 cz sv) :
    own_M l Z (⟨"java/lang/String", "codePointAt", "(I)I"⟩ : MethodName) jdk_42_method_57_code 3 (some .int) ws ({ frames := 3, cells := 0, slots := 0, locals := 44 } : Room) #[(.ref so), (.int (0 : Int32))] h0  (Qint uc h0 n0) := by
  refine own_bodyM pf_25 ?_
  intro p e s m below meth c s₁ hx hby hml hown hnm hlk hret hZ X0 e0
  have N0 : Fr n0 [] := Fr.nil n0
  refine own_go (f' := (mkF m 0 #[.val (.ref so), .val (.int (0 : Int32)), .unset] [])) (fun t k => castTop (ef_rm_pu_l_0 m so (0 : Int32)) k) ?_
  refine own_aloadN X0 hx (pc' := 1) (hb hby d14_0) rfl rfl rfl ?_
  refine own_cVI X0 hx (pc' := 4) hZ hown (Wd70 hw) (Wd72 hw) (Wd73 hw) (Wd74 hw) (Wd10 hw) (rm_il1 l Z a0 hw [] cz sv hcz hsv so h0 n0 Z0 F_c B_ST) e0 E_s N0 hml pd_12 (hb hby d14_1) 0 [] [] (fun T1 L1 X1 e1 N1 => ?_)
  refine own_ifYes X1 hx (pc' := 27) (hb hby d14_4) (teq rfl).1 (by decide) (by decide) ?_
  refine own_aloadN X1 hx (pc' := 28) (hb hby d14_27) rfl rfl rfl ?_
  refine own_getF X1 hx (pc' := 31) hZ hown (host := "") (Or.inl (Wd27 hw)) Via.refl e1 F_v (hb hby d14_28) rfl (fun T2 X2 e2 => ?_)
  obtain ⟨cl3, Ar3, q3, S3, M3, H3, G3⟩ := id V_b
  refine own_len X2 hx (pc' := 32) hZ e2 Ar3 S3 M3 (hb hby d14_31) rfl ?_
  refine own_iconst X2 hx (pc' := 33) (1 : Int32) (hb hby d14_32) rfl rfl ?_
  refine own_ishr X2 hx (pc' := 34) (hb hby d14_33) rfl ?_
  rw [hzq]
  refine own_istoreN X2 hx (pc' := 35) (Ls' := #[.val (.ref so), .val (.int (0 : Int32)), .val (.int q2)]) (hb hby d14_34) rfl rfl ?_
  refine own_iloadN X2 hx (pc' := 36) (hb hby d14_35) rfl rfl ?_
  refine own_iloadN X2 hx (pc' := 37) (hb hby d14_36) rfl rfl ?_
  refine own_cSV X2 hx (pc' := 40) hZ hown (Wd75 hw) (Wd76 hw) (Wd10 hw) (Wd77 hw) (rm_cks l Z a0 hw [] cz sv hcz hsv (0 : Int32) q2 h0 n0 Z0 (by decide) hi B_ST) e2 N1 hml pd_13 (hb hby d14_37) 0 [(.int (0 : Int32)), (.int q2)] [] (fun T4 L4 X4 e4 N4 => ?_)
  refine own_aloadN X4 hx (pc' := 41) (hb hby d14_40) rfl rfl rfl ?_
  refine own_getF X4 hx (pc' := 44) hZ hown (host := "") (Or.inl (Wd27 hw)) Via.refl e4 F_v (hb hby d14_41) rfl (fun T5 X5 e5 => ?_)
  refine own_iloadN X5 hx (pc' := 45) (hb hby d14_44) rfl rfl ?_
  refine own_iloadN X5 hx (pc' := 46) (hb hby d14_45) rfl rfl ?_
  refine own_cSI X5 hx (pc' := 49) hZ hown (Wd108 hw) (Wd109 hw) (Wd51 hw) (Wd110 hw) (rm_p3_l_0 l Z a0 hw [] cz sv hcz hsv ba kb z vs q2 uc h0 n0 Z0 hq V_b rc h1 h2 x1 x2 B_ST) e5 N4 hml pd_14 (hb hby d14_46) 0 [(.ref ba), (.int (0 : Int32)), (.int q2)] [] (fun T6 L6 X6 e6 N6 => ?_)
  refine own_retI X6 hx hlk hret (hb hby d14_49) (by decide) (by decide) ?_
  exact ⟨rfl, N6, e6⟩

theorem ef_rm_p4_l_1 (m : MethodId) (x0 : Addr) (x1 : Int32) (x2 : Int32) (x3 : Int32) : entryFrame m #[(.ref x0), (.int x1), (.int x2), (.int x3)] 6 = mkF m 0 #[.val (.ref x0), .val (.int x1), .val (.int x2), .val (.int x3), .unset, .unset] [] := by first | (simp [entryFrame, mkF, argsToLocals, Value.category, maxLocals]; done) | rfl
set_option maxRecDepth 65536 in
set_option maxHeartbeats 40000000 in
theorem rm_p4_l_1 (l : Launch) (Z : State) (a0 : Array Value) (hw : ∀ d ∈ tables_1, d.before a0 Z = true) (ws : List Jvm.Cond) (cz : Int32) (sv : Value) (hcz : ¬ cz = (0 : Int32)) (hsv : sv.isRef = true) (ba : Addr) (kb : ClassId) (z : Int32) (vs : List Value) (q2 : Int32) (uc : Int32) (h0 : Heap) (n0 : Nat) (Z0 : n0 ≤ h0.size) (hq : ¬ (2 : Int32) < q2) (V_b : Arv Z h0 ba kb .byte z vs (.int (0 : Int32))) (rc : own_ch uc) (h1 : (¬ (2 : Int32) < (0 : Int32) ∧ (2 : Int32) < z)) (h2 : (¬ (3 : Int32) < (0 : Int32) ∧ (3 : Int32) < z)) (x1 : vs.getD 2 (.int (0 : Int32)) = (.int (own_b0 uc))) (x2 : vs.getD 3 (.int (0 : Int32)) = (.int (own_b1 uc))) (B_ST : own_ST n0 Z h0 cz sv) :
    own_M l Z (⟨"java/lang/StringUTF16", "codePointAt", "([BIIZ)I"⟩ : MethodName) jdk_52_method_7_code 6 (some .int) ws ({ frames := 1, cells := 0, slots := 0, locals := 13 } : Room) #[(.ref ba), (.int (1 : Int32)), (.int q2), (.int (0 : Int32))] h0  (Qint uc h0 n0) := by
  refine own_bodyM pf_23 ?_
  intro p e s m below meth c s₁ hx hby hml hown hnm hlk hret hZ X0 e0
  have N0 : Fr n0 [] := Fr.nil n0
  refine own_go (f' := (mkF m 0 #[.val (.ref ba), .val (.int (1 : Int32)), .val (.int q2), .val (.int (0 : Int32)), .unset, .unset] [])) (fun t k => castTop (ef_rm_p4_l_1 m ba (1 : Int32) q2 (0 : Int32)) k) ?_
  refine own_getS X0 hx (pc' := 3) hZ hown (host := "") (Or.inl (Wd102 hw)) Via.refl e0 (own_SB.sta B_ST.2.1) (hb hby d25_0) rfl (fun T1 X1 e1 => ?_)
  refine own_ifYes X1 hx (pc' := 19) (hb hby d25_3) (feq (by decide : ¬ ((1 : Int32) = (0 : Int32)))).2 (by decide) (by decide) ?_
  refine own_iloadN X1 hx (pc' := 20) (hb hby d25_19) rfl rfl ?_
  refine own_ifYes X1 hx (pc' := 28) (hb hby d25_20) (teq rfl).1 (by decide) (by decide) ?_
  refine own_aloadN X1 hx (pc' := 29) (hb hby d25_28) rfl rfl rfl ?_
  refine own_iloadN X1 hx (pc' := 30) (hb hby d25_29) rfl rfl ?_
  refine own_cSI X1 hx (pc' := 33) hZ hown (Wd105 hw) (Wd106 hw) (Wd51 hw) (Wd107 hw) (rm_gc_1 l Z a0 hw [] cz sv hcz hsv ba kb z vs uc h0 n0 Z0 V_b h1 h2 x1 x2 rc B_ST) e1 N0 hml pd_7 (hb hby d25_30) 0 [(.ref ba), (.int (1 : Int32))] [] (fun T2 L2 X2 e2 N2 => ?_)
  refine own_istore X2 hx (pc' := 35) (Ls' := #[.val (.ref ba), .val (.int (1 : Int32)), .val (.int q2), .val (.int (0 : Int32)), .val (.int uc), .unset]) (hb hby d25_33) rfl rfl ?_
  refine own_iload X2 hx (pc' := 37) (hb hby d25_35) rfl rfl ?_
  refine own_cSI X2 hx (pc' := 40) hZ hown (Wd114 hw) (Wd115 hw) (Wd86 hw) (Wd116 hw) (rm_ih l Z a0 hw []  uc h0 n0 Z0  ) e2 N2 hml pd_10 (hb hby d25_37) 0 [(.int uc)] [] (fun T3 L3 X3 e3 N3 => ?_)
  by_cases hc40_4 : (own_hiI uc) = (0 : Int32)
  · skip
    refine own_ifYes X3 hx (pc' := 83) (hb hby d25_40) (teq hc40_4).1 (by decide) (by decide) ?_
    refine own_iload X3 hx (pc' := 85) (hb hby d25_83) rfl rfl ?_
    refine own_retI X3 hx hlk hret (hb hby d25_85) (by decide) (by decide) ?_
    exact ⟨rfl, N3, e3⟩
  · skip
    refine own_ifNo X3 hx (pc' := 43) (hb hby d25_40) (feq hc40_4).1 rfl ?_
    refine own_iinc X3 hx (pc' := 46) (Ls' := #[.val (.ref ba), .val (.int (2 : Int32)), .val (.int q2), .val (.int (0 : Int32)), .val (.int uc), .unset]) (hb hby d25_43) rfl rfl rfl ?_
    refine own_iloadN X3 hx (pc' := 47) (hb hby d25_46) rfl rfl ?_
    refine own_iloadN X3 hx (pc' := 48) (hb hby d25_47) rfl rfl ?_
    refine own_icmpYes X3 hx (pc' := 83) (hb hby d25_48) (flt hq).2.1 (by decide) (by decide) ?_
    refine own_iload X3 hx (pc' := 85) (hb hby d25_83) rfl rfl ?_
    refine own_retI X3 hx hlk hret (hb hby d25_85) (by decide) (by decide) ?_
    exact ⟨rfl, N3, e3⟩

theorem ef_rm_p3_l_1 (m : MethodId) (x0 : Addr) (x1 : Int32) (x2 : Int32) : entryFrame m #[(.ref x0), (.int x1), (.int x2)] 3 = mkF m 0 #[.val (.ref x0), .val (.int x1), .val (.int x2)] [] := by first | (simp [entryFrame, mkF, argsToLocals, Value.category, maxLocals]; done) | rfl
set_option maxRecDepth 65536 in
set_option maxHeartbeats 40000000 in
theorem rm_p3_l_1 (l : Launch) (Z : State) (a0 : Array Value) (hw : ∀ d ∈ tables_1, d.before a0 Z = true) (ws : List Jvm.Cond) (cz : Int32) (sv : Value) (hcz : ¬ cz = (0 : Int32)) (hsv : sv.isRef = true) (ba : Addr) (kb : ClassId) (z : Int32) (vs : List Value) (q2 : Int32) (uc : Int32) (h0 : Heap) (n0 : Nat) (Z0 : n0 ≤ h0.size) (hq : ¬ (2 : Int32) < q2) (V_b : Arv Z h0 ba kb .byte z vs (.int (0 : Int32))) (rc : own_ch uc) (h1 : (¬ (2 : Int32) < (0 : Int32) ∧ (2 : Int32) < z)) (h2 : (¬ (3 : Int32) < (0 : Int32) ∧ (3 : Int32) < z)) (x1 : vs.getD 2 (.int (0 : Int32)) = (.int (own_b0 uc))) (x2 : vs.getD 3 (.int (0 : Int32)) = (.int (own_b1 uc))) (B_ST : own_ST n0 Z h0 cz sv) :
    own_M l Z (⟨"java/lang/StringUTF16", "codePointAt", "([BII)I"⟩ : MethodName) jdk_52_method_8_code 3 (some .int) ws ({ frames := 2, cells := 0, slots := 0, locals := 30 } : Room) #[(.ref ba), (.int (1 : Int32)), (.int q2)] h0  (Qint uc h0 n0) := by
  refine own_bodyM pf_24 ?_
  intro p e s m below meth c s₁ hx hby hml hown hnm hlk hret hZ X0 e0
  have N0 : Fr n0 [] := Fr.nil n0
  refine own_go (f' := (mkF m 0 #[.val (.ref ba), .val (.int (1 : Int32)), .val (.int q2)] [])) (fun t k => castTop (ef_rm_p3_l_1 m ba (1 : Int32) q2) k) ?_
  refine own_aloadN X0 hx (pc' := 1) (hb hby d24_0) rfl rfl rfl ?_
  refine own_iloadN X0 hx (pc' := 2) (hb hby d24_1) rfl rfl ?_
  refine own_iloadN X0 hx (pc' := 3) (hb hby d24_2) rfl rfl ?_
  refine own_iconst X0 hx (pc' := 4) (0 : Int32) (hb hby d24_3) rfl rfl ?_
  refine own_cSI X0 hx (pc' := 7) hZ hown (Wd111 hw) (Wd112 hw) (Wd51 hw) (Wd113 hw) (rm_p4_l_1 l Z a0 hw [] cz sv hcz hsv ba kb z vs q2 uc h0 n0 Z0 hq V_b rc h1 h2 x1 x2 B_ST) e0 N0 hml pd_11 (hb hby d24_4) 0 [(.ref ba), (.int (1 : Int32)), (.int q2), (.int (0 : Int32))] [] (fun T1 L1 X1 e1 N1 => ?_)
  refine own_retI X1 hx hlk hret (hb hby d24_7) (by decide) (by decide) ?_
  exact ⟨rfl, N1, e1⟩

theorem ef_rm_pu_l_1 (m : MethodId) (x0 : Addr) (x1 : Int32) : entryFrame m #[(.ref x0), (.int x1)] 3 = mkF m 0 #[.val (.ref x0), .val (.int x1), .unset] [] := by first | (simp [entryFrame, mkF, argsToLocals, Value.category, maxLocals]; done) | rfl
set_option maxRecDepth 65536 in
set_option maxHeartbeats 40000000 in
theorem rm_pu_l_1 (l : Launch) (Z : State) (a0 : Array Value) (hw : ∀ d ∈ tables_1, d.before a0 Z = true) (ws : List Jvm.Cond) (cz : Int32) (sv : Value) (hcz : ¬ cz = (0 : Int32)) (hsv : sv.isRef = true) (so : Addr) (ba : Addr) (kb : ClassId) (z : Int32) (vs : List Value) (q2 : Int32) (uc : Int32) (h0 : Heap) (n0 : Nat) (Z0 : n0 ≤ h0.size) (E_s : Exa Z h0 so "java/lang/String") (F_c : Fld Z h0 so "java/lang/String" "coder" "B" (.int (1 : Int32))) (F_v : Fld Z h0 so "java/lang/String" "value" "[B" (.ref ba)) (hzq : (z >>> ((1 : Int32) &&& 31)) = q2) (hi : (1 : Int32) < q2) (hq : ¬ (2 : Int32) < q2) (V_b : Arv Z h0 ba kb .byte z vs (.int (0 : Int32))) (rc : own_ch uc) (h1 : (¬ (2 : Int32) < (0 : Int32) ∧ (2 : Int32) < z)) (h2 : (¬ (3 : Int32) < (0 : Int32) ∧ (3 : Int32) < z)) (x1 : vs.getD 2 (.int (0 : Int32)) = (.int (own_b0 uc))) (x2 : vs.getD 3 (.int (0 : Int32)) = (.int (own_b1 uc))) (B_ST : own_ST n0 Z h0 cz sv) :
    own_M l Z (⟨"java/lang/String", "codePointAt", "(I)I"⟩ : MethodName) jdk_42_method_57_code 3 (some .int) ws ({ frames := 3, cells := 0, slots := 0, locals := 44 } : Room) #[(.ref so), (.int (1 : Int32))] h0  (Qint uc h0 n0) := by
  refine own_bodyM pf_25 ?_
  intro p e s m below meth c s₁ hx hby hml hown hnm hlk hret hZ X0 e0
  have N0 : Fr n0 [] := Fr.nil n0
  refine own_go (f' := (mkF m 0 #[.val (.ref so), .val (.int (1 : Int32)), .unset] [])) (fun t k => castTop (ef_rm_pu_l_1 m so (1 : Int32)) k) ?_
  refine own_aloadN X0 hx (pc' := 1) (hb hby d14_0) rfl rfl rfl ?_
  refine own_cVI X0 hx (pc' := 4) hZ hown (Wd70 hw) (Wd72 hw) (Wd73 hw) (Wd74 hw) (Wd10 hw) (rm_il1 l Z a0 hw [] cz sv hcz hsv so h0 n0 Z0 F_c B_ST) e0 E_s N0 hml pd_12 (hb hby d14_1) 0 [] [] (fun T1 L1 X1 e1 N1 => ?_)
  refine own_ifYes X1 hx (pc' := 27) (hb hby d14_4) (teq rfl).1 (by decide) (by decide) ?_
  refine own_aloadN X1 hx (pc' := 28) (hb hby d14_27) rfl rfl rfl ?_
  refine own_getF X1 hx (pc' := 31) hZ hown (host := "") (Or.inl (Wd27 hw)) Via.refl e1 F_v (hb hby d14_28) rfl (fun T2 X2 e2 => ?_)
  obtain ⟨cl3, Ar3, q3, S3, M3, H3, G3⟩ := id V_b
  refine own_len X2 hx (pc' := 32) hZ e2 Ar3 S3 M3 (hb hby d14_31) rfl ?_
  refine own_iconst X2 hx (pc' := 33) (1 : Int32) (hb hby d14_32) rfl rfl ?_
  refine own_ishr X2 hx (pc' := 34) (hb hby d14_33) rfl ?_
  rw [hzq]
  refine own_istoreN X2 hx (pc' := 35) (Ls' := #[.val (.ref so), .val (.int (1 : Int32)), .val (.int q2)]) (hb hby d14_34) rfl rfl ?_
  refine own_iloadN X2 hx (pc' := 36) (hb hby d14_35) rfl rfl ?_
  refine own_iloadN X2 hx (pc' := 37) (hb hby d14_36) rfl rfl ?_
  refine own_cSV X2 hx (pc' := 40) hZ hown (Wd75 hw) (Wd76 hw) (Wd10 hw) (Wd77 hw) (rm_cks l Z a0 hw [] cz sv hcz hsv (1 : Int32) q2 h0 n0 Z0 (by decide) hi B_ST) e2 N1 hml pd_13 (hb hby d14_37) 0 [(.int (1 : Int32)), (.int q2)] [] (fun T4 L4 X4 e4 N4 => ?_)
  refine own_aloadN X4 hx (pc' := 41) (hb hby d14_40) rfl rfl rfl ?_
  refine own_getF X4 hx (pc' := 44) hZ hown (host := "") (Or.inl (Wd27 hw)) Via.refl e4 F_v (hb hby d14_41) rfl (fun T5 X5 e5 => ?_)
  refine own_iloadN X5 hx (pc' := 45) (hb hby d14_44) rfl rfl ?_
  refine own_iloadN X5 hx (pc' := 46) (hb hby d14_45) rfl rfl ?_
  refine own_cSI X5 hx (pc' := 49) hZ hown (Wd108 hw) (Wd109 hw) (Wd51 hw) (Wd110 hw) (rm_p3_l_1 l Z a0 hw [] cz sv hcz hsv ba kb z vs q2 uc h0 n0 Z0 hq V_b rc h1 h2 x1 x2 B_ST) e5 N4 hml pd_14 (hb hby d14_46) 0 [(.ref ba), (.int (1 : Int32)), (.int q2)] [] (fun T6 L6 X6 e6 N6 => ?_)
  refine own_retI X6 hx hlk hret (hb hby d14_49) (by decide) (by decide) ?_
  exact ⟨rfl, N6, e6⟩

theorem ef_rm_p4_l_2 (m : MethodId) (x0 : Addr) (x1 : Int32) (x2 : Int32) (x3 : Int32) : entryFrame m #[(.ref x0), (.int x1), (.int x2), (.int x3)] 6 = mkF m 0 #[.val (.ref x0), .val (.int x1), .val (.int x2), .val (.int x3), .unset, .unset] [] := by first | (simp [entryFrame, mkF, argsToLocals, Value.category, maxLocals]; done) | rfl
set_option maxRecDepth 65536 in
set_option maxHeartbeats 40000000 in
theorem rm_p4_l_2 (l : Launch) (Z : State) (a0 : Array Value) (hw : ∀ d ∈ tables_1, d.before a0 Z = true) (ws : List Jvm.Cond) (cz : Int32) (sv : Value) (hcz : ¬ cz = (0 : Int32)) (hsv : sv.isRef = true) (ba : Addr) (kb : ClassId) (z : Int32) (vs : List Value) (q2 : Int32) (uc : Int32) (h0 : Heap) (n0 : Nat) (Z0 : n0 ≤ h0.size) (hq : ¬ (3 : Int32) < q2) (V_b : Arv Z h0 ba kb .byte z vs (.int (0 : Int32))) (rc : own_ch uc) (h1 : (¬ (4 : Int32) < (0 : Int32) ∧ (4 : Int32) < z)) (h2 : (¬ (5 : Int32) < (0 : Int32) ∧ (5 : Int32) < z)) (x1 : vs.getD 4 (.int (0 : Int32)) = (.int (own_b0 uc))) (x2 : vs.getD 5 (.int (0 : Int32)) = (.int (own_b1 uc))) (B_ST : own_ST n0 Z h0 cz sv) :
    own_M l Z (⟨"java/lang/StringUTF16", "codePointAt", "([BIIZ)I"⟩ : MethodName) jdk_52_method_7_code 6 (some .int) ws ({ frames := 1, cells := 0, slots := 0, locals := 13 } : Room) #[(.ref ba), (.int (2 : Int32)), (.int q2), (.int (0 : Int32))] h0  (Qint uc h0 n0) := by
  refine own_bodyM pf_23 ?_
  intro p e s m below meth c s₁ hx hby hml hown hnm hlk hret hZ X0 e0
  have N0 : Fr n0 [] := Fr.nil n0
  refine own_go (f' := (mkF m 0 #[.val (.ref ba), .val (.int (2 : Int32)), .val (.int q2), .val (.int (0 : Int32)), .unset, .unset] [])) (fun t k => castTop (ef_rm_p4_l_2 m ba (2 : Int32) q2 (0 : Int32)) k) ?_
  refine own_getS X0 hx (pc' := 3) hZ hown (host := "") (Or.inl (Wd102 hw)) Via.refl e0 (own_SB.sta B_ST.2.1) (hb hby d25_0) rfl (fun T1 X1 e1 => ?_)
  refine own_ifYes X1 hx (pc' := 19) (hb hby d25_3) (feq (by decide : ¬ ((1 : Int32) = (0 : Int32)))).2 (by decide) (by decide) ?_
  refine own_iloadN X1 hx (pc' := 20) (hb hby d25_19) rfl rfl ?_
  refine own_ifYes X1 hx (pc' := 28) (hb hby d25_20) (teq rfl).1 (by decide) (by decide) ?_
  refine own_aloadN X1 hx (pc' := 29) (hb hby d25_28) rfl rfl rfl ?_
  refine own_iloadN X1 hx (pc' := 30) (hb hby d25_29) rfl rfl ?_
  refine own_cSI X1 hx (pc' := 33) hZ hown (Wd105 hw) (Wd106 hw) (Wd51 hw) (Wd107 hw) (rm_gc_2 l Z a0 hw [] cz sv hcz hsv ba kb z vs uc h0 n0 Z0 V_b h1 h2 x1 x2 rc B_ST) e1 N0 hml pd_7 (hb hby d25_30) 0 [(.ref ba), (.int (2 : Int32))] [] (fun T2 L2 X2 e2 N2 => ?_)
  refine own_istore X2 hx (pc' := 35) (Ls' := #[.val (.ref ba), .val (.int (2 : Int32)), .val (.int q2), .val (.int (0 : Int32)), .val (.int uc), .unset]) (hb hby d25_33) rfl rfl ?_
  refine own_iload X2 hx (pc' := 37) (hb hby d25_35) rfl rfl ?_
  refine own_cSI X2 hx (pc' := 40) hZ hown (Wd114 hw) (Wd115 hw) (Wd86 hw) (Wd116 hw) (rm_ih l Z a0 hw []  uc h0 n0 Z0  ) e2 N2 hml pd_10 (hb hby d25_37) 0 [(.int uc)] [] (fun T3 L3 X3 e3 N3 => ?_)
  by_cases hc40_4 : (own_hiI uc) = (0 : Int32)
  · skip
    refine own_ifYes X3 hx (pc' := 83) (hb hby d25_40) (teq hc40_4).1 (by decide) (by decide) ?_
    refine own_iload X3 hx (pc' := 85) (hb hby d25_83) rfl rfl ?_
    refine own_retI X3 hx hlk hret (hb hby d25_85) (by decide) (by decide) ?_
    exact ⟨rfl, N3, e3⟩
  · skip
    refine own_ifNo X3 hx (pc' := 43) (hb hby d25_40) (feq hc40_4).1 rfl ?_
    refine own_iinc X3 hx (pc' := 46) (Ls' := #[.val (.ref ba), .val (.int (3 : Int32)), .val (.int q2), .val (.int (0 : Int32)), .val (.int uc), .unset]) (hb hby d25_43) rfl rfl rfl ?_
    refine own_iloadN X3 hx (pc' := 47) (hb hby d25_46) rfl rfl ?_
    refine own_iloadN X3 hx (pc' := 48) (hb hby d25_47) rfl rfl ?_
    refine own_icmpYes X3 hx (pc' := 83) (hb hby d25_48) (flt hq).2.1 (by decide) (by decide) ?_
    refine own_iload X3 hx (pc' := 85) (hb hby d25_83) rfl rfl ?_
    refine own_retI X3 hx hlk hret (hb hby d25_85) (by decide) (by decide) ?_
    exact ⟨rfl, N3, e3⟩

theorem ef_rm_p3_l_2 (m : MethodId) (x0 : Addr) (x1 : Int32) (x2 : Int32) : entryFrame m #[(.ref x0), (.int x1), (.int x2)] 3 = mkF m 0 #[.val (.ref x0), .val (.int x1), .val (.int x2)] [] := by first | (simp [entryFrame, mkF, argsToLocals, Value.category, maxLocals]; done) | rfl
set_option maxRecDepth 65536 in
set_option maxHeartbeats 40000000 in
theorem rm_p3_l_2 (l : Launch) (Z : State) (a0 : Array Value) (hw : ∀ d ∈ tables_1, d.before a0 Z = true) (ws : List Jvm.Cond) (cz : Int32) (sv : Value) (hcz : ¬ cz = (0 : Int32)) (hsv : sv.isRef = true) (ba : Addr) (kb : ClassId) (z : Int32) (vs : List Value) (q2 : Int32) (uc : Int32) (h0 : Heap) (n0 : Nat) (Z0 : n0 ≤ h0.size) (hq : ¬ (3 : Int32) < q2) (V_b : Arv Z h0 ba kb .byte z vs (.int (0 : Int32))) (rc : own_ch uc) (h1 : (¬ (4 : Int32) < (0 : Int32) ∧ (4 : Int32) < z)) (h2 : (¬ (5 : Int32) < (0 : Int32) ∧ (5 : Int32) < z)) (x1 : vs.getD 4 (.int (0 : Int32)) = (.int (own_b0 uc))) (x2 : vs.getD 5 (.int (0 : Int32)) = (.int (own_b1 uc))) (B_ST : own_ST n0 Z h0 cz sv) :
    own_M l Z (⟨"java/lang/StringUTF16", "codePointAt", "([BII)I"⟩ : MethodName) jdk_52_method_8_code 3 (some .int) ws ({ frames := 2, cells := 0, slots := 0, locals := 30 } : Room) #[(.ref ba), (.int (2 : Int32)), (.int q2)] h0  (Qint uc h0 n0) := by
  refine own_bodyM pf_24 ?_
  intro p e s m below meth c s₁ hx hby hml hown hnm hlk hret hZ X0 e0
  have N0 : Fr n0 [] := Fr.nil n0
  refine own_go (f' := (mkF m 0 #[.val (.ref ba), .val (.int (2 : Int32)), .val (.int q2)] [])) (fun t k => castTop (ef_rm_p3_l_2 m ba (2 : Int32) q2) k) ?_
  refine own_aloadN X0 hx (pc' := 1) (hb hby d24_0) rfl rfl rfl ?_
  refine own_iloadN X0 hx (pc' := 2) (hb hby d24_1) rfl rfl ?_
  refine own_iloadN X0 hx (pc' := 3) (hb hby d24_2) rfl rfl ?_
  refine own_iconst X0 hx (pc' := 4) (0 : Int32) (hb hby d24_3) rfl rfl ?_
  refine own_cSI X0 hx (pc' := 7) hZ hown (Wd111 hw) (Wd112 hw) (Wd51 hw) (Wd113 hw) (rm_p4_l_2 l Z a0 hw [] cz sv hcz hsv ba kb z vs q2 uc h0 n0 Z0 hq V_b rc h1 h2 x1 x2 B_ST) e0 N0 hml pd_11 (hb hby d24_4) 0 [(.ref ba), (.int (2 : Int32)), (.int q2), (.int (0 : Int32))] [] (fun T1 L1 X1 e1 N1 => ?_)
  refine own_retI X1 hx hlk hret (hb hby d24_7) (by decide) (by decide) ?_
  exact ⟨rfl, N1, e1⟩

theorem ef_rm_pu_l_2 (m : MethodId) (x0 : Addr) (x1 : Int32) : entryFrame m #[(.ref x0), (.int x1)] 3 = mkF m 0 #[.val (.ref x0), .val (.int x1), .unset] [] := by first | (simp [entryFrame, mkF, argsToLocals, Value.category, maxLocals]; done) | rfl
set_option maxRecDepth 65536 in
set_option maxHeartbeats 40000000 in
theorem rm_pu_l_2 (l : Launch) (Z : State) (a0 : Array Value) (hw : ∀ d ∈ tables_1, d.before a0 Z = true) (ws : List Jvm.Cond) (cz : Int32) (sv : Value) (hcz : ¬ cz = (0 : Int32)) (hsv : sv.isRef = true) (so : Addr) (ba : Addr) (kb : ClassId) (z : Int32) (vs : List Value) (q2 : Int32) (uc : Int32) (h0 : Heap) (n0 : Nat) (Z0 : n0 ≤ h0.size) (E_s : Exa Z h0 so "java/lang/String") (F_c : Fld Z h0 so "java/lang/String" "coder" "B" (.int (1 : Int32))) (F_v : Fld Z h0 so "java/lang/String" "value" "[B" (.ref ba)) (hzq : (z >>> ((1 : Int32) &&& 31)) = q2) (hi : (2 : Int32) < q2) (hq : ¬ (3 : Int32) < q2) (V_b : Arv Z h0 ba kb .byte z vs (.int (0 : Int32))) (rc : own_ch uc) (h1 : (¬ (4 : Int32) < (0 : Int32) ∧ (4 : Int32) < z)) (h2 : (¬ (5 : Int32) < (0 : Int32) ∧ (5 : Int32) < z)) (x1 : vs.getD 4 (.int (0 : Int32)) = (.int (own_b0 uc))) (x2 : vs.getD 5 (.int (0 : Int32)) = (.int (own_b1 uc))) (B_ST : own_ST n0 Z h0 cz sv) :
    own_M l Z (⟨"java/lang/String", "codePointAt", "(I)I"⟩ : MethodName) jdk_42_method_57_code 3 (some .int) ws ({ frames := 3, cells := 0, slots := 0, locals := 44 } : Room) #[(.ref so), (.int (2 : Int32))] h0  (Qint uc h0 n0) := by
  refine own_bodyM pf_25 ?_
  intro p e s m below meth c s₁ hx hby hml hown hnm hlk hret hZ X0 e0
  have N0 : Fr n0 [] := Fr.nil n0
  refine own_go (f' := (mkF m 0 #[.val (.ref so), .val (.int (2 : Int32)), .unset] [])) (fun t k => castTop (ef_rm_pu_l_2 m so (2 : Int32)) k) ?_
  refine own_aloadN X0 hx (pc' := 1) (hb hby d14_0) rfl rfl rfl ?_
  refine own_cVI X0 hx (pc' := 4) hZ hown (Wd70 hw) (Wd72 hw) (Wd73 hw) (Wd74 hw) (Wd10 hw) (rm_il1 l Z a0 hw [] cz sv hcz hsv so h0 n0 Z0 F_c B_ST) e0 E_s N0 hml pd_12 (hb hby d14_1) 0 [] [] (fun T1 L1 X1 e1 N1 => ?_)
  refine own_ifYes X1 hx (pc' := 27) (hb hby d14_4) (teq rfl).1 (by decide) (by decide) ?_
  refine own_aloadN X1 hx (pc' := 28) (hb hby d14_27) rfl rfl rfl ?_
  refine own_getF X1 hx (pc' := 31) hZ hown (host := "") (Or.inl (Wd27 hw)) Via.refl e1 F_v (hb hby d14_28) rfl (fun T2 X2 e2 => ?_)
  obtain ⟨cl3, Ar3, q3, S3, M3, H3, G3⟩ := id V_b
  refine own_len X2 hx (pc' := 32) hZ e2 Ar3 S3 M3 (hb hby d14_31) rfl ?_
  refine own_iconst X2 hx (pc' := 33) (1 : Int32) (hb hby d14_32) rfl rfl ?_
  refine own_ishr X2 hx (pc' := 34) (hb hby d14_33) rfl ?_
  rw [hzq]
  refine own_istoreN X2 hx (pc' := 35) (Ls' := #[.val (.ref so), .val (.int (2 : Int32)), .val (.int q2)]) (hb hby d14_34) rfl rfl ?_
  refine own_iloadN X2 hx (pc' := 36) (hb hby d14_35) rfl rfl ?_
  refine own_iloadN X2 hx (pc' := 37) (hb hby d14_36) rfl rfl ?_
  refine own_cSV X2 hx (pc' := 40) hZ hown (Wd75 hw) (Wd76 hw) (Wd10 hw) (Wd77 hw) (rm_cks l Z a0 hw [] cz sv hcz hsv (2 : Int32) q2 h0 n0 Z0 (by decide) hi B_ST) e2 N1 hml pd_13 (hb hby d14_37) 0 [(.int (2 : Int32)), (.int q2)] [] (fun T4 L4 X4 e4 N4 => ?_)
  refine own_aloadN X4 hx (pc' := 41) (hb hby d14_40) rfl rfl rfl ?_
  refine own_getF X4 hx (pc' := 44) hZ hown (host := "") (Or.inl (Wd27 hw)) Via.refl e4 F_v (hb hby d14_41) rfl (fun T5 X5 e5 => ?_)
  refine own_iloadN X5 hx (pc' := 45) (hb hby d14_44) rfl rfl ?_
  refine own_iloadN X5 hx (pc' := 46) (hb hby d14_45) rfl rfl ?_
  refine own_cSI X5 hx (pc' := 49) hZ hown (Wd108 hw) (Wd109 hw) (Wd51 hw) (Wd110 hw) (rm_p3_l_2 l Z a0 hw [] cz sv hcz hsv ba kb z vs q2 uc h0 n0 Z0 hq V_b rc h1 h2 x1 x2 B_ST) e5 N4 hml pd_14 (hb hby d14_46) 0 [(.ref ba), (.int (2 : Int32)), (.int q2)] [] (fun T6 L6 X6 e6 N6 => ?_)
  refine own_retI X6 hx hlk hret (hb hby d14_49) (by decide) (by decide) ?_
  exact ⟨rfl, N6, e6⟩

theorem ef_rm_p4_l_3 (m : MethodId) (x0 : Addr) (x1 : Int32) (x2 : Int32) (x3 : Int32) : entryFrame m #[(.ref x0), (.int x1), (.int x2), (.int x3)] 6 = mkF m 0 #[.val (.ref x0), .val (.int x1), .val (.int x2), .val (.int x3), .unset, .unset] [] := by first | (simp [entryFrame, mkF, argsToLocals, Value.category, maxLocals]; done) | rfl
set_option maxRecDepth 65536 in
set_option maxHeartbeats 40000000 in
theorem rm_p4_l_3 (l : Launch) (Z : State) (a0 : Array Value) (hw : ∀ d ∈ tables_1, d.before a0 Z = true) (ws : List Jvm.Cond) (cz : Int32) (sv : Value) (hcz : ¬ cz = (0 : Int32)) (hsv : sv.isRef = true) (ba : Addr) (kb : ClassId) (z : Int32) (vs : List Value) (q2 : Int32) (uc : Int32) (h0 : Heap) (n0 : Nat) (Z0 : n0 ≤ h0.size) (hq : ¬ (4 : Int32) < q2) (V_b : Arv Z h0 ba kb .byte z vs (.int (0 : Int32))) (rc : own_ch uc) (h1 : (¬ (6 : Int32) < (0 : Int32) ∧ (6 : Int32) < z)) (h2 : (¬ (7 : Int32) < (0 : Int32) ∧ (7 : Int32) < z)) (x1 : vs.getD 6 (.int (0 : Int32)) = (.int (own_b0 uc))) (x2 : vs.getD 7 (.int (0 : Int32)) = (.int (own_b1 uc))) (B_ST : own_ST n0 Z h0 cz sv) :
    own_M l Z (⟨"java/lang/StringUTF16", "codePointAt", "([BIIZ)I"⟩ : MethodName) jdk_52_method_7_code 6 (some .int) ws ({ frames := 1, cells := 0, slots := 0, locals := 13 } : Room) #[(.ref ba), (.int (3 : Int32)), (.int q2), (.int (0 : Int32))] h0  (Qint uc h0 n0) := by
  refine own_bodyM pf_23 ?_
  intro p e s m below meth c s₁ hx hby hml hown hnm hlk hret hZ X0 e0
  have N0 : Fr n0 [] := Fr.nil n0
  refine own_go (f' := (mkF m 0 #[.val (.ref ba), .val (.int (3 : Int32)), .val (.int q2), .val (.int (0 : Int32)), .unset, .unset] [])) (fun t k => castTop (ef_rm_p4_l_3 m ba (3 : Int32) q2 (0 : Int32)) k) ?_
  refine own_getS X0 hx (pc' := 3) hZ hown (host := "") (Or.inl (Wd102 hw)) Via.refl e0 (own_SB.sta B_ST.2.1) (hb hby d25_0) rfl (fun T1 X1 e1 => ?_)
  refine own_ifYes X1 hx (pc' := 19) (hb hby d25_3) (feq (by decide : ¬ ((1 : Int32) = (0 : Int32)))).2 (by decide) (by decide) ?_
  refine own_iloadN X1 hx (pc' := 20) (hb hby d25_19) rfl rfl ?_
  refine own_ifYes X1 hx (pc' := 28) (hb hby d25_20) (teq rfl).1 (by decide) (by decide) ?_
  refine own_aloadN X1 hx (pc' := 29) (hb hby d25_28) rfl rfl rfl ?_
  refine own_iloadN X1 hx (pc' := 30) (hb hby d25_29) rfl rfl ?_
  refine own_cSI X1 hx (pc' := 33) hZ hown (Wd105 hw) (Wd106 hw) (Wd51 hw) (Wd107 hw) (rm_gc_3 l Z a0 hw [] cz sv hcz hsv ba kb z vs uc h0 n0 Z0 V_b h1 h2 x1 x2 rc B_ST) e1 N0 hml pd_7 (hb hby d25_30) 0 [(.ref ba), (.int (3 : Int32))] [] (fun T2 L2 X2 e2 N2 => ?_)
  refine own_istore X2 hx (pc' := 35) (Ls' := #[.val (.ref ba), .val (.int (3 : Int32)), .val (.int q2), .val (.int (0 : Int32)), .val (.int uc), .unset]) (hb hby d25_33) rfl rfl ?_
  refine own_iload X2 hx (pc' := 37) (hb hby d25_35) rfl rfl ?_
  refine own_cSI X2 hx (pc' := 40) hZ hown (Wd114 hw) (Wd115 hw) (Wd86 hw) (Wd116 hw) (rm_ih l Z a0 hw []  uc h0 n0 Z0  ) e2 N2 hml pd_10 (hb hby d25_37) 0 [(.int uc)] [] (fun T3 L3 X3 e3 N3 => ?_)
  by_cases hc40_4 : (own_hiI uc) = (0 : Int32)
  · skip
    refine own_ifYes X3 hx (pc' := 83) (hb hby d25_40) (teq hc40_4).1 (by decide) (by decide) ?_
    refine own_iload X3 hx (pc' := 85) (hb hby d25_83) rfl rfl ?_
    refine own_retI X3 hx hlk hret (hb hby d25_85) (by decide) (by decide) ?_
    exact ⟨rfl, N3, e3⟩
  · skip
    refine own_ifNo X3 hx (pc' := 43) (hb hby d25_40) (feq hc40_4).1 rfl ?_
    refine own_iinc X3 hx (pc' := 46) (Ls' := #[.val (.ref ba), .val (.int (4 : Int32)), .val (.int q2), .val (.int (0 : Int32)), .val (.int uc), .unset]) (hb hby d25_43) rfl rfl rfl ?_
    refine own_iloadN X3 hx (pc' := 47) (hb hby d25_46) rfl rfl ?_
    refine own_iloadN X3 hx (pc' := 48) (hb hby d25_47) rfl rfl ?_
    refine own_icmpYes X3 hx (pc' := 83) (hb hby d25_48) (flt hq).2.1 (by decide) (by decide) ?_
    refine own_iload X3 hx (pc' := 85) (hb hby d25_83) rfl rfl ?_
    refine own_retI X3 hx hlk hret (hb hby d25_85) (by decide) (by decide) ?_
    exact ⟨rfl, N3, e3⟩

theorem ef_rm_p3_l_3 (m : MethodId) (x0 : Addr) (x1 : Int32) (x2 : Int32) : entryFrame m #[(.ref x0), (.int x1), (.int x2)] 3 = mkF m 0 #[.val (.ref x0), .val (.int x1), .val (.int x2)] [] := by first | (simp [entryFrame, mkF, argsToLocals, Value.category, maxLocals]; done) | rfl
set_option maxRecDepth 65536 in
set_option maxHeartbeats 40000000 in
theorem rm_p3_l_3 (l : Launch) (Z : State) (a0 : Array Value) (hw : ∀ d ∈ tables_1, d.before a0 Z = true) (ws : List Jvm.Cond) (cz : Int32) (sv : Value) (hcz : ¬ cz = (0 : Int32)) (hsv : sv.isRef = true) (ba : Addr) (kb : ClassId) (z : Int32) (vs : List Value) (q2 : Int32) (uc : Int32) (h0 : Heap) (n0 : Nat) (Z0 : n0 ≤ h0.size) (hq : ¬ (4 : Int32) < q2) (V_b : Arv Z h0 ba kb .byte z vs (.int (0 : Int32))) (rc : own_ch uc) (h1 : (¬ (6 : Int32) < (0 : Int32) ∧ (6 : Int32) < z)) (h2 : (¬ (7 : Int32) < (0 : Int32) ∧ (7 : Int32) < z)) (x1 : vs.getD 6 (.int (0 : Int32)) = (.int (own_b0 uc))) (x2 : vs.getD 7 (.int (0 : Int32)) = (.int (own_b1 uc))) (B_ST : own_ST n0 Z h0 cz sv) :
    own_M l Z (⟨"java/lang/StringUTF16", "codePointAt", "([BII)I"⟩ : MethodName) jdk_52_method_8_code 3 (some .int) ws ({ frames := 2, cells := 0, slots := 0, locals := 30 } : Room) #[(.ref ba), (.int (3 : Int32)), (.int q2)] h0  (Qint uc h0 n0) := by
  refine own_bodyM pf_24 ?_
  intro p e s m below meth c s₁ hx hby hml hown hnm hlk hret hZ X0 e0
  have N0 : Fr n0 [] := Fr.nil n0
  refine own_go (f' := (mkF m 0 #[.val (.ref ba), .val (.int (3 : Int32)), .val (.int q2)] [])) (fun t k => castTop (ef_rm_p3_l_3 m ba (3 : Int32) q2) k) ?_
  refine own_aloadN X0 hx (pc' := 1) (hb hby d24_0) rfl rfl rfl ?_
  refine own_iloadN X0 hx (pc' := 2) (hb hby d24_1) rfl rfl ?_
  refine own_iloadN X0 hx (pc' := 3) (hb hby d24_2) rfl rfl ?_
  refine own_iconst X0 hx (pc' := 4) (0 : Int32) (hb hby d24_3) rfl rfl ?_
  refine own_cSI X0 hx (pc' := 7) hZ hown (Wd111 hw) (Wd112 hw) (Wd51 hw) (Wd113 hw) (rm_p4_l_3 l Z a0 hw [] cz sv hcz hsv ba kb z vs q2 uc h0 n0 Z0 hq V_b rc h1 h2 x1 x2 B_ST) e0 N0 hml pd_11 (hb hby d24_4) 0 [(.ref ba), (.int (3 : Int32)), (.int q2), (.int (0 : Int32))] [] (fun T1 L1 X1 e1 N1 => ?_)
  refine own_retI X1 hx hlk hret (hb hby d24_7) (by decide) (by decide) ?_
  exact ⟨rfl, N1, e1⟩

theorem ef_rm_pu_l_3 (m : MethodId) (x0 : Addr) (x1 : Int32) : entryFrame m #[(.ref x0), (.int x1)] 3 = mkF m 0 #[.val (.ref x0), .val (.int x1), .unset] [] := by first | (simp [entryFrame, mkF, argsToLocals, Value.category, maxLocals]; done) | rfl
set_option maxRecDepth 65536 in
set_option maxHeartbeats 40000000 in
theorem rm_pu_l_3 (l : Launch) (Z : State) (a0 : Array Value) (hw : ∀ d ∈ tables_1, d.before a0 Z = true) (ws : List Jvm.Cond) (cz : Int32) (sv : Value) (hcz : ¬ cz = (0 : Int32)) (hsv : sv.isRef = true) (so : Addr) (ba : Addr) (kb : ClassId) (z : Int32) (vs : List Value) (q2 : Int32) (uc : Int32) (h0 : Heap) (n0 : Nat) (Z0 : n0 ≤ h0.size) (E_s : Exa Z h0 so "java/lang/String") (F_c : Fld Z h0 so "java/lang/String" "coder" "B" (.int (1 : Int32))) (F_v : Fld Z h0 so "java/lang/String" "value" "[B" (.ref ba)) (hzq : (z >>> ((1 : Int32) &&& 31)) = q2) (hi : (3 : Int32) < q2) (hq : ¬ (4 : Int32) < q2) (V_b : Arv Z h0 ba kb .byte z vs (.int (0 : Int32))) (rc : own_ch uc) (h1 : (¬ (6 : Int32) < (0 : Int32) ∧ (6 : Int32) < z)) (h2 : (¬ (7 : Int32) < (0 : Int32) ∧ (7 : Int32) < z)) (x1 : vs.getD 6 (.int (0 : Int32)) = (.int (own_b0 uc))) (x2 : vs.getD 7 (.int (0 : Int32)) = (.int (own_b1 uc))) (B_ST : own_ST n0 Z h0 cz sv) :
    own_M l Z (⟨"java/lang/String", "codePointAt", "(I)I"⟩ : MethodName) jdk_42_method_57_code 3 (some .int) ws ({ frames := 3, cells := 0, slots := 0, locals := 44 } : Room) #[(.ref so), (.int (3 : Int32))] h0  (Qint uc h0 n0) := by
  refine own_bodyM pf_25 ?_
  intro p e s m below meth c s₁ hx hby hml hown hnm hlk hret hZ X0 e0
  have N0 : Fr n0 [] := Fr.nil n0
  refine own_go (f' := (mkF m 0 #[.val (.ref so), .val (.int (3 : Int32)), .unset] [])) (fun t k => castTop (ef_rm_pu_l_3 m so (3 : Int32)) k) ?_
  refine own_aloadN X0 hx (pc' := 1) (hb hby d14_0) rfl rfl rfl ?_
  refine own_cVI X0 hx (pc' := 4) hZ hown (Wd70 hw) (Wd72 hw) (Wd73 hw) (Wd74 hw) (Wd10 hw) (rm_il1 l Z a0 hw [] cz sv hcz hsv so h0 n0 Z0 F_c B_ST) e0 E_s N0 hml pd_12 (hb hby d14_1) 0 [] [] (fun T1 L1 X1 e1 N1 => ?_)
  refine own_ifYes X1 hx (pc' := 27) (hb hby d14_4) (teq rfl).1 (by decide) (by decide) ?_
  refine own_aloadN X1 hx (pc' := 28) (hb hby d14_27) rfl rfl rfl ?_
  refine own_getF X1 hx (pc' := 31) hZ hown (host := "") (Or.inl (Wd27 hw)) Via.refl e1 F_v (hb hby d14_28) rfl (fun T2 X2 e2 => ?_)
  obtain ⟨cl3, Ar3, q3, S3, M3, H3, G3⟩ := id V_b
  refine own_len X2 hx (pc' := 32) hZ e2 Ar3 S3 M3 (hb hby d14_31) rfl ?_
  refine own_iconst X2 hx (pc' := 33) (1 : Int32) (hb hby d14_32) rfl rfl ?_
  refine own_ishr X2 hx (pc' := 34) (hb hby d14_33) rfl ?_
  rw [hzq]
  refine own_istoreN X2 hx (pc' := 35) (Ls' := #[.val (.ref so), .val (.int (3 : Int32)), .val (.int q2)]) (hb hby d14_34) rfl rfl ?_
  refine own_iloadN X2 hx (pc' := 36) (hb hby d14_35) rfl rfl ?_
  refine own_iloadN X2 hx (pc' := 37) (hb hby d14_36) rfl rfl ?_
  refine own_cSV X2 hx (pc' := 40) hZ hown (Wd75 hw) (Wd76 hw) (Wd10 hw) (Wd77 hw) (rm_cks l Z a0 hw [] cz sv hcz hsv (3 : Int32) q2 h0 n0 Z0 (by decide) hi B_ST) e2 N1 hml pd_13 (hb hby d14_37) 0 [(.int (3 : Int32)), (.int q2)] [] (fun T4 L4 X4 e4 N4 => ?_)
  refine own_aloadN X4 hx (pc' := 41) (hb hby d14_40) rfl rfl rfl ?_
  refine own_getF X4 hx (pc' := 44) hZ hown (host := "") (Or.inl (Wd27 hw)) Via.refl e4 F_v (hb hby d14_41) rfl (fun T5 X5 e5 => ?_)
  refine own_iloadN X5 hx (pc' := 45) (hb hby d14_44) rfl rfl ?_
  refine own_iloadN X5 hx (pc' := 46) (hb hby d14_45) rfl rfl ?_
  refine own_cSI X5 hx (pc' := 49) hZ hown (Wd108 hw) (Wd109 hw) (Wd51 hw) (Wd110 hw) (rm_p3_l_3 l Z a0 hw [] cz sv hcz hsv ba kb z vs q2 uc h0 n0 Z0 hq V_b rc h1 h2 x1 x2 B_ST) e5 N4 hml pd_14 (hb hby d14_46) 0 [(.ref ba), (.int (3 : Int32)), (.int q2)] [] (fun T6 L6 X6 e6 N6 => ?_)
  refine own_retI X6 hx hlk hret (hb hby d14_49) (by decide) (by decide) ?_
  exact ⟨rfl, N6, e6⟩

theorem ef_rm_p4_n_0 (m : MethodId) (x0 : Addr) (x1 : Int32) (x2 : Int32) (x3 : Int32) : entryFrame m #[(.ref x0), (.int x1), (.int x2), (.int x3)] 6 = mkF m 0 #[.val (.ref x0), .val (.int x1), .val (.int x2), .val (.int x3), .unset, .unset] [] := by first | (simp [entryFrame, mkF, argsToLocals, Value.category, maxLocals]; done) | rfl
theorem Wd124 {a0 : Array Value} {Z : State} (hw : ∀ d ∈ tables_1, d.before a0 Z = true) : (Jvm.Cond.code ({ cls := "java/lang/Character", name := "isLowSurrogate", desc := "(C)Z" } : Jvm.MethodName) jdk_89_method_15_code (1 : Nat) (Option.some Jvm.ClassFile.FieldType.boolean)).before a0 Z = true := hw _ (List.mem_of_getElem? (i := 124) rfl)
theorem Wd122 {a0 : Array Value} {Z : State} (hw : ∀ d ∈ tables_1, d.before a0 Z = true) : (Jvm.Cond.methodLink "java/lang/StringUTF16" (81 : Nat) ({ cls := "java/lang/Character", name := "isLowSurrogate", desc := "(C)Z" } : Jvm.MethodName)).before a0 Z = true := hw _ (List.mem_of_getElem? (i := 122) rfl)
theorem Wd123 {a0 : Array Value} {Z : State} (hw : ∀ d ∈ tables_1, d.before a0 Z = true) : (Jvm.Cond.static ({ cls := "java/lang/Character", name := "isLowSurrogate", desc := "(C)Z" } : Jvm.MethodName)).before a0 Z = true := hw _ (List.mem_of_getElem? (i := 123) rfl)
theorem Wd128 {a0 : Array Value} {Z : State} (hw : ∀ d ∈ tables_1, d.before a0 Z = true) : (Jvm.Cond.code ({ cls := "java/lang/Character", name := "toCodePoint", desc := "(CC)I" } : Jvm.MethodName) jdk_89_method_19_code (2 : Nat) (Option.some Jvm.ClassFile.FieldType.int)).before a0 Z = true := hw _ (List.mem_of_getElem? (i := 128) rfl)
theorem pd_15 : parseMethodDescriptor "(CC)I" = some ⟨[.char, .char], some .int⟩ := by decide +kernel
theorem Wd126 {a0 : Array Value} {Z : State} (hw : ∀ d ∈ tables_1, d.before a0 Z = true) : (Jvm.Cond.methodLink "java/lang/StringUTF16" (84 : Nat) ({ cls := "java/lang/Character", name := "toCodePoint", desc := "(CC)I" } : Jvm.MethodName)).before a0 Z = true := hw _ (List.mem_of_getElem? (i := 126) rfl)
theorem Wd127 {a0 : Array Value} {Z : State} (hw : ∀ d ∈ tables_1, d.before a0 Z = true) : (Jvm.Cond.static ({ cls := "java/lang/Character", name := "toCodePoint", desc := "(CC)I" } : Jvm.MethodName)).before a0 Z = true := hw _ (List.mem_of_getElem? (i := 127) rfl)
set_option maxRecDepth 65536 in
set_option maxHeartbeats 40000000 in
theorem rm_p4_n_0 (l : Launch) (Z : State) (a0 : Array Value) (hw : ∀ d ∈ tables_1, d.before a0 Z = true) (ws : List Jvm.Cond) (cz : Int32) (sv : Value) (hcz : ¬ cz = (0 : Int32)) (hsv : sv.isRef = true) (ba : Addr) (kb : ClassId) (z : Int32) (vs : List Value) (q2 : Int32) (uc ud : Int32) (h0 : Heap) (n0 : Nat) (Z0 : n0 ≤ h0.size) (hq : (1 : Int32) < q2) (V_b : Arv Z h0 ba kb .byte z vs (.int (0 : Int32))) (rc : own_ch uc) (h1 : (¬ (0 : Int32) < (0 : Int32) ∧ (0 : Int32) < z)) (h2 : (¬ (1 : Int32) < (0 : Int32) ∧ (1 : Int32) < z)) (x1 : vs.getD 0 (.int (0 : Int32)) = (.int (own_b0 uc))) (x2 : vs.getD 1 (.int (0 : Int32)) = (.int (own_b1 uc))) (rd : own_ch ud) (h3 : (¬ (2 : Int32) < (0 : Int32) ∧ (2 : Int32) < z)) (h4 : (¬ (3 : Int32) < (0 : Int32) ∧ (3 : Int32) < z)) (x3 : vs.getD 2 (.int (0 : Int32)) = (.int (own_b0 ud))) (x4 : vs.getD 3 (.int (0 : Int32)) = (.int (own_b1 ud))) (B_ST : own_ST n0 Z h0 cz sv) :
    own_M l Z (⟨"java/lang/StringUTF16", "codePointAt", "([BIIZ)I"⟩ : MethodName) jdk_52_method_7_code 6 (some .int) ws ({ frames := 1, cells := 0, slots := 0, locals := 13 } : Room) #[(.ref ba), (.int (0 : Int32)), (.int q2), (.int (0 : Int32))] h0  (Qint (own_cp2 uc ud) h0 n0) := by
  refine own_bodyM pf_23 ?_
  intro p e s m below meth c s₁ hx hby hml hown hnm hlk hret hZ X0 e0
  have N0 : Fr n0 [] := Fr.nil n0
  refine own_go (f' := (mkF m 0 #[.val (.ref ba), .val (.int (0 : Int32)), .val (.int q2), .val (.int (0 : Int32)), .unset, .unset] [])) (fun t k => castTop (ef_rm_p4_n_0 m ba (0 : Int32) q2 (0 : Int32)) k) ?_
  refine own_getS X0 hx (pc' := 3) hZ hown (host := "") (Or.inl (Wd102 hw)) Via.refl e0 (own_SB.sta B_ST.2.1) (hb hby d25_0) rfl (fun T1 X1 e1 => ?_)
  refine own_ifYes X1 hx (pc' := 19) (hb hby d25_3) (feq (by decide : ¬ ((1 : Int32) = (0 : Int32)))).2 (by decide) (by decide) ?_
  refine own_iloadN X1 hx (pc' := 20) (hb hby d25_19) rfl rfl ?_
  refine own_ifYes X1 hx (pc' := 28) (hb hby d25_20) (teq rfl).1 (by decide) (by decide) ?_
  refine own_aloadN X1 hx (pc' := 29) (hb hby d25_28) rfl rfl rfl ?_
  refine own_iloadN X1 hx (pc' := 30) (hb hby d25_29) rfl rfl ?_
  refine own_cSI X1 hx (pc' := 33) hZ hown (Wd105 hw) (Wd106 hw) (Wd51 hw) (Wd107 hw) (rm_gc_0 l Z a0 hw [] cz sv hcz hsv ba kb z vs uc h0 n0 Z0 V_b h1 h2 x1 x2 rc B_ST) e1 N0 hml pd_7 (hb hby d25_30) 0 [(.ref ba), (.int (0 : Int32))] [] (fun T2 L2 X2 e2 N2 => ?_)
  refine own_istore X2 hx (pc' := 35) (Ls' := #[.val (.ref ba), .val (.int (0 : Int32)), .val (.int q2), .val (.int (0 : Int32)), .val (.int uc), .unset]) (hb hby d25_33) rfl rfl ?_
  refine own_iload X2 hx (pc' := 37) (hb hby d25_35) rfl rfl ?_
  refine own_cSI X2 hx (pc' := 40) hZ hown (Wd114 hw) (Wd115 hw) (Wd86 hw) (Wd116 hw) (rm_ih l Z a0 hw []  uc h0 n0 Z0  ) e2 N2 hml pd_10 (hb hby d25_37) 0 [(.int uc)] [] (fun T3 L3 X3 e3 N3 => ?_)
  by_cases hc40_4 : (own_hiI uc) = (0 : Int32)
  · skip
    refine own_ifYes X3 hx (pc' := 83) (hb hby d25_40) (teq hc40_4).1 (by decide) (by decide) ?_
    refine own_iload X3 hx (pc' := 85) (hb hby d25_83) rfl rfl ?_
    refine own_retI X3 hx hlk hret (hb hby d25_85) (by decide) (by decide) ?_
    exact ⟨by simp only [own_cp2, hc40_4, if_true, if_false], N3, e3⟩
  · skip
    refine own_ifNo X3 hx (pc' := 43) (hb hby d25_40) (feq hc40_4).1 rfl ?_
    refine own_iinc X3 hx (pc' := 46) (Ls' := #[.val (.ref ba), .val (.int (1 : Int32)), .val (.int q2), .val (.int (0 : Int32)), .val (.int uc), .unset]) (hb hby d25_43) rfl rfl rfl ?_
    refine own_iloadN X3 hx (pc' := 47) (hb hby d25_46) rfl rfl ?_
    refine own_iloadN X3 hx (pc' := 48) (hb hby d25_47) rfl rfl ?_
    refine own_icmpNo X3 hx (pc' := 51) (hb hby d25_48) (tlt hq).2.1 rfl ?_
    refine own_iloadN X3 hx (pc' := 52) (hb hby d25_51) rfl rfl ?_
    refine own_ifYes X3 hx (pc' := 60) (hb hby d25_52) (teq rfl).1 (by decide) (by decide) ?_
    refine own_aloadN X3 hx (pc' := 61) (hb hby d25_60) rfl rfl rfl ?_
    refine own_iloadN X3 hx (pc' := 62) (hb hby d25_61) rfl rfl ?_
    refine own_cSI X3 hx (pc' := 65) hZ hown (Wd105 hw) (Wd106 hw) (Wd51 hw) (Wd107 hw) (rm_gc_1 l Z a0 hw [] cz sv hcz hsv ba kb z vs ud h0 n0 Z0 V_b h3 h4 x3 x4 rd B_ST) e3 N3 hml pd_7 (hb hby d25_62) 0 [(.ref ba), (.int (1 : Int32))] [] (fun T5 L5 X5 e5 N5 => ?_)
    refine own_istore X5 hx (pc' := 67) (Ls' := #[.val (.ref ba), .val (.int (1 : Int32)), .val (.int q2), .val (.int (0 : Int32)), .val (.int uc), .val (.int ud)]) (hb hby d25_65) rfl rfl ?_
    refine own_iload X5 hx (pc' := 69) (hb hby d25_67) rfl rfl ?_
    refine own_cSI X5 hx (pc' := 72) hZ hown (Wd122 hw) (Wd123 hw) (Wd86 hw) (Wd124 hw) (rm_il l Z a0 hw []  ud h0 n0 Z0  ) e5 N5 hml pd_10 (hb hby d25_69) 0 [(.int ud)] [] (fun T6 L6 X6 e6 N6 => ?_)
    by_cases hc72_7 : (own_loI ud) = (0 : Int32)
    · skip
      refine own_ifYes X6 hx (pc' := 83) (hb hby d25_72) (teq hc72_7).1 (by decide) (by decide) ?_
      refine own_iload X6 hx (pc' := 85) (hb hby d25_83) rfl rfl ?_
      refine own_retI X6 hx hlk hret (hb hby d25_85) (by decide) (by decide) ?_
      exact ⟨by simp only [own_cp2, hc40_4, hc72_7, if_true, if_false], N6, e6⟩
    · skip
      refine own_ifNo X6 hx (pc' := 75) (hb hby d25_72) (feq hc72_7).1 rfl ?_
      refine own_iload X6 hx (pc' := 77) (hb hby d25_75) rfl rfl ?_
      refine own_iload X6 hx (pc' := 79) (hb hby d25_77) rfl rfl ?_
      refine own_cSI X6 hx (pc' := 82) hZ hown (Wd126 hw) (Wd127 hw) (Wd86 hw) (Wd128 hw) (rm_tcp l Z a0 hw []  uc ud h0 n0 Z0  ) e6 N6 hml pd_15 (hb hby d25_79) 0 [(.int uc), (.int ud)] [] (fun T8 L8 X8 e8 N8 => ?_)
      refine own_retI X8 hx hlk hret (hb hby d25_82) (by decide) (by decide) ?_
      exact ⟨by simp only [own_cp2, hc40_4, hc72_7, if_true, if_false], N8, e8⟩

theorem ef_rm_p3_n_0 (m : MethodId) (x0 : Addr) (x1 : Int32) (x2 : Int32) : entryFrame m #[(.ref x0), (.int x1), (.int x2)] 3 = mkF m 0 #[.val (.ref x0), .val (.int x1), .val (.int x2)] [] := by first | (simp [entryFrame, mkF, argsToLocals, Value.category, maxLocals]; done) | rfl
set_option maxRecDepth 65536 in
set_option maxHeartbeats 40000000 in
theorem rm_p3_n_0 (l : Launch) (Z : State) (a0 : Array Value) (hw : ∀ d ∈ tables_1, d.before a0 Z = true) (ws : List Jvm.Cond) (cz : Int32) (sv : Value) (hcz : ¬ cz = (0 : Int32)) (hsv : sv.isRef = true) (ba : Addr) (kb : ClassId) (z : Int32) (vs : List Value) (q2 : Int32) (uc ud : Int32) (h0 : Heap) (n0 : Nat) (Z0 : n0 ≤ h0.size) (hq : (1 : Int32) < q2) (V_b : Arv Z h0 ba kb .byte z vs (.int (0 : Int32))) (rc : own_ch uc) (h1 : (¬ (0 : Int32) < (0 : Int32) ∧ (0 : Int32) < z)) (h2 : (¬ (1 : Int32) < (0 : Int32) ∧ (1 : Int32) < z)) (x1 : vs.getD 0 (.int (0 : Int32)) = (.int (own_b0 uc))) (x2 : vs.getD 1 (.int (0 : Int32)) = (.int (own_b1 uc))) (rd : own_ch ud) (h3 : (¬ (2 : Int32) < (0 : Int32) ∧ (2 : Int32) < z)) (h4 : (¬ (3 : Int32) < (0 : Int32) ∧ (3 : Int32) < z)) (x3 : vs.getD 2 (.int (0 : Int32)) = (.int (own_b0 ud))) (x4 : vs.getD 3 (.int (0 : Int32)) = (.int (own_b1 ud))) (B_ST : own_ST n0 Z h0 cz sv) :
    own_M l Z (⟨"java/lang/StringUTF16", "codePointAt", "([BII)I"⟩ : MethodName) jdk_52_method_8_code 3 (some .int) ws ({ frames := 2, cells := 0, slots := 0, locals := 30 } : Room) #[(.ref ba), (.int (0 : Int32)), (.int q2)] h0  (Qint (own_cp2 uc ud) h0 n0) := by
  refine own_bodyM pf_24 ?_
  intro p e s m below meth c s₁ hx hby hml hown hnm hlk hret hZ X0 e0
  have N0 : Fr n0 [] := Fr.nil n0
  refine own_go (f' := (mkF m 0 #[.val (.ref ba), .val (.int (0 : Int32)), .val (.int q2)] [])) (fun t k => castTop (ef_rm_p3_n_0 m ba (0 : Int32) q2) k) ?_
  refine own_aloadN X0 hx (pc' := 1) (hb hby d24_0) rfl rfl rfl ?_
  refine own_iloadN X0 hx (pc' := 2) (hb hby d24_1) rfl rfl ?_
  refine own_iloadN X0 hx (pc' := 3) (hb hby d24_2) rfl rfl ?_
  refine own_iconst X0 hx (pc' := 4) (0 : Int32) (hb hby d24_3) rfl rfl ?_
  refine own_cSI X0 hx (pc' := 7) hZ hown (Wd111 hw) (Wd112 hw) (Wd51 hw) (Wd113 hw) (rm_p4_n_0 l Z a0 hw [] cz sv hcz hsv ba kb z vs q2 uc ud h0 n0 Z0 hq V_b rc h1 h2 x1 x2 rd h3 h4 x3 x4 B_ST) e0 N0 hml pd_11 (hb hby d24_4) 0 [(.ref ba), (.int (0 : Int32)), (.int q2), (.int (0 : Int32))] [] (fun T1 L1 X1 e1 N1 => ?_)
  refine own_retI X1 hx hlk hret (hb hby d24_7) (by decide) (by decide) ?_
  exact ⟨rfl, N1, e1⟩

theorem ef_rm_pu_n_0 (m : MethodId) (x0 : Addr) (x1 : Int32) : entryFrame m #[(.ref x0), (.int x1)] 3 = mkF m 0 #[.val (.ref x0), .val (.int x1), .unset] [] := by first | (simp [entryFrame, mkF, argsToLocals, Value.category, maxLocals]; done) | rfl
set_option maxRecDepth 65536 in
set_option maxHeartbeats 40000000 in
theorem rm_pu_n_0 (l : Launch) (Z : State) (a0 : Array Value) (hw : ∀ d ∈ tables_1, d.before a0 Z = true) (ws : List Jvm.Cond) (cz : Int32) (sv : Value) (hcz : ¬ cz = (0 : Int32)) (hsv : sv.isRef = true) (so : Addr) (ba : Addr) (kb : ClassId) (z : Int32) (vs : List Value) (q2 : Int32) (uc ud : Int32) (h0 : Heap) (n0 : Nat) (Z0 : n0 ≤ h0.size) (E_s : Exa Z h0 so "java/lang/String") (F_c : Fld Z h0 so "java/lang/String" "coder" "B" (.int (1 : Int32))) (F_v : Fld Z h0 so "java/lang/String" "value" "[B" (.ref ba)) (hzq : (z >>> ((1 : Int32) &&& 31)) = q2) (hi : (0 : Int32) < q2) (hq : (1 : Int32) < q2) (V_b : Arv Z h0 ba kb .byte z vs (.int (0 : Int32))) (rc : own_ch uc) (h1 : (¬ (0 : Int32) < (0 : Int32) ∧ (0 : Int32) < z)) (h2 : (¬ (1 : Int32) < (0 : Int32) ∧ (1 : Int32) < z)) (x1 : vs.getD 0 (.int (0 : Int32)) = (.int (own_b0 uc))) (x2 : vs.getD 1 (.int (0 : Int32)) = (.int (own_b1 uc))) (rd : own_ch ud) (h3 : (¬ (2 : Int32) < (0 : Int32) ∧ (2 : Int32) < z)) (h4 : (¬ (3 : Int32) < (0 : Int32) ∧ (3 : Int32) < z)) (x3 : vs.getD 2 (.int (0 : Int32)) = (.int (own_b0 ud))) (x4 : vs.getD 3 (.int (0 : Int32)) = (.int (own_b1 ud))) (B_ST : own_ST n0 Z h0 cz sv) :
    own_M l Z (⟨"java/lang/String", "codePointAt", "(I)I"⟩ : MethodName) jdk_42_method_57_code 3 (some .int) ws ({ frames := 3, cells := 0, slots := 0, locals := 44 } : Room) #[(.ref so), (.int (0 : Int32))] h0  (Qint (own_cp2 uc ud) h0 n0) := by
  refine own_bodyM pf_25 ?_
  intro p e s m below meth c s₁ hx hby hml hown hnm hlk hret hZ X0 e0
  have N0 : Fr n0 [] := Fr.nil n0
  refine own_go (f' := (mkF m 0 #[.val (.ref so), .val (.int (0 : Int32)), .unset] [])) (fun t k => castTop (ef_rm_pu_n_0 m so (0 : Int32)) k) ?_
  refine own_aloadN X0 hx (pc' := 1) (hb hby d14_0) rfl rfl rfl ?_
  refine own_cVI X0 hx (pc' := 4) hZ hown (Wd70 hw) (Wd72 hw) (Wd73 hw) (Wd74 hw) (Wd10 hw) (rm_il1 l Z a0 hw [] cz sv hcz hsv so h0 n0 Z0 F_c B_ST) e0 E_s N0 hml pd_12 (hb hby d14_1) 0 [] [] (fun T1 L1 X1 e1 N1 => ?_)
  refine own_ifYes X1 hx (pc' := 27) (hb hby d14_4) (teq rfl).1 (by decide) (by decide) ?_
  refine own_aloadN X1 hx (pc' := 28) (hb hby d14_27) rfl rfl rfl ?_
  refine own_getF X1 hx (pc' := 31) hZ hown (host := "") (Or.inl (Wd27 hw)) Via.refl e1 F_v (hb hby d14_28) rfl (fun T2 X2 e2 => ?_)
  obtain ⟨cl3, Ar3, q3, S3, M3, H3, G3⟩ := id V_b
  refine own_len X2 hx (pc' := 32) hZ e2 Ar3 S3 M3 (hb hby d14_31) rfl ?_
  refine own_iconst X2 hx (pc' := 33) (1 : Int32) (hb hby d14_32) rfl rfl ?_
  refine own_ishr X2 hx (pc' := 34) (hb hby d14_33) rfl ?_
  rw [hzq]
  refine own_istoreN X2 hx (pc' := 35) (Ls' := #[.val (.ref so), .val (.int (0 : Int32)), .val (.int q2)]) (hb hby d14_34) rfl rfl ?_
  refine own_iloadN X2 hx (pc' := 36) (hb hby d14_35) rfl rfl ?_
  refine own_iloadN X2 hx (pc' := 37) (hb hby d14_36) rfl rfl ?_
  refine own_cSV X2 hx (pc' := 40) hZ hown (Wd75 hw) (Wd76 hw) (Wd10 hw) (Wd77 hw) (rm_cks l Z a0 hw [] cz sv hcz hsv (0 : Int32) q2 h0 n0 Z0 (by decide) hi B_ST) e2 N1 hml pd_13 (hb hby d14_37) 0 [(.int (0 : Int32)), (.int q2)] [] (fun T4 L4 X4 e4 N4 => ?_)
  refine own_aloadN X4 hx (pc' := 41) (hb hby d14_40) rfl rfl rfl ?_
  refine own_getF X4 hx (pc' := 44) hZ hown (host := "") (Or.inl (Wd27 hw)) Via.refl e4 F_v (hb hby d14_41) rfl (fun T5 X5 e5 => ?_)
  refine own_iloadN X5 hx (pc' := 45) (hb hby d14_44) rfl rfl ?_
  refine own_iloadN X5 hx (pc' := 46) (hb hby d14_45) rfl rfl ?_
  refine own_cSI X5 hx (pc' := 49) hZ hown (Wd108 hw) (Wd109 hw) (Wd51 hw) (Wd110 hw) (rm_p3_n_0 l Z a0 hw [] cz sv hcz hsv ba kb z vs q2 uc ud h0 n0 Z0 hq V_b rc h1 h2 x1 x2 rd h3 h4 x3 x4 B_ST) e5 N4 hml pd_14 (hb hby d14_46) 0 [(.ref ba), (.int (0 : Int32)), (.int q2)] [] (fun T6 L6 X6 e6 N6 => ?_)
  refine own_retI X6 hx hlk hret (hb hby d14_49) (by decide) (by decide) ?_
  exact ⟨rfl, N6, e6⟩

theorem ef_rm_p4_n_1 (m : MethodId) (x0 : Addr) (x1 : Int32) (x2 : Int32) (x3 : Int32) : entryFrame m #[(.ref x0), (.int x1), (.int x2), (.int x3)] 6 = mkF m 0 #[.val (.ref x0), .val (.int x1), .val (.int x2), .val (.int x3), .unset, .unset] [] := by first | (simp [entryFrame, mkF, argsToLocals, Value.category, maxLocals]; done) | rfl
set_option maxRecDepth 65536 in
set_option maxHeartbeats 40000000 in
theorem rm_p4_n_1 (l : Launch) (Z : State) (a0 : Array Value) (hw : ∀ d ∈ tables_1, d.before a0 Z = true) (ws : List Jvm.Cond) (cz : Int32) (sv : Value) (hcz : ¬ cz = (0 : Int32)) (hsv : sv.isRef = true) (ba : Addr) (kb : ClassId) (z : Int32) (vs : List Value) (q2 : Int32) (uc ud : Int32) (h0 : Heap) (n0 : Nat) (Z0 : n0 ≤ h0.size) (hq : (2 : Int32) < q2) (V_b : Arv Z h0 ba kb .byte z vs (.int (0 : Int32))) (rc : own_ch uc) (h1 : (¬ (2 : Int32) < (0 : Int32) ∧ (2 : Int32) < z)) (h2 : (¬ (3 : Int32) < (0 : Int32) ∧ (3 : Int32) < z)) (x1 : vs.getD 2 (.int (0 : Int32)) = (.int (own_b0 uc))) (x2 : vs.getD 3 (.int (0 : Int32)) = (.int (own_b1 uc))) (rd : own_ch ud) (h3 : (¬ (4 : Int32) < (0 : Int32) ∧ (4 : Int32) < z)) (h4 : (¬ (5 : Int32) < (0 : Int32) ∧ (5 : Int32) < z)) (x3 : vs.getD 4 (.int (0 : Int32)) = (.int (own_b0 ud))) (x4 : vs.getD 5 (.int (0 : Int32)) = (.int (own_b1 ud))) (B_ST : own_ST n0 Z h0 cz sv) :
    own_M l Z (⟨"java/lang/StringUTF16", "codePointAt", "([BIIZ)I"⟩ : MethodName) jdk_52_method_7_code 6 (some .int) ws ({ frames := 1, cells := 0, slots := 0, locals := 13 } : Room) #[(.ref ba), (.int (1 : Int32)), (.int q2), (.int (0 : Int32))] h0  (Qint (own_cp2 uc ud) h0 n0) := by
  refine own_bodyM pf_23 ?_
  intro p e s m below meth c s₁ hx hby hml hown hnm hlk hret hZ X0 e0
  have N0 : Fr n0 [] := Fr.nil n0
  refine own_go (f' := (mkF m 0 #[.val (.ref ba), .val (.int (1 : Int32)), .val (.int q2), .val (.int (0 : Int32)), .unset, .unset] [])) (fun t k => castTop (ef_rm_p4_n_1 m ba (1 : Int32) q2 (0 : Int32)) k) ?_
  refine own_getS X0 hx (pc' := 3) hZ hown (host := "") (Or.inl (Wd102 hw)) Via.refl e0 (own_SB.sta B_ST.2.1) (hb hby d25_0) rfl (fun T1 X1 e1 => ?_)
  refine own_ifYes X1 hx (pc' := 19) (hb hby d25_3) (feq (by decide : ¬ ((1 : Int32) = (0 : Int32)))).2 (by decide) (by decide) ?_
  refine own_iloadN X1 hx (pc' := 20) (hb hby d25_19) rfl rfl ?_
  refine own_ifYes X1 hx (pc' := 28) (hb hby d25_20) (teq rfl).1 (by decide) (by decide) ?_
  refine own_aloadN X1 hx (pc' := 29) (hb hby d25_28) rfl rfl rfl ?_
  refine own_iloadN X1 hx (pc' := 30) (hb hby d25_29) rfl rfl ?_
  refine own_cSI X1 hx (pc' := 33) hZ hown (Wd105 hw) (Wd106 hw) (Wd51 hw) (Wd107 hw) (rm_gc_1 l Z a0 hw [] cz sv hcz hsv ba kb z vs uc h0 n0 Z0 V_b h1 h2 x1 x2 rc B_ST) e1 N0 hml pd_7 (hb hby d25_30) 0 [(.ref ba), (.int (1 : Int32))] [] (fun T2 L2 X2 e2 N2 => ?_)
  refine own_istore X2 hx (pc' := 35) (Ls' := #[.val (.ref ba), .val (.int (1 : Int32)), .val (.int q2), .val (.int (0 : Int32)), .val (.int uc), .unset]) (hb hby d25_33) rfl rfl ?_
  refine own_iload X2 hx (pc' := 37) (hb hby d25_35) rfl rfl ?_
  refine own_cSI X2 hx (pc' := 40) hZ hown (Wd114 hw) (Wd115 hw) (Wd86 hw) (Wd116 hw) (rm_ih l Z a0 hw []  uc h0 n0 Z0  ) e2 N2 hml pd_10 (hb hby d25_37) 0 [(.int uc)] [] (fun T3 L3 X3 e3 N3 => ?_)
  by_cases hc40_4 : (own_hiI uc) = (0 : Int32)
  · skip
    refine own_ifYes X3 hx (pc' := 83) (hb hby d25_40) (teq hc40_4).1 (by decide) (by decide) ?_
    refine own_iload X3 hx (pc' := 85) (hb hby d25_83) rfl rfl ?_
    refine own_retI X3 hx hlk hret (hb hby d25_85) (by decide) (by decide) ?_
    exact ⟨by simp only [own_cp2, hc40_4, if_true, if_false], N3, e3⟩
  · skip
    refine own_ifNo X3 hx (pc' := 43) (hb hby d25_40) (feq hc40_4).1 rfl ?_
    refine own_iinc X3 hx (pc' := 46) (Ls' := #[.val (.ref ba), .val (.int (2 : Int32)), .val (.int q2), .val (.int (0 : Int32)), .val (.int uc), .unset]) (hb hby d25_43) rfl rfl rfl ?_
    refine own_iloadN X3 hx (pc' := 47) (hb hby d25_46) rfl rfl ?_
    refine own_iloadN X3 hx (pc' := 48) (hb hby d25_47) rfl rfl ?_
    refine own_icmpNo X3 hx (pc' := 51) (hb hby d25_48) (tlt hq).2.1 rfl ?_
    refine own_iloadN X3 hx (pc' := 52) (hb hby d25_51) rfl rfl ?_
    refine own_ifYes X3 hx (pc' := 60) (hb hby d25_52) (teq rfl).1 (by decide) (by decide) ?_
    refine own_aloadN X3 hx (pc' := 61) (hb hby d25_60) rfl rfl rfl ?_
    refine own_iloadN X3 hx (pc' := 62) (hb hby d25_61) rfl rfl ?_
    refine own_cSI X3 hx (pc' := 65) hZ hown (Wd105 hw) (Wd106 hw) (Wd51 hw) (Wd107 hw) (rm_gc_2 l Z a0 hw [] cz sv hcz hsv ba kb z vs ud h0 n0 Z0 V_b h3 h4 x3 x4 rd B_ST) e3 N3 hml pd_7 (hb hby d25_62) 0 [(.ref ba), (.int (2 : Int32))] [] (fun T5 L5 X5 e5 N5 => ?_)
    refine own_istore X5 hx (pc' := 67) (Ls' := #[.val (.ref ba), .val (.int (2 : Int32)), .val (.int q2), .val (.int (0 : Int32)), .val (.int uc), .val (.int ud)]) (hb hby d25_65) rfl rfl ?_
    refine own_iload X5 hx (pc' := 69) (hb hby d25_67) rfl rfl ?_
    refine own_cSI X5 hx (pc' := 72) hZ hown (Wd122 hw) (Wd123 hw) (Wd86 hw) (Wd124 hw) (rm_il l Z a0 hw []  ud h0 n0 Z0  ) e5 N5 hml pd_10 (hb hby d25_69) 0 [(.int ud)] [] (fun T6 L6 X6 e6 N6 => ?_)
    by_cases hc72_7 : (own_loI ud) = (0 : Int32)
    · skip
      refine own_ifYes X6 hx (pc' := 83) (hb hby d25_72) (teq hc72_7).1 (by decide) (by decide) ?_
      refine own_iload X6 hx (pc' := 85) (hb hby d25_83) rfl rfl ?_
      refine own_retI X6 hx hlk hret (hb hby d25_85) (by decide) (by decide) ?_
      exact ⟨by simp only [own_cp2, hc40_4, hc72_7, if_true, if_false], N6, e6⟩
    · skip
      refine own_ifNo X6 hx (pc' := 75) (hb hby d25_72) (feq hc72_7).1 rfl ?_
      refine own_iload X6 hx (pc' := 77) (hb hby d25_75) rfl rfl ?_
      refine own_iload X6 hx (pc' := 79) (hb hby d25_77) rfl rfl ?_
      refine own_cSI X6 hx (pc' := 82) hZ hown (Wd126 hw) (Wd127 hw) (Wd86 hw) (Wd128 hw) (rm_tcp l Z a0 hw []  uc ud h0 n0 Z0  ) e6 N6 hml pd_15 (hb hby d25_79) 0 [(.int uc), (.int ud)] [] (fun T8 L8 X8 e8 N8 => ?_)
      refine own_retI X8 hx hlk hret (hb hby d25_82) (by decide) (by decide) ?_
      exact ⟨by simp only [own_cp2, hc40_4, hc72_7, if_true, if_false], N8, e8⟩

theorem ef_rm_p3_n_1 (m : MethodId) (x0 : Addr) (x1 : Int32) (x2 : Int32) : entryFrame m #[(.ref x0), (.int x1), (.int x2)] 3 = mkF m 0 #[.val (.ref x0), .val (.int x1), .val (.int x2)] [] := by first | (simp [entryFrame, mkF, argsToLocals, Value.category, maxLocals]; done) | rfl
set_option maxRecDepth 65536 in
set_option maxHeartbeats 40000000 in
theorem rm_p3_n_1 (l : Launch) (Z : State) (a0 : Array Value) (hw : ∀ d ∈ tables_1, d.before a0 Z = true) (ws : List Jvm.Cond) (cz : Int32) (sv : Value) (hcz : ¬ cz = (0 : Int32)) (hsv : sv.isRef = true) (ba : Addr) (kb : ClassId) (z : Int32) (vs : List Value) (q2 : Int32) (uc ud : Int32) (h0 : Heap) (n0 : Nat) (Z0 : n0 ≤ h0.size) (hq : (2 : Int32) < q2) (V_b : Arv Z h0 ba kb .byte z vs (.int (0 : Int32))) (rc : own_ch uc) (h1 : (¬ (2 : Int32) < (0 : Int32) ∧ (2 : Int32) < z)) (h2 : (¬ (3 : Int32) < (0 : Int32) ∧ (3 : Int32) < z)) (x1 : vs.getD 2 (.int (0 : Int32)) = (.int (own_b0 uc))) (x2 : vs.getD 3 (.int (0 : Int32)) = (.int (own_b1 uc))) (rd : own_ch ud) (h3 : (¬ (4 : Int32) < (0 : Int32) ∧ (4 : Int32) < z)) (h4 : (¬ (5 : Int32) < (0 : Int32) ∧ (5 : Int32) < z)) (x3 : vs.getD 4 (.int (0 : Int32)) = (.int (own_b0 ud))) (x4 : vs.getD 5 (.int (0 : Int32)) = (.int (own_b1 ud))) (B_ST : own_ST n0 Z h0 cz sv) :
    own_M l Z (⟨"java/lang/StringUTF16", "codePointAt", "([BII)I"⟩ : MethodName) jdk_52_method_8_code 3 (some .int) ws ({ frames := 2, cells := 0, slots := 0, locals := 30 } : Room) #[(.ref ba), (.int (1 : Int32)), (.int q2)] h0  (Qint (own_cp2 uc ud) h0 n0) := by
  refine own_bodyM pf_24 ?_
  intro p e s m below meth c s₁ hx hby hml hown hnm hlk hret hZ X0 e0
  have N0 : Fr n0 [] := Fr.nil n0
  refine own_go (f' := (mkF m 0 #[.val (.ref ba), .val (.int (1 : Int32)), .val (.int q2)] [])) (fun t k => castTop (ef_rm_p3_n_1 m ba (1 : Int32) q2) k) ?_
  refine own_aloadN X0 hx (pc' := 1) (hb hby d24_0) rfl rfl rfl ?_
  refine own_iloadN X0 hx (pc' := 2) (hb hby d24_1) rfl rfl ?_
  refine own_iloadN X0 hx (pc' := 3) (hb hby d24_2) rfl rfl ?_
  refine own_iconst X0 hx (pc' := 4) (0 : Int32) (hb hby d24_3) rfl rfl ?_
  refine own_cSI X0 hx (pc' := 7) hZ hown (Wd111 hw) (Wd112 hw) (Wd51 hw) (Wd113 hw) (rm_p4_n_1 l Z a0 hw [] cz sv hcz hsv ba kb z vs q2 uc ud h0 n0 Z0 hq V_b rc h1 h2 x1 x2 rd h3 h4 x3 x4 B_ST) e0 N0 hml pd_11 (hb hby d24_4) 0 [(.ref ba), (.int (1 : Int32)), (.int q2), (.int (0 : Int32))] [] (fun T1 L1 X1 e1 N1 => ?_)
  refine own_retI X1 hx hlk hret (hb hby d24_7) (by decide) (by decide) ?_
  exact ⟨rfl, N1, e1⟩

theorem ef_rm_pu_n_1 (m : MethodId) (x0 : Addr) (x1 : Int32) : entryFrame m #[(.ref x0), (.int x1)] 3 = mkF m 0 #[.val (.ref x0), .val (.int x1), .unset] [] := by first | (simp [entryFrame, mkF, argsToLocals, Value.category, maxLocals]; done) | rfl
set_option maxRecDepth 65536 in
set_option maxHeartbeats 40000000 in
theorem rm_pu_n_1 (l : Launch) (Z : State) (a0 : Array Value) (hw : ∀ d ∈ tables_1, d.before a0 Z = true) (ws : List Jvm.Cond) (cz : Int32) (sv : Value) (hcz : ¬ cz = (0 : Int32)) (hsv : sv.isRef = true) (so : Addr) (ba : Addr) (kb : ClassId) (z : Int32) (vs : List Value) (q2 : Int32) (uc ud : Int32) (h0 : Heap) (n0 : Nat) (Z0 : n0 ≤ h0.size) (E_s : Exa Z h0 so "java/lang/String") (F_c : Fld Z h0 so "java/lang/String" "coder" "B" (.int (1 : Int32))) (F_v : Fld Z h0 so "java/lang/String" "value" "[B" (.ref ba)) (hzq : (z >>> ((1 : Int32) &&& 31)) = q2) (hi : (1 : Int32) < q2) (hq : (2 : Int32) < q2) (V_b : Arv Z h0 ba kb .byte z vs (.int (0 : Int32))) (rc : own_ch uc) (h1 : (¬ (2 : Int32) < (0 : Int32) ∧ (2 : Int32) < z)) (h2 : (¬ (3 : Int32) < (0 : Int32) ∧ (3 : Int32) < z)) (x1 : vs.getD 2 (.int (0 : Int32)) = (.int (own_b0 uc))) (x2 : vs.getD 3 (.int (0 : Int32)) = (.int (own_b1 uc))) (rd : own_ch ud) (h3 : (¬ (4 : Int32) < (0 : Int32) ∧ (4 : Int32) < z)) (h4 : (¬ (5 : Int32) < (0 : Int32) ∧ (5 : Int32) < z)) (x3 : vs.getD 4 (.int (0 : Int32)) = (.int (own_b0 ud))) (x4 : vs.getD 5 (.int (0 : Int32)) = (.int (own_b1 ud))) (B_ST : own_ST n0 Z h0 cz sv) :
    own_M l Z (⟨"java/lang/String", "codePointAt", "(I)I"⟩ : MethodName) jdk_42_method_57_code 3 (some .int) ws ({ frames := 3, cells := 0, slots := 0, locals := 44 } : Room) #[(.ref so), (.int (1 : Int32))] h0  (Qint (own_cp2 uc ud) h0 n0) := by
  refine own_bodyM pf_25 ?_
  intro p e s m below meth c s₁ hx hby hml hown hnm hlk hret hZ X0 e0
  have N0 : Fr n0 [] := Fr.nil n0
  refine own_go (f' := (mkF m 0 #[.val (.ref so), .val (.int (1 : Int32)), .unset] [])) (fun t k => castTop (ef_rm_pu_n_1 m so (1 : Int32)) k) ?_
  refine own_aloadN X0 hx (pc' := 1) (hb hby d14_0) rfl rfl rfl ?_
  refine own_cVI X0 hx (pc' := 4) hZ hown (Wd70 hw) (Wd72 hw) (Wd73 hw) (Wd74 hw) (Wd10 hw) (rm_il1 l Z a0 hw [] cz sv hcz hsv so h0 n0 Z0 F_c B_ST) e0 E_s N0 hml pd_12 (hb hby d14_1) 0 [] [] (fun T1 L1 X1 e1 N1 => ?_)
  refine own_ifYes X1 hx (pc' := 27) (hb hby d14_4) (teq rfl).1 (by decide) (by decide) ?_
  refine own_aloadN X1 hx (pc' := 28) (hb hby d14_27) rfl rfl rfl ?_
  refine own_getF X1 hx (pc' := 31) hZ hown (host := "") (Or.inl (Wd27 hw)) Via.refl e1 F_v (hb hby d14_28) rfl (fun T2 X2 e2 => ?_)
  obtain ⟨cl3, Ar3, q3, S3, M3, H3, G3⟩ := id V_b
  refine own_len X2 hx (pc' := 32) hZ e2 Ar3 S3 M3 (hb hby d14_31) rfl ?_
  refine own_iconst X2 hx (pc' := 33) (1 : Int32) (hb hby d14_32) rfl rfl ?_
  refine own_ishr X2 hx (pc' := 34) (hb hby d14_33) rfl ?_
  rw [hzq]
  refine own_istoreN X2 hx (pc' := 35) (Ls' := #[.val (.ref so), .val (.int (1 : Int32)), .val (.int q2)]) (hb hby d14_34) rfl rfl ?_
  refine own_iloadN X2 hx (pc' := 36) (hb hby d14_35) rfl rfl ?_
  refine own_iloadN X2 hx (pc' := 37) (hb hby d14_36) rfl rfl ?_
  refine own_cSV X2 hx (pc' := 40) hZ hown (Wd75 hw) (Wd76 hw) (Wd10 hw) (Wd77 hw) (rm_cks l Z a0 hw [] cz sv hcz hsv (1 : Int32) q2 h0 n0 Z0 (by decide) hi B_ST) e2 N1 hml pd_13 (hb hby d14_37) 0 [(.int (1 : Int32)), (.int q2)] [] (fun T4 L4 X4 e4 N4 => ?_)
  refine own_aloadN X4 hx (pc' := 41) (hb hby d14_40) rfl rfl rfl ?_
  refine own_getF X4 hx (pc' := 44) hZ hown (host := "") (Or.inl (Wd27 hw)) Via.refl e4 F_v (hb hby d14_41) rfl (fun T5 X5 e5 => ?_)
  refine own_iloadN X5 hx (pc' := 45) (hb hby d14_44) rfl rfl ?_
  refine own_iloadN X5 hx (pc' := 46) (hb hby d14_45) rfl rfl ?_
  refine own_cSI X5 hx (pc' := 49) hZ hown (Wd108 hw) (Wd109 hw) (Wd51 hw) (Wd110 hw) (rm_p3_n_1 l Z a0 hw [] cz sv hcz hsv ba kb z vs q2 uc ud h0 n0 Z0 hq V_b rc h1 h2 x1 x2 rd h3 h4 x3 x4 B_ST) e5 N4 hml pd_14 (hb hby d14_46) 0 [(.ref ba), (.int (1 : Int32)), (.int q2)] [] (fun T6 L6 X6 e6 N6 => ?_)
  refine own_retI X6 hx hlk hret (hb hby d14_49) (by decide) (by decide) ?_
  exact ⟨rfl, N6, e6⟩

theorem ef_rm_p4_n_2 (m : MethodId) (x0 : Addr) (x1 : Int32) (x2 : Int32) (x3 : Int32) : entryFrame m #[(.ref x0), (.int x1), (.int x2), (.int x3)] 6 = mkF m 0 #[.val (.ref x0), .val (.int x1), .val (.int x2), .val (.int x3), .unset, .unset] [] := by first | (simp [entryFrame, mkF, argsToLocals, Value.category, maxLocals]; done) | rfl
set_option maxRecDepth 65536 in
set_option maxHeartbeats 40000000 in
theorem rm_p4_n_2 (l : Launch) (Z : State) (a0 : Array Value) (hw : ∀ d ∈ tables_1, d.before a0 Z = true) (ws : List Jvm.Cond) (cz : Int32) (sv : Value) (hcz : ¬ cz = (0 : Int32)) (hsv : sv.isRef = true) (ba : Addr) (kb : ClassId) (z : Int32) (vs : List Value) (q2 : Int32) (uc ud : Int32) (h0 : Heap) (n0 : Nat) (Z0 : n0 ≤ h0.size) (hq : (3 : Int32) < q2) (V_b : Arv Z h0 ba kb .byte z vs (.int (0 : Int32))) (rc : own_ch uc) (h1 : (¬ (4 : Int32) < (0 : Int32) ∧ (4 : Int32) < z)) (h2 : (¬ (5 : Int32) < (0 : Int32) ∧ (5 : Int32) < z)) (x1 : vs.getD 4 (.int (0 : Int32)) = (.int (own_b0 uc))) (x2 : vs.getD 5 (.int (0 : Int32)) = (.int (own_b1 uc))) (rd : own_ch ud) (h3 : (¬ (6 : Int32) < (0 : Int32) ∧ (6 : Int32) < z)) (h4 : (¬ (7 : Int32) < (0 : Int32) ∧ (7 : Int32) < z)) (x3 : vs.getD 6 (.int (0 : Int32)) = (.int (own_b0 ud))) (x4 : vs.getD 7 (.int (0 : Int32)) = (.int (own_b1 ud))) (B_ST : own_ST n0 Z h0 cz sv) :
    own_M l Z (⟨"java/lang/StringUTF16", "codePointAt", "([BIIZ)I"⟩ : MethodName) jdk_52_method_7_code 6 (some .int) ws ({ frames := 1, cells := 0, slots := 0, locals := 13 } : Room) #[(.ref ba), (.int (2 : Int32)), (.int q2), (.int (0 : Int32))] h0  (Qint (own_cp2 uc ud) h0 n0) := by
  refine own_bodyM pf_23 ?_
  intro p e s m below meth c s₁ hx hby hml hown hnm hlk hret hZ X0 e0
  have N0 : Fr n0 [] := Fr.nil n0
  refine own_go (f' := (mkF m 0 #[.val (.ref ba), .val (.int (2 : Int32)), .val (.int q2), .val (.int (0 : Int32)), .unset, .unset] [])) (fun t k => castTop (ef_rm_p4_n_2 m ba (2 : Int32) q2 (0 : Int32)) k) ?_
  refine own_getS X0 hx (pc' := 3) hZ hown (host := "") (Or.inl (Wd102 hw)) Via.refl e0 (own_SB.sta B_ST.2.1) (hb hby d25_0) rfl (fun T1 X1 e1 => ?_)
  refine own_ifYes X1 hx (pc' := 19) (hb hby d25_3) (feq (by decide : ¬ ((1 : Int32) = (0 : Int32)))).2 (by decide) (by decide) ?_
  refine own_iloadN X1 hx (pc' := 20) (hb hby d25_19) rfl rfl ?_
  refine own_ifYes X1 hx (pc' := 28) (hb hby d25_20) (teq rfl).1 (by decide) (by decide) ?_
  refine own_aloadN X1 hx (pc' := 29) (hb hby d25_28) rfl rfl rfl ?_
  refine own_iloadN X1 hx (pc' := 30) (hb hby d25_29) rfl rfl ?_
  refine own_cSI X1 hx (pc' := 33) hZ hown (Wd105 hw) (Wd106 hw) (Wd51 hw) (Wd107 hw) (rm_gc_2 l Z a0 hw [] cz sv hcz hsv ba kb z vs uc h0 n0 Z0 V_b h1 h2 x1 x2 rc B_ST) e1 N0 hml pd_7 (hb hby d25_30) 0 [(.ref ba), (.int (2 : Int32))] [] (fun T2 L2 X2 e2 N2 => ?_)
  refine own_istore X2 hx (pc' := 35) (Ls' := #[.val (.ref ba), .val (.int (2 : Int32)), .val (.int q2), .val (.int (0 : Int32)), .val (.int uc), .unset]) (hb hby d25_33) rfl rfl ?_
  refine own_iload X2 hx (pc' := 37) (hb hby d25_35) rfl rfl ?_
  refine own_cSI X2 hx (pc' := 40) hZ hown (Wd114 hw) (Wd115 hw) (Wd86 hw) (Wd116 hw) (rm_ih l Z a0 hw []  uc h0 n0 Z0  ) e2 N2 hml pd_10 (hb hby d25_37) 0 [(.int uc)] [] (fun T3 L3 X3 e3 N3 => ?_)
  by_cases hc40_4 : (own_hiI uc) = (0 : Int32)
  · skip
    refine own_ifYes X3 hx (pc' := 83) (hb hby d25_40) (teq hc40_4).1 (by decide) (by decide) ?_
    refine own_iload X3 hx (pc' := 85) (hb hby d25_83) rfl rfl ?_
    refine own_retI X3 hx hlk hret (hb hby d25_85) (by decide) (by decide) ?_
    exact ⟨by simp only [own_cp2, hc40_4, if_true, if_false], N3, e3⟩
  · skip
    refine own_ifNo X3 hx (pc' := 43) (hb hby d25_40) (feq hc40_4).1 rfl ?_
    refine own_iinc X3 hx (pc' := 46) (Ls' := #[.val (.ref ba), .val (.int (3 : Int32)), .val (.int q2), .val (.int (0 : Int32)), .val (.int uc), .unset]) (hb hby d25_43) rfl rfl rfl ?_
    refine own_iloadN X3 hx (pc' := 47) (hb hby d25_46) rfl rfl ?_
    refine own_iloadN X3 hx (pc' := 48) (hb hby d25_47) rfl rfl ?_
    refine own_icmpNo X3 hx (pc' := 51) (hb hby d25_48) (tlt hq).2.1 rfl ?_
    refine own_iloadN X3 hx (pc' := 52) (hb hby d25_51) rfl rfl ?_
    refine own_ifYes X3 hx (pc' := 60) (hb hby d25_52) (teq rfl).1 (by decide) (by decide) ?_
    refine own_aloadN X3 hx (pc' := 61) (hb hby d25_60) rfl rfl rfl ?_
    refine own_iloadN X3 hx (pc' := 62) (hb hby d25_61) rfl rfl ?_
    refine own_cSI X3 hx (pc' := 65) hZ hown (Wd105 hw) (Wd106 hw) (Wd51 hw) (Wd107 hw) (rm_gc_3 l Z a0 hw [] cz sv hcz hsv ba kb z vs ud h0 n0 Z0 V_b h3 h4 x3 x4 rd B_ST) e3 N3 hml pd_7 (hb hby d25_62) 0 [(.ref ba), (.int (3 : Int32))] [] (fun T5 L5 X5 e5 N5 => ?_)
    refine own_istore X5 hx (pc' := 67) (Ls' := #[.val (.ref ba), .val (.int (3 : Int32)), .val (.int q2), .val (.int (0 : Int32)), .val (.int uc), .val (.int ud)]) (hb hby d25_65) rfl rfl ?_
    refine own_iload X5 hx (pc' := 69) (hb hby d25_67) rfl rfl ?_
    refine own_cSI X5 hx (pc' := 72) hZ hown (Wd122 hw) (Wd123 hw) (Wd86 hw) (Wd124 hw) (rm_il l Z a0 hw []  ud h0 n0 Z0  ) e5 N5 hml pd_10 (hb hby d25_69) 0 [(.int ud)] [] (fun T6 L6 X6 e6 N6 => ?_)
    by_cases hc72_7 : (own_loI ud) = (0 : Int32)
    · skip
      refine own_ifYes X6 hx (pc' := 83) (hb hby d25_72) (teq hc72_7).1 (by decide) (by decide) ?_
      refine own_iload X6 hx (pc' := 85) (hb hby d25_83) rfl rfl ?_
      refine own_retI X6 hx hlk hret (hb hby d25_85) (by decide) (by decide) ?_
      exact ⟨by simp only [own_cp2, hc40_4, hc72_7, if_true, if_false], N6, e6⟩
    · skip
      refine own_ifNo X6 hx (pc' := 75) (hb hby d25_72) (feq hc72_7).1 rfl ?_
      refine own_iload X6 hx (pc' := 77) (hb hby d25_75) rfl rfl ?_
      refine own_iload X6 hx (pc' := 79) (hb hby d25_77) rfl rfl ?_
      refine own_cSI X6 hx (pc' := 82) hZ hown (Wd126 hw) (Wd127 hw) (Wd86 hw) (Wd128 hw) (rm_tcp l Z a0 hw []  uc ud h0 n0 Z0  ) e6 N6 hml pd_15 (hb hby d25_79) 0 [(.int uc), (.int ud)] [] (fun T8 L8 X8 e8 N8 => ?_)
      refine own_retI X8 hx hlk hret (hb hby d25_82) (by decide) (by decide) ?_
      exact ⟨by simp only [own_cp2, hc40_4, hc72_7, if_true, if_false], N8, e8⟩

theorem ef_rm_p3_n_2 (m : MethodId) (x0 : Addr) (x1 : Int32) (x2 : Int32) : entryFrame m #[(.ref x0), (.int x1), (.int x2)] 3 = mkF m 0 #[.val (.ref x0), .val (.int x1), .val (.int x2)] [] := by first | (simp [entryFrame, mkF, argsToLocals, Value.category, maxLocals]; done) | rfl
set_option maxRecDepth 65536 in
set_option maxHeartbeats 40000000 in
theorem rm_p3_n_2 (l : Launch) (Z : State) (a0 : Array Value) (hw : ∀ d ∈ tables_1, d.before a0 Z = true) (ws : List Jvm.Cond) (cz : Int32) (sv : Value) (hcz : ¬ cz = (0 : Int32)) (hsv : sv.isRef = true) (ba : Addr) (kb : ClassId) (z : Int32) (vs : List Value) (q2 : Int32) (uc ud : Int32) (h0 : Heap) (n0 : Nat) (Z0 : n0 ≤ h0.size) (hq : (3 : Int32) < q2) (V_b : Arv Z h0 ba kb .byte z vs (.int (0 : Int32))) (rc : own_ch uc) (h1 : (¬ (4 : Int32) < (0 : Int32) ∧ (4 : Int32) < z)) (h2 : (¬ (5 : Int32) < (0 : Int32) ∧ (5 : Int32) < z)) (x1 : vs.getD 4 (.int (0 : Int32)) = (.int (own_b0 uc))) (x2 : vs.getD 5 (.int (0 : Int32)) = (.int (own_b1 uc))) (rd : own_ch ud) (h3 : (¬ (6 : Int32) < (0 : Int32) ∧ (6 : Int32) < z)) (h4 : (¬ (7 : Int32) < (0 : Int32) ∧ (7 : Int32) < z)) (x3 : vs.getD 6 (.int (0 : Int32)) = (.int (own_b0 ud))) (x4 : vs.getD 7 (.int (0 : Int32)) = (.int (own_b1 ud))) (B_ST : own_ST n0 Z h0 cz sv) :
    own_M l Z (⟨"java/lang/StringUTF16", "codePointAt", "([BII)I"⟩ : MethodName) jdk_52_method_8_code 3 (some .int) ws ({ frames := 2, cells := 0, slots := 0, locals := 30 } : Room) #[(.ref ba), (.int (2 : Int32)), (.int q2)] h0  (Qint (own_cp2 uc ud) h0 n0) := by
  refine own_bodyM pf_24 ?_
  intro p e s m below meth c s₁ hx hby hml hown hnm hlk hret hZ X0 e0
  have N0 : Fr n0 [] := Fr.nil n0
  refine own_go (f' := (mkF m 0 #[.val (.ref ba), .val (.int (2 : Int32)), .val (.int q2)] [])) (fun t k => castTop (ef_rm_p3_n_2 m ba (2 : Int32) q2) k) ?_
  refine own_aloadN X0 hx (pc' := 1) (hb hby d24_0) rfl rfl rfl ?_
  refine own_iloadN X0 hx (pc' := 2) (hb hby d24_1) rfl rfl ?_
  refine own_iloadN X0 hx (pc' := 3) (hb hby d24_2) rfl rfl ?_
  refine own_iconst X0 hx (pc' := 4) (0 : Int32) (hb hby d24_3) rfl rfl ?_
  refine own_cSI X0 hx (pc' := 7) hZ hown (Wd111 hw) (Wd112 hw) (Wd51 hw) (Wd113 hw) (rm_p4_n_2 l Z a0 hw [] cz sv hcz hsv ba kb z vs q2 uc ud h0 n0 Z0 hq V_b rc h1 h2 x1 x2 rd h3 h4 x3 x4 B_ST) e0 N0 hml pd_11 (hb hby d24_4) 0 [(.ref ba), (.int (2 : Int32)), (.int q2), (.int (0 : Int32))] [] (fun T1 L1 X1 e1 N1 => ?_)
  refine own_retI X1 hx hlk hret (hb hby d24_7) (by decide) (by decide) ?_
  exact ⟨rfl, N1, e1⟩

theorem ef_rm_pu_n_2 (m : MethodId) (x0 : Addr) (x1 : Int32) : entryFrame m #[(.ref x0), (.int x1)] 3 = mkF m 0 #[.val (.ref x0), .val (.int x1), .unset] [] := by first | (simp [entryFrame, mkF, argsToLocals, Value.category, maxLocals]; done) | rfl
set_option maxRecDepth 65536 in
set_option maxHeartbeats 40000000 in
theorem rm_pu_n_2 (l : Launch) (Z : State) (a0 : Array Value) (hw : ∀ d ∈ tables_1, d.before a0 Z = true) (ws : List Jvm.Cond) (cz : Int32) (sv : Value) (hcz : ¬ cz = (0 : Int32)) (hsv : sv.isRef = true) (so : Addr) (ba : Addr) (kb : ClassId) (z : Int32) (vs : List Value) (q2 : Int32) (uc ud : Int32) (h0 : Heap) (n0 : Nat) (Z0 : n0 ≤ h0.size) (E_s : Exa Z h0 so "java/lang/String") (F_c : Fld Z h0 so "java/lang/String" "coder" "B" (.int (1 : Int32))) (F_v : Fld Z h0 so "java/lang/String" "value" "[B" (.ref ba)) (hzq : (z >>> ((1 : Int32) &&& 31)) = q2) (hi : (2 : Int32) < q2) (hq : (3 : Int32) < q2) (V_b : Arv Z h0 ba kb .byte z vs (.int (0 : Int32))) (rc : own_ch uc) (h1 : (¬ (4 : Int32) < (0 : Int32) ∧ (4 : Int32) < z)) (h2 : (¬ (5 : Int32) < (0 : Int32) ∧ (5 : Int32) < z)) (x1 : vs.getD 4 (.int (0 : Int32)) = (.int (own_b0 uc))) (x2 : vs.getD 5 (.int (0 : Int32)) = (.int (own_b1 uc))) (rd : own_ch ud) (h3 : (¬ (6 : Int32) < (0 : Int32) ∧ (6 : Int32) < z)) (h4 : (¬ (7 : Int32) < (0 : Int32) ∧ (7 : Int32) < z)) (x3 : vs.getD 6 (.int (0 : Int32)) = (.int (own_b0 ud))) (x4 : vs.getD 7 (.int (0 : Int32)) = (.int (own_b1 ud))) (B_ST : own_ST n0 Z h0 cz sv) :
    own_M l Z (⟨"java/lang/String", "codePointAt", "(I)I"⟩ : MethodName) jdk_42_method_57_code 3 (some .int) ws ({ frames := 3, cells := 0, slots := 0, locals := 44 } : Room) #[(.ref so), (.int (2 : Int32))] h0  (Qint (own_cp2 uc ud) h0 n0) := by
  refine own_bodyM pf_25 ?_
  intro p e s m below meth c s₁ hx hby hml hown hnm hlk hret hZ X0 e0
  have N0 : Fr n0 [] := Fr.nil n0
  refine own_go (f' := (mkF m 0 #[.val (.ref so), .val (.int (2 : Int32)), .unset] [])) (fun t k => castTop (ef_rm_pu_n_2 m so (2 : Int32)) k) ?_
  refine own_aloadN X0 hx (pc' := 1) (hb hby d14_0) rfl rfl rfl ?_
  refine own_cVI X0 hx (pc' := 4) hZ hown (Wd70 hw) (Wd72 hw) (Wd73 hw) (Wd74 hw) (Wd10 hw) (rm_il1 l Z a0 hw [] cz sv hcz hsv so h0 n0 Z0 F_c B_ST) e0 E_s N0 hml pd_12 (hb hby d14_1) 0 [] [] (fun T1 L1 X1 e1 N1 => ?_)
  refine own_ifYes X1 hx (pc' := 27) (hb hby d14_4) (teq rfl).1 (by decide) (by decide) ?_
  refine own_aloadN X1 hx (pc' := 28) (hb hby d14_27) rfl rfl rfl ?_
  refine own_getF X1 hx (pc' := 31) hZ hown (host := "") (Or.inl (Wd27 hw)) Via.refl e1 F_v (hb hby d14_28) rfl (fun T2 X2 e2 => ?_)
  obtain ⟨cl3, Ar3, q3, S3, M3, H3, G3⟩ := id V_b
  refine own_len X2 hx (pc' := 32) hZ e2 Ar3 S3 M3 (hb hby d14_31) rfl ?_
  refine own_iconst X2 hx (pc' := 33) (1 : Int32) (hb hby d14_32) rfl rfl ?_
  refine own_ishr X2 hx (pc' := 34) (hb hby d14_33) rfl ?_
  rw [hzq]
  refine own_istoreN X2 hx (pc' := 35) (Ls' := #[.val (.ref so), .val (.int (2 : Int32)), .val (.int q2)]) (hb hby d14_34) rfl rfl ?_
  refine own_iloadN X2 hx (pc' := 36) (hb hby d14_35) rfl rfl ?_
  refine own_iloadN X2 hx (pc' := 37) (hb hby d14_36) rfl rfl ?_
  refine own_cSV X2 hx (pc' := 40) hZ hown (Wd75 hw) (Wd76 hw) (Wd10 hw) (Wd77 hw) (rm_cks l Z a0 hw [] cz sv hcz hsv (2 : Int32) q2 h0 n0 Z0 (by decide) hi B_ST) e2 N1 hml pd_13 (hb hby d14_37) 0 [(.int (2 : Int32)), (.int q2)] [] (fun T4 L4 X4 e4 N4 => ?_)
  refine own_aloadN X4 hx (pc' := 41) (hb hby d14_40) rfl rfl rfl ?_
  refine own_getF X4 hx (pc' := 44) hZ hown (host := "") (Or.inl (Wd27 hw)) Via.refl e4 F_v (hb hby d14_41) rfl (fun T5 X5 e5 => ?_)
  refine own_iloadN X5 hx (pc' := 45) (hb hby d14_44) rfl rfl ?_
  refine own_iloadN X5 hx (pc' := 46) (hb hby d14_45) rfl rfl ?_
  refine own_cSI X5 hx (pc' := 49) hZ hown (Wd108 hw) (Wd109 hw) (Wd51 hw) (Wd110 hw) (rm_p3_n_2 l Z a0 hw [] cz sv hcz hsv ba kb z vs q2 uc ud h0 n0 Z0 hq V_b rc h1 h2 x1 x2 rd h3 h4 x3 x4 B_ST) e5 N4 hml pd_14 (hb hby d14_46) 0 [(.ref ba), (.int (2 : Int32)), (.int q2)] [] (fun T6 L6 X6 e6 N6 => ?_)
  refine own_retI X6 hx hlk hret (hb hby d14_49) (by decide) (by decide) ?_
  exact ⟨rfl, N6, e6⟩

theorem ef_rm_pl_0 (m : MethodId) (x0 : Addr) (x1 : Int32) : entryFrame m #[(.ref x0), (.int x1)] 3 = mkF m 0 #[.val (.ref x0), .val (.int x1), .unset] [] := by first | (simp [entryFrame, mkF, argsToLocals, Value.category, maxLocals]; done) | rfl
set_option maxRecDepth 65536 in
set_option maxHeartbeats 40000000 in
theorem rm_pl_0 (l : Launch) (Z : State) (a0 : Array Value) (hw : ∀ d ∈ tables_1, d.before a0 Z = true) (ws : List Jvm.Cond) (cz : Int32) (sv : Value) (hcz : ¬ cz = (0 : Int32)) (hsv : sv.isRef = true) (so : Addr) (ba : Addr) (kb : ClassId) (z : Int32) (vs : List Value) (uc r : Int32) (h0 : Heap) (n0 : Nat) (Z0 : n0 ≤ h0.size) (E_s : Exa Z h0 so "java/lang/String") (F_c : Fld Z h0 so "java/lang/String" "coder" "B" (.int (0 : Int32))) (F_v : Fld Z h0 so "java/lang/String" "value" "[B" (.ref ba)) (V_b : Arv Z h0 ba kb .byte z vs (.int (0 : Int32))) (rc : own_ch uc) (hl : ¬ (255 : Int32) < uc) (hr : r = uc) (h1 : (¬ (0 : Int32) < (0 : Int32) ∧ (0 : Int32) < z)) (x1 : vs.getD 0 (.int (0 : Int32)) = (.int (own_lb uc))) (B_ST : own_ST n0 Z h0 cz sv) :
    own_M l Z (⟨"java/lang/String", "codePointAt", "(I)I"⟩ : MethodName) jdk_42_method_57_code 3 (some .int) ws ({ frames := 3, cells := 0, slots := 0, locals := 44 } : Room) #[(.ref so), (.int (0 : Int32))] h0  (Qint r h0 n0) := by
  refine own_bodyM pf_25 ?_
  intro p e s m below meth c s₁ hx hby hml hown hnm hlk hret hZ X0 e0
  have N0 : Fr n0 [] := Fr.nil n0
  refine own_go (f' := (mkF m 0 #[.val (.ref so), .val (.int (0 : Int32)), .unset] [])) (fun t k => castTop (ef_rm_pl_0 m so (0 : Int32)) k) ?_
  refine own_aloadN X0 hx (pc' := 1) (hb hby d14_0) rfl rfl rfl ?_
  refine own_cVI X0 hx (pc' := 4) hZ hown (Wd70 hw) (Wd72 hw) (Wd73 hw) (Wd74 hw) (Wd10 hw) (rm_il0 l Z a0 hw [] cz sv hcz hsv so h0 n0 Z0 F_c B_ST) e0 E_s N0 hml pd_12 (hb hby d14_1) 0 [] [] (fun T1 L1 X1 e1 N1 => ?_)
  refine own_ifNo X1 hx (pc' := 7) (hb hby d14_4) (feq (by decide : ¬ ((1 : Int32) = (0 : Int32)))).1 rfl ?_
  refine own_iloadN X1 hx (pc' := 8) (hb hby d14_7) rfl rfl ?_
  refine own_aloadN X1 hx (pc' := 9) (hb hby d14_8) rfl rfl rfl ?_
  refine own_getF X1 hx (pc' := 12) hZ hown (host := "") (Or.inl (Wd27 hw)) Via.refl e1 F_v (hb hby d14_9) rfl (fun T2 X2 e2 => ?_)
  obtain ⟨cl3, Ar3, q3, S3, M3, H3, G3⟩ := id V_b
  refine own_len X2 hx (pc' := 13) hZ e2 Ar3 S3 M3 (hb hby d14_12) rfl ?_
  refine own_cSV X2 hx (pc' := 16) hZ hown (Wd75 hw) (Wd76 hw) (Wd10 hw) (Wd77 hw) (rm_cks l Z a0 hw [] cz sv hcz hsv (0 : Int32) z h0 n0 Z0 (by decide) h1.2 B_ST) e2 N1 hml pd_13 (hb hby d14_13) 0 [(.int (0 : Int32)), (.int z)] [] (fun T4 L4 X4 e4 N4 => ?_)
  refine own_aloadN X4 hx (pc' := 17) (hb hby d14_16) rfl rfl rfl ?_
  refine own_getF X4 hx (pc' := 20) hZ hown (host := "") (Or.inl (Wd27 hw)) Via.refl e4 F_v (hb hby d14_17) rfl (fun T5 X5 e5 => ?_)
  refine own_iloadN X5 hx (pc' := 21) (hb hby d14_20) rfl rfl ?_
  obtain ⟨cl6, Ar6, q6, S6, M6, H6, G6⟩ := id V_b
  refine own_baload X5 hx (pc' := 22) hZ (v := (own_lb uc)) e5 Ar6 (inb_of S6 h1) (Has.at H6 (inb_of S6 h1) x1) (hb hby d14_21) rfl ?_
  refine own_sipush X5 hx (pc' := 25) (255 : Int32) (hb hby d14_22) rfl rfl ?_
  refine own_iand X5 hx (pc' := 26) (hb hby d14_25) rfl rfl ?_
  refine own_retI X5 hx hlk hret (hb hby d14_26) (by decide) (by decide) ?_
  exact ⟨congrArg (fun z => some (Value.int z)) ((own_lat rc hl).trans hr.symm), N4, e5⟩

theorem ef_rm_pl_1 (m : MethodId) (x0 : Addr) (x1 : Int32) : entryFrame m #[(.ref x0), (.int x1)] 3 = mkF m 0 #[.val (.ref x0), .val (.int x1), .unset] [] := by first | (simp [entryFrame, mkF, argsToLocals, Value.category, maxLocals]; done) | rfl
set_option maxRecDepth 65536 in
set_option maxHeartbeats 40000000 in
theorem rm_pl_1 (l : Launch) (Z : State) (a0 : Array Value) (hw : ∀ d ∈ tables_1, d.before a0 Z = true) (ws : List Jvm.Cond) (cz : Int32) (sv : Value) (hcz : ¬ cz = (0 : Int32)) (hsv : sv.isRef = true) (so : Addr) (ba : Addr) (kb : ClassId) (z : Int32) (vs : List Value) (uc r : Int32) (h0 : Heap) (n0 : Nat) (Z0 : n0 ≤ h0.size) (E_s : Exa Z h0 so "java/lang/String") (F_c : Fld Z h0 so "java/lang/String" "coder" "B" (.int (0 : Int32))) (F_v : Fld Z h0 so "java/lang/String" "value" "[B" (.ref ba)) (V_b : Arv Z h0 ba kb .byte z vs (.int (0 : Int32))) (rc : own_ch uc) (hl : ¬ (255 : Int32) < uc) (hr : r = uc) (h1 : (¬ (1 : Int32) < (0 : Int32) ∧ (1 : Int32) < z)) (x1 : vs.getD 1 (.int (0 : Int32)) = (.int (own_lb uc))) (B_ST : own_ST n0 Z h0 cz sv) :
    own_M l Z (⟨"java/lang/String", "codePointAt", "(I)I"⟩ : MethodName) jdk_42_method_57_code 3 (some .int) ws ({ frames := 3, cells := 0, slots := 0, locals := 44 } : Room) #[(.ref so), (.int (1 : Int32))] h0  (Qint r h0 n0) := by
  refine own_bodyM pf_25 ?_
  intro p e s m below meth c s₁ hx hby hml hown hnm hlk hret hZ X0 e0
  have N0 : Fr n0 [] := Fr.nil n0
  refine own_go (f' := (mkF m 0 #[.val (.ref so), .val (.int (1 : Int32)), .unset] [])) (fun t k => castTop (ef_rm_pl_1 m so (1 : Int32)) k) ?_
  refine own_aloadN X0 hx (pc' := 1) (hb hby d14_0) rfl rfl rfl ?_
  refine own_cVI X0 hx (pc' := 4) hZ hown (Wd70 hw) (Wd72 hw) (Wd73 hw) (Wd74 hw) (Wd10 hw) (rm_il0 l Z a0 hw [] cz sv hcz hsv so h0 n0 Z0 F_c B_ST) e0 E_s N0 hml pd_12 (hb hby d14_1) 0 [] [] (fun T1 L1 X1 e1 N1 => ?_)
  refine own_ifNo X1 hx (pc' := 7) (hb hby d14_4) (feq (by decide : ¬ ((1 : Int32) = (0 : Int32)))).1 rfl ?_
  refine own_iloadN X1 hx (pc' := 8) (hb hby d14_7) rfl rfl ?_
  refine own_aloadN X1 hx (pc' := 9) (hb hby d14_8) rfl rfl rfl ?_
  refine own_getF X1 hx (pc' := 12) hZ hown (host := "") (Or.inl (Wd27 hw)) Via.refl e1 F_v (hb hby d14_9) rfl (fun T2 X2 e2 => ?_)
  obtain ⟨cl3, Ar3, q3, S3, M3, H3, G3⟩ := id V_b
  refine own_len X2 hx (pc' := 13) hZ e2 Ar3 S3 M3 (hb hby d14_12) rfl ?_
  refine own_cSV X2 hx (pc' := 16) hZ hown (Wd75 hw) (Wd76 hw) (Wd10 hw) (Wd77 hw) (rm_cks l Z a0 hw [] cz sv hcz hsv (1 : Int32) z h0 n0 Z0 (by decide) h1.2 B_ST) e2 N1 hml pd_13 (hb hby d14_13) 0 [(.int (1 : Int32)), (.int z)] [] (fun T4 L4 X4 e4 N4 => ?_)
  refine own_aloadN X4 hx (pc' := 17) (hb hby d14_16) rfl rfl rfl ?_
  refine own_getF X4 hx (pc' := 20) hZ hown (host := "") (Or.inl (Wd27 hw)) Via.refl e4 F_v (hb hby d14_17) rfl (fun T5 X5 e5 => ?_)
  refine own_iloadN X5 hx (pc' := 21) (hb hby d14_20) rfl rfl ?_
  obtain ⟨cl6, Ar6, q6, S6, M6, H6, G6⟩ := id V_b
  refine own_baload X5 hx (pc' := 22) hZ (v := (own_lb uc)) e5 Ar6 (inb_of S6 h1) (Has.at H6 (inb_of S6 h1) x1) (hb hby d14_21) rfl ?_
  refine own_sipush X5 hx (pc' := 25) (255 : Int32) (hb hby d14_22) rfl rfl ?_
  refine own_iand X5 hx (pc' := 26) (hb hby d14_25) rfl rfl ?_
  refine own_retI X5 hx hlk hret (hb hby d14_26) (by decide) (by decide) ?_
  exact ⟨congrArg (fun z => some (Value.int z)) ((own_lat rc hl).trans hr.symm), N4, e5⟩

theorem ef_rm_pl_2 (m : MethodId) (x0 : Addr) (x1 : Int32) : entryFrame m #[(.ref x0), (.int x1)] 3 = mkF m 0 #[.val (.ref x0), .val (.int x1), .unset] [] := by first | (simp [entryFrame, mkF, argsToLocals, Value.category, maxLocals]; done) | rfl
set_option maxRecDepth 65536 in
set_option maxHeartbeats 40000000 in
theorem rm_pl_2 (l : Launch) (Z : State) (a0 : Array Value) (hw : ∀ d ∈ tables_1, d.before a0 Z = true) (ws : List Jvm.Cond) (cz : Int32) (sv : Value) (hcz : ¬ cz = (0 : Int32)) (hsv : sv.isRef = true) (so : Addr) (ba : Addr) (kb : ClassId) (z : Int32) (vs : List Value) (uc r : Int32) (h0 : Heap) (n0 : Nat) (Z0 : n0 ≤ h0.size) (E_s : Exa Z h0 so "java/lang/String") (F_c : Fld Z h0 so "java/lang/String" "coder" "B" (.int (0 : Int32))) (F_v : Fld Z h0 so "java/lang/String" "value" "[B" (.ref ba)) (V_b : Arv Z h0 ba kb .byte z vs (.int (0 : Int32))) (rc : own_ch uc) (hl : ¬ (255 : Int32) < uc) (hr : r = uc) (h1 : (¬ (2 : Int32) < (0 : Int32) ∧ (2 : Int32) < z)) (x1 : vs.getD 2 (.int (0 : Int32)) = (.int (own_lb uc))) (B_ST : own_ST n0 Z h0 cz sv) :
    own_M l Z (⟨"java/lang/String", "codePointAt", "(I)I"⟩ : MethodName) jdk_42_method_57_code 3 (some .int) ws ({ frames := 3, cells := 0, slots := 0, locals := 44 } : Room) #[(.ref so), (.int (2 : Int32))] h0  (Qint r h0 n0) := by
  refine own_bodyM pf_25 ?_
  intro p e s m below meth c s₁ hx hby hml hown hnm hlk hret hZ X0 e0
  have N0 : Fr n0 [] := Fr.nil n0
  refine own_go (f' := (mkF m 0 #[.val (.ref so), .val (.int (2 : Int32)), .unset] [])) (fun t k => castTop (ef_rm_pl_2 m so (2 : Int32)) k) ?_
  refine own_aloadN X0 hx (pc' := 1) (hb hby d14_0) rfl rfl rfl ?_
  refine own_cVI X0 hx (pc' := 4) hZ hown (Wd70 hw) (Wd72 hw) (Wd73 hw) (Wd74 hw) (Wd10 hw) (rm_il0 l Z a0 hw [] cz sv hcz hsv so h0 n0 Z0 F_c B_ST) e0 E_s N0 hml pd_12 (hb hby d14_1) 0 [] [] (fun T1 L1 X1 e1 N1 => ?_)
  refine own_ifNo X1 hx (pc' := 7) (hb hby d14_4) (feq (by decide : ¬ ((1 : Int32) = (0 : Int32)))).1 rfl ?_
  refine own_iloadN X1 hx (pc' := 8) (hb hby d14_7) rfl rfl ?_
  refine own_aloadN X1 hx (pc' := 9) (hb hby d14_8) rfl rfl rfl ?_
  refine own_getF X1 hx (pc' := 12) hZ hown (host := "") (Or.inl (Wd27 hw)) Via.refl e1 F_v (hb hby d14_9) rfl (fun T2 X2 e2 => ?_)
  obtain ⟨cl3, Ar3, q3, S3, M3, H3, G3⟩ := id V_b
  refine own_len X2 hx (pc' := 13) hZ e2 Ar3 S3 M3 (hb hby d14_12) rfl ?_
  refine own_cSV X2 hx (pc' := 16) hZ hown (Wd75 hw) (Wd76 hw) (Wd10 hw) (Wd77 hw) (rm_cks l Z a0 hw [] cz sv hcz hsv (2 : Int32) z h0 n0 Z0 (by decide) h1.2 B_ST) e2 N1 hml pd_13 (hb hby d14_13) 0 [(.int (2 : Int32)), (.int z)] [] (fun T4 L4 X4 e4 N4 => ?_)
  refine own_aloadN X4 hx (pc' := 17) (hb hby d14_16) rfl rfl rfl ?_
  refine own_getF X4 hx (pc' := 20) hZ hown (host := "") (Or.inl (Wd27 hw)) Via.refl e4 F_v (hb hby d14_17) rfl (fun T5 X5 e5 => ?_)
  refine own_iloadN X5 hx (pc' := 21) (hb hby d14_20) rfl rfl ?_
  obtain ⟨cl6, Ar6, q6, S6, M6, H6, G6⟩ := id V_b
  refine own_baload X5 hx (pc' := 22) hZ (v := (own_lb uc)) e5 Ar6 (inb_of S6 h1) (Has.at H6 (inb_of S6 h1) x1) (hb hby d14_21) rfl ?_
  refine own_sipush X5 hx (pc' := 25) (255 : Int32) (hb hby d14_22) rfl rfl ?_
  refine own_iand X5 hx (pc' := 26) (hb hby d14_25) rfl rfl ?_
  refine own_retI X5 hx hlk hret (hb hby d14_26) (by decide) (by decide) ?_
  exact ⟨congrArg (fun z => some (Value.int z)) ((own_lat rc hl).trans hr.symm), N4, e5⟩

theorem ef_rm_pl_3 (m : MethodId) (x0 : Addr) (x1 : Int32) : entryFrame m #[(.ref x0), (.int x1)] 3 = mkF m 0 #[.val (.ref x0), .val (.int x1), .unset] [] := by first | (simp [entryFrame, mkF, argsToLocals, Value.category, maxLocals]; done) | rfl
set_option maxRecDepth 65536 in
set_option maxHeartbeats 40000000 in
theorem rm_pl_3 (l : Launch) (Z : State) (a0 : Array Value) (hw : ∀ d ∈ tables_1, d.before a0 Z = true) (ws : List Jvm.Cond) (cz : Int32) (sv : Value) (hcz : ¬ cz = (0 : Int32)) (hsv : sv.isRef = true) (so : Addr) (ba : Addr) (kb : ClassId) (z : Int32) (vs : List Value) (uc r : Int32) (h0 : Heap) (n0 : Nat) (Z0 : n0 ≤ h0.size) (E_s : Exa Z h0 so "java/lang/String") (F_c : Fld Z h0 so "java/lang/String" "coder" "B" (.int (0 : Int32))) (F_v : Fld Z h0 so "java/lang/String" "value" "[B" (.ref ba)) (V_b : Arv Z h0 ba kb .byte z vs (.int (0 : Int32))) (rc : own_ch uc) (hl : ¬ (255 : Int32) < uc) (hr : r = uc) (h1 : (¬ (3 : Int32) < (0 : Int32) ∧ (3 : Int32) < z)) (x1 : vs.getD 3 (.int (0 : Int32)) = (.int (own_lb uc))) (B_ST : own_ST n0 Z h0 cz sv) :
    own_M l Z (⟨"java/lang/String", "codePointAt", "(I)I"⟩ : MethodName) jdk_42_method_57_code 3 (some .int) ws ({ frames := 3, cells := 0, slots := 0, locals := 44 } : Room) #[(.ref so), (.int (3 : Int32))] h0  (Qint r h0 n0) := by
  refine own_bodyM pf_25 ?_
  intro p e s m below meth c s₁ hx hby hml hown hnm hlk hret hZ X0 e0
  have N0 : Fr n0 [] := Fr.nil n0
  refine own_go (f' := (mkF m 0 #[.val (.ref so), .val (.int (3 : Int32)), .unset] [])) (fun t k => castTop (ef_rm_pl_3 m so (3 : Int32)) k) ?_
  refine own_aloadN X0 hx (pc' := 1) (hb hby d14_0) rfl rfl rfl ?_
  refine own_cVI X0 hx (pc' := 4) hZ hown (Wd70 hw) (Wd72 hw) (Wd73 hw) (Wd74 hw) (Wd10 hw) (rm_il0 l Z a0 hw [] cz sv hcz hsv so h0 n0 Z0 F_c B_ST) e0 E_s N0 hml pd_12 (hb hby d14_1) 0 [] [] (fun T1 L1 X1 e1 N1 => ?_)
  refine own_ifNo X1 hx (pc' := 7) (hb hby d14_4) (feq (by decide : ¬ ((1 : Int32) = (0 : Int32)))).1 rfl ?_
  refine own_iloadN X1 hx (pc' := 8) (hb hby d14_7) rfl rfl ?_
  refine own_aloadN X1 hx (pc' := 9) (hb hby d14_8) rfl rfl rfl ?_
  refine own_getF X1 hx (pc' := 12) hZ hown (host := "") (Or.inl (Wd27 hw)) Via.refl e1 F_v (hb hby d14_9) rfl (fun T2 X2 e2 => ?_)
  obtain ⟨cl3, Ar3, q3, S3, M3, H3, G3⟩ := id V_b
  refine own_len X2 hx (pc' := 13) hZ e2 Ar3 S3 M3 (hb hby d14_12) rfl ?_
  refine own_cSV X2 hx (pc' := 16) hZ hown (Wd75 hw) (Wd76 hw) (Wd10 hw) (Wd77 hw) (rm_cks l Z a0 hw [] cz sv hcz hsv (3 : Int32) z h0 n0 Z0 (by decide) h1.2 B_ST) e2 N1 hml pd_13 (hb hby d14_13) 0 [(.int (3 : Int32)), (.int z)] [] (fun T4 L4 X4 e4 N4 => ?_)
  refine own_aloadN X4 hx (pc' := 17) (hb hby d14_16) rfl rfl rfl ?_
  refine own_getF X4 hx (pc' := 20) hZ hown (host := "") (Or.inl (Wd27 hw)) Via.refl e4 F_v (hb hby d14_17) rfl (fun T5 X5 e5 => ?_)
  refine own_iloadN X5 hx (pc' := 21) (hb hby d14_20) rfl rfl ?_
  obtain ⟨cl6, Ar6, q6, S6, M6, H6, G6⟩ := id V_b
  refine own_baload X5 hx (pc' := 22) hZ (v := (own_lb uc)) e5 Ar6 (inb_of S6 h1) (Has.at H6 (inb_of S6 h1) x1) (hb hby d14_21) rfl ?_
  refine own_sipush X5 hx (pc' := 25) (255 : Int32) (hb hby d14_22) rfl rfl ?_
  refine own_iand X5 hx (pc' := 26) (hb hby d14_25) rfl rfl ?_
  refine own_retI X5 hx hlk hret (hb hby d14_26) (by decide) (by decide) ?_
  exact ⟨congrArg (fun z => some (Value.int z)) ((own_lat rc hl).trans hr.symm), N4, e5⟩

theorem own_cpl {a b : Int32} (h : ¬ (255 : Int32) < a) : own_cp2 a b = a := by rw [own_cp2, if_pos (own_lath h).1]
theorem own_fx_0 {Z : State} {so ba : Addr} {kb : ClassId}  {h h' : Heap} (E : Ext h h') (hF : ((Fld Z h so "java/lang/String" "coder" "B" (.int (0 : Int32)) ∧ True ∧ Arv Z h ba kb .byte (0 : Int32) [] (.int (0 : Int32))) ∨ (Fld Z h so "java/lang/String" "coder" "B" (.int (1 : Int32)) ∧ Arv Z h ba kb .byte (0 : Int32) [] (.int (0 : Int32))))) : ((Fld Z h' so "java/lang/String" "coder" "B" (.int (0 : Int32)) ∧ True ∧ Arv Z h' ba kb .byte (0 : Int32) [] (.int (0 : Int32))) ∨ (Fld Z h' so "java/lang/String" "coder" "B" (.int (1 : Int32)) ∧ Arv Z h' ba kb .byte (0 : Int32) [] (.int (0 : Int32)))) := hF.imp (fun q => ⟨Fld.ext E q.1, q.2.1, q.2.2.ext E⟩) (fun q => ⟨Fld.ext E q.1, q.2.ext E⟩)
theorem rm_lf_0 (l : Launch) (Z : State) (a0 : Array Value) (hw : ∀ d ∈ tables_1, d.before a0 Z = true) (ws : List Jvm.Cond) (cz : Int32) (sv : Value) (hcz : ¬ cz = (0 : Int32)) (hsv : sv.isRef = true) (so ba : Addr) (kb : ClassId)  (h0 : Heap) (n0 : Nat) (Z0 : n0 ≤ h0.size) (E_s : Exa Z h0 so "java/lang/String") (F_v : Fld Z h0 so "java/lang/String" "value" "[B" (.ref ba)) (hF : ((Fld Z h0 so "java/lang/String" "coder" "B" (.int (0 : Int32)) ∧ True ∧ Arv Z h0 ba kb .byte (0 : Int32) [] (.int (0 : Int32))) ∨ (Fld Z h0 so "java/lang/String" "coder" "B" (.int (1 : Int32)) ∧ Arv Z h0 ba kb .byte (0 : Int32) [] (.int (0 : Int32))))) (B_ST : own_ST n0 Z h0 cz sv) :
    own_M l Z (⟨"java/lang/String", "length", "()I"⟩ : MethodName) jdk_42_method_54_code 1 (some .int) ws ({ frames := 1, cells := 0, slots := 0, locals := 13 } : Room) #[(.ref so)] h0  (Qint (0 : Int32) h0 n0) := by
  rcases hF with ⟨F_c, hl0, V_b⟩ | ⟨F_c, V_b⟩
  · exact rm_len l Z a0 hw ws cz sv hcz hsv so ba kb (0 : Int32) (0 : Int32) (0 : Int32) [] h0 n0 Z0 (by decide) E_s F_c (by decide) F_v V_b B_ST
  · exact rm_len l Z a0 hw ws cz sv hcz hsv so ba kb (0 : Int32) (1 : Int32) (0 : Int32) [] h0 n0 Z0 (by decide) E_s F_c (by decide) F_v V_b B_ST

theorem own_fx_1 {Z : State} {so ba : Addr} {kb : ClassId} {c0 : Int32} {h h' : Heap} (E : Ext h h') (hF : ((Fld Z h so "java/lang/String" "coder" "B" (.int (0 : Int32)) ∧ (¬ (255 : Int32) < c0) ∧ Arv Z h ba kb .byte (1 : Int32) [(.int (own_lb c0))] (.int (0 : Int32))) ∨ (Fld Z h so "java/lang/String" "coder" "B" (.int (1 : Int32)) ∧ Arv Z h ba kb .byte (2 : Int32) [(.int (own_b0 c0)), (.int (own_b1 c0))] (.int (0 : Int32))))) : ((Fld Z h' so "java/lang/String" "coder" "B" (.int (0 : Int32)) ∧ (¬ (255 : Int32) < c0) ∧ Arv Z h' ba kb .byte (1 : Int32) [(.int (own_lb c0))] (.int (0 : Int32))) ∨ (Fld Z h' so "java/lang/String" "coder" "B" (.int (1 : Int32)) ∧ Arv Z h' ba kb .byte (2 : Int32) [(.int (own_b0 c0)), (.int (own_b1 c0))] (.int (0 : Int32)))) := hF.imp (fun q => ⟨Fld.ext E q.1, q.2.1, q.2.2.ext E⟩) (fun q => ⟨Fld.ext E q.1, q.2.ext E⟩)
theorem rm_lf_1 (l : Launch) (Z : State) (a0 : Array Value) (hw : ∀ d ∈ tables_1, d.before a0 Z = true) (ws : List Jvm.Cond) (cz : Int32) (sv : Value) (hcz : ¬ cz = (0 : Int32)) (hsv : sv.isRef = true) (so ba : Addr) (kb : ClassId) (c0 : Int32) (h0 : Heap) (n0 : Nat) (Z0 : n0 ≤ h0.size) (E_s : Exa Z h0 so "java/lang/String") (F_v : Fld Z h0 so "java/lang/String" "value" "[B" (.ref ba)) (hF : ((Fld Z h0 so "java/lang/String" "coder" "B" (.int (0 : Int32)) ∧ (¬ (255 : Int32) < c0) ∧ Arv Z h0 ba kb .byte (1 : Int32) [(.int (own_lb c0))] (.int (0 : Int32))) ∨ (Fld Z h0 so "java/lang/String" "coder" "B" (.int (1 : Int32)) ∧ Arv Z h0 ba kb .byte (2 : Int32) [(.int (own_b0 c0)), (.int (own_b1 c0))] (.int (0 : Int32))))) (B_ST : own_ST n0 Z h0 cz sv) :
    own_M l Z (⟨"java/lang/String", "length", "()I"⟩ : MethodName) jdk_42_method_54_code 1 (some .int) ws ({ frames := 1, cells := 0, slots := 0, locals := 13 } : Room) #[(.ref so)] h0  (Qint (1 : Int32) h0 n0) := by
  rcases hF with ⟨F_c, hl0, V_b⟩ | ⟨F_c, V_b⟩
  · exact rm_len l Z a0 hw ws cz sv hcz hsv so ba kb (1 : Int32) (0 : Int32) (1 : Int32) [(.int (own_lb c0))] h0 n0 Z0 (by decide) E_s F_c (by decide) F_v V_b B_ST
  · exact rm_len l Z a0 hw ws cz sv hcz hsv so ba kb (2 : Int32) (1 : Int32) (1 : Int32) [(.int (own_b0 c0)), (.int (own_b1 c0))] h0 n0 Z0 (by decide) E_s F_c (by decide) F_v V_b B_ST

theorem rm_pF_1_0 (l : Launch) (Z : State) (a0 : Array Value) (hw : ∀ d ∈ tables_1, d.before a0 Z = true) (ws : List Jvm.Cond) (cz : Int32) (sv : Value) (hcz : ¬ cz = (0 : Int32)) (hsv : sv.isRef = true) (so ba : Addr) (kb : ClassId) (c0 : Int32) (h0 : Heap) (n0 : Nat) (Z0 : n0 ≤ h0.size) (E_s : Exa Z h0 so "java/lang/String") (F_v : Fld Z h0 so "java/lang/String" "value" "[B" (.ref ba)) (hF : ((Fld Z h0 so "java/lang/String" "coder" "B" (.int (0 : Int32)) ∧ (¬ (255 : Int32) < c0) ∧ Arv Z h0 ba kb .byte (1 : Int32) [(.int (own_lb c0))] (.int (0 : Int32))) ∨ (Fld Z h0 so "java/lang/String" "coder" "B" (.int (1 : Int32)) ∧ Arv Z h0 ba kb .byte (2 : Int32) [(.int (own_b0 c0)), (.int (own_b1 c0))] (.int (0 : Int32))))) (rc0 : own_ch c0) (B_ST : own_ST n0 Z h0 cz sv) :
    own_M l Z (⟨"java/lang/String", "codePointAt", "(I)I"⟩ : MethodName) jdk_42_method_57_code 3 (some .int) ws ({ frames := 3, cells := 0, slots := 0, locals := 44 } : Room) #[(.ref so), (.int (0 : Int32))] h0  (Qint c0 h0 n0) := by
  rcases hF with ⟨F_c, hl0, V_b⟩ | ⟨F_c, V_b⟩
  · exact rm_pl_0 l Z a0 hw ws cz sv hcz hsv so ba kb (1 : Int32) [(.int (own_lb c0))] c0 c0 h0 n0 Z0 E_s F_c F_v V_b rc0 hl0 rfl (by decide) rfl B_ST
  · exact rm_pu_l_0 l Z a0 hw ws cz sv hcz hsv so ba kb (2 : Int32) [(.int (own_b0 c0)), (.int (own_b1 c0))] (1 : Int32) c0 h0 n0 Z0 E_s F_c F_v (by decide) (by decide) (by decide) V_b rc0 (by decide) (by decide) rfl rfl  B_ST

theorem own_fx_2 {Z : State} {so ba : Addr} {kb : ClassId} {c0 c1 : Int32} {h h' : Heap} (E : Ext h h') (hF : ((Fld Z h so "java/lang/String" "coder" "B" (.int (0 : Int32)) ∧ (¬ (255 : Int32) < c0 ∧ ¬ (255 : Int32) < c1) ∧ Arv Z h ba kb .byte (2 : Int32) [(.int (own_lb c0)), (.int (own_lb c1))] (.int (0 : Int32))) ∨ (Fld Z h so "java/lang/String" "coder" "B" (.int (1 : Int32)) ∧ Arv Z h ba kb .byte (4 : Int32) [(.int (own_b0 c0)), (.int (own_b1 c0)), (.int (own_b0 c1)), (.int (own_b1 c1))] (.int (0 : Int32))))) : ((Fld Z h' so "java/lang/String" "coder" "B" (.int (0 : Int32)) ∧ (¬ (255 : Int32) < c0 ∧ ¬ (255 : Int32) < c1) ∧ Arv Z h' ba kb .byte (2 : Int32) [(.int (own_lb c0)), (.int (own_lb c1))] (.int (0 : Int32))) ∨ (Fld Z h' so "java/lang/String" "coder" "B" (.int (1 : Int32)) ∧ Arv Z h' ba kb .byte (4 : Int32) [(.int (own_b0 c0)), (.int (own_b1 c0)), (.int (own_b0 c1)), (.int (own_b1 c1))] (.int (0 : Int32)))) := hF.imp (fun q => ⟨Fld.ext E q.1, q.2.1, q.2.2.ext E⟩) (fun q => ⟨Fld.ext E q.1, q.2.ext E⟩)
theorem rm_lf_2 (l : Launch) (Z : State) (a0 : Array Value) (hw : ∀ d ∈ tables_1, d.before a0 Z = true) (ws : List Jvm.Cond) (cz : Int32) (sv : Value) (hcz : ¬ cz = (0 : Int32)) (hsv : sv.isRef = true) (so ba : Addr) (kb : ClassId) (c0 c1 : Int32) (h0 : Heap) (n0 : Nat) (Z0 : n0 ≤ h0.size) (E_s : Exa Z h0 so "java/lang/String") (F_v : Fld Z h0 so "java/lang/String" "value" "[B" (.ref ba)) (hF : ((Fld Z h0 so "java/lang/String" "coder" "B" (.int (0 : Int32)) ∧ (¬ (255 : Int32) < c0 ∧ ¬ (255 : Int32) < c1) ∧ Arv Z h0 ba kb .byte (2 : Int32) [(.int (own_lb c0)), (.int (own_lb c1))] (.int (0 : Int32))) ∨ (Fld Z h0 so "java/lang/String" "coder" "B" (.int (1 : Int32)) ∧ Arv Z h0 ba kb .byte (4 : Int32) [(.int (own_b0 c0)), (.int (own_b1 c0)), (.int (own_b0 c1)), (.int (own_b1 c1))] (.int (0 : Int32))))) (B_ST : own_ST n0 Z h0 cz sv) :
    own_M l Z (⟨"java/lang/String", "length", "()I"⟩ : MethodName) jdk_42_method_54_code 1 (some .int) ws ({ frames := 1, cells := 0, slots := 0, locals := 13 } : Room) #[(.ref so)] h0  (Qint (2 : Int32) h0 n0) := by
  rcases hF with ⟨F_c, ⟨hl0, hl1⟩, V_b⟩ | ⟨F_c, V_b⟩
  · exact rm_len l Z a0 hw ws cz sv hcz hsv so ba kb (2 : Int32) (0 : Int32) (2 : Int32) [(.int (own_lb c0)), (.int (own_lb c1))] h0 n0 Z0 (by decide) E_s F_c (by decide) F_v V_b B_ST
  · exact rm_len l Z a0 hw ws cz sv hcz hsv so ba kb (4 : Int32) (1 : Int32) (2 : Int32) [(.int (own_b0 c0)), (.int (own_b1 c0)), (.int (own_b0 c1)), (.int (own_b1 c1))] h0 n0 Z0 (by decide) E_s F_c (by decide) F_v V_b B_ST

theorem rm_pF_2_0 (l : Launch) (Z : State) (a0 : Array Value) (hw : ∀ d ∈ tables_1, d.before a0 Z = true) (ws : List Jvm.Cond) (cz : Int32) (sv : Value) (hcz : ¬ cz = (0 : Int32)) (hsv : sv.isRef = true) (so ba : Addr) (kb : ClassId) (c0 c1 : Int32) (h0 : Heap) (n0 : Nat) (Z0 : n0 ≤ h0.size) (E_s : Exa Z h0 so "java/lang/String") (F_v : Fld Z h0 so "java/lang/String" "value" "[B" (.ref ba)) (hF : ((Fld Z h0 so "java/lang/String" "coder" "B" (.int (0 : Int32)) ∧ (¬ (255 : Int32) < c0 ∧ ¬ (255 : Int32) < c1) ∧ Arv Z h0 ba kb .byte (2 : Int32) [(.int (own_lb c0)), (.int (own_lb c1))] (.int (0 : Int32))) ∨ (Fld Z h0 so "java/lang/String" "coder" "B" (.int (1 : Int32)) ∧ Arv Z h0 ba kb .byte (4 : Int32) [(.int (own_b0 c0)), (.int (own_b1 c0)), (.int (own_b0 c1)), (.int (own_b1 c1))] (.int (0 : Int32))))) (rc0 : own_ch c0) (rc1 : own_ch c1) (B_ST : own_ST n0 Z h0 cz sv) :
    own_M l Z (⟨"java/lang/String", "codePointAt", "(I)I"⟩ : MethodName) jdk_42_method_57_code 3 (some .int) ws ({ frames := 3, cells := 0, slots := 0, locals := 44 } : Room) #[(.ref so), (.int (0 : Int32))] h0  (Qint (own_cp2 c0 c1) h0 n0) := by
  rcases hF with ⟨F_c, ⟨hl0, hl1⟩, V_b⟩ | ⟨F_c, V_b⟩
  · exact rm_pl_0 l Z a0 hw ws cz sv hcz hsv so ba kb (2 : Int32) [(.int (own_lb c0)), (.int (own_lb c1))] c0 (own_cp2 c0 c1) h0 n0 Z0 E_s F_c F_v V_b rc0 hl0 (own_cpl hl0) (by decide) rfl B_ST
  · exact rm_pu_n_0 l Z a0 hw ws cz sv hcz hsv so ba kb (4 : Int32) [(.int (own_b0 c0)), (.int (own_b1 c0)), (.int (own_b0 c1)), (.int (own_b1 c1))] (2 : Int32) c0 c1 h0 n0 Z0 E_s F_c F_v (by decide) (by decide) (by decide) V_b rc0 (by decide) (by decide) rfl rfl rc1 (by decide) (by decide) rfl rfl B_ST

theorem rm_pF_2_1 (l : Launch) (Z : State) (a0 : Array Value) (hw : ∀ d ∈ tables_1, d.before a0 Z = true) (ws : List Jvm.Cond) (cz : Int32) (sv : Value) (hcz : ¬ cz = (0 : Int32)) (hsv : sv.isRef = true) (so ba : Addr) (kb : ClassId) (c0 c1 : Int32) (h0 : Heap) (n0 : Nat) (Z0 : n0 ≤ h0.size) (E_s : Exa Z h0 so "java/lang/String") (F_v : Fld Z h0 so "java/lang/String" "value" "[B" (.ref ba)) (hF : ((Fld Z h0 so "java/lang/String" "coder" "B" (.int (0 : Int32)) ∧ (¬ (255 : Int32) < c0 ∧ ¬ (255 : Int32) < c1) ∧ Arv Z h0 ba kb .byte (2 : Int32) [(.int (own_lb c0)), (.int (own_lb c1))] (.int (0 : Int32))) ∨ (Fld Z h0 so "java/lang/String" "coder" "B" (.int (1 : Int32)) ∧ Arv Z h0 ba kb .byte (4 : Int32) [(.int (own_b0 c0)), (.int (own_b1 c0)), (.int (own_b0 c1)), (.int (own_b1 c1))] (.int (0 : Int32))))) (rc0 : own_ch c0) (rc1 : own_ch c1) (B_ST : own_ST n0 Z h0 cz sv) :
    own_M l Z (⟨"java/lang/String", "codePointAt", "(I)I"⟩ : MethodName) jdk_42_method_57_code 3 (some .int) ws ({ frames := 3, cells := 0, slots := 0, locals := 44 } : Room) #[(.ref so), (.int (1 : Int32))] h0  (Qint c1 h0 n0) := by
  rcases hF with ⟨F_c, ⟨hl0, hl1⟩, V_b⟩ | ⟨F_c, V_b⟩
  · exact rm_pl_1 l Z a0 hw ws cz sv hcz hsv so ba kb (2 : Int32) [(.int (own_lb c0)), (.int (own_lb c1))] c1 c1 h0 n0 Z0 E_s F_c F_v V_b rc1 hl1 rfl (by decide) rfl B_ST
  · exact rm_pu_l_1 l Z a0 hw ws cz sv hcz hsv so ba kb (4 : Int32) [(.int (own_b0 c0)), (.int (own_b1 c0)), (.int (own_b0 c1)), (.int (own_b1 c1))] (2 : Int32) c1 h0 n0 Z0 E_s F_c F_v (by decide) (by decide) (by decide) V_b rc1 (by decide) (by decide) rfl rfl  B_ST

theorem own_fx_3 {Z : State} {so ba : Addr} {kb : ClassId} {c0 c1 c2 : Int32} {h h' : Heap} (E : Ext h h') (hF : ((Fld Z h so "java/lang/String" "coder" "B" (.int (0 : Int32)) ∧ (¬ (255 : Int32) < c0 ∧ ¬ (255 : Int32) < c1 ∧ ¬ (255 : Int32) < c2) ∧ Arv Z h ba kb .byte (3 : Int32) [(.int (own_lb c0)), (.int (own_lb c1)), (.int (own_lb c2))] (.int (0 : Int32))) ∨ (Fld Z h so "java/lang/String" "coder" "B" (.int (1 : Int32)) ∧ Arv Z h ba kb .byte (6 : Int32) [(.int (own_b0 c0)), (.int (own_b1 c0)), (.int (own_b0 c1)), (.int (own_b1 c1)), (.int (own_b0 c2)), (.int (own_b1 c2))] (.int (0 : Int32))))) : ((Fld Z h' so "java/lang/String" "coder" "B" (.int (0 : Int32)) ∧ (¬ (255 : Int32) < c0 ∧ ¬ (255 : Int32) < c1 ∧ ¬ (255 : Int32) < c2) ∧ Arv Z h' ba kb .byte (3 : Int32) [(.int (own_lb c0)), (.int (own_lb c1)), (.int (own_lb c2))] (.int (0 : Int32))) ∨ (Fld Z h' so "java/lang/String" "coder" "B" (.int (1 : Int32)) ∧ Arv Z h' ba kb .byte (6 : Int32) [(.int (own_b0 c0)), (.int (own_b1 c0)), (.int (own_b0 c1)), (.int (own_b1 c1)), (.int (own_b0 c2)), (.int (own_b1 c2))] (.int (0 : Int32)))) := hF.imp (fun q => ⟨Fld.ext E q.1, q.2.1, q.2.2.ext E⟩) (fun q => ⟨Fld.ext E q.1, q.2.ext E⟩)
theorem rm_lf_3 (l : Launch) (Z : State) (a0 : Array Value) (hw : ∀ d ∈ tables_1, d.before a0 Z = true) (ws : List Jvm.Cond) (cz : Int32) (sv : Value) (hcz : ¬ cz = (0 : Int32)) (hsv : sv.isRef = true) (so ba : Addr) (kb : ClassId) (c0 c1 c2 : Int32) (h0 : Heap) (n0 : Nat) (Z0 : n0 ≤ h0.size) (E_s : Exa Z h0 so "java/lang/String") (F_v : Fld Z h0 so "java/lang/String" "value" "[B" (.ref ba)) (hF : ((Fld Z h0 so "java/lang/String" "coder" "B" (.int (0 : Int32)) ∧ (¬ (255 : Int32) < c0 ∧ ¬ (255 : Int32) < c1 ∧ ¬ (255 : Int32) < c2) ∧ Arv Z h0 ba kb .byte (3 : Int32) [(.int (own_lb c0)), (.int (own_lb c1)), (.int (own_lb c2))] (.int (0 : Int32))) ∨ (Fld Z h0 so "java/lang/String" "coder" "B" (.int (1 : Int32)) ∧ Arv Z h0 ba kb .byte (6 : Int32) [(.int (own_b0 c0)), (.int (own_b1 c0)), (.int (own_b0 c1)), (.int (own_b1 c1)), (.int (own_b0 c2)), (.int (own_b1 c2))] (.int (0 : Int32))))) (B_ST : own_ST n0 Z h0 cz sv) :
    own_M l Z (⟨"java/lang/String", "length", "()I"⟩ : MethodName) jdk_42_method_54_code 1 (some .int) ws ({ frames := 1, cells := 0, slots := 0, locals := 13 } : Room) #[(.ref so)] h0  (Qint (3 : Int32) h0 n0) := by
  rcases hF with ⟨F_c, ⟨hl0, hl1, hl2⟩, V_b⟩ | ⟨F_c, V_b⟩
  · exact rm_len l Z a0 hw ws cz sv hcz hsv so ba kb (3 : Int32) (0 : Int32) (3 : Int32) [(.int (own_lb c0)), (.int (own_lb c1)), (.int (own_lb c2))] h0 n0 Z0 (by decide) E_s F_c (by decide) F_v V_b B_ST
  · exact rm_len l Z a0 hw ws cz sv hcz hsv so ba kb (6 : Int32) (1 : Int32) (3 : Int32) [(.int (own_b0 c0)), (.int (own_b1 c0)), (.int (own_b0 c1)), (.int (own_b1 c1)), (.int (own_b0 c2)), (.int (own_b1 c2))] h0 n0 Z0 (by decide) E_s F_c (by decide) F_v V_b B_ST

theorem rm_pF_3_0 (l : Launch) (Z : State) (a0 : Array Value) (hw : ∀ d ∈ tables_1, d.before a0 Z = true) (ws : List Jvm.Cond) (cz : Int32) (sv : Value) (hcz : ¬ cz = (0 : Int32)) (hsv : sv.isRef = true) (so ba : Addr) (kb : ClassId) (c0 c1 c2 : Int32) (h0 : Heap) (n0 : Nat) (Z0 : n0 ≤ h0.size) (E_s : Exa Z h0 so "java/lang/String") (F_v : Fld Z h0 so "java/lang/String" "value" "[B" (.ref ba)) (hF : ((Fld Z h0 so "java/lang/String" "coder" "B" (.int (0 : Int32)) ∧ (¬ (255 : Int32) < c0 ∧ ¬ (255 : Int32) < c1 ∧ ¬ (255 : Int32) < c2) ∧ Arv Z h0 ba kb .byte (3 : Int32) [(.int (own_lb c0)), (.int (own_lb c1)), (.int (own_lb c2))] (.int (0 : Int32))) ∨ (Fld Z h0 so "java/lang/String" "coder" "B" (.int (1 : Int32)) ∧ Arv Z h0 ba kb .byte (6 : Int32) [(.int (own_b0 c0)), (.int (own_b1 c0)), (.int (own_b0 c1)), (.int (own_b1 c1)), (.int (own_b0 c2)), (.int (own_b1 c2))] (.int (0 : Int32))))) (rc0 : own_ch c0) (rc1 : own_ch c1) (rc2 : own_ch c2) (B_ST : own_ST n0 Z h0 cz sv) :
    own_M l Z (⟨"java/lang/String", "codePointAt", "(I)I"⟩ : MethodName) jdk_42_method_57_code 3 (some .int) ws ({ frames := 3, cells := 0, slots := 0, locals := 44 } : Room) #[(.ref so), (.int (0 : Int32))] h0  (Qint (own_cp2 c0 c1) h0 n0) := by
  rcases hF with ⟨F_c, ⟨hl0, hl1, hl2⟩, V_b⟩ | ⟨F_c, V_b⟩
  · exact rm_pl_0 l Z a0 hw ws cz sv hcz hsv so ba kb (3 : Int32) [(.int (own_lb c0)), (.int (own_lb c1)), (.int (own_lb c2))] c0 (own_cp2 c0 c1) h0 n0 Z0 E_s F_c F_v V_b rc0 hl0 (own_cpl hl0) (by decide) rfl B_ST
  · exact rm_pu_n_0 l Z a0 hw ws cz sv hcz hsv so ba kb (6 : Int32) [(.int (own_b0 c0)), (.int (own_b1 c0)), (.int (own_b0 c1)), (.int (own_b1 c1)), (.int (own_b0 c2)), (.int (own_b1 c2))] (3 : Int32) c0 c1 h0 n0 Z0 E_s F_c F_v (by decide) (by decide) (by decide) V_b rc0 (by decide) (by decide) rfl rfl rc1 (by decide) (by decide) rfl rfl B_ST

theorem rm_pF_3_1 (l : Launch) (Z : State) (a0 : Array Value) (hw : ∀ d ∈ tables_1, d.before a0 Z = true) (ws : List Jvm.Cond) (cz : Int32) (sv : Value) (hcz : ¬ cz = (0 : Int32)) (hsv : sv.isRef = true) (so ba : Addr) (kb : ClassId) (c0 c1 c2 : Int32) (h0 : Heap) (n0 : Nat) (Z0 : n0 ≤ h0.size) (E_s : Exa Z h0 so "java/lang/String") (F_v : Fld Z h0 so "java/lang/String" "value" "[B" (.ref ba)) (hF : ((Fld Z h0 so "java/lang/String" "coder" "B" (.int (0 : Int32)) ∧ (¬ (255 : Int32) < c0 ∧ ¬ (255 : Int32) < c1 ∧ ¬ (255 : Int32) < c2) ∧ Arv Z h0 ba kb .byte (3 : Int32) [(.int (own_lb c0)), (.int (own_lb c1)), (.int (own_lb c2))] (.int (0 : Int32))) ∨ (Fld Z h0 so "java/lang/String" "coder" "B" (.int (1 : Int32)) ∧ Arv Z h0 ba kb .byte (6 : Int32) [(.int (own_b0 c0)), (.int (own_b1 c0)), (.int (own_b0 c1)), (.int (own_b1 c1)), (.int (own_b0 c2)), (.int (own_b1 c2))] (.int (0 : Int32))))) (rc0 : own_ch c0) (rc1 : own_ch c1) (rc2 : own_ch c2) (B_ST : own_ST n0 Z h0 cz sv) :
    own_M l Z (⟨"java/lang/String", "codePointAt", "(I)I"⟩ : MethodName) jdk_42_method_57_code 3 (some .int) ws ({ frames := 3, cells := 0, slots := 0, locals := 44 } : Room) #[(.ref so), (.int (1 : Int32))] h0  (Qint (own_cp2 c1 c2) h0 n0) := by
  rcases hF with ⟨F_c, ⟨hl0, hl1, hl2⟩, V_b⟩ | ⟨F_c, V_b⟩
  · exact rm_pl_1 l Z a0 hw ws cz sv hcz hsv so ba kb (3 : Int32) [(.int (own_lb c0)), (.int (own_lb c1)), (.int (own_lb c2))] c1 (own_cp2 c1 c2) h0 n0 Z0 E_s F_c F_v V_b rc1 hl1 (own_cpl hl1) (by decide) rfl B_ST
  · exact rm_pu_n_1 l Z a0 hw ws cz sv hcz hsv so ba kb (6 : Int32) [(.int (own_b0 c0)), (.int (own_b1 c0)), (.int (own_b0 c1)), (.int (own_b1 c1)), (.int (own_b0 c2)), (.int (own_b1 c2))] (3 : Int32) c1 c2 h0 n0 Z0 E_s F_c F_v (by decide) (by decide) (by decide) V_b rc1 (by decide) (by decide) rfl rfl rc2 (by decide) (by decide) rfl rfl B_ST

theorem rm_pF_3_2 (l : Launch) (Z : State) (a0 : Array Value) (hw : ∀ d ∈ tables_1, d.before a0 Z = true) (ws : List Jvm.Cond) (cz : Int32) (sv : Value) (hcz : ¬ cz = (0 : Int32)) (hsv : sv.isRef = true) (so ba : Addr) (kb : ClassId) (c0 c1 c2 : Int32) (h0 : Heap) (n0 : Nat) (Z0 : n0 ≤ h0.size) (E_s : Exa Z h0 so "java/lang/String") (F_v : Fld Z h0 so "java/lang/String" "value" "[B" (.ref ba)) (hF : ((Fld Z h0 so "java/lang/String" "coder" "B" (.int (0 : Int32)) ∧ (¬ (255 : Int32) < c0 ∧ ¬ (255 : Int32) < c1 ∧ ¬ (255 : Int32) < c2) ∧ Arv Z h0 ba kb .byte (3 : Int32) [(.int (own_lb c0)), (.int (own_lb c1)), (.int (own_lb c2))] (.int (0 : Int32))) ∨ (Fld Z h0 so "java/lang/String" "coder" "B" (.int (1 : Int32)) ∧ Arv Z h0 ba kb .byte (6 : Int32) [(.int (own_b0 c0)), (.int (own_b1 c0)), (.int (own_b0 c1)), (.int (own_b1 c1)), (.int (own_b0 c2)), (.int (own_b1 c2))] (.int (0 : Int32))))) (rc0 : own_ch c0) (rc1 : own_ch c1) (rc2 : own_ch c2) (B_ST : own_ST n0 Z h0 cz sv) :
    own_M l Z (⟨"java/lang/String", "codePointAt", "(I)I"⟩ : MethodName) jdk_42_method_57_code 3 (some .int) ws ({ frames := 3, cells := 0, slots := 0, locals := 44 } : Room) #[(.ref so), (.int (2 : Int32))] h0  (Qint c2 h0 n0) := by
  rcases hF with ⟨F_c, ⟨hl0, hl1, hl2⟩, V_b⟩ | ⟨F_c, V_b⟩
  · exact rm_pl_2 l Z a0 hw ws cz sv hcz hsv so ba kb (3 : Int32) [(.int (own_lb c0)), (.int (own_lb c1)), (.int (own_lb c2))] c2 c2 h0 n0 Z0 E_s F_c F_v V_b rc2 hl2 rfl (by decide) rfl B_ST
  · exact rm_pu_l_2 l Z a0 hw ws cz sv hcz hsv so ba kb (6 : Int32) [(.int (own_b0 c0)), (.int (own_b1 c0)), (.int (own_b0 c1)), (.int (own_b1 c1)), (.int (own_b0 c2)), (.int (own_b1 c2))] (3 : Int32) c2 h0 n0 Z0 E_s F_c F_v (by decide) (by decide) (by decide) V_b rc2 (by decide) (by decide) rfl rfl  B_ST

theorem own_fx_4 {Z : State} {so ba : Addr} {kb : ClassId} {c0 c1 c2 c3 : Int32} {h h' : Heap} (E : Ext h h') (hF : ((Fld Z h so "java/lang/String" "coder" "B" (.int (0 : Int32)) ∧ (¬ (255 : Int32) < c0 ∧ ¬ (255 : Int32) < c1 ∧ ¬ (255 : Int32) < c2 ∧ ¬ (255 : Int32) < c3) ∧ Arv Z h ba kb .byte (4 : Int32) [(.int (own_lb c0)), (.int (own_lb c1)), (.int (own_lb c2)), (.int (own_lb c3))] (.int (0 : Int32))) ∨ (Fld Z h so "java/lang/String" "coder" "B" (.int (1 : Int32)) ∧ Arv Z h ba kb .byte (8 : Int32) [(.int (own_b0 c0)), (.int (own_b1 c0)), (.int (own_b0 c1)), (.int (own_b1 c1)), (.int (own_b0 c2)), (.int (own_b1 c2)), (.int (own_b0 c3)), (.int (own_b1 c3))] (.int (0 : Int32))))) : ((Fld Z h' so "java/lang/String" "coder" "B" (.int (0 : Int32)) ∧ (¬ (255 : Int32) < c0 ∧ ¬ (255 : Int32) < c1 ∧ ¬ (255 : Int32) < c2 ∧ ¬ (255 : Int32) < c3) ∧ Arv Z h' ba kb .byte (4 : Int32) [(.int (own_lb c0)), (.int (own_lb c1)), (.int (own_lb c2)), (.int (own_lb c3))] (.int (0 : Int32))) ∨ (Fld Z h' so "java/lang/String" "coder" "B" (.int (1 : Int32)) ∧ Arv Z h' ba kb .byte (8 : Int32) [(.int (own_b0 c0)), (.int (own_b1 c0)), (.int (own_b0 c1)), (.int (own_b1 c1)), (.int (own_b0 c2)), (.int (own_b1 c2)), (.int (own_b0 c3)), (.int (own_b1 c3))] (.int (0 : Int32)))) := hF.imp (fun q => ⟨Fld.ext E q.1, q.2.1, q.2.2.ext E⟩) (fun q => ⟨Fld.ext E q.1, q.2.ext E⟩)
theorem rm_lf_4 (l : Launch) (Z : State) (a0 : Array Value) (hw : ∀ d ∈ tables_1, d.before a0 Z = true) (ws : List Jvm.Cond) (cz : Int32) (sv : Value) (hcz : ¬ cz = (0 : Int32)) (hsv : sv.isRef = true) (so ba : Addr) (kb : ClassId) (c0 c1 c2 c3 : Int32) (h0 : Heap) (n0 : Nat) (Z0 : n0 ≤ h0.size) (E_s : Exa Z h0 so "java/lang/String") (F_v : Fld Z h0 so "java/lang/String" "value" "[B" (.ref ba)) (hF : ((Fld Z h0 so "java/lang/String" "coder" "B" (.int (0 : Int32)) ∧ (¬ (255 : Int32) < c0 ∧ ¬ (255 : Int32) < c1 ∧ ¬ (255 : Int32) < c2 ∧ ¬ (255 : Int32) < c3) ∧ Arv Z h0 ba kb .byte (4 : Int32) [(.int (own_lb c0)), (.int (own_lb c1)), (.int (own_lb c2)), (.int (own_lb c3))] (.int (0 : Int32))) ∨ (Fld Z h0 so "java/lang/String" "coder" "B" (.int (1 : Int32)) ∧ Arv Z h0 ba kb .byte (8 : Int32) [(.int (own_b0 c0)), (.int (own_b1 c0)), (.int (own_b0 c1)), (.int (own_b1 c1)), (.int (own_b0 c2)), (.int (own_b1 c2)), (.int (own_b0 c3)), (.int (own_b1 c3))] (.int (0 : Int32))))) (B_ST : own_ST n0 Z h0 cz sv) :
    own_M l Z (⟨"java/lang/String", "length", "()I"⟩ : MethodName) jdk_42_method_54_code 1 (some .int) ws ({ frames := 1, cells := 0, slots := 0, locals := 13 } : Room) #[(.ref so)] h0  (Qint (4 : Int32) h0 n0) := by
  rcases hF with ⟨F_c, ⟨hl0, hl1, hl2, hl3⟩, V_b⟩ | ⟨F_c, V_b⟩
  · exact rm_len l Z a0 hw ws cz sv hcz hsv so ba kb (4 : Int32) (0 : Int32) (4 : Int32) [(.int (own_lb c0)), (.int (own_lb c1)), (.int (own_lb c2)), (.int (own_lb c3))] h0 n0 Z0 (by decide) E_s F_c (by decide) F_v V_b B_ST
  · exact rm_len l Z a0 hw ws cz sv hcz hsv so ba kb (8 : Int32) (1 : Int32) (4 : Int32) [(.int (own_b0 c0)), (.int (own_b1 c0)), (.int (own_b0 c1)), (.int (own_b1 c1)), (.int (own_b0 c2)), (.int (own_b1 c2)), (.int (own_b0 c3)), (.int (own_b1 c3))] h0 n0 Z0 (by decide) E_s F_c (by decide) F_v V_b B_ST

theorem rm_pF_4_0 (l : Launch) (Z : State) (a0 : Array Value) (hw : ∀ d ∈ tables_1, d.before a0 Z = true) (ws : List Jvm.Cond) (cz : Int32) (sv : Value) (hcz : ¬ cz = (0 : Int32)) (hsv : sv.isRef = true) (so ba : Addr) (kb : ClassId) (c0 c1 c2 c3 : Int32) (h0 : Heap) (n0 : Nat) (Z0 : n0 ≤ h0.size) (E_s : Exa Z h0 so "java/lang/String") (F_v : Fld Z h0 so "java/lang/String" "value" "[B" (.ref ba)) (hF : ((Fld Z h0 so "java/lang/String" "coder" "B" (.int (0 : Int32)) ∧ (¬ (255 : Int32) < c0 ∧ ¬ (255 : Int32) < c1 ∧ ¬ (255 : Int32) < c2 ∧ ¬ (255 : Int32) < c3) ∧ Arv Z h0 ba kb .byte (4 : Int32) [(.int (own_lb c0)), (.int (own_lb c1)), (.int (own_lb c2)), (.int (own_lb c3))] (.int (0 : Int32))) ∨ (Fld Z h0 so "java/lang/String" "coder" "B" (.int (1 : Int32)) ∧ Arv Z h0 ba kb .byte (8 : Int32) [(.int (own_b0 c0)), (.int (own_b1 c0)), (.int (own_b0 c1)), (.int (own_b1 c1)), (.int (own_b0 c2)), (.int (own_b1 c2)), (.int (own_b0 c3)), (.int (own_b1 c3))] (.int (0 : Int32))))) (rc0 : own_ch c0) (rc1 : own_ch c1) (rc2 : own_ch c2) (rc3 : own_ch c3) (B_ST : own_ST n0 Z h0 cz sv) :
    own_M l Z (⟨"java/lang/String", "codePointAt", "(I)I"⟩ : MethodName) jdk_42_method_57_code 3 (some .int) ws ({ frames := 3, cells := 0, slots := 0, locals := 44 } : Room) #[(.ref so), (.int (0 : Int32))] h0  (Qint (own_cp2 c0 c1) h0 n0) := by
  rcases hF with ⟨F_c, ⟨hl0, hl1, hl2, hl3⟩, V_b⟩ | ⟨F_c, V_b⟩
  · exact rm_pl_0 l Z a0 hw ws cz sv hcz hsv so ba kb (4 : Int32) [(.int (own_lb c0)), (.int (own_lb c1)), (.int (own_lb c2)), (.int (own_lb c3))] c0 (own_cp2 c0 c1) h0 n0 Z0 E_s F_c F_v V_b rc0 hl0 (own_cpl hl0) (by decide) rfl B_ST
  · exact rm_pu_n_0 l Z a0 hw ws cz sv hcz hsv so ba kb (8 : Int32) [(.int (own_b0 c0)), (.int (own_b1 c0)), (.int (own_b0 c1)), (.int (own_b1 c1)), (.int (own_b0 c2)), (.int (own_b1 c2)), (.int (own_b0 c3)), (.int (own_b1 c3))] (4 : Int32) c0 c1 h0 n0 Z0 E_s F_c F_v (by decide) (by decide) (by decide) V_b rc0 (by decide) (by decide) rfl rfl rc1 (by decide) (by decide) rfl rfl B_ST

theorem rm_pF_4_1 (l : Launch) (Z : State) (a0 : Array Value) (hw : ∀ d ∈ tables_1, d.before a0 Z = true) (ws : List Jvm.Cond) (cz : Int32) (sv : Value) (hcz : ¬ cz = (0 : Int32)) (hsv : sv.isRef = true) (so ba : Addr) (kb : ClassId) (c0 c1 c2 c3 : Int32) (h0 : Heap) (n0 : Nat) (Z0 : n0 ≤ h0.size) (E_s : Exa Z h0 so "java/lang/String") (F_v : Fld Z h0 so "java/lang/String" "value" "[B" (.ref ba)) (hF : ((Fld Z h0 so "java/lang/String" "coder" "B" (.int (0 : Int32)) ∧ (¬ (255 : Int32) < c0 ∧ ¬ (255 : Int32) < c1 ∧ ¬ (255 : Int32) < c2 ∧ ¬ (255 : Int32) < c3) ∧ Arv Z h0 ba kb .byte (4 : Int32) [(.int (own_lb c0)), (.int (own_lb c1)), (.int (own_lb c2)), (.int (own_lb c3))] (.int (0 : Int32))) ∨ (Fld Z h0 so "java/lang/String" "coder" "B" (.int (1 : Int32)) ∧ Arv Z h0 ba kb .byte (8 : Int32) [(.int (own_b0 c0)), (.int (own_b1 c0)), (.int (own_b0 c1)), (.int (own_b1 c1)), (.int (own_b0 c2)), (.int (own_b1 c2)), (.int (own_b0 c3)), (.int (own_b1 c3))] (.int (0 : Int32))))) (rc0 : own_ch c0) (rc1 : own_ch c1) (rc2 : own_ch c2) (rc3 : own_ch c3) (B_ST : own_ST n0 Z h0 cz sv) :
    own_M l Z (⟨"java/lang/String", "codePointAt", "(I)I"⟩ : MethodName) jdk_42_method_57_code 3 (some .int) ws ({ frames := 3, cells := 0, slots := 0, locals := 44 } : Room) #[(.ref so), (.int (1 : Int32))] h0  (Qint (own_cp2 c1 c2) h0 n0) := by
  rcases hF with ⟨F_c, ⟨hl0, hl1, hl2, hl3⟩, V_b⟩ | ⟨F_c, V_b⟩
  · exact rm_pl_1 l Z a0 hw ws cz sv hcz hsv so ba kb (4 : Int32) [(.int (own_lb c0)), (.int (own_lb c1)), (.int (own_lb c2)), (.int (own_lb c3))] c1 (own_cp2 c1 c2) h0 n0 Z0 E_s F_c F_v V_b rc1 hl1 (own_cpl hl1) (by decide) rfl B_ST
  · exact rm_pu_n_1 l Z a0 hw ws cz sv hcz hsv so ba kb (8 : Int32) [(.int (own_b0 c0)), (.int (own_b1 c0)), (.int (own_b0 c1)), (.int (own_b1 c1)), (.int (own_b0 c2)), (.int (own_b1 c2)), (.int (own_b0 c3)), (.int (own_b1 c3))] (4 : Int32) c1 c2 h0 n0 Z0 E_s F_c F_v (by decide) (by decide) (by decide) V_b rc1 (by decide) (by decide) rfl rfl rc2 (by decide) (by decide) rfl rfl B_ST

theorem rm_pF_4_2 (l : Launch) (Z : State) (a0 : Array Value) (hw : ∀ d ∈ tables_1, d.before a0 Z = true) (ws : List Jvm.Cond) (cz : Int32) (sv : Value) (hcz : ¬ cz = (0 : Int32)) (hsv : sv.isRef = true) (so ba : Addr) (kb : ClassId) (c0 c1 c2 c3 : Int32) (h0 : Heap) (n0 : Nat) (Z0 : n0 ≤ h0.size) (E_s : Exa Z h0 so "java/lang/String") (F_v : Fld Z h0 so "java/lang/String" "value" "[B" (.ref ba)) (hF : ((Fld Z h0 so "java/lang/String" "coder" "B" (.int (0 : Int32)) ∧ (¬ (255 : Int32) < c0 ∧ ¬ (255 : Int32) < c1 ∧ ¬ (255 : Int32) < c2 ∧ ¬ (255 : Int32) < c3) ∧ Arv Z h0 ba kb .byte (4 : Int32) [(.int (own_lb c0)), (.int (own_lb c1)), (.int (own_lb c2)), (.int (own_lb c3))] (.int (0 : Int32))) ∨ (Fld Z h0 so "java/lang/String" "coder" "B" (.int (1 : Int32)) ∧ Arv Z h0 ba kb .byte (8 : Int32) [(.int (own_b0 c0)), (.int (own_b1 c0)), (.int (own_b0 c1)), (.int (own_b1 c1)), (.int (own_b0 c2)), (.int (own_b1 c2)), (.int (own_b0 c3)), (.int (own_b1 c3))] (.int (0 : Int32))))) (rc0 : own_ch c0) (rc1 : own_ch c1) (rc2 : own_ch c2) (rc3 : own_ch c3) (B_ST : own_ST n0 Z h0 cz sv) :
    own_M l Z (⟨"java/lang/String", "codePointAt", "(I)I"⟩ : MethodName) jdk_42_method_57_code 3 (some .int) ws ({ frames := 3, cells := 0, slots := 0, locals := 44 } : Room) #[(.ref so), (.int (2 : Int32))] h0  (Qint (own_cp2 c2 c3) h0 n0) := by
  rcases hF with ⟨F_c, ⟨hl0, hl1, hl2, hl3⟩, V_b⟩ | ⟨F_c, V_b⟩
  · exact rm_pl_2 l Z a0 hw ws cz sv hcz hsv so ba kb (4 : Int32) [(.int (own_lb c0)), (.int (own_lb c1)), (.int (own_lb c2)), (.int (own_lb c3))] c2 (own_cp2 c2 c3) h0 n0 Z0 E_s F_c F_v V_b rc2 hl2 (own_cpl hl2) (by decide) rfl B_ST
  · exact rm_pu_n_2 l Z a0 hw ws cz sv hcz hsv so ba kb (8 : Int32) [(.int (own_b0 c0)), (.int (own_b1 c0)), (.int (own_b0 c1)), (.int (own_b1 c1)), (.int (own_b0 c2)), (.int (own_b1 c2)), (.int (own_b0 c3)), (.int (own_b1 c3))] (4 : Int32) c2 c3 h0 n0 Z0 E_s F_c F_v (by decide) (by decide) (by decide) V_b rc2 (by decide) (by decide) rfl rfl rc3 (by decide) (by decide) rfl rfl B_ST

theorem rm_pF_4_3 (l : Launch) (Z : State) (a0 : Array Value) (hw : ∀ d ∈ tables_1, d.before a0 Z = true) (ws : List Jvm.Cond) (cz : Int32) (sv : Value) (hcz : ¬ cz = (0 : Int32)) (hsv : sv.isRef = true) (so ba : Addr) (kb : ClassId) (c0 c1 c2 c3 : Int32) (h0 : Heap) (n0 : Nat) (Z0 : n0 ≤ h0.size) (E_s : Exa Z h0 so "java/lang/String") (F_v : Fld Z h0 so "java/lang/String" "value" "[B" (.ref ba)) (hF : ((Fld Z h0 so "java/lang/String" "coder" "B" (.int (0 : Int32)) ∧ (¬ (255 : Int32) < c0 ∧ ¬ (255 : Int32) < c1 ∧ ¬ (255 : Int32) < c2 ∧ ¬ (255 : Int32) < c3) ∧ Arv Z h0 ba kb .byte (4 : Int32) [(.int (own_lb c0)), (.int (own_lb c1)), (.int (own_lb c2)), (.int (own_lb c3))] (.int (0 : Int32))) ∨ (Fld Z h0 so "java/lang/String" "coder" "B" (.int (1 : Int32)) ∧ Arv Z h0 ba kb .byte (8 : Int32) [(.int (own_b0 c0)), (.int (own_b1 c0)), (.int (own_b0 c1)), (.int (own_b1 c1)), (.int (own_b0 c2)), (.int (own_b1 c2)), (.int (own_b0 c3)), (.int (own_b1 c3))] (.int (0 : Int32))))) (rc0 : own_ch c0) (rc1 : own_ch c1) (rc2 : own_ch c2) (rc3 : own_ch c3) (B_ST : own_ST n0 Z h0 cz sv) :
    own_M l Z (⟨"java/lang/String", "codePointAt", "(I)I"⟩ : MethodName) jdk_42_method_57_code 3 (some .int) ws ({ frames := 3, cells := 0, slots := 0, locals := 44 } : Room) #[(.ref so), (.int (3 : Int32))] h0  (Qint c3 h0 n0) := by
  rcases hF with ⟨F_c, ⟨hl0, hl1, hl2, hl3⟩, V_b⟩ | ⟨F_c, V_b⟩
  · exact rm_pl_3 l Z a0 hw ws cz sv hcz hsv so ba kb (4 : Int32) [(.int (own_lb c0)), (.int (own_lb c1)), (.int (own_lb c2)), (.int (own_lb c3))] c3 c3 h0 n0 Z0 E_s F_c F_v V_b rc3 hl3 rfl (by decide) rfl B_ST
  · exact rm_pu_l_3 l Z a0 hw ws cz sv hcz hsv so ba kb (8 : Int32) [(.int (own_b0 c0)), (.int (own_b1 c0)), (.int (own_b0 c1)), (.int (own_b1 c1)), (.int (own_b0 c2)), (.int (own_b1 c2)), (.int (own_b0 c3)), (.int (own_b1 c3))] (4 : Int32) c3 h0 n0 Z0 E_s F_c F_v (by decide) (by decide) (by decide) V_b rc3 (by decide) (by decide) rfl rfl  B_ST

theorem own_EL0 {Z : State} {vm : Vm} {h : Heap} : CHv Z [] vm h := fun _ q => nomatch q
theorem Wd25 {a0 : Array Value} {Z : State} (hw : ∀ d ∈ tables_1, d.before a0 Z = true) : (Jvm.Cond.soleField "java/lang/String" "value").before a0 Z = true := hw _ (List.mem_of_getElem? (i := 25) rfl)
theorem Wd26 {a0 : Array Value} {Z : State} (hw : ∀ d ∈ tables_1, d.before a0 Z = true) : (Jvm.Cond.soleField "java/lang/String" "coder").before a0 Z = true := hw _ (List.mem_of_getElem? (i := 26) rfl)
theorem own_atoms {a0 : Array Value} {Z : State} (hw : ∀ d ∈ tables_1, d.before a0 Z = true) : ∀ a ∈ Bundle.stringAtoms, a.before a0 Z = true := by
  intro d hd
  simp only [Bundle.stringAtoms, List.mem_cons, List.not_mem_nil, or_false] at hd
  rcases hd with rfl | rfl | rfl | rfl | rfl | rfl | rfl
  · exact (Wd10 hw)
  · exact (Wd9 hw)
  · exact (Wd22 hw)
  · exact (Wd23 hw)
  · exact (Wd24 hw)
  · exact (Wd25 hw)
  · exact (Wd26 hw)
theorem d5_0 : decode prog_46_method_2_code 0 = .ok (.aload_n 0, 1) := by decide +kernel
theorem d5_1 : decode prog_46_method_2_code 1 = .ok (.ldc 7, 2) := by decide +kernel
theorem d5_3 : decode prog_46_method_2_code 3 = .ok (.invokestatic 9, 3) := by decide +kernel
theorem d5_6 : decode prog_46_method_2_code 6 = .ok (.pop, 1) := by decide +kernel
theorem d5_7 : decode prog_46_method_2_code 7 = .ok (.iconst (-1), 1) := by decide +kernel
theorem d5_8 : decode prog_46_method_2_code 8 = .ok (.istore_n 1, 1) := by decide +kernel
theorem d5_9 : decode prog_46_method_2_code 9 = .ok (.iconst 0, 1) := by decide +kernel
theorem d5_10 : decode prog_46_method_2_code 10 = .ok (.istore_n 2, 1) := by decide +kernel
theorem d5_11 : decode prog_46_method_2_code 11 = .ok (.iload_n 1, 1) := by decide +kernel
theorem d5_12 : decode prog_46_method_2_code 12 = .ok (.ifCond .ge 41, 3) := by decide +kernel
theorem d5_15 : decode prog_46_method_2_code 15 = .ok (.iload_n 2, 1) := by decide +kernel
theorem d5_16 : decode prog_46_method_2_code 16 = .ok (.aload_n 0, 1) := by decide +kernel
theorem d5_17 : decode prog_46_method_2_code 17 = .ok (.invokevirtual 15, 3) := by decide +kernel
theorem d5_20 : decode prog_46_method_2_code 20 = .ok (.if_icmp .ge 33, 3) := by decide +kernel
theorem d5_23 : decode prog_46_method_2_code 23 = .ok (.aload_n 0, 1) := by decide +kernel
theorem d5_24 : decode prog_46_method_2_code 24 = .ok (.iload_n 2, 1) := by decide +kernel
theorem d5_25 : decode prog_46_method_2_code 25 = .ok (.invokevirtual 21, 3) := by decide +kernel
theorem d5_28 : decode prog_46_method_2_code 28 = .ok (.istore_n 3, 1) := by decide +kernel
theorem d5_29 : decode prog_46_method_2_code 29 = .ok (.iload_n 3, 1) := by decide +kernel
theorem d5_30 : decode prog_46_method_2_code 30 = .ok (.ldc 27, 2) := by decide +kernel
theorem d5_32 : decode prog_46_method_2_code 32 = .ok (.if_icmp .lt 11, 3) := by decide +kernel
theorem d5_35 : decode prog_46_method_2_code 35 = .ok (.iload_n 3, 1) := by decide +kernel
theorem d5_36 : decode prog_46_method_2_code 36 = .ok (.ldc 28, 2) := by decide +kernel
theorem d5_38 : decode prog_46_method_2_code 38 = .ok (.if_icmp .gt 5, 3) := by decide +kernel
theorem d5_41 : decode prog_46_method_2_code 41 = .ok (.iload_n 2, 1) := by decide +kernel
theorem d5_42 : decode prog_46_method_2_code 42 = .ok (.istore_n 1, 1) := by decide +kernel
theorem d5_43 : decode prog_46_method_2_code 43 = .ok (.iload_n 2, 1) := by decide +kernel
theorem d5_44 : decode prog_46_method_2_code 44 = .ok (.iload_n 3, 1) := by decide +kernel
theorem d5_45 : decode prog_46_method_2_code 45 = .ok (.invokestatic 29, 3) := by decide +kernel
theorem d5_48 : decode prog_46_method_2_code 48 = .ok (.iadd, 1) := by decide +kernel
theorem d5_49 : decode prog_46_method_2_code 49 = .ok (.istore_n 2, 1) := by decide +kernel
theorem d5_50 : decode prog_46_method_2_code 50 = .ok (.goto (-39), 3) := by decide +kernel
theorem d5_53 : decode prog_46_method_2_code 53 = .ok (.iload_n 1, 1) := by decide +kernel
theorem d5_54 : decode prog_46_method_2_code 54 = .ok (.ireturn, 1) := by decide +kernel
theorem Wd33 {a0 : Array Value} {Z : State} (hw : ∀ d ∈ tables_1, d.before a0 Z = true) : (Jvm.Cond.stringLink "com/example/rhadamanthus/rhadamanthus/util/Utf16" (7 : Nat) "text").before a0 Z = true := hw _ (List.mem_of_getElem? (i := 33) rfl)
theorem ef_rm_ls_0 (m : MethodId) (x0 : Addr) : entryFrame m #[(.ref x0)] 4 = mkF m 0 #[.val (.ref x0), .unset, .unset, .unset] [] := by first | (simp [entryFrame, mkF, argsToLocals, Value.category, maxLocals]; done) | rfl
theorem pf_26 : plainFor (⟨"com/example/rhadamanthus/rhadamanthus/util/Utf16", "loneSurrogateIndex", "(Ljava/lang/String;)I"⟩ : MethodName) = true := by apply plainFor_of_name; first | (simp [plainName, overriddenIn]; done) | decide +kernel
theorem Wd37 {a0 : Array Value} {Z : State} (hw : ∀ d ∈ tables_1, d.before a0 Z = true) : (Jvm.Cond.code ({ cls := "java/util/Objects", name := "requireNonNull", desc := "(Ljava/lang/Object;Ljava/lang/String;)Ljava/lang/Object;" } : Jvm.MethodName) jdk_31_method_11_code (2 : Nat) (Option.some (Jvm.ClassFile.FieldType.object "java/lang/Object"))).before a0 Z = true := hw _ (List.mem_of_getElem? (i := 37) rfl)
theorem Wd36 {a0 : Array Value} {Z : State} (hw : ∀ d ∈ tables_1, d.before a0 Z = true) : (Jvm.Cond.initialized "java/util/Objects").before a0 Z = true := hw _ (List.mem_of_getElem? (i := 36) rfl)
theorem pd_16 : parseMethodDescriptor "(Ljava/lang/Object;Ljava/lang/String;)Ljava/lang/Object;" = some ⟨[(.object "java/lang/Object"), (.object "java/lang/String")], some (.object "java/lang/Object")⟩ := by decide +kernel
theorem Wd34 {a0 : Array Value} {Z : State} (hw : ∀ d ∈ tables_1, d.before a0 Z = true) : (Jvm.Cond.methodLink "com/example/rhadamanthus/rhadamanthus/util/Utf16" (9 : Nat) ({ cls := "java/util/Objects", name := "requireNonNull", desc := "(Ljava/lang/Object;Ljava/lang/String;)Ljava/lang/Object;" } : Jvm.MethodName)).before a0 Z = true := hw _ (List.mem_of_getElem? (i := 34) rfl)
theorem Wd35 {a0 : Array Value} {Z : State} (hw : ∀ d ∈ tables_1, d.before a0 Z = true) : (Jvm.Cond.static ({ cls := "java/util/Objects", name := "requireNonNull", desc := "(Ljava/lang/Object;Ljava/lang/String;)Ljava/lang/Object;" } : Jvm.MethodName)).before a0 Z = true := hw _ (List.mem_of_getElem? (i := 35) rfl)
theorem Wd42 {a0 : Array Value} {Z : State} (hw : ∀ d ∈ tables_1, d.before a0 Z = true) : (Jvm.Cond.code ({ cls := "java/lang/String", name := "length", desc := "()I" } : Jvm.MethodName) jdk_42_method_54_code (1 : Nat) (Option.some Jvm.ClassFile.FieldType.int)).before a0 Z = true := hw _ (List.mem_of_getElem? (i := 42) rfl)
theorem pd_17 : parseMethodDescriptor "()I" = some ⟨[], some .int⟩ := by decide +kernel
theorem Wd38 {a0 : Array Value} {Z : State} (hw : ∀ d ∈ tables_1, d.before a0 Z = true) : (Jvm.Cond.methodLink "com/example/rhadamanthus/rhadamanthus/util/Utf16" (15 : Nat) ({ cls := "java/lang/String", name := "length", desc := "()I" } : Jvm.MethodName)).before a0 Z = true := hw _ (List.mem_of_getElem? (i := 38) rfl)
theorem Wd40 {a0 : Array Value} {Z : State} (hw : ∀ d ∈ tables_1, d.before a0 Z = true) : (Jvm.Cond.instanceMethod ({ cls := "java/lang/String", name := "length", desc := "()I" } : Jvm.MethodName)).before a0 Z = true := hw _ (List.mem_of_getElem? (i := 40) rfl)
theorem Wd41 {a0 : Array Value} {Z : State} (hw : ∀ d ∈ tables_1, d.before a0 Z = true) : (Jvm.Cond.selects "java/lang/String" ({ cls := "java/lang/String", name := "length", desc := "()I" } : Jvm.MethodName) ({ cls := "java/lang/String", name := "length", desc := "()I" } : Jvm.MethodName)).before a0 Z = true := hw _ (List.mem_of_getElem? (i := 41) rfl)
set_option maxRecDepth 65536 in
set_option maxHeartbeats 40000000 in
theorem rm_ls_0 (l : Launch) (Z : State) (a0 : Array Value) (hw : ∀ d ∈ tables_1, d.before a0 Z = true) (ws : List Jvm.Cond) (cz : Int32) (sv : Value) (hcz : ¬ cz = (0 : Int32)) (hsv : sv.isRef = true) (so ba : Addr) (kb : ClassId)  (h0 : Heap) (n0 : Nat) (Z0 : n0 ≤ h0.size) (E_s : Exa Z h0 so "java/lang/String") (F_v : Fld Z h0 so "java/lang/String" "value" "[B" (.ref ba)) (hF : ((Fld Z h0 so "java/lang/String" "coder" "B" (.int (0 : Int32)) ∧ True ∧ Arv Z h0 ba kb .byte (0 : Int32) [] (.int (0 : Int32))) ∨ (Fld Z h0 so "java/lang/String" "coder" "B" (.int (1 : Int32)) ∧ Arv Z h0 ba kb .byte (0 : Int32) [] (.int (0 : Int32)))))  (B_ST : own_ST n0 Z h0 cz sv) :
    own_MW l Z (⟨"com/example/rhadamanthus/rhadamanthus/util/Utf16", "loneSurrogateIndex", "(Ljava/lang/String;)I"⟩ : MethodName) prog_46_method_2_code 4 (some .int) ws ({ frames := 2, cells := 2, slots := 20, locals := 26 } : Room) #[(.ref so)] h0 (fun vm => True) (Qval (own_lsL [] 0) n0) := by
  refine own_bodyW (H := (fun vm => True)) pf_26 ?_
  intro p e s m below meth c s₁ vm0 hx hby hml hown hnm hlk hret hZ X0 e0 hs0 hH
  have N0 : Fr n0 [] := Fr.nil n0
  refine own_go (f' := (mkF m 0 #[.val (.ref so), .unset, .unset, .unset] [])) (fun t k => castTop (ef_rm_ls_0 m so) k) ?_
  refine own_aloadN X0 hx (pc' := 1) (hb hby d5_0) rfl rfl rfl ?_
  obtain ⟨sa1, T1, h1, k1_1, X1, e1, E1, hs1, hk1, hZ, hown, -, -, st1⟩ := ldcOH (EL := []) X0 hx hZ hown (Wd33 hw) (own_atoms hw) e0 hs0 (Nat.zero_le _) EW.nil own_EL0 (g := (mkF m 1 #[.val (.ref so), .unset, .unset, .unset] [(.ref so)])) rfl (hb hby d5_1) (n := 16) (by decide) (by decide) (by decide) (by decide)
  have Z2 : n0 ≤ h1.size := Nat.le_trans Z0 E1.1
  have F3 := (B_ST.ext E1)
  have F4 := (Exa.ext E1 E_s)
  have F5 := (Fld.ext E1 F_v)
  have F6 := (own_fx_0 E1 hF)
  refine own_go (f' := (mkF m 3 #[.val (.ref so), .unset, .unset, .unset] [(.ref sa1), (.ref so)])) st1 ?_
  refine own_callS X1 hx (pc' := 6) hZ hown (Wd34 hw) (Wd35 hw) (Wd36 hw) (Wd37 hw) (by decide) (rm_rnn l Z a0 hw []  so sa1 h1 n0 Z2  ) e1 0 (by decide) (by decide) (by decide) (by decide) [(.ref so), (.ref sa1)] [] (by rw [hml]; rfl) (lenOf pd_16 rfl) rfl rfl (Nat.le_of_eq rfl) (hb hby d5_3) rfl (fun v7 T7 L7 X7 hQ7 => ?_)
  obtain ⟨rfl, Nq7, e7⟩ := hQ7
  have N8 := Fr.app N0 Nq7
  show own_G p.tables e below _ T7 (mkF m 6 #[.val (.ref so), .unset, .unset, .unset] [(.ref so)])
  refine own_pop X7 hx (pc' := 7) (hb hby d5_6) rfl rfl ?_
  refine own_iconst X7 hx (pc' := 8) (-1 : Int32) (hb hby d5_7) rfl rfl ?_
  refine own_istoreN X7 hx (pc' := 9) (Ls' := #[.val (.ref so), .val (.int (-1 : Int32)), .unset, .unset]) (hb hby d5_8) rfl rfl ?_
  refine own_iconst X7 hx (pc' := 10) (0 : Int32) (hb hby d5_9) rfl rfl ?_
  refine own_istoreN X7 hx (pc' := 11) (Ls' := #[.val (.ref so), .val (.int (-1 : Int32)), .val (.int (0 : Int32)), .unset]) (hb hby d5_10) rfl rfl ?_
  have J0 : ∀ (x3 : Slot) (hx3 : x3 = .unset ∨ ∃ w : Value, x3 = .val w ∧ w.category = 1) (TJ : State) (locsJ : List Loc) (XJ : Stand p l e ({ frames := 2, cells := 2, slots := 20, locals := 26 } : Room) (s.setVm T1.vm) m #[(.ref so)] below meth c TJ locsJ 2 20) (eJ : TJ.heap = h1) (NJ : Fr n0 locsJ), own_G p.tables e below (own_PW s (Qval (own_lsL [] 0) n0) 2 20) TJ (mkF m 11 #[.val (.ref so), .val (.int (-1 : Int32)), .val (.int (0 : Int32)), x3] []) := by
    intro x3 hx3 TJ locsJ XJ eJ NJ
    refine own_iloadN XJ hx (pc' := 12) (hb hby d5_11) rfl rfl ?_
    refine own_ifNo XJ hx (pc' := 15) (hb hby d5_12) (tlt (by decide : (-1 : Int32) < (0 : Int32))).2.1 rfl ?_
    refine own_iloadN XJ hx (pc' := 16) (hb hby d5_15) rfl rfl ?_
    refine own_aloadN XJ hx (pc' := 17) (hb hby d5_16) rfl rfl rfl ?_
    refine own_cVI XJ hx (pc' := 20) hZ hown (Wd38 hw) (Wd40 hw) (Wd41 hw) (Wd42 hw) (Wd10 hw) (rm_lf_0 l Z a0 hw [] cz sv hcz hsv so ba kb  h1 n0 Z2 F4 F5 F6 F3) eJ F4 NJ hml pd_17 (hb hby d5_17) 1 [] [(.int (0 : Int32))] (fun T9 L9 X9 e9 N9 => ?_)
    refine own_icmpYes X9 hx (pc' := 53) (hb hby d5_20) (flt (by decide : ¬ ((0 : Int32) < (0 : Int32)))).2.1 (by decide) (by decide) ?_
    refine own_iloadN X9 hx (pc' := 54) (hb hby d5_53) rfl rfl ?_
    refine own_retIW X9 hs1 e9 hk1 hx hlk hret (hb hby d5_54) (by decide) (by decide) ?_
    exact ⟨congrArg (fun z => some (Value.int z)) (own_ls0 0).symm, N9⟩
  exact J0 _ (Or.inl rfl) _ _ X7 e7 N8

theorem ef_rm_ls_1 (m : MethodId) (x0 : Addr) : entryFrame m #[(.ref x0)] 4 = mkF m 0 #[.val (.ref x0), .unset, .unset, .unset] [] := by first | (simp [entryFrame, mkF, argsToLocals, Value.category, maxLocals]; done) | rfl
theorem Wd69 {a0 : Array Value} {Z : State} (hw : ∀ d ∈ tables_1, d.before a0 Z = true) : (Jvm.Cond.code ({ cls := "java/lang/String", name := "codePointAt", desc := "(I)I" } : Jvm.MethodName) jdk_42_method_57_code (3 : Nat) (Option.some Jvm.ClassFile.FieldType.int)).before a0 Z = true := hw _ (List.mem_of_getElem? (i := 69) rfl)
theorem Wd65 {a0 : Array Value} {Z : State} (hw : ∀ d ∈ tables_1, d.before a0 Z = true) : (Jvm.Cond.methodLink "com/example/rhadamanthus/rhadamanthus/util/Utf16" (21 : Nat) ({ cls := "java/lang/String", name := "codePointAt", desc := "(I)I" } : Jvm.MethodName)).before a0 Z = true := hw _ (List.mem_of_getElem? (i := 65) rfl)
theorem Wd67 {a0 : Array Value} {Z : State} (hw : ∀ d ∈ tables_1, d.before a0 Z = true) : (Jvm.Cond.instanceMethod ({ cls := "java/lang/String", name := "codePointAt", desc := "(I)I" } : Jvm.MethodName)).before a0 Z = true := hw _ (List.mem_of_getElem? (i := 67) rfl)
theorem Wd68 {a0 : Array Value} {Z : State} (hw : ∀ d ∈ tables_1, d.before a0 Z = true) : (Jvm.Cond.selects "java/lang/String" ({ cls := "java/lang/String", name := "codePointAt", desc := "(I)I" } : Jvm.MethodName) ({ cls := "java/lang/String", name := "codePointAt", desc := "(I)I" } : Jvm.MethodName)).before a0 Z = true := hw _ (List.mem_of_getElem? (i := 68) rfl)
theorem Wd87 {a0 : Array Value} {Z : State} (hw : ∀ d ∈ tables_1, d.before a0 Z = true) : (Jvm.Cond.code ({ cls := "java/lang/Character", name := "charCount", desc := "(I)I" } : Jvm.MethodName) jdk_89_method_18_code (1 : Nat) (Option.some Jvm.ClassFile.FieldType.int)).before a0 Z = true := hw _ (List.mem_of_getElem? (i := 87) rfl)
theorem Wd84 {a0 : Array Value} {Z : State} (hw : ∀ d ∈ tables_1, d.before a0 Z = true) : (Jvm.Cond.methodLink "com/example/rhadamanthus/rhadamanthus/util/Utf16" (29 : Nat) ({ cls := "java/lang/Character", name := "charCount", desc := "(I)I" } : Jvm.MethodName)).before a0 Z = true := hw _ (List.mem_of_getElem? (i := 84) rfl)
theorem Wd85 {a0 : Array Value} {Z : State} (hw : ∀ d ∈ tables_1, d.before a0 Z = true) : (Jvm.Cond.static ({ cls := "java/lang/Character", name := "charCount", desc := "(I)I" } : Jvm.MethodName)).before a0 Z = true := hw _ (List.mem_of_getElem? (i := 85) rfl)
theorem Wd83 {a0 : Array Value} {Z : State} (hw : ∀ d ∈ tables_1, d.before a0 Z = true) : (Jvm.Cond.constant "com/example/rhadamanthus/rhadamanthus/util/Utf16" (27 : Nat) (55296 : Int32)).before a0 Z = true := hw _ (List.mem_of_getElem? (i := 83) rfl)
theorem Wd121 {a0 : Array Value} {Z : State} (hw : ∀ d ∈ tables_1, d.before a0 Z = true) : (Jvm.Cond.constant "com/example/rhadamanthus/rhadamanthus/util/Utf16" (28 : Nat) (57343 : Int32)).before a0 Z = true := hw _ (List.mem_of_getElem? (i := 121) rfl)
set_option maxRecDepth 65536 in
set_option maxHeartbeats 40000000 in
theorem rm_ls_1 (l : Launch) (Z : State) (a0 : Array Value) (hw : ∀ d ∈ tables_1, d.before a0 Z = true) (ws : List Jvm.Cond) (cz : Int32) (sv : Value) (hcz : ¬ cz = (0 : Int32)) (hsv : sv.isRef = true) (so ba : Addr) (kb : ClassId) (c0 : Int32) (h0 : Heap) (n0 : Nat) (Z0 : n0 ≤ h0.size) (E_s : Exa Z h0 so "java/lang/String") (F_v : Fld Z h0 so "java/lang/String" "value" "[B" (.ref ba)) (hF : ((Fld Z h0 so "java/lang/String" "coder" "B" (.int (0 : Int32)) ∧ (¬ (255 : Int32) < c0) ∧ Arv Z h0 ba kb .byte (1 : Int32) [(.int (own_lb c0))] (.int (0 : Int32))) ∨ (Fld Z h0 so "java/lang/String" "coder" "B" (.int (1 : Int32)) ∧ Arv Z h0 ba kb .byte (2 : Int32) [(.int (own_b0 c0)), (.int (own_b1 c0))] (.int (0 : Int32))))) (rc0 : own_ch c0) (B_ST : own_ST n0 Z h0 cz sv) :
    own_MW l Z (⟨"com/example/rhadamanthus/rhadamanthus/util/Utf16", "loneSurrogateIndex", "(Ljava/lang/String;)I"⟩ : MethodName) prog_46_method_2_code 4 (some .int) ws ({ frames := 4, cells := 2, slots := 20, locals := 58 } : Room) #[(.ref so)] h0 (fun vm => True) (Qval (own_lsL [c0] 0) n0) := by
  refine own_bodyW (H := (fun vm => True)) pf_26 ?_
  intro p e s m below meth c s₁ vm0 hx hby hml hown hnm hlk hret hZ X0 e0 hs0 hH
  have N0 : Fr n0 [] := Fr.nil n0
  refine own_go (f' := (mkF m 0 #[.val (.ref so), .unset, .unset, .unset] [])) (fun t k => castTop (ef_rm_ls_1 m so) k) ?_
  refine own_aloadN X0 hx (pc' := 1) (hb hby d5_0) rfl rfl rfl ?_
  obtain ⟨sa1, T1, h1, k1_1, X1, e1, E1, hs1, hk1, hZ, hown, -, -, st1⟩ := ldcOH (EL := []) X0 hx hZ hown (Wd33 hw) (own_atoms hw) e0 hs0 (Nat.zero_le _) EW.nil own_EL0 (g := (mkF m 1 #[.val (.ref so), .unset, .unset, .unset] [(.ref so)])) rfl (hb hby d5_1) (n := 16) (by decide) (by decide) (by decide) (by decide)
  have Z2 : n0 ≤ h1.size := Nat.le_trans Z0 E1.1
  have F3 := (B_ST.ext E1)
  have F4 := (Exa.ext E1 E_s)
  have F5 := (Fld.ext E1 F_v)
  have F6 := (own_fx_1 E1 hF)
  refine own_go (f' := (mkF m 3 #[.val (.ref so), .unset, .unset, .unset] [(.ref sa1), (.ref so)])) st1 ?_
  refine own_callS X1 hx (pc' := 6) hZ hown (Wd34 hw) (Wd35 hw) (Wd36 hw) (Wd37 hw) (by decide) (rm_rnn l Z a0 hw []  so sa1 h1 n0 Z2  ) e1 0 (by decide) (by decide) (by decide) (by decide) [(.ref so), (.ref sa1)] [] (by rw [hml]; rfl) (lenOf pd_16 rfl) rfl rfl (Nat.le_of_eq rfl) (hb hby d5_3) rfl (fun v7 T7 L7 X7 hQ7 => ?_)
  obtain ⟨rfl, Nq7, e7⟩ := hQ7
  have N8 := Fr.app N0 Nq7
  show own_G p.tables e below _ T7 (mkF m 6 #[.val (.ref so), .unset, .unset, .unset] [(.ref so)])
  refine own_pop X7 hx (pc' := 7) (hb hby d5_6) rfl rfl ?_
  refine own_iconst X7 hx (pc' := 8) (-1 : Int32) (hb hby d5_7) rfl rfl ?_
  refine own_istoreN X7 hx (pc' := 9) (Ls' := #[.val (.ref so), .val (.int (-1 : Int32)), .unset, .unset]) (hb hby d5_8) rfl rfl ?_
  refine own_iconst X7 hx (pc' := 10) (0 : Int32) (hb hby d5_9) rfl rfl ?_
  refine own_istoreN X7 hx (pc' := 11) (Ls' := #[.val (.ref so), .val (.int (-1 : Int32)), .val (.int (0 : Int32)), .unset]) (hb hby d5_10) rfl rfl ?_
  have J1 : ∀ (x3 : Slot) (hx3 : x3 = .unset ∨ ∃ w : Value, x3 = .val w ∧ w.category = 1) (TJ : State) (locsJ : List Loc) (XJ : Stand p l e ({ frames := 4, cells := 2, slots := 20, locals := 58 } : Room) (s.setVm T1.vm) m #[(.ref so)] below meth c TJ locsJ 2 20) (eJ : TJ.heap = h1) (NJ : Fr n0 locsJ), own_G p.tables e below (own_PW s (Qval (own_lsL [] 1) n0) 2 20) TJ (mkF m 11 #[.val (.ref so), .val (.int (-1 : Int32)), .val (.int (1 : Int32)), x3] []) := by
    intro x3 hx3 TJ locsJ XJ eJ NJ
    refine own_iloadN XJ hx (pc' := 12) (hb hby d5_11) rfl rfl ?_
    refine own_ifNo XJ hx (pc' := 15) (hb hby d5_12) (tlt (by decide : (-1 : Int32) < (0 : Int32))).2.1 rfl ?_
    refine own_iloadN XJ hx (pc' := 16) (hb hby d5_15) rfl rfl ?_
    refine own_aloadN XJ hx (pc' := 17) (hb hby d5_16) rfl rfl rfl ?_
    refine own_cVI XJ hx (pc' := 20) hZ hown (Wd38 hw) (Wd40 hw) (Wd41 hw) (Wd42 hw) (Wd10 hw) (rm_lf_1 l Z a0 hw [] cz sv hcz hsv so ba kb c0 h1 n0 Z2 F4 F5 F6 F3) eJ F4 NJ hml pd_17 (hb hby d5_17) 1 [] [(.int (1 : Int32))] (fun T9 L9 X9 e9 N9 => ?_)
    refine own_icmpYes X9 hx (pc' := 53) (hb hby d5_20) (flt (by decide : ¬ ((1 : Int32) < (1 : Int32)))).2.1 (by decide) (by decide) ?_
    refine own_iloadN X9 hx (pc' := 54) (hb hby d5_53) rfl rfl ?_
    refine own_retIW X9 hs1 e9 hk1 hx hlk hret (hb hby d5_54) (by decide) (by decide) ?_
    exact ⟨congrArg (fun z => some (Value.int z)) (own_ls0 1).symm, N9⟩
  have J0 : ∀ (x3 : Slot) (hx3 : x3 = .unset ∨ ∃ w : Value, x3 = .val w ∧ w.category = 1) (TJ : State) (locsJ : List Loc) (XJ : Stand p l e ({ frames := 4, cells := 2, slots := 20, locals := 58 } : Room) (s.setVm T1.vm) m #[(.ref so)] below meth c TJ locsJ 2 20) (eJ : TJ.heap = h1) (NJ : Fr n0 locsJ), own_G p.tables e below (own_PW s (Qval (own_lsL [c0] 0) n0) 2 20) TJ (mkF m 11 #[.val (.ref so), .val (.int (-1 : Int32)), .val (.int (0 : Int32)), x3] []) := by
    intro x3 hx3 TJ locsJ XJ eJ NJ
    refine own_iloadN XJ hx (pc' := 12) (hb hby d5_11) rfl rfl ?_
    refine own_ifNo XJ hx (pc' := 15) (hb hby d5_12) (tlt (by decide : (-1 : Int32) < (0 : Int32))).2.1 rfl ?_
    refine own_iloadN XJ hx (pc' := 16) (hb hby d5_15) rfl rfl ?_
    refine own_aloadN XJ hx (pc' := 17) (hb hby d5_16) rfl rfl rfl ?_
    refine own_cVI XJ hx (pc' := 20) hZ hown (Wd38 hw) (Wd40 hw) (Wd41 hw) (Wd42 hw) (Wd10 hw) (rm_lf_1 l Z a0 hw [] cz sv hcz hsv so ba kb c0 h1 n0 Z2 F4 F5 F6 F3) eJ F4 NJ hml pd_17 (hb hby d5_17) 1 [] [(.int (0 : Int32))] (fun T10 L10 X10 e10 N10 => ?_)
    refine own_icmpNo X10 hx (pc' := 23) (hb hby d5_20) (tlt (by decide : (0 : Int32) < (1 : Int32))).2.1 rfl ?_
    refine own_aloadN X10 hx (pc' := 24) (hb hby d5_23) rfl rfl rfl ?_
    refine own_iloadN X10 hx (pc' := 25) (hb hby d5_24) rfl rfl ?_
    refine own_cVI X10 hx (pc' := 28) hZ hown (Wd65 hw) (Wd67 hw) (Wd68 hw) (Wd69 hw) (Wd10 hw) (rm_pF_1_0 l Z a0 hw [] cz sv hcz hsv so ba kb c0 h1 n0 Z2 F4 F5 F6 rc0 F3) e10 F4 N10 hml pd_2 (hb hby d5_25) 0 [(.int (0 : Int32))] [] (fun T11 L11 X11 e11 N11 => ?_)
    rcases own_triL c0 0 with ⟨q1, hn⟩ | ⟨q1, n1, n2⟩
    · rw [q1]
      have G43 : own_G p.tables e below (own_PW s (Qval (own_lsL [] 1) n0) 2 20) T11 (mkF m 43 #[.val (.ref so), .val (.int (-1 : Int32)), .val (.int (0 : Int32)), .val (.int c0)] []) := by
        refine own_iloadN X11 hx (pc' := 44) (hb hby d5_43) rfl rfl ?_
        refine own_iloadN X11 hx (pc' := 45) (hb hby d5_44) rfl rfl ?_
        refine own_cSI X11 hx (pc' := 48) hZ hown (Wd84 hw) (Wd85 hw) (Wd86 hw) (Wd87 hw) (rm_cc l Z a0 hw []  c0 h1 n0 Z2  ) e11 N11 hml pd_2 (hb hby d5_45) 1 [(.int c0)] [(.int (0 : Int32))] (fun T12 L12 X12 e12 N12 => ?_)
        rw [own_cc1 rc0]
        refine own_iadd X12 hx (pc' := 49) (z := (1 : Int32)) (hb hby d5_48) (by decide) rfl ?_
        refine own_istoreN X12 hx (pc' := 50) (Ls' := #[.val (.ref so), .val (.int (-1 : Int32)), .val (.int (1 : Int32)), .val (.int c0)]) (hb hby d5_49) rfl rfl ?_
        refine own_goto X12 hx (pc' := 11) (hb hby d5_50) (by decide) (by decide) ?_
        exact J1 _ (Or.inr ⟨_, rfl, rfl⟩) _ _ X12 e12 N12
      rcases hn with n1 | ⟨n1, n2⟩
      · skip
        refine own_istoreN X11 hx (pc' := 29) (Ls' := #[.val (.ref so), .val (.int (-1 : Int32)), .val (.int (0 : Int32)), .val (.int c0)]) (hb hby d5_28) (by first | rfl | (exact XS.store1 (o := _) rfl (by first | exact Or.inl rfl | exact Or.inr ⟨_, rfl, rfl⟩ | assumption) rfl)) rfl ?_
        refine own_iloadN X11 hx (pc' := 30) (hb hby d5_29) rfl rfl ?_
        refine own_ldcI X11 hx (pc' := 32) hZ hown (Wd83 hw) (hb hby d5_30) rfl ?_
        refine own_icmpYes X11 hx (pc' := 43) (hb hby d5_32) (tlt n1).1 (by decide) (by decide) ?_
        exact G43
      · skip
        refine own_istoreN X11 hx (pc' := 29) (Ls' := #[.val (.ref so), .val (.int (-1 : Int32)), .val (.int (0 : Int32)), .val (.int c0)]) (hb hby d5_28) (by first | rfl | (exact XS.store1 (o := _) rfl (by first | exact Or.inl rfl | exact Or.inr ⟨_, rfl, rfl⟩ | assumption) rfl)) rfl ?_
        refine own_iloadN X11 hx (pc' := 30) (hb hby d5_29) rfl rfl ?_
        refine own_ldcI X11 hx (pc' := 32) hZ hown (Wd83 hw) (hb hby d5_30) rfl ?_
        refine own_icmpNo X11 hx (pc' := 35) (hb hby d5_32) (flt n1).1 rfl ?_
        refine own_iloadN X11 hx (pc' := 36) (hb hby d5_35) rfl rfl ?_
        refine own_ldcI X11 hx (pc' := 38) hZ hown (Wd121 hw) (hb hby d5_36) rfl ?_
        refine own_icmpYes X11 hx (pc' := 43) (hb hby d5_38) (tlt n2).2.2.1 (by decide) (by decide) ?_
        exact G43
    · rw [q1]
      refine own_istoreN X11 hx (pc' := 29) (Ls' := #[.val (.ref so), .val (.int (-1 : Int32)), .val (.int (0 : Int32)), .val (.int c0)]) (hb hby d5_28) (by first | rfl | (exact XS.store1 (o := _) rfl (by first | exact Or.inl rfl | exact Or.inr ⟨_, rfl, rfl⟩ | assumption) rfl)) rfl ?_
      refine own_iloadN X11 hx (pc' := 30) (hb hby d5_29) rfl rfl ?_
      refine own_ldcI X11 hx (pc' := 32) hZ hown (Wd83 hw) (hb hby d5_30) rfl ?_
      refine own_icmpNo X11 hx (pc' := 35) (hb hby d5_32) (flt n1).1 rfl ?_
      refine own_iloadN X11 hx (pc' := 36) (hb hby d5_35) rfl rfl ?_
      refine own_ldcI X11 hx (pc' := 38) hZ hown (Wd121 hw) (hb hby d5_36) rfl ?_
      refine own_icmpNo X11 hx (pc' := 41) (hb hby d5_38) (flt n2).2.2.1 rfl ?_
      refine own_iloadN X11 hx (pc' := 42) (hb hby d5_41) rfl rfl ?_
      refine own_istoreN X11 hx (pc' := 43) (Ls' := #[.val (.ref so), .val (.int (0 : Int32)), .val (.int (0 : Int32)), .val (.int c0)]) (hb hby d5_42) rfl rfl ?_
      refine own_iloadN X11 hx (pc' := 44) (hb hby d5_43) rfl rfl ?_
      refine own_iloadN X11 hx (pc' := 45) (hb hby d5_44) rfl rfl ?_
      refine own_cSI X11 hx (pc' := 48) hZ hown (Wd84 hw) (Wd85 hw) (Wd86 hw) (Wd87 hw) (rm_cc l Z a0 hw []  c0 h1 n0 Z2  ) e11 N11 hml pd_2 (hb hby d5_45) 1 [(.int c0)] [(.int (0 : Int32))] (fun T13 L13 X13 e13 N13 => ?_)
      rw [own_cc1 rc0]
      refine own_iadd X13 hx (pc' := 49) (z := (1 : Int32)) (hb hby d5_48) (by decide) rfl ?_
      refine own_istoreN X13 hx (pc' := 50) (Ls' := #[.val (.ref so), .val (.int (0 : Int32)), .val (.int (1 : Int32)), .val (.int c0)]) (hb hby d5_49) rfl rfl ?_
      refine own_goto X13 hx (pc' := 11) (hb hby d5_50) (by decide) (by decide) ?_
      refine own_iloadN X13 hx (pc' := 12) (hb hby d5_11) rfl rfl ?_
      refine own_ifYes X13 hx (pc' := 53) (hb hby d5_12) (flt (by decide : ¬ ((0 : Int32) < (0 : Int32)))).2.1 (by decide) (by decide) ?_
      refine own_iloadN X13 hx (pc' := 54) (hb hby d5_53) rfl rfl ?_
      refine own_retIW X13 hs1 e13 hk1 hx hlk hret (hb hby d5_54) (by decide) (by decide) ?_
      exact ⟨rfl, N13⟩
  exact J0 _ (Or.inl rfl) _ _ X7 e7 N8

theorem ef_rm_ls_2 (m : MethodId) (x0 : Addr) : entryFrame m #[(.ref x0)] 4 = mkF m 0 #[.val (.ref x0), .unset, .unset, .unset] [] := by first | (simp [entryFrame, mkF, argsToLocals, Value.category, maxLocals]; done) | rfl
set_option maxRecDepth 65536 in
set_option maxHeartbeats 40000000 in
theorem rm_ls_2 (l : Launch) (Z : State) (a0 : Array Value) (hw : ∀ d ∈ tables_1, d.before a0 Z = true) (ws : List Jvm.Cond) (cz : Int32) (sv : Value) (hcz : ¬ cz = (0 : Int32)) (hsv : sv.isRef = true) (so ba : Addr) (kb : ClassId) (c0 c1 : Int32) (h0 : Heap) (n0 : Nat) (Z0 : n0 ≤ h0.size) (E_s : Exa Z h0 so "java/lang/String") (F_v : Fld Z h0 so "java/lang/String" "value" "[B" (.ref ba)) (hF : ((Fld Z h0 so "java/lang/String" "coder" "B" (.int (0 : Int32)) ∧ (¬ (255 : Int32) < c0 ∧ ¬ (255 : Int32) < c1) ∧ Arv Z h0 ba kb .byte (2 : Int32) [(.int (own_lb c0)), (.int (own_lb c1))] (.int (0 : Int32))) ∨ (Fld Z h0 so "java/lang/String" "coder" "B" (.int (1 : Int32)) ∧ Arv Z h0 ba kb .byte (4 : Int32) [(.int (own_b0 c0)), (.int (own_b1 c0)), (.int (own_b0 c1)), (.int (own_b1 c1))] (.int (0 : Int32))))) (rc0 : own_ch c0) (rc1 : own_ch c1) (B_ST : own_ST n0 Z h0 cz sv) :
    own_MW l Z (⟨"com/example/rhadamanthus/rhadamanthus/util/Utf16", "loneSurrogateIndex", "(Ljava/lang/String;)I"⟩ : MethodName) prog_46_method_2_code 4 (some .int) ws ({ frames := 4, cells := 2, slots := 20, locals := 58 } : Room) #[(.ref so)] h0 (fun vm => True) (Qval (own_lsL [c0, c1] 0) n0) := by
  refine own_bodyW (H := (fun vm => True)) pf_26 ?_
  intro p e s m below meth c s₁ vm0 hx hby hml hown hnm hlk hret hZ X0 e0 hs0 hH
  have N0 : Fr n0 [] := Fr.nil n0
  refine own_go (f' := (mkF m 0 #[.val (.ref so), .unset, .unset, .unset] [])) (fun t k => castTop (ef_rm_ls_2 m so) k) ?_
  refine own_aloadN X0 hx (pc' := 1) (hb hby d5_0) rfl rfl rfl ?_
  obtain ⟨sa1, T1, h1, k1_1, X1, e1, E1, hs1, hk1, hZ, hown, -, -, st1⟩ := ldcOH (EL := []) X0 hx hZ hown (Wd33 hw) (own_atoms hw) e0 hs0 (Nat.zero_le _) EW.nil own_EL0 (g := (mkF m 1 #[.val (.ref so), .unset, .unset, .unset] [(.ref so)])) rfl (hb hby d5_1) (n := 16) (by decide) (by decide) (by decide) (by decide)
  have Z2 : n0 ≤ h1.size := Nat.le_trans Z0 E1.1
  have F3 := (B_ST.ext E1)
  have F4 := (Exa.ext E1 E_s)
  have F5 := (Fld.ext E1 F_v)
  have F6 := (own_fx_2 E1 hF)
  refine own_go (f' := (mkF m 3 #[.val (.ref so), .unset, .unset, .unset] [(.ref sa1), (.ref so)])) st1 ?_
  refine own_callS X1 hx (pc' := 6) hZ hown (Wd34 hw) (Wd35 hw) (Wd36 hw) (Wd37 hw) (by decide) (rm_rnn l Z a0 hw []  so sa1 h1 n0 Z2  ) e1 0 (by decide) (by decide) (by decide) (by decide) [(.ref so), (.ref sa1)] [] (by rw [hml]; rfl) (lenOf pd_16 rfl) rfl rfl (Nat.le_of_eq rfl) (hb hby d5_3) rfl (fun v7 T7 L7 X7 hQ7 => ?_)
  obtain ⟨rfl, Nq7, e7⟩ := hQ7
  have N8 := Fr.app N0 Nq7
  show own_G p.tables e below _ T7 (mkF m 6 #[.val (.ref so), .unset, .unset, .unset] [(.ref so)])
  refine own_pop X7 hx (pc' := 7) (hb hby d5_6) rfl rfl ?_
  refine own_iconst X7 hx (pc' := 8) (-1 : Int32) (hb hby d5_7) rfl rfl ?_
  refine own_istoreN X7 hx (pc' := 9) (Ls' := #[.val (.ref so), .val (.int (-1 : Int32)), .unset, .unset]) (hb hby d5_8) rfl rfl ?_
  refine own_iconst X7 hx (pc' := 10) (0 : Int32) (hb hby d5_9) rfl rfl ?_
  refine own_istoreN X7 hx (pc' := 11) (Ls' := #[.val (.ref so), .val (.int (-1 : Int32)), .val (.int (0 : Int32)), .unset]) (hb hby d5_10) rfl rfl ?_
  have J2 : ∀ (x3 : Slot) (hx3 : x3 = .unset ∨ ∃ w : Value, x3 = .val w ∧ w.category = 1) (TJ : State) (locsJ : List Loc) (XJ : Stand p l e ({ frames := 4, cells := 2, slots := 20, locals := 58 } : Room) (s.setVm T1.vm) m #[(.ref so)] below meth c TJ locsJ 2 20) (eJ : TJ.heap = h1) (NJ : Fr n0 locsJ), own_G p.tables e below (own_PW s (Qval (own_lsL [] 2) n0) 2 20) TJ (mkF m 11 #[.val (.ref so), .val (.int (-1 : Int32)), .val (.int (2 : Int32)), x3] []) := by
    intro x3 hx3 TJ locsJ XJ eJ NJ
    refine own_iloadN XJ hx (pc' := 12) (hb hby d5_11) rfl rfl ?_
    refine own_ifNo XJ hx (pc' := 15) (hb hby d5_12) (tlt (by decide : (-1 : Int32) < (0 : Int32))).2.1 rfl ?_
    refine own_iloadN XJ hx (pc' := 16) (hb hby d5_15) rfl rfl ?_
    refine own_aloadN XJ hx (pc' := 17) (hb hby d5_16) rfl rfl rfl ?_
    refine own_cVI XJ hx (pc' := 20) hZ hown (Wd38 hw) (Wd40 hw) (Wd41 hw) (Wd42 hw) (Wd10 hw) (rm_lf_2 l Z a0 hw [] cz sv hcz hsv so ba kb c0 c1 h1 n0 Z2 F4 F5 F6 F3) eJ F4 NJ hml pd_17 (hb hby d5_17) 1 [] [(.int (2 : Int32))] (fun T9 L9 X9 e9 N9 => ?_)
    refine own_icmpYes X9 hx (pc' := 53) (hb hby d5_20) (flt (by decide : ¬ ((2 : Int32) < (2 : Int32)))).2.1 (by decide) (by decide) ?_
    refine own_iloadN X9 hx (pc' := 54) (hb hby d5_53) rfl rfl ?_
    refine own_retIW X9 hs1 e9 hk1 hx hlk hret (hb hby d5_54) (by decide) (by decide) ?_
    exact ⟨congrArg (fun z => some (Value.int z)) (own_ls0 2).symm, N9⟩
  have J1 : ∀ (x3 : Slot) (hx3 : x3 = .unset ∨ ∃ w : Value, x3 = .val w ∧ w.category = 1) (TJ : State) (locsJ : List Loc) (XJ : Stand p l e ({ frames := 4, cells := 2, slots := 20, locals := 58 } : Room) (s.setVm T1.vm) m #[(.ref so)] below meth c TJ locsJ 2 20) (eJ : TJ.heap = h1) (NJ : Fr n0 locsJ), own_G p.tables e below (own_PW s (Qval (own_lsL [c1] 1) n0) 2 20) TJ (mkF m 11 #[.val (.ref so), .val (.int (-1 : Int32)), .val (.int (1 : Int32)), x3] []) := by
    intro x3 hx3 TJ locsJ XJ eJ NJ
    refine own_iloadN XJ hx (pc' := 12) (hb hby d5_11) rfl rfl ?_
    refine own_ifNo XJ hx (pc' := 15) (hb hby d5_12) (tlt (by decide : (-1 : Int32) < (0 : Int32))).2.1 rfl ?_
    refine own_iloadN XJ hx (pc' := 16) (hb hby d5_15) rfl rfl ?_
    refine own_aloadN XJ hx (pc' := 17) (hb hby d5_16) rfl rfl rfl ?_
    refine own_cVI XJ hx (pc' := 20) hZ hown (Wd38 hw) (Wd40 hw) (Wd41 hw) (Wd42 hw) (Wd10 hw) (rm_lf_2 l Z a0 hw [] cz sv hcz hsv so ba kb c0 c1 h1 n0 Z2 F4 F5 F6 F3) eJ F4 NJ hml pd_17 (hb hby d5_17) 1 [] [(.int (1 : Int32))] (fun T10 L10 X10 e10 N10 => ?_)
    refine own_icmpNo X10 hx (pc' := 23) (hb hby d5_20) (tlt (by decide : (1 : Int32) < (2 : Int32))).2.1 rfl ?_
    refine own_aloadN X10 hx (pc' := 24) (hb hby d5_23) rfl rfl rfl ?_
    refine own_iloadN X10 hx (pc' := 25) (hb hby d5_24) rfl rfl ?_
    refine own_cVI X10 hx (pc' := 28) hZ hown (Wd65 hw) (Wd67 hw) (Wd68 hw) (Wd69 hw) (Wd10 hw) (rm_pF_2_1 l Z a0 hw [] cz sv hcz hsv so ba kb c0 c1 h1 n0 Z2 F4 F5 F6 rc0 rc1 F3) e10 F4 N10 hml pd_2 (hb hby d5_25) 0 [(.int (1 : Int32))] [] (fun T11 L11 X11 e11 N11 => ?_)
    rcases own_triL c1 1 with ⟨q1, hn⟩ | ⟨q1, n1, n2⟩
    · rw [q1]
      have G43 : own_G p.tables e below (own_PW s (Qval (own_lsL [] 2) n0) 2 20) T11 (mkF m 43 #[.val (.ref so), .val (.int (-1 : Int32)), .val (.int (1 : Int32)), .val (.int c1)] []) := by
        refine own_iloadN X11 hx (pc' := 44) (hb hby d5_43) rfl rfl ?_
        refine own_iloadN X11 hx (pc' := 45) (hb hby d5_44) rfl rfl ?_
        refine own_cSI X11 hx (pc' := 48) hZ hown (Wd84 hw) (Wd85 hw) (Wd86 hw) (Wd87 hw) (rm_cc l Z a0 hw []  c1 h1 n0 Z2  ) e11 N11 hml pd_2 (hb hby d5_45) 1 [(.int c1)] [(.int (1 : Int32))] (fun T12 L12 X12 e12 N12 => ?_)
        rw [own_cc1 rc1]
        refine own_iadd X12 hx (pc' := 49) (z := (2 : Int32)) (hb hby d5_48) (by decide) rfl ?_
        refine own_istoreN X12 hx (pc' := 50) (Ls' := #[.val (.ref so), .val (.int (-1 : Int32)), .val (.int (2 : Int32)), .val (.int c1)]) (hb hby d5_49) rfl rfl ?_
        refine own_goto X12 hx (pc' := 11) (hb hby d5_50) (by decide) (by decide) ?_
        exact J2 _ (Or.inr ⟨_, rfl, rfl⟩) _ _ X12 e12 N12
      rcases hn with n1 | ⟨n1, n2⟩
      · skip
        refine own_istoreN X11 hx (pc' := 29) (Ls' := #[.val (.ref so), .val (.int (-1 : Int32)), .val (.int (1 : Int32)), .val (.int c1)]) (hb hby d5_28) (by first | rfl | (exact XS.store1 (o := _) rfl (by first | exact Or.inl rfl | exact Or.inr ⟨_, rfl, rfl⟩ | assumption) rfl)) rfl ?_
        refine own_iloadN X11 hx (pc' := 30) (hb hby d5_29) rfl rfl ?_
        refine own_ldcI X11 hx (pc' := 32) hZ hown (Wd83 hw) (hb hby d5_30) rfl ?_
        refine own_icmpYes X11 hx (pc' := 43) (hb hby d5_32) (tlt n1).1 (by decide) (by decide) ?_
        exact G43
      · skip
        refine own_istoreN X11 hx (pc' := 29) (Ls' := #[.val (.ref so), .val (.int (-1 : Int32)), .val (.int (1 : Int32)), .val (.int c1)]) (hb hby d5_28) (by first | rfl | (exact XS.store1 (o := _) rfl (by first | exact Or.inl rfl | exact Or.inr ⟨_, rfl, rfl⟩ | assumption) rfl)) rfl ?_
        refine own_iloadN X11 hx (pc' := 30) (hb hby d5_29) rfl rfl ?_
        refine own_ldcI X11 hx (pc' := 32) hZ hown (Wd83 hw) (hb hby d5_30) rfl ?_
        refine own_icmpNo X11 hx (pc' := 35) (hb hby d5_32) (flt n1).1 rfl ?_
        refine own_iloadN X11 hx (pc' := 36) (hb hby d5_35) rfl rfl ?_
        refine own_ldcI X11 hx (pc' := 38) hZ hown (Wd121 hw) (hb hby d5_36) rfl ?_
        refine own_icmpYes X11 hx (pc' := 43) (hb hby d5_38) (tlt n2).2.2.1 (by decide) (by decide) ?_
        exact G43
    · rw [q1]
      refine own_istoreN X11 hx (pc' := 29) (Ls' := #[.val (.ref so), .val (.int (-1 : Int32)), .val (.int (1 : Int32)), .val (.int c1)]) (hb hby d5_28) (by first | rfl | (exact XS.store1 (o := _) rfl (by first | exact Or.inl rfl | exact Or.inr ⟨_, rfl, rfl⟩ | assumption) rfl)) rfl ?_
      refine own_iloadN X11 hx (pc' := 30) (hb hby d5_29) rfl rfl ?_
      refine own_ldcI X11 hx (pc' := 32) hZ hown (Wd83 hw) (hb hby d5_30) rfl ?_
      refine own_icmpNo X11 hx (pc' := 35) (hb hby d5_32) (flt n1).1 rfl ?_
      refine own_iloadN X11 hx (pc' := 36) (hb hby d5_35) rfl rfl ?_
      refine own_ldcI X11 hx (pc' := 38) hZ hown (Wd121 hw) (hb hby d5_36) rfl ?_
      refine own_icmpNo X11 hx (pc' := 41) (hb hby d5_38) (flt n2).2.2.1 rfl ?_
      refine own_iloadN X11 hx (pc' := 42) (hb hby d5_41) rfl rfl ?_
      refine own_istoreN X11 hx (pc' := 43) (Ls' := #[.val (.ref so), .val (.int (1 : Int32)), .val (.int (1 : Int32)), .val (.int c1)]) (hb hby d5_42) rfl rfl ?_
      refine own_iloadN X11 hx (pc' := 44) (hb hby d5_43) rfl rfl ?_
      refine own_iloadN X11 hx (pc' := 45) (hb hby d5_44) rfl rfl ?_
      refine own_cSI X11 hx (pc' := 48) hZ hown (Wd84 hw) (Wd85 hw) (Wd86 hw) (Wd87 hw) (rm_cc l Z a0 hw []  c1 h1 n0 Z2  ) e11 N11 hml pd_2 (hb hby d5_45) 1 [(.int c1)] [(.int (1 : Int32))] (fun T13 L13 X13 e13 N13 => ?_)
      rw [own_cc1 rc1]
      refine own_iadd X13 hx (pc' := 49) (z := (2 : Int32)) (hb hby d5_48) (by decide) rfl ?_
      refine own_istoreN X13 hx (pc' := 50) (Ls' := #[.val (.ref so), .val (.int (1 : Int32)), .val (.int (2 : Int32)), .val (.int c1)]) (hb hby d5_49) rfl rfl ?_
      refine own_goto X13 hx (pc' := 11) (hb hby d5_50) (by decide) (by decide) ?_
      refine own_iloadN X13 hx (pc' := 12) (hb hby d5_11) rfl rfl ?_
      refine own_ifYes X13 hx (pc' := 53) (hb hby d5_12) (flt (by decide : ¬ ((1 : Int32) < (0 : Int32)))).2.1 (by decide) (by decide) ?_
      refine own_iloadN X13 hx (pc' := 54) (hb hby d5_53) rfl rfl ?_
      refine own_retIW X13 hs1 e13 hk1 hx hlk hret (hb hby d5_54) (by decide) (by decide) ?_
      exact ⟨rfl, N13⟩
  have J0 : ∀ (x3 : Slot) (hx3 : x3 = .unset ∨ ∃ w : Value, x3 = .val w ∧ w.category = 1) (TJ : State) (locsJ : List Loc) (XJ : Stand p l e ({ frames := 4, cells := 2, slots := 20, locals := 58 } : Room) (s.setVm T1.vm) m #[(.ref so)] below meth c TJ locsJ 2 20) (eJ : TJ.heap = h1) (NJ : Fr n0 locsJ), own_G p.tables e below (own_PW s (Qval (own_lsL [c0, c1] 0) n0) 2 20) TJ (mkF m 11 #[.val (.ref so), .val (.int (-1 : Int32)), .val (.int (0 : Int32)), x3] []) := by
    intro x3 hx3 TJ locsJ XJ eJ NJ
    refine own_iloadN XJ hx (pc' := 12) (hb hby d5_11) rfl rfl ?_
    refine own_ifNo XJ hx (pc' := 15) (hb hby d5_12) (tlt (by decide : (-1 : Int32) < (0 : Int32))).2.1 rfl ?_
    refine own_iloadN XJ hx (pc' := 16) (hb hby d5_15) rfl rfl ?_
    refine own_aloadN XJ hx (pc' := 17) (hb hby d5_16) rfl rfl rfl ?_
    refine own_cVI XJ hx (pc' := 20) hZ hown (Wd38 hw) (Wd40 hw) (Wd41 hw) (Wd42 hw) (Wd10 hw) (rm_lf_2 l Z a0 hw [] cz sv hcz hsv so ba kb c0 c1 h1 n0 Z2 F4 F5 F6 F3) eJ F4 NJ hml pd_17 (hb hby d5_17) 1 [] [(.int (0 : Int32))] (fun T14 L14 X14 e14 N14 => ?_)
    refine own_icmpNo X14 hx (pc' := 23) (hb hby d5_20) (tlt (by decide : (0 : Int32) < (2 : Int32))).2.1 rfl ?_
    refine own_aloadN X14 hx (pc' := 24) (hb hby d5_23) rfl rfl rfl ?_
    refine own_iloadN X14 hx (pc' := 25) (hb hby d5_24) rfl rfl ?_
    refine own_cVI X14 hx (pc' := 28) hZ hown (Wd65 hw) (Wd67 hw) (Wd68 hw) (Wd69 hw) (Wd10 hw) (rm_pF_2_0 l Z a0 hw [] cz sv hcz hsv so ba kb c0 c1 h1 n0 Z2 F4 F5 F6 rc0 rc1 F3) e14 F4 N14 hml pd_2 (hb hby d5_25) 0 [(.int (0 : Int32))] [] (fun T15 L15 X15 e15 N15 => ?_)
    rcases own_triN c0 c1 [] 0 with ⟨q0, q1, hn⟩ | ⟨q0, q1, n1, n2⟩ | ⟨q0, q1, n1, n2, q2⟩
    · rw [q0, q1]
      have G43 : own_G p.tables e below (own_PW s (Qval (own_lsL [c1] 1) n0) 2 20) T15 (mkF m 43 #[.val (.ref so), .val (.int (-1 : Int32)), .val (.int (0 : Int32)), .val (.int c0)] []) := by
        refine own_iloadN X15 hx (pc' := 44) (hb hby d5_43) rfl rfl ?_
        refine own_iloadN X15 hx (pc' := 45) (hb hby d5_44) rfl rfl ?_
        refine own_cSI X15 hx (pc' := 48) hZ hown (Wd84 hw) (Wd85 hw) (Wd86 hw) (Wd87 hw) (rm_cc l Z a0 hw []  c0 h1 n0 Z2  ) e15 N15 hml pd_2 (hb hby d5_45) 1 [(.int c0)] [(.int (0 : Int32))] (fun T16 L16 X16 e16 N16 => ?_)
        rw [own_cc1 rc0]
        refine own_iadd X16 hx (pc' := 49) (z := (1 : Int32)) (hb hby d5_48) (by decide) rfl ?_
        refine own_istoreN X16 hx (pc' := 50) (Ls' := #[.val (.ref so), .val (.int (-1 : Int32)), .val (.int (1 : Int32)), .val (.int c0)]) (hb hby d5_49) rfl rfl ?_
        refine own_goto X16 hx (pc' := 11) (hb hby d5_50) (by decide) (by decide) ?_
        exact J1 _ (Or.inr ⟨_, rfl, rfl⟩) _ _ X16 e16 N16
      rcases hn with n1 | ⟨n1, n2⟩
      · skip
        refine own_istoreN X15 hx (pc' := 29) (Ls' := #[.val (.ref so), .val (.int (-1 : Int32)), .val (.int (0 : Int32)), .val (.int c0)]) (hb hby d5_28) (by first | rfl | (exact XS.store1 (o := _) rfl (by first | exact Or.inl rfl | exact Or.inr ⟨_, rfl, rfl⟩ | assumption) rfl)) rfl ?_
        refine own_iloadN X15 hx (pc' := 30) (hb hby d5_29) rfl rfl ?_
        refine own_ldcI X15 hx (pc' := 32) hZ hown (Wd83 hw) (hb hby d5_30) rfl ?_
        refine own_icmpYes X15 hx (pc' := 43) (hb hby d5_32) (tlt n1).1 (by decide) (by decide) ?_
        exact G43
      · skip
        refine own_istoreN X15 hx (pc' := 29) (Ls' := #[.val (.ref so), .val (.int (-1 : Int32)), .val (.int (0 : Int32)), .val (.int c0)]) (hb hby d5_28) (by first | rfl | (exact XS.store1 (o := _) rfl (by first | exact Or.inl rfl | exact Or.inr ⟨_, rfl, rfl⟩ | assumption) rfl)) rfl ?_
        refine own_iloadN X15 hx (pc' := 30) (hb hby d5_29) rfl rfl ?_
        refine own_ldcI X15 hx (pc' := 32) hZ hown (Wd83 hw) (hb hby d5_30) rfl ?_
        refine own_icmpNo X15 hx (pc' := 35) (hb hby d5_32) (flt n1).1 rfl ?_
        refine own_iloadN X15 hx (pc' := 36) (hb hby d5_35) rfl rfl ?_
        refine own_ldcI X15 hx (pc' := 38) hZ hown (Wd121 hw) (hb hby d5_36) rfl ?_
        refine own_icmpYes X15 hx (pc' := 43) (hb hby d5_38) (tlt n2).2.2.1 (by decide) (by decide) ?_
        exact G43
    · rw [q0, q1]
      refine own_istoreN X15 hx (pc' := 29) (Ls' := #[.val (.ref so), .val (.int (-1 : Int32)), .val (.int (0 : Int32)), .val (.int c0)]) (hb hby d5_28) (by first | rfl | (exact XS.store1 (o := _) rfl (by first | exact Or.inl rfl | exact Or.inr ⟨_, rfl, rfl⟩ | assumption) rfl)) rfl ?_
      refine own_iloadN X15 hx (pc' := 30) (hb hby d5_29) rfl rfl ?_
      refine own_ldcI X15 hx (pc' := 32) hZ hown (Wd83 hw) (hb hby d5_30) rfl ?_
      refine own_icmpNo X15 hx (pc' := 35) (hb hby d5_32) (flt n1).1 rfl ?_
      refine own_iloadN X15 hx (pc' := 36) (hb hby d5_35) rfl rfl ?_
      refine own_ldcI X15 hx (pc' := 38) hZ hown (Wd121 hw) (hb hby d5_36) rfl ?_
      refine own_icmpNo X15 hx (pc' := 41) (hb hby d5_38) (flt n2).2.2.1 rfl ?_
      refine own_iloadN X15 hx (pc' := 42) (hb hby d5_41) rfl rfl ?_
      refine own_istoreN X15 hx (pc' := 43) (Ls' := #[.val (.ref so), .val (.int (0 : Int32)), .val (.int (0 : Int32)), .val (.int c0)]) (hb hby d5_42) rfl rfl ?_
      refine own_iloadN X15 hx (pc' := 44) (hb hby d5_43) rfl rfl ?_
      refine own_iloadN X15 hx (pc' := 45) (hb hby d5_44) rfl rfl ?_
      refine own_cSI X15 hx (pc' := 48) hZ hown (Wd84 hw) (Wd85 hw) (Wd86 hw) (Wd87 hw) (rm_cc l Z a0 hw []  c0 h1 n0 Z2  ) e15 N15 hml pd_2 (hb hby d5_45) 1 [(.int c0)] [(.int (0 : Int32))] (fun T17 L17 X17 e17 N17 => ?_)
      rw [own_cc1 rc0]
      refine own_iadd X17 hx (pc' := 49) (z := (1 : Int32)) (hb hby d5_48) (by decide) rfl ?_
      refine own_istoreN X17 hx (pc' := 50) (Ls' := #[.val (.ref so), .val (.int (0 : Int32)), .val (.int (1 : Int32)), .val (.int c0)]) (hb hby d5_49) rfl rfl ?_
      refine own_goto X17 hx (pc' := 11) (hb hby d5_50) (by decide) (by decide) ?_
      refine own_iloadN X17 hx (pc' := 12) (hb hby d5_11) rfl rfl ?_
      refine own_ifYes X17 hx (pc' := 53) (hb hby d5_12) (flt (by decide : ¬ ((0 : Int32) < (0 : Int32)))).2.1 (by decide) (by decide) ?_
      refine own_iloadN X17 hx (pc' := 54) (hb hby d5_53) rfl rfl ?_
      refine own_retIW X17 hs1 e17 hk1 hx hlk hret (hb hby d5_54) (by decide) (by decide) ?_
      exact ⟨rfl, N17⟩
    · rw [q0, q1]
      refine own_istoreN X15 hx (pc' := 29) (Ls' := #[.val (.ref so), .val (.int (-1 : Int32)), .val (.int (0 : Int32)), .val (.int (own_tcp c0 c1))]) (hb hby d5_28) (by first | rfl | (exact XS.store1 (o := _) rfl (by first | exact Or.inl rfl | exact Or.inr ⟨_, rfl, rfl⟩ | assumption) rfl)) rfl ?_
      refine own_iloadN X15 hx (pc' := 30) (hb hby d5_29) rfl rfl ?_
      refine own_ldcI X15 hx (pc' := 32) hZ hown (Wd83 hw) (hb hby d5_30) rfl ?_
      refine own_icmpNo X15 hx (pc' := 35) (hb hby d5_32) (flt n1).1 rfl ?_
      refine own_iloadN X15 hx (pc' := 36) (hb hby d5_35) rfl rfl ?_
      refine own_ldcI X15 hx (pc' := 38) hZ hown (Wd121 hw) (hb hby d5_36) rfl ?_
      refine own_icmpYes X15 hx (pc' := 43) (hb hby d5_38) (tlt n2).2.2.1 (by decide) (by decide) ?_
      refine own_iloadN X15 hx (pc' := 44) (hb hby d5_43) rfl rfl ?_
      refine own_iloadN X15 hx (pc' := 45) (hb hby d5_44) rfl rfl ?_
      refine own_cSI X15 hx (pc' := 48) hZ hown (Wd84 hw) (Wd85 hw) (Wd86 hw) (Wd87 hw) (rm_cc l Z a0 hw []  (own_tcp c0 c1) h1 n0 Z2  ) e15 N15 hml pd_2 (hb hby d5_45) 1 [(.int (own_tcp c0 c1))] [(.int (0 : Int32))] (fun T18 L18 X18 e18 N18 => ?_)
      rw [q2]
      refine own_iadd X18 hx (pc' := 49) (z := (2 : Int32)) (hb hby d5_48) (by decide) rfl ?_
      refine own_istoreN X18 hx (pc' := 50) (Ls' := #[.val (.ref so), .val (.int (-1 : Int32)), .val (.int (2 : Int32)), .val (.int (own_tcp c0 c1))]) (hb hby d5_49) rfl rfl ?_
      refine own_goto X18 hx (pc' := 11) (hb hby d5_50) (by decide) (by decide) ?_
      exact J2 _ (Or.inr ⟨_, rfl, rfl⟩) _ _ X18 e18 N18
  exact J0 _ (Or.inl rfl) _ _ X7 e7 N8

theorem ef_rm_ls_3 (m : MethodId) (x0 : Addr) : entryFrame m #[(.ref x0)] 4 = mkF m 0 #[.val (.ref x0), .unset, .unset, .unset] [] := by first | (simp [entryFrame, mkF, argsToLocals, Value.category, maxLocals]; done) | rfl
set_option maxRecDepth 65536 in
set_option maxHeartbeats 40000000 in
theorem rm_ls_3 (l : Launch) (Z : State) (a0 : Array Value) (hw : ∀ d ∈ tables_1, d.before a0 Z = true) (ws : List Jvm.Cond) (cz : Int32) (sv : Value) (hcz : ¬ cz = (0 : Int32)) (hsv : sv.isRef = true) (so ba : Addr) (kb : ClassId) (c0 c1 c2 : Int32) (h0 : Heap) (n0 : Nat) (Z0 : n0 ≤ h0.size) (E_s : Exa Z h0 so "java/lang/String") (F_v : Fld Z h0 so "java/lang/String" "value" "[B" (.ref ba)) (hF : ((Fld Z h0 so "java/lang/String" "coder" "B" (.int (0 : Int32)) ∧ (¬ (255 : Int32) < c0 ∧ ¬ (255 : Int32) < c1 ∧ ¬ (255 : Int32) < c2) ∧ Arv Z h0 ba kb .byte (3 : Int32) [(.int (own_lb c0)), (.int (own_lb c1)), (.int (own_lb c2))] (.int (0 : Int32))) ∨ (Fld Z h0 so "java/lang/String" "coder" "B" (.int (1 : Int32)) ∧ Arv Z h0 ba kb .byte (6 : Int32) [(.int (own_b0 c0)), (.int (own_b1 c0)), (.int (own_b0 c1)), (.int (own_b1 c1)), (.int (own_b0 c2)), (.int (own_b1 c2))] (.int (0 : Int32))))) (rc0 : own_ch c0) (rc1 : own_ch c1) (rc2 : own_ch c2) (B_ST : own_ST n0 Z h0 cz sv) :
    own_MW l Z (⟨"com/example/rhadamanthus/rhadamanthus/util/Utf16", "loneSurrogateIndex", "(Ljava/lang/String;)I"⟩ : MethodName) prog_46_method_2_code 4 (some .int) ws ({ frames := 4, cells := 2, slots := 20, locals := 58 } : Room) #[(.ref so)] h0 (fun vm => True) (Qval (own_lsL [c0, c1, c2] 0) n0) := by
  refine own_bodyW (H := (fun vm => True)) pf_26 ?_
  intro p e s m below meth c s₁ vm0 hx hby hml hown hnm hlk hret hZ X0 e0 hs0 hH
  have N0 : Fr n0 [] := Fr.nil n0
  refine own_go (f' := (mkF m 0 #[.val (.ref so), .unset, .unset, .unset] [])) (fun t k => castTop (ef_rm_ls_3 m so) k) ?_
  refine own_aloadN X0 hx (pc' := 1) (hb hby d5_0) rfl rfl rfl ?_
  obtain ⟨sa1, T1, h1, k1_1, X1, e1, E1, hs1, hk1, hZ, hown, -, -, st1⟩ := ldcOH (EL := []) X0 hx hZ hown (Wd33 hw) (own_atoms hw) e0 hs0 (Nat.zero_le _) EW.nil own_EL0 (g := (mkF m 1 #[.val (.ref so), .unset, .unset, .unset] [(.ref so)])) rfl (hb hby d5_1) (n := 16) (by decide) (by decide) (by decide) (by decide)
  have Z2 : n0 ≤ h1.size := Nat.le_trans Z0 E1.1
  have F3 := (B_ST.ext E1)
  have F4 := (Exa.ext E1 E_s)
  have F5 := (Fld.ext E1 F_v)
  have F6 := (own_fx_3 E1 hF)
  refine own_go (f' := (mkF m 3 #[.val (.ref so), .unset, .unset, .unset] [(.ref sa1), (.ref so)])) st1 ?_
  refine own_callS X1 hx (pc' := 6) hZ hown (Wd34 hw) (Wd35 hw) (Wd36 hw) (Wd37 hw) (by decide) (rm_rnn l Z a0 hw []  so sa1 h1 n0 Z2  ) e1 0 (by decide) (by decide) (by decide) (by decide) [(.ref so), (.ref sa1)] [] (by rw [hml]; rfl) (lenOf pd_16 rfl) rfl rfl (Nat.le_of_eq rfl) (hb hby d5_3) rfl (fun v7 T7 L7 X7 hQ7 => ?_)
  obtain ⟨rfl, Nq7, e7⟩ := hQ7
  have N8 := Fr.app N0 Nq7
  show own_G p.tables e below _ T7 (mkF m 6 #[.val (.ref so), .unset, .unset, .unset] [(.ref so)])
  refine own_pop X7 hx (pc' := 7) (hb hby d5_6) rfl rfl ?_
  refine own_iconst X7 hx (pc' := 8) (-1 : Int32) (hb hby d5_7) rfl rfl ?_
  refine own_istoreN X7 hx (pc' := 9) (Ls' := #[.val (.ref so), .val (.int (-1 : Int32)), .unset, .unset]) (hb hby d5_8) rfl rfl ?_
  refine own_iconst X7 hx (pc' := 10) (0 : Int32) (hb hby d5_9) rfl rfl ?_
  refine own_istoreN X7 hx (pc' := 11) (Ls' := #[.val (.ref so), .val (.int (-1 : Int32)), .val (.int (0 : Int32)), .unset]) (hb hby d5_10) rfl rfl ?_
  have J3 : ∀ (x3 : Slot) (hx3 : x3 = .unset ∨ ∃ w : Value, x3 = .val w ∧ w.category = 1) (TJ : State) (locsJ : List Loc) (XJ : Stand p l e ({ frames := 4, cells := 2, slots := 20, locals := 58 } : Room) (s.setVm T1.vm) m #[(.ref so)] below meth c TJ locsJ 2 20) (eJ : TJ.heap = h1) (NJ : Fr n0 locsJ), own_G p.tables e below (own_PW s (Qval (own_lsL [] 3) n0) 2 20) TJ (mkF m 11 #[.val (.ref so), .val (.int (-1 : Int32)), .val (.int (3 : Int32)), x3] []) := by
    intro x3 hx3 TJ locsJ XJ eJ NJ
    refine own_iloadN XJ hx (pc' := 12) (hb hby d5_11) rfl rfl ?_
    refine own_ifNo XJ hx (pc' := 15) (hb hby d5_12) (tlt (by decide : (-1 : Int32) < (0 : Int32))).2.1 rfl ?_
    refine own_iloadN XJ hx (pc' := 16) (hb hby d5_15) rfl rfl ?_
    refine own_aloadN XJ hx (pc' := 17) (hb hby d5_16) rfl rfl rfl ?_
    refine own_cVI XJ hx (pc' := 20) hZ hown (Wd38 hw) (Wd40 hw) (Wd41 hw) (Wd42 hw) (Wd10 hw) (rm_lf_3 l Z a0 hw [] cz sv hcz hsv so ba kb c0 c1 c2 h1 n0 Z2 F4 F5 F6 F3) eJ F4 NJ hml pd_17 (hb hby d5_17) 1 [] [(.int (3 : Int32))] (fun T9 L9 X9 e9 N9 => ?_)
    refine own_icmpYes X9 hx (pc' := 53) (hb hby d5_20) (flt (by decide : ¬ ((3 : Int32) < (3 : Int32)))).2.1 (by decide) (by decide) ?_
    refine own_iloadN X9 hx (pc' := 54) (hb hby d5_53) rfl rfl ?_
    refine own_retIW X9 hs1 e9 hk1 hx hlk hret (hb hby d5_54) (by decide) (by decide) ?_
    exact ⟨congrArg (fun z => some (Value.int z)) (own_ls0 3).symm, N9⟩
  have J2 : ∀ (x3 : Slot) (hx3 : x3 = .unset ∨ ∃ w : Value, x3 = .val w ∧ w.category = 1) (TJ : State) (locsJ : List Loc) (XJ : Stand p l e ({ frames := 4, cells := 2, slots := 20, locals := 58 } : Room) (s.setVm T1.vm) m #[(.ref so)] below meth c TJ locsJ 2 20) (eJ : TJ.heap = h1) (NJ : Fr n0 locsJ), own_G p.tables e below (own_PW s (Qval (own_lsL [c2] 2) n0) 2 20) TJ (mkF m 11 #[.val (.ref so), .val (.int (-1 : Int32)), .val (.int (2 : Int32)), x3] []) := by
    intro x3 hx3 TJ locsJ XJ eJ NJ
    refine own_iloadN XJ hx (pc' := 12) (hb hby d5_11) rfl rfl ?_
    refine own_ifNo XJ hx (pc' := 15) (hb hby d5_12) (tlt (by decide : (-1 : Int32) < (0 : Int32))).2.1 rfl ?_
    refine own_iloadN XJ hx (pc' := 16) (hb hby d5_15) rfl rfl ?_
    refine own_aloadN XJ hx (pc' := 17) (hb hby d5_16) rfl rfl rfl ?_
    refine own_cVI XJ hx (pc' := 20) hZ hown (Wd38 hw) (Wd40 hw) (Wd41 hw) (Wd42 hw) (Wd10 hw) (rm_lf_3 l Z a0 hw [] cz sv hcz hsv so ba kb c0 c1 c2 h1 n0 Z2 F4 F5 F6 F3) eJ F4 NJ hml pd_17 (hb hby d5_17) 1 [] [(.int (2 : Int32))] (fun T10 L10 X10 e10 N10 => ?_)
    refine own_icmpNo X10 hx (pc' := 23) (hb hby d5_20) (tlt (by decide : (2 : Int32) < (3 : Int32))).2.1 rfl ?_
    refine own_aloadN X10 hx (pc' := 24) (hb hby d5_23) rfl rfl rfl ?_
    refine own_iloadN X10 hx (pc' := 25) (hb hby d5_24) rfl rfl ?_
    refine own_cVI X10 hx (pc' := 28) hZ hown (Wd65 hw) (Wd67 hw) (Wd68 hw) (Wd69 hw) (Wd10 hw) (rm_pF_3_2 l Z a0 hw [] cz sv hcz hsv so ba kb c0 c1 c2 h1 n0 Z2 F4 F5 F6 rc0 rc1 rc2 F3) e10 F4 N10 hml pd_2 (hb hby d5_25) 0 [(.int (2 : Int32))] [] (fun T11 L11 X11 e11 N11 => ?_)
    rcases own_triL c2 2 with ⟨q1, hn⟩ | ⟨q1, n1, n2⟩
    · rw [q1]
      have G43 : own_G p.tables e below (own_PW s (Qval (own_lsL [] 3) n0) 2 20) T11 (mkF m 43 #[.val (.ref so), .val (.int (-1 : Int32)), .val (.int (2 : Int32)), .val (.int c2)] []) := by
        refine own_iloadN X11 hx (pc' := 44) (hb hby d5_43) rfl rfl ?_
        refine own_iloadN X11 hx (pc' := 45) (hb hby d5_44) rfl rfl ?_
        refine own_cSI X11 hx (pc' := 48) hZ hown (Wd84 hw) (Wd85 hw) (Wd86 hw) (Wd87 hw) (rm_cc l Z a0 hw []  c2 h1 n0 Z2  ) e11 N11 hml pd_2 (hb hby d5_45) 1 [(.int c2)] [(.int (2 : Int32))] (fun T12 L12 X12 e12 N12 => ?_)
        rw [own_cc1 rc2]
        refine own_iadd X12 hx (pc' := 49) (z := (3 : Int32)) (hb hby d5_48) (by decide) rfl ?_
        refine own_istoreN X12 hx (pc' := 50) (Ls' := #[.val (.ref so), .val (.int (-1 : Int32)), .val (.int (3 : Int32)), .val (.int c2)]) (hb hby d5_49) rfl rfl ?_
        refine own_goto X12 hx (pc' := 11) (hb hby d5_50) (by decide) (by decide) ?_
        exact J3 _ (Or.inr ⟨_, rfl, rfl⟩) _ _ X12 e12 N12
      rcases hn with n1 | ⟨n1, n2⟩
      · skip
        refine own_istoreN X11 hx (pc' := 29) (Ls' := #[.val (.ref so), .val (.int (-1 : Int32)), .val (.int (2 : Int32)), .val (.int c2)]) (hb hby d5_28) (by first | rfl | (exact XS.store1 (o := _) rfl (by first | exact Or.inl rfl | exact Or.inr ⟨_, rfl, rfl⟩ | assumption) rfl)) rfl ?_
        refine own_iloadN X11 hx (pc' := 30) (hb hby d5_29) rfl rfl ?_
        refine own_ldcI X11 hx (pc' := 32) hZ hown (Wd83 hw) (hb hby d5_30) rfl ?_
        refine own_icmpYes X11 hx (pc' := 43) (hb hby d5_32) (tlt n1).1 (by decide) (by decide) ?_
        exact G43
      · skip
        refine own_istoreN X11 hx (pc' := 29) (Ls' := #[.val (.ref so), .val (.int (-1 : Int32)), .val (.int (2 : Int32)), .val (.int c2)]) (hb hby d5_28) (by first | rfl | (exact XS.store1 (o := _) rfl (by first | exact Or.inl rfl | exact Or.inr ⟨_, rfl, rfl⟩ | assumption) rfl)) rfl ?_
        refine own_iloadN X11 hx (pc' := 30) (hb hby d5_29) rfl rfl ?_
        refine own_ldcI X11 hx (pc' := 32) hZ hown (Wd83 hw) (hb hby d5_30) rfl ?_
        refine own_icmpNo X11 hx (pc' := 35) (hb hby d5_32) (flt n1).1 rfl ?_
        refine own_iloadN X11 hx (pc' := 36) (hb hby d5_35) rfl rfl ?_
        refine own_ldcI X11 hx (pc' := 38) hZ hown (Wd121 hw) (hb hby d5_36) rfl ?_
        refine own_icmpYes X11 hx (pc' := 43) (hb hby d5_38) (tlt n2).2.2.1 (by decide) (by decide) ?_
        exact G43
    · rw [q1]
      refine own_istoreN X11 hx (pc' := 29) (Ls' := #[.val (.ref so), .val (.int (-1 : Int32)), .val (.int (2 : Int32)), .val (.int c2)]) (hb hby d5_28) (by first | rfl | (exact XS.store1 (o := _) rfl (by first | exact Or.inl rfl | exact Or.inr ⟨_, rfl, rfl⟩ | assumption) rfl)) rfl ?_
      refine own_iloadN X11 hx (pc' := 30) (hb hby d5_29) rfl rfl ?_
      refine own_ldcI X11 hx (pc' := 32) hZ hown (Wd83 hw) (hb hby d5_30) rfl ?_
      refine own_icmpNo X11 hx (pc' := 35) (hb hby d5_32) (flt n1).1 rfl ?_
      refine own_iloadN X11 hx (pc' := 36) (hb hby d5_35) rfl rfl ?_
      refine own_ldcI X11 hx (pc' := 38) hZ hown (Wd121 hw) (hb hby d5_36) rfl ?_
      refine own_icmpNo X11 hx (pc' := 41) (hb hby d5_38) (flt n2).2.2.1 rfl ?_
      refine own_iloadN X11 hx (pc' := 42) (hb hby d5_41) rfl rfl ?_
      refine own_istoreN X11 hx (pc' := 43) (Ls' := #[.val (.ref so), .val (.int (2 : Int32)), .val (.int (2 : Int32)), .val (.int c2)]) (hb hby d5_42) rfl rfl ?_
      refine own_iloadN X11 hx (pc' := 44) (hb hby d5_43) rfl rfl ?_
      refine own_iloadN X11 hx (pc' := 45) (hb hby d5_44) rfl rfl ?_
      refine own_cSI X11 hx (pc' := 48) hZ hown (Wd84 hw) (Wd85 hw) (Wd86 hw) (Wd87 hw) (rm_cc l Z a0 hw []  c2 h1 n0 Z2  ) e11 N11 hml pd_2 (hb hby d5_45) 1 [(.int c2)] [(.int (2 : Int32))] (fun T13 L13 X13 e13 N13 => ?_)
      rw [own_cc1 rc2]
      refine own_iadd X13 hx (pc' := 49) (z := (3 : Int32)) (hb hby d5_48) (by decide) rfl ?_
      refine own_istoreN X13 hx (pc' := 50) (Ls' := #[.val (.ref so), .val (.int (2 : Int32)), .val (.int (3 : Int32)), .val (.int c2)]) (hb hby d5_49) rfl rfl ?_
      refine own_goto X13 hx (pc' := 11) (hb hby d5_50) (by decide) (by decide) ?_
      refine own_iloadN X13 hx (pc' := 12) (hb hby d5_11) rfl rfl ?_
      refine own_ifYes X13 hx (pc' := 53) (hb hby d5_12) (flt (by decide : ¬ ((2 : Int32) < (0 : Int32)))).2.1 (by decide) (by decide) ?_
      refine own_iloadN X13 hx (pc' := 54) (hb hby d5_53) rfl rfl ?_
      refine own_retIW X13 hs1 e13 hk1 hx hlk hret (hb hby d5_54) (by decide) (by decide) ?_
      exact ⟨rfl, N13⟩
  have J1 : ∀ (x3 : Slot) (hx3 : x3 = .unset ∨ ∃ w : Value, x3 = .val w ∧ w.category = 1) (TJ : State) (locsJ : List Loc) (XJ : Stand p l e ({ frames := 4, cells := 2, slots := 20, locals := 58 } : Room) (s.setVm T1.vm) m #[(.ref so)] below meth c TJ locsJ 2 20) (eJ : TJ.heap = h1) (NJ : Fr n0 locsJ), own_G p.tables e below (own_PW s (Qval (own_lsL [c1, c2] 1) n0) 2 20) TJ (mkF m 11 #[.val (.ref so), .val (.int (-1 : Int32)), .val (.int (1 : Int32)), x3] []) := by
    intro x3 hx3 TJ locsJ XJ eJ NJ
    refine own_iloadN XJ hx (pc' := 12) (hb hby d5_11) rfl rfl ?_
    refine own_ifNo XJ hx (pc' := 15) (hb hby d5_12) (tlt (by decide : (-1 : Int32) < (0 : Int32))).2.1 rfl ?_
    refine own_iloadN XJ hx (pc' := 16) (hb hby d5_15) rfl rfl ?_
    refine own_aloadN XJ hx (pc' := 17) (hb hby d5_16) rfl rfl rfl ?_
    refine own_cVI XJ hx (pc' := 20) hZ hown (Wd38 hw) (Wd40 hw) (Wd41 hw) (Wd42 hw) (Wd10 hw) (rm_lf_3 l Z a0 hw [] cz sv hcz hsv so ba kb c0 c1 c2 h1 n0 Z2 F4 F5 F6 F3) eJ F4 NJ hml pd_17 (hb hby d5_17) 1 [] [(.int (1 : Int32))] (fun T14 L14 X14 e14 N14 => ?_)
    refine own_icmpNo X14 hx (pc' := 23) (hb hby d5_20) (tlt (by decide : (1 : Int32) < (3 : Int32))).2.1 rfl ?_
    refine own_aloadN X14 hx (pc' := 24) (hb hby d5_23) rfl rfl rfl ?_
    refine own_iloadN X14 hx (pc' := 25) (hb hby d5_24) rfl rfl ?_
    refine own_cVI X14 hx (pc' := 28) hZ hown (Wd65 hw) (Wd67 hw) (Wd68 hw) (Wd69 hw) (Wd10 hw) (rm_pF_3_1 l Z a0 hw [] cz sv hcz hsv so ba kb c0 c1 c2 h1 n0 Z2 F4 F5 F6 rc0 rc1 rc2 F3) e14 F4 N14 hml pd_2 (hb hby d5_25) 0 [(.int (1 : Int32))] [] (fun T15 L15 X15 e15 N15 => ?_)
    rcases own_triN c1 c2 [] 1 with ⟨q0, q1, hn⟩ | ⟨q0, q1, n1, n2⟩ | ⟨q0, q1, n1, n2, q2⟩
    · rw [q0, q1]
      have G43 : own_G p.tables e below (own_PW s (Qval (own_lsL [c2] 2) n0) 2 20) T15 (mkF m 43 #[.val (.ref so), .val (.int (-1 : Int32)), .val (.int (1 : Int32)), .val (.int c1)] []) := by
        refine own_iloadN X15 hx (pc' := 44) (hb hby d5_43) rfl rfl ?_
        refine own_iloadN X15 hx (pc' := 45) (hb hby d5_44) rfl rfl ?_
        refine own_cSI X15 hx (pc' := 48) hZ hown (Wd84 hw) (Wd85 hw) (Wd86 hw) (Wd87 hw) (rm_cc l Z a0 hw []  c1 h1 n0 Z2  ) e15 N15 hml pd_2 (hb hby d5_45) 1 [(.int c1)] [(.int (1 : Int32))] (fun T16 L16 X16 e16 N16 => ?_)
        rw [own_cc1 rc1]
        refine own_iadd X16 hx (pc' := 49) (z := (2 : Int32)) (hb hby d5_48) (by decide) rfl ?_
        refine own_istoreN X16 hx (pc' := 50) (Ls' := #[.val (.ref so), .val (.int (-1 : Int32)), .val (.int (2 : Int32)), .val (.int c1)]) (hb hby d5_49) rfl rfl ?_
        refine own_goto X16 hx (pc' := 11) (hb hby d5_50) (by decide) (by decide) ?_
        exact J2 _ (Or.inr ⟨_, rfl, rfl⟩) _ _ X16 e16 N16
      rcases hn with n1 | ⟨n1, n2⟩
      · skip
        refine own_istoreN X15 hx (pc' := 29) (Ls' := #[.val (.ref so), .val (.int (-1 : Int32)), .val (.int (1 : Int32)), .val (.int c1)]) (hb hby d5_28) (by first | rfl | (exact XS.store1 (o := _) rfl (by first | exact Or.inl rfl | exact Or.inr ⟨_, rfl, rfl⟩ | assumption) rfl)) rfl ?_
        refine own_iloadN X15 hx (pc' := 30) (hb hby d5_29) rfl rfl ?_
        refine own_ldcI X15 hx (pc' := 32) hZ hown (Wd83 hw) (hb hby d5_30) rfl ?_
        refine own_icmpYes X15 hx (pc' := 43) (hb hby d5_32) (tlt n1).1 (by decide) (by decide) ?_
        exact G43
      · skip
        refine own_istoreN X15 hx (pc' := 29) (Ls' := #[.val (.ref so), .val (.int (-1 : Int32)), .val (.int (1 : Int32)), .val (.int c1)]) (hb hby d5_28) (by first | rfl | (exact XS.store1 (o := _) rfl (by first | exact Or.inl rfl | exact Or.inr ⟨_, rfl, rfl⟩ | assumption) rfl)) rfl ?_
        refine own_iloadN X15 hx (pc' := 30) (hb hby d5_29) rfl rfl ?_
        refine own_ldcI X15 hx (pc' := 32) hZ hown (Wd83 hw) (hb hby d5_30) rfl ?_
        refine own_icmpNo X15 hx (pc' := 35) (hb hby d5_32) (flt n1).1 rfl ?_
        refine own_iloadN X15 hx (pc' := 36) (hb hby d5_35) rfl rfl ?_
        refine own_ldcI X15 hx (pc' := 38) hZ hown (Wd121 hw) (hb hby d5_36) rfl ?_
        refine own_icmpYes X15 hx (pc' := 43) (hb hby d5_38) (tlt n2).2.2.1 (by decide) (by decide) ?_
        exact G43
    · rw [q0, q1]
      refine own_istoreN X15 hx (pc' := 29) (Ls' := #[.val (.ref so), .val (.int (-1 : Int32)), .val (.int (1 : Int32)), .val (.int c1)]) (hb hby d5_28) (by first | rfl | (exact XS.store1 (o := _) rfl (by first | exact Or.inl rfl | exact Or.inr ⟨_, rfl, rfl⟩ | assumption) rfl)) rfl ?_
      refine own_iloadN X15 hx (pc' := 30) (hb hby d5_29) rfl rfl ?_
      refine own_ldcI X15 hx (pc' := 32) hZ hown (Wd83 hw) (hb hby d5_30) rfl ?_
      refine own_icmpNo X15 hx (pc' := 35) (hb hby d5_32) (flt n1).1 rfl ?_
      refine own_iloadN X15 hx (pc' := 36) (hb hby d5_35) rfl rfl ?_
      refine own_ldcI X15 hx (pc' := 38) hZ hown (Wd121 hw) (hb hby d5_36) rfl ?_
      refine own_icmpNo X15 hx (pc' := 41) (hb hby d5_38) (flt n2).2.2.1 rfl ?_
      refine own_iloadN X15 hx (pc' := 42) (hb hby d5_41) rfl rfl ?_
      refine own_istoreN X15 hx (pc' := 43) (Ls' := #[.val (.ref so), .val (.int (1 : Int32)), .val (.int (1 : Int32)), .val (.int c1)]) (hb hby d5_42) rfl rfl ?_
      refine own_iloadN X15 hx (pc' := 44) (hb hby d5_43) rfl rfl ?_
      refine own_iloadN X15 hx (pc' := 45) (hb hby d5_44) rfl rfl ?_
      refine own_cSI X15 hx (pc' := 48) hZ hown (Wd84 hw) (Wd85 hw) (Wd86 hw) (Wd87 hw) (rm_cc l Z a0 hw []  c1 h1 n0 Z2  ) e15 N15 hml pd_2 (hb hby d5_45) 1 [(.int c1)] [(.int (1 : Int32))] (fun T17 L17 X17 e17 N17 => ?_)
      rw [own_cc1 rc1]
      refine own_iadd X17 hx (pc' := 49) (z := (2 : Int32)) (hb hby d5_48) (by decide) rfl ?_
      refine own_istoreN X17 hx (pc' := 50) (Ls' := #[.val (.ref so), .val (.int (1 : Int32)), .val (.int (2 : Int32)), .val (.int c1)]) (hb hby d5_49) rfl rfl ?_
      refine own_goto X17 hx (pc' := 11) (hb hby d5_50) (by decide) (by decide) ?_
      refine own_iloadN X17 hx (pc' := 12) (hb hby d5_11) rfl rfl ?_
      refine own_ifYes X17 hx (pc' := 53) (hb hby d5_12) (flt (by decide : ¬ ((1 : Int32) < (0 : Int32)))).2.1 (by decide) (by decide) ?_
      refine own_iloadN X17 hx (pc' := 54) (hb hby d5_53) rfl rfl ?_
      refine own_retIW X17 hs1 e17 hk1 hx hlk hret (hb hby d5_54) (by decide) (by decide) ?_
      exact ⟨rfl, N17⟩
    · rw [q0, q1]
      refine own_istoreN X15 hx (pc' := 29) (Ls' := #[.val (.ref so), .val (.int (-1 : Int32)), .val (.int (1 : Int32)), .val (.int (own_tcp c1 c2))]) (hb hby d5_28) (by first | rfl | (exact XS.store1 (o := _) rfl (by first | exact Or.inl rfl | exact Or.inr ⟨_, rfl, rfl⟩ | assumption) rfl)) rfl ?_
      refine own_iloadN X15 hx (pc' := 30) (hb hby d5_29) rfl rfl ?_
      refine own_ldcI X15 hx (pc' := 32) hZ hown (Wd83 hw) (hb hby d5_30) rfl ?_
      refine own_icmpNo X15 hx (pc' := 35) (hb hby d5_32) (flt n1).1 rfl ?_
      refine own_iloadN X15 hx (pc' := 36) (hb hby d5_35) rfl rfl ?_
      refine own_ldcI X15 hx (pc' := 38) hZ hown (Wd121 hw) (hb hby d5_36) rfl ?_
      refine own_icmpYes X15 hx (pc' := 43) (hb hby d5_38) (tlt n2).2.2.1 (by decide) (by decide) ?_
      refine own_iloadN X15 hx (pc' := 44) (hb hby d5_43) rfl rfl ?_
      refine own_iloadN X15 hx (pc' := 45) (hb hby d5_44) rfl rfl ?_
      refine own_cSI X15 hx (pc' := 48) hZ hown (Wd84 hw) (Wd85 hw) (Wd86 hw) (Wd87 hw) (rm_cc l Z a0 hw []  (own_tcp c1 c2) h1 n0 Z2  ) e15 N15 hml pd_2 (hb hby d5_45) 1 [(.int (own_tcp c1 c2))] [(.int (1 : Int32))] (fun T18 L18 X18 e18 N18 => ?_)
      rw [q2]
      refine own_iadd X18 hx (pc' := 49) (z := (3 : Int32)) (hb hby d5_48) (by decide) rfl ?_
      refine own_istoreN X18 hx (pc' := 50) (Ls' := #[.val (.ref so), .val (.int (-1 : Int32)), .val (.int (3 : Int32)), .val (.int (own_tcp c1 c2))]) (hb hby d5_49) rfl rfl ?_
      refine own_goto X18 hx (pc' := 11) (hb hby d5_50) (by decide) (by decide) ?_
      exact J3 _ (Or.inr ⟨_, rfl, rfl⟩) _ _ X18 e18 N18
  have J0 : ∀ (x3 : Slot) (hx3 : x3 = .unset ∨ ∃ w : Value, x3 = .val w ∧ w.category = 1) (TJ : State) (locsJ : List Loc) (XJ : Stand p l e ({ frames := 4, cells := 2, slots := 20, locals := 58 } : Room) (s.setVm T1.vm) m #[(.ref so)] below meth c TJ locsJ 2 20) (eJ : TJ.heap = h1) (NJ : Fr n0 locsJ), own_G p.tables e below (own_PW s (Qval (own_lsL [c0, c1, c2] 0) n0) 2 20) TJ (mkF m 11 #[.val (.ref so), .val (.int (-1 : Int32)), .val (.int (0 : Int32)), x3] []) := by
    intro x3 hx3 TJ locsJ XJ eJ NJ
    refine own_iloadN XJ hx (pc' := 12) (hb hby d5_11) rfl rfl ?_
    refine own_ifNo XJ hx (pc' := 15) (hb hby d5_12) (tlt (by decide : (-1 : Int32) < (0 : Int32))).2.1 rfl ?_
    refine own_iloadN XJ hx (pc' := 16) (hb hby d5_15) rfl rfl ?_
    refine own_aloadN XJ hx (pc' := 17) (hb hby d5_16) rfl rfl rfl ?_
    refine own_cVI XJ hx (pc' := 20) hZ hown (Wd38 hw) (Wd40 hw) (Wd41 hw) (Wd42 hw) (Wd10 hw) (rm_lf_3 l Z a0 hw [] cz sv hcz hsv so ba kb c0 c1 c2 h1 n0 Z2 F4 F5 F6 F3) eJ F4 NJ hml pd_17 (hb hby d5_17) 1 [] [(.int (0 : Int32))] (fun T19 L19 X19 e19 N19 => ?_)
    refine own_icmpNo X19 hx (pc' := 23) (hb hby d5_20) (tlt (by decide : (0 : Int32) < (3 : Int32))).2.1 rfl ?_
    refine own_aloadN X19 hx (pc' := 24) (hb hby d5_23) rfl rfl rfl ?_
    refine own_iloadN X19 hx (pc' := 25) (hb hby d5_24) rfl rfl ?_
    refine own_cVI X19 hx (pc' := 28) hZ hown (Wd65 hw) (Wd67 hw) (Wd68 hw) (Wd69 hw) (Wd10 hw) (rm_pF_3_0 l Z a0 hw [] cz sv hcz hsv so ba kb c0 c1 c2 h1 n0 Z2 F4 F5 F6 rc0 rc1 rc2 F3) e19 F4 N19 hml pd_2 (hb hby d5_25) 0 [(.int (0 : Int32))] [] (fun T20 L20 X20 e20 N20 => ?_)
    rcases own_triN c0 c1 [c2] 0 with ⟨q0, q1, hn⟩ | ⟨q0, q1, n1, n2⟩ | ⟨q0, q1, n1, n2, q2⟩
    · rw [q0, q1]
      have G43 : own_G p.tables e below (own_PW s (Qval (own_lsL [c1, c2] 1) n0) 2 20) T20 (mkF m 43 #[.val (.ref so), .val (.int (-1 : Int32)), .val (.int (0 : Int32)), .val (.int c0)] []) := by
        refine own_iloadN X20 hx (pc' := 44) (hb hby d5_43) rfl rfl ?_
        refine own_iloadN X20 hx (pc' := 45) (hb hby d5_44) rfl rfl ?_
        refine own_cSI X20 hx (pc' := 48) hZ hown (Wd84 hw) (Wd85 hw) (Wd86 hw) (Wd87 hw) (rm_cc l Z a0 hw []  c0 h1 n0 Z2  ) e20 N20 hml pd_2 (hb hby d5_45) 1 [(.int c0)] [(.int (0 : Int32))] (fun T21 L21 X21 e21 N21 => ?_)
        rw [own_cc1 rc0]
        refine own_iadd X21 hx (pc' := 49) (z := (1 : Int32)) (hb hby d5_48) (by decide) rfl ?_
        refine own_istoreN X21 hx (pc' := 50) (Ls' := #[.val (.ref so), .val (.int (-1 : Int32)), .val (.int (1 : Int32)), .val (.int c0)]) (hb hby d5_49) rfl rfl ?_
        refine own_goto X21 hx (pc' := 11) (hb hby d5_50) (by decide) (by decide) ?_
        exact J1 _ (Or.inr ⟨_, rfl, rfl⟩) _ _ X21 e21 N21
      rcases hn with n1 | ⟨n1, n2⟩
      · skip
        refine own_istoreN X20 hx (pc' := 29) (Ls' := #[.val (.ref so), .val (.int (-1 : Int32)), .val (.int (0 : Int32)), .val (.int c0)]) (hb hby d5_28) (by first | rfl | (exact XS.store1 (o := _) rfl (by first | exact Or.inl rfl | exact Or.inr ⟨_, rfl, rfl⟩ | assumption) rfl)) rfl ?_
        refine own_iloadN X20 hx (pc' := 30) (hb hby d5_29) rfl rfl ?_
        refine own_ldcI X20 hx (pc' := 32) hZ hown (Wd83 hw) (hb hby d5_30) rfl ?_
        refine own_icmpYes X20 hx (pc' := 43) (hb hby d5_32) (tlt n1).1 (by decide) (by decide) ?_
        exact G43
      · skip
        refine own_istoreN X20 hx (pc' := 29) (Ls' := #[.val (.ref so), .val (.int (-1 : Int32)), .val (.int (0 : Int32)), .val (.int c0)]) (hb hby d5_28) (by first | rfl | (exact XS.store1 (o := _) rfl (by first | exact Or.inl rfl | exact Or.inr ⟨_, rfl, rfl⟩ | assumption) rfl)) rfl ?_
        refine own_iloadN X20 hx (pc' := 30) (hb hby d5_29) rfl rfl ?_
        refine own_ldcI X20 hx (pc' := 32) hZ hown (Wd83 hw) (hb hby d5_30) rfl ?_
        refine own_icmpNo X20 hx (pc' := 35) (hb hby d5_32) (flt n1).1 rfl ?_
        refine own_iloadN X20 hx (pc' := 36) (hb hby d5_35) rfl rfl ?_
        refine own_ldcI X20 hx (pc' := 38) hZ hown (Wd121 hw) (hb hby d5_36) rfl ?_
        refine own_icmpYes X20 hx (pc' := 43) (hb hby d5_38) (tlt n2).2.2.1 (by decide) (by decide) ?_
        exact G43
    · rw [q0, q1]
      refine own_istoreN X20 hx (pc' := 29) (Ls' := #[.val (.ref so), .val (.int (-1 : Int32)), .val (.int (0 : Int32)), .val (.int c0)]) (hb hby d5_28) (by first | rfl | (exact XS.store1 (o := _) rfl (by first | exact Or.inl rfl | exact Or.inr ⟨_, rfl, rfl⟩ | assumption) rfl)) rfl ?_
      refine own_iloadN X20 hx (pc' := 30) (hb hby d5_29) rfl rfl ?_
      refine own_ldcI X20 hx (pc' := 32) hZ hown (Wd83 hw) (hb hby d5_30) rfl ?_
      refine own_icmpNo X20 hx (pc' := 35) (hb hby d5_32) (flt n1).1 rfl ?_
      refine own_iloadN X20 hx (pc' := 36) (hb hby d5_35) rfl rfl ?_
      refine own_ldcI X20 hx (pc' := 38) hZ hown (Wd121 hw) (hb hby d5_36) rfl ?_
      refine own_icmpNo X20 hx (pc' := 41) (hb hby d5_38) (flt n2).2.2.1 rfl ?_
      refine own_iloadN X20 hx (pc' := 42) (hb hby d5_41) rfl rfl ?_
      refine own_istoreN X20 hx (pc' := 43) (Ls' := #[.val (.ref so), .val (.int (0 : Int32)), .val (.int (0 : Int32)), .val (.int c0)]) (hb hby d5_42) rfl rfl ?_
      refine own_iloadN X20 hx (pc' := 44) (hb hby d5_43) rfl rfl ?_
      refine own_iloadN X20 hx (pc' := 45) (hb hby d5_44) rfl rfl ?_
      refine own_cSI X20 hx (pc' := 48) hZ hown (Wd84 hw) (Wd85 hw) (Wd86 hw) (Wd87 hw) (rm_cc l Z a0 hw []  c0 h1 n0 Z2  ) e20 N20 hml pd_2 (hb hby d5_45) 1 [(.int c0)] [(.int (0 : Int32))] (fun T22 L22 X22 e22 N22 => ?_)
      rw [own_cc1 rc0]
      refine own_iadd X22 hx (pc' := 49) (z := (1 : Int32)) (hb hby d5_48) (by decide) rfl ?_
      refine own_istoreN X22 hx (pc' := 50) (Ls' := #[.val (.ref so), .val (.int (0 : Int32)), .val (.int (1 : Int32)), .val (.int c0)]) (hb hby d5_49) rfl rfl ?_
      refine own_goto X22 hx (pc' := 11) (hb hby d5_50) (by decide) (by decide) ?_
      refine own_iloadN X22 hx (pc' := 12) (hb hby d5_11) rfl rfl ?_
      refine own_ifYes X22 hx (pc' := 53) (hb hby d5_12) (flt (by decide : ¬ ((0 : Int32) < (0 : Int32)))).2.1 (by decide) (by decide) ?_
      refine own_iloadN X22 hx (pc' := 54) (hb hby d5_53) rfl rfl ?_
      refine own_retIW X22 hs1 e22 hk1 hx hlk hret (hb hby d5_54) (by decide) (by decide) ?_
      exact ⟨rfl, N22⟩
    · rw [q0, q1]
      refine own_istoreN X20 hx (pc' := 29) (Ls' := #[.val (.ref so), .val (.int (-1 : Int32)), .val (.int (0 : Int32)), .val (.int (own_tcp c0 c1))]) (hb hby d5_28) (by first | rfl | (exact XS.store1 (o := _) rfl (by first | exact Or.inl rfl | exact Or.inr ⟨_, rfl, rfl⟩ | assumption) rfl)) rfl ?_
      refine own_iloadN X20 hx (pc' := 30) (hb hby d5_29) rfl rfl ?_
      refine own_ldcI X20 hx (pc' := 32) hZ hown (Wd83 hw) (hb hby d5_30) rfl ?_
      refine own_icmpNo X20 hx (pc' := 35) (hb hby d5_32) (flt n1).1 rfl ?_
      refine own_iloadN X20 hx (pc' := 36) (hb hby d5_35) rfl rfl ?_
      refine own_ldcI X20 hx (pc' := 38) hZ hown (Wd121 hw) (hb hby d5_36) rfl ?_
      refine own_icmpYes X20 hx (pc' := 43) (hb hby d5_38) (tlt n2).2.2.1 (by decide) (by decide) ?_
      refine own_iloadN X20 hx (pc' := 44) (hb hby d5_43) rfl rfl ?_
      refine own_iloadN X20 hx (pc' := 45) (hb hby d5_44) rfl rfl ?_
      refine own_cSI X20 hx (pc' := 48) hZ hown (Wd84 hw) (Wd85 hw) (Wd86 hw) (Wd87 hw) (rm_cc l Z a0 hw []  (own_tcp c0 c1) h1 n0 Z2  ) e20 N20 hml pd_2 (hb hby d5_45) 1 [(.int (own_tcp c0 c1))] [(.int (0 : Int32))] (fun T23 L23 X23 e23 N23 => ?_)
      rw [q2]
      refine own_iadd X23 hx (pc' := 49) (z := (2 : Int32)) (hb hby d5_48) (by decide) rfl ?_
      refine own_istoreN X23 hx (pc' := 50) (Ls' := #[.val (.ref so), .val (.int (-1 : Int32)), .val (.int (2 : Int32)), .val (.int (own_tcp c0 c1))]) (hb hby d5_49) rfl rfl ?_
      refine own_goto X23 hx (pc' := 11) (hb hby d5_50) (by decide) (by decide) ?_
      exact J2 _ (Or.inr ⟨_, rfl, rfl⟩) _ _ X23 e23 N23
  exact J0 _ (Or.inl rfl) _ _ X7 e7 N8

theorem ef_rm_ls_4 (m : MethodId) (x0 : Addr) : entryFrame m #[(.ref x0)] 4 = mkF m 0 #[.val (.ref x0), .unset, .unset, .unset] [] := by first | (simp [entryFrame, mkF, argsToLocals, Value.category, maxLocals]; done) | rfl
set_option maxRecDepth 65536 in
set_option maxHeartbeats 40000000 in
theorem rm_ls_4 (l : Launch) (Z : State) (a0 : Array Value) (hw : ∀ d ∈ tables_1, d.before a0 Z = true) (ws : List Jvm.Cond) (cz : Int32) (sv : Value) (hcz : ¬ cz = (0 : Int32)) (hsv : sv.isRef = true) (so ba : Addr) (kb : ClassId) (c0 c1 c2 c3 : Int32) (h0 : Heap) (n0 : Nat) (Z0 : n0 ≤ h0.size) (E_s : Exa Z h0 so "java/lang/String") (F_v : Fld Z h0 so "java/lang/String" "value" "[B" (.ref ba)) (hF : ((Fld Z h0 so "java/lang/String" "coder" "B" (.int (0 : Int32)) ∧ (¬ (255 : Int32) < c0 ∧ ¬ (255 : Int32) < c1 ∧ ¬ (255 : Int32) < c2 ∧ ¬ (255 : Int32) < c3) ∧ Arv Z h0 ba kb .byte (4 : Int32) [(.int (own_lb c0)), (.int (own_lb c1)), (.int (own_lb c2)), (.int (own_lb c3))] (.int (0 : Int32))) ∨ (Fld Z h0 so "java/lang/String" "coder" "B" (.int (1 : Int32)) ∧ Arv Z h0 ba kb .byte (8 : Int32) [(.int (own_b0 c0)), (.int (own_b1 c0)), (.int (own_b0 c1)), (.int (own_b1 c1)), (.int (own_b0 c2)), (.int (own_b1 c2)), (.int (own_b0 c3)), (.int (own_b1 c3))] (.int (0 : Int32))))) (rc0 : own_ch c0) (rc1 : own_ch c1) (rc2 : own_ch c2) (rc3 : own_ch c3) (B_ST : own_ST n0 Z h0 cz sv) :
    own_MW l Z (⟨"com/example/rhadamanthus/rhadamanthus/util/Utf16", "loneSurrogateIndex", "(Ljava/lang/String;)I"⟩ : MethodName) prog_46_method_2_code 4 (some .int) ws ({ frames := 4, cells := 2, slots := 20, locals := 58 } : Room) #[(.ref so)] h0 (fun vm => True) (Qval (own_lsL [c0, c1, c2, c3] 0) n0) := by
  refine own_bodyW (H := (fun vm => True)) pf_26 ?_
  intro p e s m below meth c s₁ vm0 hx hby hml hown hnm hlk hret hZ X0 e0 hs0 hH
  have N0 : Fr n0 [] := Fr.nil n0
  refine own_go (f' := (mkF m 0 #[.val (.ref so), .unset, .unset, .unset] [])) (fun t k => castTop (ef_rm_ls_4 m so) k) ?_
  refine own_aloadN X0 hx (pc' := 1) (hb hby d5_0) rfl rfl rfl ?_
  obtain ⟨sa1, T1, h1, k1_1, X1, e1, E1, hs1, hk1, hZ, hown, -, -, st1⟩ := ldcOH (EL := []) X0 hx hZ hown (Wd33 hw) (own_atoms hw) e0 hs0 (Nat.zero_le _) EW.nil own_EL0 (g := (mkF m 1 #[.val (.ref so), .unset, .unset, .unset] [(.ref so)])) rfl (hb hby d5_1) (n := 16) (by decide) (by decide) (by decide) (by decide)
  have Z2 : n0 ≤ h1.size := Nat.le_trans Z0 E1.1
  have F3 := (B_ST.ext E1)
  have F4 := (Exa.ext E1 E_s)
  have F5 := (Fld.ext E1 F_v)
  have F6 := (own_fx_4 E1 hF)
  refine own_go (f' := (mkF m 3 #[.val (.ref so), .unset, .unset, .unset] [(.ref sa1), (.ref so)])) st1 ?_
  refine own_callS X1 hx (pc' := 6) hZ hown (Wd34 hw) (Wd35 hw) (Wd36 hw) (Wd37 hw) (by decide) (rm_rnn l Z a0 hw []  so sa1 h1 n0 Z2  ) e1 0 (by decide) (by decide) (by decide) (by decide) [(.ref so), (.ref sa1)] [] (by rw [hml]; rfl) (lenOf pd_16 rfl) rfl rfl (Nat.le_of_eq rfl) (hb hby d5_3) rfl (fun v7 T7 L7 X7 hQ7 => ?_)
  obtain ⟨rfl, Nq7, e7⟩ := hQ7
  have N8 := Fr.app N0 Nq7
  show own_G p.tables e below _ T7 (mkF m 6 #[.val (.ref so), .unset, .unset, .unset] [(.ref so)])
  refine own_pop X7 hx (pc' := 7) (hb hby d5_6) rfl rfl ?_
  refine own_iconst X7 hx (pc' := 8) (-1 : Int32) (hb hby d5_7) rfl rfl ?_
  refine own_istoreN X7 hx (pc' := 9) (Ls' := #[.val (.ref so), .val (.int (-1 : Int32)), .unset, .unset]) (hb hby d5_8) rfl rfl ?_
  refine own_iconst X7 hx (pc' := 10) (0 : Int32) (hb hby d5_9) rfl rfl ?_
  refine own_istoreN X7 hx (pc' := 11) (Ls' := #[.val (.ref so), .val (.int (-1 : Int32)), .val (.int (0 : Int32)), .unset]) (hb hby d5_10) rfl rfl ?_
  have J4 : ∀ (x3 : Slot) (hx3 : x3 = .unset ∨ ∃ w : Value, x3 = .val w ∧ w.category = 1) (TJ : State) (locsJ : List Loc) (XJ : Stand p l e ({ frames := 4, cells := 2, slots := 20, locals := 58 } : Room) (s.setVm T1.vm) m #[(.ref so)] below meth c TJ locsJ 2 20) (eJ : TJ.heap = h1) (NJ : Fr n0 locsJ), own_G p.tables e below (own_PW s (Qval (own_lsL [] 4) n0) 2 20) TJ (mkF m 11 #[.val (.ref so), .val (.int (-1 : Int32)), .val (.int (4 : Int32)), x3] []) := by
    intro x3 hx3 TJ locsJ XJ eJ NJ
    refine own_iloadN XJ hx (pc' := 12) (hb hby d5_11) rfl rfl ?_
    refine own_ifNo XJ hx (pc' := 15) (hb hby d5_12) (tlt (by decide : (-1 : Int32) < (0 : Int32))).2.1 rfl ?_
    refine own_iloadN XJ hx (pc' := 16) (hb hby d5_15) rfl rfl ?_
    refine own_aloadN XJ hx (pc' := 17) (hb hby d5_16) rfl rfl rfl ?_
    refine own_cVI XJ hx (pc' := 20) hZ hown (Wd38 hw) (Wd40 hw) (Wd41 hw) (Wd42 hw) (Wd10 hw) (rm_lf_4 l Z a0 hw [] cz sv hcz hsv so ba kb c0 c1 c2 c3 h1 n0 Z2 F4 F5 F6 F3) eJ F4 NJ hml pd_17 (hb hby d5_17) 1 [] [(.int (4 : Int32))] (fun T9 L9 X9 e9 N9 => ?_)
    refine own_icmpYes X9 hx (pc' := 53) (hb hby d5_20) (flt (by decide : ¬ ((4 : Int32) < (4 : Int32)))).2.1 (by decide) (by decide) ?_
    refine own_iloadN X9 hx (pc' := 54) (hb hby d5_53) rfl rfl ?_
    refine own_retIW X9 hs1 e9 hk1 hx hlk hret (hb hby d5_54) (by decide) (by decide) ?_
    exact ⟨congrArg (fun z => some (Value.int z)) (own_ls0 4).symm, N9⟩
  have J3 : ∀ (x3 : Slot) (hx3 : x3 = .unset ∨ ∃ w : Value, x3 = .val w ∧ w.category = 1) (TJ : State) (locsJ : List Loc) (XJ : Stand p l e ({ frames := 4, cells := 2, slots := 20, locals := 58 } : Room) (s.setVm T1.vm) m #[(.ref so)] below meth c TJ locsJ 2 20) (eJ : TJ.heap = h1) (NJ : Fr n0 locsJ), own_G p.tables e below (own_PW s (Qval (own_lsL [c3] 3) n0) 2 20) TJ (mkF m 11 #[.val (.ref so), .val (.int (-1 : Int32)), .val (.int (3 : Int32)), x3] []) := by
    intro x3 hx3 TJ locsJ XJ eJ NJ
    refine own_iloadN XJ hx (pc' := 12) (hb hby d5_11) rfl rfl ?_
    refine own_ifNo XJ hx (pc' := 15) (hb hby d5_12) (tlt (by decide : (-1 : Int32) < (0 : Int32))).2.1 rfl ?_
    refine own_iloadN XJ hx (pc' := 16) (hb hby d5_15) rfl rfl ?_
    refine own_aloadN XJ hx (pc' := 17) (hb hby d5_16) rfl rfl rfl ?_
    refine own_cVI XJ hx (pc' := 20) hZ hown (Wd38 hw) (Wd40 hw) (Wd41 hw) (Wd42 hw) (Wd10 hw) (rm_lf_4 l Z a0 hw [] cz sv hcz hsv so ba kb c0 c1 c2 c3 h1 n0 Z2 F4 F5 F6 F3) eJ F4 NJ hml pd_17 (hb hby d5_17) 1 [] [(.int (3 : Int32))] (fun T10 L10 X10 e10 N10 => ?_)
    refine own_icmpNo X10 hx (pc' := 23) (hb hby d5_20) (tlt (by decide : (3 : Int32) < (4 : Int32))).2.1 rfl ?_
    refine own_aloadN X10 hx (pc' := 24) (hb hby d5_23) rfl rfl rfl ?_
    refine own_iloadN X10 hx (pc' := 25) (hb hby d5_24) rfl rfl ?_
    refine own_cVI X10 hx (pc' := 28) hZ hown (Wd65 hw) (Wd67 hw) (Wd68 hw) (Wd69 hw) (Wd10 hw) (rm_pF_4_3 l Z a0 hw [] cz sv hcz hsv so ba kb c0 c1 c2 c3 h1 n0 Z2 F4 F5 F6 rc0 rc1 rc2 rc3 F3) e10 F4 N10 hml pd_2 (hb hby d5_25) 0 [(.int (3 : Int32))] [] (fun T11 L11 X11 e11 N11 => ?_)
    rcases own_triL c3 3 with ⟨q1, hn⟩ | ⟨q1, n1, n2⟩
    · rw [q1]
      have G43 : own_G p.tables e below (own_PW s (Qval (own_lsL [] 4) n0) 2 20) T11 (mkF m 43 #[.val (.ref so), .val (.int (-1 : Int32)), .val (.int (3 : Int32)), .val (.int c3)] []) := by
        refine own_iloadN X11 hx (pc' := 44) (hb hby d5_43) rfl rfl ?_
        refine own_iloadN X11 hx (pc' := 45) (hb hby d5_44) rfl rfl ?_
        refine own_cSI X11 hx (pc' := 48) hZ hown (Wd84 hw) (Wd85 hw) (Wd86 hw) (Wd87 hw) (rm_cc l Z a0 hw []  c3 h1 n0 Z2  ) e11 N11 hml pd_2 (hb hby d5_45) 1 [(.int c3)] [(.int (3 : Int32))] (fun T12 L12 X12 e12 N12 => ?_)
        rw [own_cc1 rc3]
        refine own_iadd X12 hx (pc' := 49) (z := (4 : Int32)) (hb hby d5_48) (by decide) rfl ?_
        refine own_istoreN X12 hx (pc' := 50) (Ls' := #[.val (.ref so), .val (.int (-1 : Int32)), .val (.int (4 : Int32)), .val (.int c3)]) (hb hby d5_49) rfl rfl ?_
        refine own_goto X12 hx (pc' := 11) (hb hby d5_50) (by decide) (by decide) ?_
        exact J4 _ (Or.inr ⟨_, rfl, rfl⟩) _ _ X12 e12 N12
      rcases hn with n1 | ⟨n1, n2⟩
      · skip
        refine own_istoreN X11 hx (pc' := 29) (Ls' := #[.val (.ref so), .val (.int (-1 : Int32)), .val (.int (3 : Int32)), .val (.int c3)]) (hb hby d5_28) (by first | rfl | (exact XS.store1 (o := _) rfl (by first | exact Or.inl rfl | exact Or.inr ⟨_, rfl, rfl⟩ | assumption) rfl)) rfl ?_
        refine own_iloadN X11 hx (pc' := 30) (hb hby d5_29) rfl rfl ?_
        refine own_ldcI X11 hx (pc' := 32) hZ hown (Wd83 hw) (hb hby d5_30) rfl ?_
        refine own_icmpYes X11 hx (pc' := 43) (hb hby d5_32) (tlt n1).1 (by decide) (by decide) ?_
        exact G43
      · skip
        refine own_istoreN X11 hx (pc' := 29) (Ls' := #[.val (.ref so), .val (.int (-1 : Int32)), .val (.int (3 : Int32)), .val (.int c3)]) (hb hby d5_28) (by first | rfl | (exact XS.store1 (o := _) rfl (by first | exact Or.inl rfl | exact Or.inr ⟨_, rfl, rfl⟩ | assumption) rfl)) rfl ?_
        refine own_iloadN X11 hx (pc' := 30) (hb hby d5_29) rfl rfl ?_
        refine own_ldcI X11 hx (pc' := 32) hZ hown (Wd83 hw) (hb hby d5_30) rfl ?_
        refine own_icmpNo X11 hx (pc' := 35) (hb hby d5_32) (flt n1).1 rfl ?_
        refine own_iloadN X11 hx (pc' := 36) (hb hby d5_35) rfl rfl ?_
        refine own_ldcI X11 hx (pc' := 38) hZ hown (Wd121 hw) (hb hby d5_36) rfl ?_
        refine own_icmpYes X11 hx (pc' := 43) (hb hby d5_38) (tlt n2).2.2.1 (by decide) (by decide) ?_
        exact G43
    · rw [q1]
      refine own_istoreN X11 hx (pc' := 29) (Ls' := #[.val (.ref so), .val (.int (-1 : Int32)), .val (.int (3 : Int32)), .val (.int c3)]) (hb hby d5_28) (by first | rfl | (exact XS.store1 (o := _) rfl (by first | exact Or.inl rfl | exact Or.inr ⟨_, rfl, rfl⟩ | assumption) rfl)) rfl ?_
      refine own_iloadN X11 hx (pc' := 30) (hb hby d5_29) rfl rfl ?_
      refine own_ldcI X11 hx (pc' := 32) hZ hown (Wd83 hw) (hb hby d5_30) rfl ?_
      refine own_icmpNo X11 hx (pc' := 35) (hb hby d5_32) (flt n1).1 rfl ?_
      refine own_iloadN X11 hx (pc' := 36) (hb hby d5_35) rfl rfl ?_
      refine own_ldcI X11 hx (pc' := 38) hZ hown (Wd121 hw) (hb hby d5_36) rfl ?_
      refine own_icmpNo X11 hx (pc' := 41) (hb hby d5_38) (flt n2).2.2.1 rfl ?_
      refine own_iloadN X11 hx (pc' := 42) (hb hby d5_41) rfl rfl ?_
      refine own_istoreN X11 hx (pc' := 43) (Ls' := #[.val (.ref so), .val (.int (3 : Int32)), .val (.int (3 : Int32)), .val (.int c3)]) (hb hby d5_42) rfl rfl ?_
      refine own_iloadN X11 hx (pc' := 44) (hb hby d5_43) rfl rfl ?_
      refine own_iloadN X11 hx (pc' := 45) (hb hby d5_44) rfl rfl ?_
      refine own_cSI X11 hx (pc' := 48) hZ hown (Wd84 hw) (Wd85 hw) (Wd86 hw) (Wd87 hw) (rm_cc l Z a0 hw []  c3 h1 n0 Z2  ) e11 N11 hml pd_2 (hb hby d5_45) 1 [(.int c3)] [(.int (3 : Int32))] (fun T13 L13 X13 e13 N13 => ?_)
      rw [own_cc1 rc3]
      refine own_iadd X13 hx (pc' := 49) (z := (4 : Int32)) (hb hby d5_48) (by decide) rfl ?_
      refine own_istoreN X13 hx (pc' := 50) (Ls' := #[.val (.ref so), .val (.int (3 : Int32)), .val (.int (4 : Int32)), .val (.int c3)]) (hb hby d5_49) rfl rfl ?_
      refine own_goto X13 hx (pc' := 11) (hb hby d5_50) (by decide) (by decide) ?_
      refine own_iloadN X13 hx (pc' := 12) (hb hby d5_11) rfl rfl ?_
      refine own_ifYes X13 hx (pc' := 53) (hb hby d5_12) (flt (by decide : ¬ ((3 : Int32) < (0 : Int32)))).2.1 (by decide) (by decide) ?_
      refine own_iloadN X13 hx (pc' := 54) (hb hby d5_53) rfl rfl ?_
      refine own_retIW X13 hs1 e13 hk1 hx hlk hret (hb hby d5_54) (by decide) (by decide) ?_
      exact ⟨rfl, N13⟩
  have J2 : ∀ (x3 : Slot) (hx3 : x3 = .unset ∨ ∃ w : Value, x3 = .val w ∧ w.category = 1) (TJ : State) (locsJ : List Loc) (XJ : Stand p l e ({ frames := 4, cells := 2, slots := 20, locals := 58 } : Room) (s.setVm T1.vm) m #[(.ref so)] below meth c TJ locsJ 2 20) (eJ : TJ.heap = h1) (NJ : Fr n0 locsJ), own_G p.tables e below (own_PW s (Qval (own_lsL [c2, c3] 2) n0) 2 20) TJ (mkF m 11 #[.val (.ref so), .val (.int (-1 : Int32)), .val (.int (2 : Int32)), x3] []) := by
    intro x3 hx3 TJ locsJ XJ eJ NJ
    refine own_iloadN XJ hx (pc' := 12) (hb hby d5_11) rfl rfl ?_
    refine own_ifNo XJ hx (pc' := 15) (hb hby d5_12) (tlt (by decide : (-1 : Int32) < (0 : Int32))).2.1 rfl ?_
    refine own_iloadN XJ hx (pc' := 16) (hb hby d5_15) rfl rfl ?_
    refine own_aloadN XJ hx (pc' := 17) (hb hby d5_16) rfl rfl rfl ?_
    refine own_cVI XJ hx (pc' := 20) hZ hown (Wd38 hw) (Wd40 hw) (Wd41 hw) (Wd42 hw) (Wd10 hw) (rm_lf_4 l Z a0 hw [] cz sv hcz hsv so ba kb c0 c1 c2 c3 h1 n0 Z2 F4 F5 F6 F3) eJ F4 NJ hml pd_17 (hb hby d5_17) 1 [] [(.int (2 : Int32))] (fun T14 L14 X14 e14 N14 => ?_)
    refine own_icmpNo X14 hx (pc' := 23) (hb hby d5_20) (tlt (by decide : (2 : Int32) < (4 : Int32))).2.1 rfl ?_
    refine own_aloadN X14 hx (pc' := 24) (hb hby d5_23) rfl rfl rfl ?_
    refine own_iloadN X14 hx (pc' := 25) (hb hby d5_24) rfl rfl ?_
    refine own_cVI X14 hx (pc' := 28) hZ hown (Wd65 hw) (Wd67 hw) (Wd68 hw) (Wd69 hw) (Wd10 hw) (rm_pF_4_2 l Z a0 hw [] cz sv hcz hsv so ba kb c0 c1 c2 c3 h1 n0 Z2 F4 F5 F6 rc0 rc1 rc2 rc3 F3) e14 F4 N14 hml pd_2 (hb hby d5_25) 0 [(.int (2 : Int32))] [] (fun T15 L15 X15 e15 N15 => ?_)
    rcases own_triN c2 c3 [] 2 with ⟨q0, q1, hn⟩ | ⟨q0, q1, n1, n2⟩ | ⟨q0, q1, n1, n2, q2⟩
    · rw [q0, q1]
      have G43 : own_G p.tables e below (own_PW s (Qval (own_lsL [c3] 3) n0) 2 20) T15 (mkF m 43 #[.val (.ref so), .val (.int (-1 : Int32)), .val (.int (2 : Int32)), .val (.int c2)] []) := by
        refine own_iloadN X15 hx (pc' := 44) (hb hby d5_43) rfl rfl ?_
        refine own_iloadN X15 hx (pc' := 45) (hb hby d5_44) rfl rfl ?_
        refine own_cSI X15 hx (pc' := 48) hZ hown (Wd84 hw) (Wd85 hw) (Wd86 hw) (Wd87 hw) (rm_cc l Z a0 hw []  c2 h1 n0 Z2  ) e15 N15 hml pd_2 (hb hby d5_45) 1 [(.int c2)] [(.int (2 : Int32))] (fun T16 L16 X16 e16 N16 => ?_)
        rw [own_cc1 rc2]
        refine own_iadd X16 hx (pc' := 49) (z := (3 : Int32)) (hb hby d5_48) (by decide) rfl ?_
        refine own_istoreN X16 hx (pc' := 50) (Ls' := #[.val (.ref so), .val (.int (-1 : Int32)), .val (.int (3 : Int32)), .val (.int c2)]) (hb hby d5_49) rfl rfl ?_
        refine own_goto X16 hx (pc' := 11) (hb hby d5_50) (by decide) (by decide) ?_
        exact J3 _ (Or.inr ⟨_, rfl, rfl⟩) _ _ X16 e16 N16
      rcases hn with n1 | ⟨n1, n2⟩
      · skip
        refine own_istoreN X15 hx (pc' := 29) (Ls' := #[.val (.ref so), .val (.int (-1 : Int32)), .val (.int (2 : Int32)), .val (.int c2)]) (hb hby d5_28) (by first | rfl | (exact XS.store1 (o := _) rfl (by first | exact Or.inl rfl | exact Or.inr ⟨_, rfl, rfl⟩ | assumption) rfl)) rfl ?_
        refine own_iloadN X15 hx (pc' := 30) (hb hby d5_29) rfl rfl ?_
        refine own_ldcI X15 hx (pc' := 32) hZ hown (Wd83 hw) (hb hby d5_30) rfl ?_
        refine own_icmpYes X15 hx (pc' := 43) (hb hby d5_32) (tlt n1).1 (by decide) (by decide) ?_
        exact G43
      · skip
        refine own_istoreN X15 hx (pc' := 29) (Ls' := #[.val (.ref so), .val (.int (-1 : Int32)), .val (.int (2 : Int32)), .val (.int c2)]) (hb hby d5_28) (by first | rfl | (exact XS.store1 (o := _) rfl (by first | exact Or.inl rfl | exact Or.inr ⟨_, rfl, rfl⟩ | assumption) rfl)) rfl ?_
        refine own_iloadN X15 hx (pc' := 30) (hb hby d5_29) rfl rfl ?_
        refine own_ldcI X15 hx (pc' := 32) hZ hown (Wd83 hw) (hb hby d5_30) rfl ?_
        refine own_icmpNo X15 hx (pc' := 35) (hb hby d5_32) (flt n1).1 rfl ?_
        refine own_iloadN X15 hx (pc' := 36) (hb hby d5_35) rfl rfl ?_
        refine own_ldcI X15 hx (pc' := 38) hZ hown (Wd121 hw) (hb hby d5_36) rfl ?_
        refine own_icmpYes X15 hx (pc' := 43) (hb hby d5_38) (tlt n2).2.2.1 (by decide) (by decide) ?_
        exact G43
    · rw [q0, q1]
      refine own_istoreN X15 hx (pc' := 29) (Ls' := #[.val (.ref so), .val (.int (-1 : Int32)), .val (.int (2 : Int32)), .val (.int c2)]) (hb hby d5_28) (by first | rfl | (exact XS.store1 (o := _) rfl (by first | exact Or.inl rfl | exact Or.inr ⟨_, rfl, rfl⟩ | assumption) rfl)) rfl ?_
      refine own_iloadN X15 hx (pc' := 30) (hb hby d5_29) rfl rfl ?_
      refine own_ldcI X15 hx (pc' := 32) hZ hown (Wd83 hw) (hb hby d5_30) rfl ?_
      refine own_icmpNo X15 hx (pc' := 35) (hb hby d5_32) (flt n1).1 rfl ?_
      refine own_iloadN X15 hx (pc' := 36) (hb hby d5_35) rfl rfl ?_
      refine own_ldcI X15 hx (pc' := 38) hZ hown (Wd121 hw) (hb hby d5_36) rfl ?_
      refine own_icmpNo X15 hx (pc' := 41) (hb hby d5_38) (flt n2).2.2.1 rfl ?_
      refine own_iloadN X15 hx (pc' := 42) (hb hby d5_41) rfl rfl ?_
      refine own_istoreN X15 hx (pc' := 43) (Ls' := #[.val (.ref so), .val (.int (2 : Int32)), .val (.int (2 : Int32)), .val (.int c2)]) (hb hby d5_42) rfl rfl ?_
      refine own_iloadN X15 hx (pc' := 44) (hb hby d5_43) rfl rfl ?_
      refine own_iloadN X15 hx (pc' := 45) (hb hby d5_44) rfl rfl ?_
      refine own_cSI X15 hx (pc' := 48) hZ hown (Wd84 hw) (Wd85 hw) (Wd86 hw) (Wd87 hw) (rm_cc l Z a0 hw []  c2 h1 n0 Z2  ) e15 N15 hml pd_2 (hb hby d5_45) 1 [(.int c2)] [(.int (2 : Int32))] (fun T17 L17 X17 e17 N17 => ?_)
      rw [own_cc1 rc2]
      refine own_iadd X17 hx (pc' := 49) (z := (3 : Int32)) (hb hby d5_48) (by decide) rfl ?_
      refine own_istoreN X17 hx (pc' := 50) (Ls' := #[.val (.ref so), .val (.int (2 : Int32)), .val (.int (3 : Int32)), .val (.int c2)]) (hb hby d5_49) rfl rfl ?_
      refine own_goto X17 hx (pc' := 11) (hb hby d5_50) (by decide) (by decide) ?_
      refine own_iloadN X17 hx (pc' := 12) (hb hby d5_11) rfl rfl ?_
      refine own_ifYes X17 hx (pc' := 53) (hb hby d5_12) (flt (by decide : ¬ ((2 : Int32) < (0 : Int32)))).2.1 (by decide) (by decide) ?_
      refine own_iloadN X17 hx (pc' := 54) (hb hby d5_53) rfl rfl ?_
      refine own_retIW X17 hs1 e17 hk1 hx hlk hret (hb hby d5_54) (by decide) (by decide) ?_
      exact ⟨rfl, N17⟩
    · rw [q0, q1]
      refine own_istoreN X15 hx (pc' := 29) (Ls' := #[.val (.ref so), .val (.int (-1 : Int32)), .val (.int (2 : Int32)), .val (.int (own_tcp c2 c3))]) (hb hby d5_28) (by first | rfl | (exact XS.store1 (o := _) rfl (by first | exact Or.inl rfl | exact Or.inr ⟨_, rfl, rfl⟩ | assumption) rfl)) rfl ?_
      refine own_iloadN X15 hx (pc' := 30) (hb hby d5_29) rfl rfl ?_
      refine own_ldcI X15 hx (pc' := 32) hZ hown (Wd83 hw) (hb hby d5_30) rfl ?_
      refine own_icmpNo X15 hx (pc' := 35) (hb hby d5_32) (flt n1).1 rfl ?_
      refine own_iloadN X15 hx (pc' := 36) (hb hby d5_35) rfl rfl ?_
      refine own_ldcI X15 hx (pc' := 38) hZ hown (Wd121 hw) (hb hby d5_36) rfl ?_
      refine own_icmpYes X15 hx (pc' := 43) (hb hby d5_38) (tlt n2).2.2.1 (by decide) (by decide) ?_
      refine own_iloadN X15 hx (pc' := 44) (hb hby d5_43) rfl rfl ?_
      refine own_iloadN X15 hx (pc' := 45) (hb hby d5_44) rfl rfl ?_
      refine own_cSI X15 hx (pc' := 48) hZ hown (Wd84 hw) (Wd85 hw) (Wd86 hw) (Wd87 hw) (rm_cc l Z a0 hw []  (own_tcp c2 c3) h1 n0 Z2  ) e15 N15 hml pd_2 (hb hby d5_45) 1 [(.int (own_tcp c2 c3))] [(.int (2 : Int32))] (fun T18 L18 X18 e18 N18 => ?_)
      rw [q2]
      refine own_iadd X18 hx (pc' := 49) (z := (4 : Int32)) (hb hby d5_48) (by decide) rfl ?_
      refine own_istoreN X18 hx (pc' := 50) (Ls' := #[.val (.ref so), .val (.int (-1 : Int32)), .val (.int (4 : Int32)), .val (.int (own_tcp c2 c3))]) (hb hby d5_49) rfl rfl ?_
      refine own_goto X18 hx (pc' := 11) (hb hby d5_50) (by decide) (by decide) ?_
      exact J4 _ (Or.inr ⟨_, rfl, rfl⟩) _ _ X18 e18 N18
  have J1 : ∀ (x3 : Slot) (hx3 : x3 = .unset ∨ ∃ w : Value, x3 = .val w ∧ w.category = 1) (TJ : State) (locsJ : List Loc) (XJ : Stand p l e ({ frames := 4, cells := 2, slots := 20, locals := 58 } : Room) (s.setVm T1.vm) m #[(.ref so)] below meth c TJ locsJ 2 20) (eJ : TJ.heap = h1) (NJ : Fr n0 locsJ), own_G p.tables e below (own_PW s (Qval (own_lsL [c1, c2, c3] 1) n0) 2 20) TJ (mkF m 11 #[.val (.ref so), .val (.int (-1 : Int32)), .val (.int (1 : Int32)), x3] []) := by
    intro x3 hx3 TJ locsJ XJ eJ NJ
    refine own_iloadN XJ hx (pc' := 12) (hb hby d5_11) rfl rfl ?_
    refine own_ifNo XJ hx (pc' := 15) (hb hby d5_12) (tlt (by decide : (-1 : Int32) < (0 : Int32))).2.1 rfl ?_
    refine own_iloadN XJ hx (pc' := 16) (hb hby d5_15) rfl rfl ?_
    refine own_aloadN XJ hx (pc' := 17) (hb hby d5_16) rfl rfl rfl ?_
    refine own_cVI XJ hx (pc' := 20) hZ hown (Wd38 hw) (Wd40 hw) (Wd41 hw) (Wd42 hw) (Wd10 hw) (rm_lf_4 l Z a0 hw [] cz sv hcz hsv so ba kb c0 c1 c2 c3 h1 n0 Z2 F4 F5 F6 F3) eJ F4 NJ hml pd_17 (hb hby d5_17) 1 [] [(.int (1 : Int32))] (fun T19 L19 X19 e19 N19 => ?_)
    refine own_icmpNo X19 hx (pc' := 23) (hb hby d5_20) (tlt (by decide : (1 : Int32) < (4 : Int32))).2.1 rfl ?_
    refine own_aloadN X19 hx (pc' := 24) (hb hby d5_23) rfl rfl rfl ?_
    refine own_iloadN X19 hx (pc' := 25) (hb hby d5_24) rfl rfl ?_
    refine own_cVI X19 hx (pc' := 28) hZ hown (Wd65 hw) (Wd67 hw) (Wd68 hw) (Wd69 hw) (Wd10 hw) (rm_pF_4_1 l Z a0 hw [] cz sv hcz hsv so ba kb c0 c1 c2 c3 h1 n0 Z2 F4 F5 F6 rc0 rc1 rc2 rc3 F3) e19 F4 N19 hml pd_2 (hb hby d5_25) 0 [(.int (1 : Int32))] [] (fun T20 L20 X20 e20 N20 => ?_)
    rcases own_triN c1 c2 [c3] 1 with ⟨q0, q1, hn⟩ | ⟨q0, q1, n1, n2⟩ | ⟨q0, q1, n1, n2, q2⟩
    · rw [q0, q1]
      have G43 : own_G p.tables e below (own_PW s (Qval (own_lsL [c2, c3] 2) n0) 2 20) T20 (mkF m 43 #[.val (.ref so), .val (.int (-1 : Int32)), .val (.int (1 : Int32)), .val (.int c1)] []) := by
        refine own_iloadN X20 hx (pc' := 44) (hb hby d5_43) rfl rfl ?_
        refine own_iloadN X20 hx (pc' := 45) (hb hby d5_44) rfl rfl ?_
        refine own_cSI X20 hx (pc' := 48) hZ hown (Wd84 hw) (Wd85 hw) (Wd86 hw) (Wd87 hw) (rm_cc l Z a0 hw []  c1 h1 n0 Z2  ) e20 N20 hml pd_2 (hb hby d5_45) 1 [(.int c1)] [(.int (1 : Int32))] (fun T21 L21 X21 e21 N21 => ?_)
        rw [own_cc1 rc1]
        refine own_iadd X21 hx (pc' := 49) (z := (2 : Int32)) (hb hby d5_48) (by decide) rfl ?_
        refine own_istoreN X21 hx (pc' := 50) (Ls' := #[.val (.ref so), .val (.int (-1 : Int32)), .val (.int (2 : Int32)), .val (.int c1)]) (hb hby d5_49) rfl rfl ?_
        refine own_goto X21 hx (pc' := 11) (hb hby d5_50) (by decide) (by decide) ?_
        exact J2 _ (Or.inr ⟨_, rfl, rfl⟩) _ _ X21 e21 N21
      rcases hn with n1 | ⟨n1, n2⟩
      · skip
        refine own_istoreN X20 hx (pc' := 29) (Ls' := #[.val (.ref so), .val (.int (-1 : Int32)), .val (.int (1 : Int32)), .val (.int c1)]) (hb hby d5_28) (by first | rfl | (exact XS.store1 (o := _) rfl (by first | exact Or.inl rfl | exact Or.inr ⟨_, rfl, rfl⟩ | assumption) rfl)) rfl ?_
        refine own_iloadN X20 hx (pc' := 30) (hb hby d5_29) rfl rfl ?_
        refine own_ldcI X20 hx (pc' := 32) hZ hown (Wd83 hw) (hb hby d5_30) rfl ?_
        refine own_icmpYes X20 hx (pc' := 43) (hb hby d5_32) (tlt n1).1 (by decide) (by decide) ?_
        exact G43
      · skip
        refine own_istoreN X20 hx (pc' := 29) (Ls' := #[.val (.ref so), .val (.int (-1 : Int32)), .val (.int (1 : Int32)), .val (.int c1)]) (hb hby d5_28) (by first | rfl | (exact XS.store1 (o := _) rfl (by first | exact Or.inl rfl | exact Or.inr ⟨_, rfl, rfl⟩ | assumption) rfl)) rfl ?_
        refine own_iloadN X20 hx (pc' := 30) (hb hby d5_29) rfl rfl ?_
        refine own_ldcI X20 hx (pc' := 32) hZ hown (Wd83 hw) (hb hby d5_30) rfl ?_
        refine own_icmpNo X20 hx (pc' := 35) (hb hby d5_32) (flt n1).1 rfl ?_
        refine own_iloadN X20 hx (pc' := 36) (hb hby d5_35) rfl rfl ?_
        refine own_ldcI X20 hx (pc' := 38) hZ hown (Wd121 hw) (hb hby d5_36) rfl ?_
        refine own_icmpYes X20 hx (pc' := 43) (hb hby d5_38) (tlt n2).2.2.1 (by decide) (by decide) ?_
        exact G43
    · rw [q0, q1]
      refine own_istoreN X20 hx (pc' := 29) (Ls' := #[.val (.ref so), .val (.int (-1 : Int32)), .val (.int (1 : Int32)), .val (.int c1)]) (hb hby d5_28) (by first | rfl | (exact XS.store1 (o := _) rfl (by first | exact Or.inl rfl | exact Or.inr ⟨_, rfl, rfl⟩ | assumption) rfl)) rfl ?_
      refine own_iloadN X20 hx (pc' := 30) (hb hby d5_29) rfl rfl ?_
      refine own_ldcI X20 hx (pc' := 32) hZ hown (Wd83 hw) (hb hby d5_30) rfl ?_
      refine own_icmpNo X20 hx (pc' := 35) (hb hby d5_32) (flt n1).1 rfl ?_
      refine own_iloadN X20 hx (pc' := 36) (hb hby d5_35) rfl rfl ?_
      refine own_ldcI X20 hx (pc' := 38) hZ hown (Wd121 hw) (hb hby d5_36) rfl ?_
      refine own_icmpNo X20 hx (pc' := 41) (hb hby d5_38) (flt n2).2.2.1 rfl ?_
      refine own_iloadN X20 hx (pc' := 42) (hb hby d5_41) rfl rfl ?_
      refine own_istoreN X20 hx (pc' := 43) (Ls' := #[.val (.ref so), .val (.int (1 : Int32)), .val (.int (1 : Int32)), .val (.int c1)]) (hb hby d5_42) rfl rfl ?_
      refine own_iloadN X20 hx (pc' := 44) (hb hby d5_43) rfl rfl ?_
      refine own_iloadN X20 hx (pc' := 45) (hb hby d5_44) rfl rfl ?_
      refine own_cSI X20 hx (pc' := 48) hZ hown (Wd84 hw) (Wd85 hw) (Wd86 hw) (Wd87 hw) (rm_cc l Z a0 hw []  c1 h1 n0 Z2  ) e20 N20 hml pd_2 (hb hby d5_45) 1 [(.int c1)] [(.int (1 : Int32))] (fun T22 L22 X22 e22 N22 => ?_)
      rw [own_cc1 rc1]
      refine own_iadd X22 hx (pc' := 49) (z := (2 : Int32)) (hb hby d5_48) (by decide) rfl ?_
      refine own_istoreN X22 hx (pc' := 50) (Ls' := #[.val (.ref so), .val (.int (1 : Int32)), .val (.int (2 : Int32)), .val (.int c1)]) (hb hby d5_49) rfl rfl ?_
      refine own_goto X22 hx (pc' := 11) (hb hby d5_50) (by decide) (by decide) ?_
      refine own_iloadN X22 hx (pc' := 12) (hb hby d5_11) rfl rfl ?_
      refine own_ifYes X22 hx (pc' := 53) (hb hby d5_12) (flt (by decide : ¬ ((1 : Int32) < (0 : Int32)))).2.1 (by decide) (by decide) ?_
      refine own_iloadN X22 hx (pc' := 54) (hb hby d5_53) rfl rfl ?_
      refine own_retIW X22 hs1 e22 hk1 hx hlk hret (hb hby d5_54) (by decide) (by decide) ?_
      exact ⟨rfl, N22⟩
    · rw [q0, q1]
      refine own_istoreN X20 hx (pc' := 29) (Ls' := #[.val (.ref so), .val (.int (-1 : Int32)), .val (.int (1 : Int32)), .val (.int (own_tcp c1 c2))]) (hb hby d5_28) (by first | rfl | (exact XS.store1 (o := _) rfl (by first | exact Or.inl rfl | exact Or.inr ⟨_, rfl, rfl⟩ | assumption) rfl)) rfl ?_
      refine own_iloadN X20 hx (pc' := 30) (hb hby d5_29) rfl rfl ?_
      refine own_ldcI X20 hx (pc' := 32) hZ hown (Wd83 hw) (hb hby d5_30) rfl ?_
      refine own_icmpNo X20 hx (pc' := 35) (hb hby d5_32) (flt n1).1 rfl ?_
      refine own_iloadN X20 hx (pc' := 36) (hb hby d5_35) rfl rfl ?_
      refine own_ldcI X20 hx (pc' := 38) hZ hown (Wd121 hw) (hb hby d5_36) rfl ?_
      refine own_icmpYes X20 hx (pc' := 43) (hb hby d5_38) (tlt n2).2.2.1 (by decide) (by decide) ?_
      refine own_iloadN X20 hx (pc' := 44) (hb hby d5_43) rfl rfl ?_
      refine own_iloadN X20 hx (pc' := 45) (hb hby d5_44) rfl rfl ?_
      refine own_cSI X20 hx (pc' := 48) hZ hown (Wd84 hw) (Wd85 hw) (Wd86 hw) (Wd87 hw) (rm_cc l Z a0 hw []  (own_tcp c1 c2) h1 n0 Z2  ) e20 N20 hml pd_2 (hb hby d5_45) 1 [(.int (own_tcp c1 c2))] [(.int (1 : Int32))] (fun T23 L23 X23 e23 N23 => ?_)
      rw [q2]
      refine own_iadd X23 hx (pc' := 49) (z := (3 : Int32)) (hb hby d5_48) (by decide) rfl ?_
      refine own_istoreN X23 hx (pc' := 50) (Ls' := #[.val (.ref so), .val (.int (-1 : Int32)), .val (.int (3 : Int32)), .val (.int (own_tcp c1 c2))]) (hb hby d5_49) rfl rfl ?_
      refine own_goto X23 hx (pc' := 11) (hb hby d5_50) (by decide) (by decide) ?_
      exact J3 _ (Or.inr ⟨_, rfl, rfl⟩) _ _ X23 e23 N23
  have J0 : ∀ (x3 : Slot) (hx3 : x3 = .unset ∨ ∃ w : Value, x3 = .val w ∧ w.category = 1) (TJ : State) (locsJ : List Loc) (XJ : Stand p l e ({ frames := 4, cells := 2, slots := 20, locals := 58 } : Room) (s.setVm T1.vm) m #[(.ref so)] below meth c TJ locsJ 2 20) (eJ : TJ.heap = h1) (NJ : Fr n0 locsJ), own_G p.tables e below (own_PW s (Qval (own_lsL [c0, c1, c2, c3] 0) n0) 2 20) TJ (mkF m 11 #[.val (.ref so), .val (.int (-1 : Int32)), .val (.int (0 : Int32)), x3] []) := by
    intro x3 hx3 TJ locsJ XJ eJ NJ
    refine own_iloadN XJ hx (pc' := 12) (hb hby d5_11) rfl rfl ?_
    refine own_ifNo XJ hx (pc' := 15) (hb hby d5_12) (tlt (by decide : (-1 : Int32) < (0 : Int32))).2.1 rfl ?_
    refine own_iloadN XJ hx (pc' := 16) (hb hby d5_15) rfl rfl ?_
    refine own_aloadN XJ hx (pc' := 17) (hb hby d5_16) rfl rfl rfl ?_
    refine own_cVI XJ hx (pc' := 20) hZ hown (Wd38 hw) (Wd40 hw) (Wd41 hw) (Wd42 hw) (Wd10 hw) (rm_lf_4 l Z a0 hw [] cz sv hcz hsv so ba kb c0 c1 c2 c3 h1 n0 Z2 F4 F5 F6 F3) eJ F4 NJ hml pd_17 (hb hby d5_17) 1 [] [(.int (0 : Int32))] (fun T24 L24 X24 e24 N24 => ?_)
    refine own_icmpNo X24 hx (pc' := 23) (hb hby d5_20) (tlt (by decide : (0 : Int32) < (4 : Int32))).2.1 rfl ?_
    refine own_aloadN X24 hx (pc' := 24) (hb hby d5_23) rfl rfl rfl ?_
    refine own_iloadN X24 hx (pc' := 25) (hb hby d5_24) rfl rfl ?_
    refine own_cVI X24 hx (pc' := 28) hZ hown (Wd65 hw) (Wd67 hw) (Wd68 hw) (Wd69 hw) (Wd10 hw) (rm_pF_4_0 l Z a0 hw [] cz sv hcz hsv so ba kb c0 c1 c2 c3 h1 n0 Z2 F4 F5 F6 rc0 rc1 rc2 rc3 F3) e24 F4 N24 hml pd_2 (hb hby d5_25) 0 [(.int (0 : Int32))] [] (fun T25 L25 X25 e25 N25 => ?_)
    rcases own_triN c0 c1 [c2, c3] 0 with ⟨q0, q1, hn⟩ | ⟨q0, q1, n1, n2⟩ | ⟨q0, q1, n1, n2, q2⟩
    · rw [q0, q1]
      have G43 : own_G p.tables e below (own_PW s (Qval (own_lsL [c1, c2, c3] 1) n0) 2 20) T25 (mkF m 43 #[.val (.ref so), .val (.int (-1 : Int32)), .val (.int (0 : Int32)), .val (.int c0)] []) := by
        refine own_iloadN X25 hx (pc' := 44) (hb hby d5_43) rfl rfl ?_
        refine own_iloadN X25 hx (pc' := 45) (hb hby d5_44) rfl rfl ?_
        refine own_cSI X25 hx (pc' := 48) hZ hown (Wd84 hw) (Wd85 hw) (Wd86 hw) (Wd87 hw) (rm_cc l Z a0 hw []  c0 h1 n0 Z2  ) e25 N25 hml pd_2 (hb hby d5_45) 1 [(.int c0)] [(.int (0 : Int32))] (fun T26 L26 X26 e26 N26 => ?_)
        rw [own_cc1 rc0]
        refine own_iadd X26 hx (pc' := 49) (z := (1 : Int32)) (hb hby d5_48) (by decide) rfl ?_
        refine own_istoreN X26 hx (pc' := 50) (Ls' := #[.val (.ref so), .val (.int (-1 : Int32)), .val (.int (1 : Int32)), .val (.int c0)]) (hb hby d5_49) rfl rfl ?_
        refine own_goto X26 hx (pc' := 11) (hb hby d5_50) (by decide) (by decide) ?_
        exact J1 _ (Or.inr ⟨_, rfl, rfl⟩) _ _ X26 e26 N26
      rcases hn with n1 | ⟨n1, n2⟩
      · skip
        refine own_istoreN X25 hx (pc' := 29) (Ls' := #[.val (.ref so), .val (.int (-1 : Int32)), .val (.int (0 : Int32)), .val (.int c0)]) (hb hby d5_28) (by first | rfl | (exact XS.store1 (o := _) rfl (by first | exact Or.inl rfl | exact Or.inr ⟨_, rfl, rfl⟩ | assumption) rfl)) rfl ?_
        refine own_iloadN X25 hx (pc' := 30) (hb hby d5_29) rfl rfl ?_
        refine own_ldcI X25 hx (pc' := 32) hZ hown (Wd83 hw) (hb hby d5_30) rfl ?_
        refine own_icmpYes X25 hx (pc' := 43) (hb hby d5_32) (tlt n1).1 (by decide) (by decide) ?_
        exact G43
      · skip
        refine own_istoreN X25 hx (pc' := 29) (Ls' := #[.val (.ref so), .val (.int (-1 : Int32)), .val (.int (0 : Int32)), .val (.int c0)]) (hb hby d5_28) (by first | rfl | (exact XS.store1 (o := _) rfl (by first | exact Or.inl rfl | exact Or.inr ⟨_, rfl, rfl⟩ | assumption) rfl)) rfl ?_
        refine own_iloadN X25 hx (pc' := 30) (hb hby d5_29) rfl rfl ?_
        refine own_ldcI X25 hx (pc' := 32) hZ hown (Wd83 hw) (hb hby d5_30) rfl ?_
        refine own_icmpNo X25 hx (pc' := 35) (hb hby d5_32) (flt n1).1 rfl ?_
        refine own_iloadN X25 hx (pc' := 36) (hb hby d5_35) rfl rfl ?_
        refine own_ldcI X25 hx (pc' := 38) hZ hown (Wd121 hw) (hb hby d5_36) rfl ?_
        refine own_icmpYes X25 hx (pc' := 43) (hb hby d5_38) (tlt n2).2.2.1 (by decide) (by decide) ?_
        exact G43
    · rw [q0, q1]
      refine own_istoreN X25 hx (pc' := 29) (Ls' := #[.val (.ref so), .val (.int (-1 : Int32)), .val (.int (0 : Int32)), .val (.int c0)]) (hb hby d5_28) (by first | rfl | (exact XS.store1 (o := _) rfl (by first | exact Or.inl rfl | exact Or.inr ⟨_, rfl, rfl⟩ | assumption) rfl)) rfl ?_
      refine own_iloadN X25 hx (pc' := 30) (hb hby d5_29) rfl rfl ?_
      refine own_ldcI X25 hx (pc' := 32) hZ hown (Wd83 hw) (hb hby d5_30) rfl ?_
      refine own_icmpNo X25 hx (pc' := 35) (hb hby d5_32) (flt n1).1 rfl ?_
      refine own_iloadN X25 hx (pc' := 36) (hb hby d5_35) rfl rfl ?_
      refine own_ldcI X25 hx (pc' := 38) hZ hown (Wd121 hw) (hb hby d5_36) rfl ?_
      refine own_icmpNo X25 hx (pc' := 41) (hb hby d5_38) (flt n2).2.2.1 rfl ?_
      refine own_iloadN X25 hx (pc' := 42) (hb hby d5_41) rfl rfl ?_
      refine own_istoreN X25 hx (pc' := 43) (Ls' := #[.val (.ref so), .val (.int (0 : Int32)), .val (.int (0 : Int32)), .val (.int c0)]) (hb hby d5_42) rfl rfl ?_
      refine own_iloadN X25 hx (pc' := 44) (hb hby d5_43) rfl rfl ?_
      refine own_iloadN X25 hx (pc' := 45) (hb hby d5_44) rfl rfl ?_
      refine own_cSI X25 hx (pc' := 48) hZ hown (Wd84 hw) (Wd85 hw) (Wd86 hw) (Wd87 hw) (rm_cc l Z a0 hw []  c0 h1 n0 Z2  ) e25 N25 hml pd_2 (hb hby d5_45) 1 [(.int c0)] [(.int (0 : Int32))] (fun T27 L27 X27 e27 N27 => ?_)
      rw [own_cc1 rc0]
      refine own_iadd X27 hx (pc' := 49) (z := (1 : Int32)) (hb hby d5_48) (by decide) rfl ?_
      refine own_istoreN X27 hx (pc' := 50) (Ls' := #[.val (.ref so), .val (.int (0 : Int32)), .val (.int (1 : Int32)), .val (.int c0)]) (hb hby d5_49) rfl rfl ?_
      refine own_goto X27 hx (pc' := 11) (hb hby d5_50) (by decide) (by decide) ?_
      refine own_iloadN X27 hx (pc' := 12) (hb hby d5_11) rfl rfl ?_
      refine own_ifYes X27 hx (pc' := 53) (hb hby d5_12) (flt (by decide : ¬ ((0 : Int32) < (0 : Int32)))).2.1 (by decide) (by decide) ?_
      refine own_iloadN X27 hx (pc' := 54) (hb hby d5_53) rfl rfl ?_
      refine own_retIW X27 hs1 e27 hk1 hx hlk hret (hb hby d5_54) (by decide) (by decide) ?_
      exact ⟨rfl, N27⟩
    · rw [q0, q1]
      refine own_istoreN X25 hx (pc' := 29) (Ls' := #[.val (.ref so), .val (.int (-1 : Int32)), .val (.int (0 : Int32)), .val (.int (own_tcp c0 c1))]) (hb hby d5_28) (by first | rfl | (exact XS.store1 (o := _) rfl (by first | exact Or.inl rfl | exact Or.inr ⟨_, rfl, rfl⟩ | assumption) rfl)) rfl ?_
      refine own_iloadN X25 hx (pc' := 30) (hb hby d5_29) rfl rfl ?_
      refine own_ldcI X25 hx (pc' := 32) hZ hown (Wd83 hw) (hb hby d5_30) rfl ?_
      refine own_icmpNo X25 hx (pc' := 35) (hb hby d5_32) (flt n1).1 rfl ?_
      refine own_iloadN X25 hx (pc' := 36) (hb hby d5_35) rfl rfl ?_
      refine own_ldcI X25 hx (pc' := 38) hZ hown (Wd121 hw) (hb hby d5_36) rfl ?_
      refine own_icmpYes X25 hx (pc' := 43) (hb hby d5_38) (tlt n2).2.2.1 (by decide) (by decide) ?_
      refine own_iloadN X25 hx (pc' := 44) (hb hby d5_43) rfl rfl ?_
      refine own_iloadN X25 hx (pc' := 45) (hb hby d5_44) rfl rfl ?_
      refine own_cSI X25 hx (pc' := 48) hZ hown (Wd84 hw) (Wd85 hw) (Wd86 hw) (Wd87 hw) (rm_cc l Z a0 hw []  (own_tcp c0 c1) h1 n0 Z2  ) e25 N25 hml pd_2 (hb hby d5_45) 1 [(.int (own_tcp c0 c1))] [(.int (0 : Int32))] (fun T28 L28 X28 e28 N28 => ?_)
      rw [q2]
      refine own_iadd X28 hx (pc' := 49) (z := (2 : Int32)) (hb hby d5_48) (by decide) rfl ?_
      refine own_istoreN X28 hx (pc' := 50) (Ls' := #[.val (.ref so), .val (.int (-1 : Int32)), .val (.int (2 : Int32)), .val (.int (own_tcp c0 c1))]) (hb hby d5_49) rfl rfl ?_
      refine own_goto X28 hx (pc' := 11) (hb hby d5_50) (by decide) (by decide) ?_
      exact J2 _ (Or.inr ⟨_, rfl, rfl⟩) _ _ X28 e28 N28
  exact J0 _ (Or.inl rfl) _ _ X7 e7 N8

theorem Wd21 {a0 : Array Value} {Z : State} (hw : ∀ d ∈ tables_1, d.before a0 Z = true) : (Jvm.Cond.stringLink "java/lang/String" (7 : Nat) "").before a0 Z = true := hw _ (List.mem_of_getElem? (i := 21) rfl)
def own_EL : List (String × Nat) := [("java/lang/String", 7)]
theorem own_EW {a0 : Array Value} {Z : State} (hw : ∀ d ∈ tables_1, d.before a0 Z = true) : EW Z a0 own_EL := EW.cons (Wd21 hw) (fun c hc => by simp at hc) EW.nil
def Qin_0 (Z : State) (so : Addr) (h0 : Heap) (n0 : Nat) (v : Option Value) (h : Heap) (L : List Loc) : Prop := v = none ∧ Fr n0 L ∧ Keep h0 h [so] ∧ ∃ (ba : Addr) (kb : ClassId), Fld Z h so "java/lang/String" "value" "[B" (.ref ba) ∧ Fld Z h so "java/lang/String" "coder" "B" (.int (0 : Int32)) ∧ Arv Z h ba kb .byte (0 : Int32) [] (.int (0 : Int32))
theorem ef_rm_i2_0 (m : MethodId) (x0 : Addr) (x1 : Addr) (x2 : Int32) (x3 : Int32) : entryFrame m #[(.ref x0), (.ref x1), (.int x2), (.int x3), .null] 6 = mkF m 0 #[.val (.ref x0), .val (.ref x1), .val (.int x2), .val (.int x3), .val .null, .unset] [] := by first | (simp [entryFrame, mkF, argsToLocals, Value.category, maxLocals]; done) | rfl
set_option maxRecDepth 65536 in
set_option maxHeartbeats 40000000 in
theorem rm_i2_0 (l : Launch) (Z : State) (a0 : Array Value) (hw : ∀ d ∈ tables_1, d.before a0 Z = true) (ws : List Jvm.Cond) (so ca : Addr) (h0 : Heap) (n0 : Nat) (Z0 : n0 ≤ h0.size) (g_s : n0 ≤ so) (E_s : Exa Z h0 so "java/lang/String") (F_c : Fld Z h0 so "java/lang/String" "coder" "B" (.int (0 : Int32))) (F_v : Fld Z h0 so "java/lang/String" "value" "[B" .null) :
    own_MW l Z (⟨"java/lang/String", "<init>", "([CIILjava/lang/Void;)V"⟩ : MethodName) jdk_42_method_149_code 6 none ws ({ frames := 1, cells := 4, slots := 8, locals := 12 } : Room) #[(.ref so), (.ref ca), (.int (0 : Int32)), (.int (0 : Int32)), .null] h0 (fun vm => (CHv Z own_EL vm h0 ∧ Safe Z own_EL vm h0 so)) (Qin_0 Z so h0 n0) := by
  refine own_bodyW (H := (fun vm => (CHv Z own_EL vm h0 ∧ Safe Z own_EL vm h0 so))) pf_21 ?_
  intro p e s m below meth c s₁ vm0 hx hby hml hown hnm hlk hret hZ X0 e0 hs0 hH
  have N0 : Fr n0 [] := Fr.nil n0
  refine own_go (f' := (mkF m 0 #[.val (.ref so), .val (.ref ca), .val (.int (0 : Int32)), .val (.int (0 : Int32)), .val .null, .unset] [])) (fun t k => castTop (ef_rm_i2_0 m so ca (0 : Int32) (0 : Int32)) k) ?_
  have K1 : Keep h0 h0 [so] := Keep.refl _ _
  refine own_aloadN X0 hx (pc' := 1) (hb hby d3_0) rfl rfl rfl ?_
  refine own_initO X0 hx (pc' := 4) hZ hown (Wd18 hw) (Wd19 hw) (Wd20 hw) e0 (by rw [hml]; rfl) (hb hby d3_1) (by decide) 0 (Nat.le_of_eq rfl) (by decide) rfl (fun T2 X2 e2 => ?_)
  refine own_iloadN X2 hx (pc' := 5) (hb hby d3_4) rfl rfl ?_
  refine own_ifNo X2 hx (pc' := 8) (hb hby d3_5) (teq rfl).2 rfl ?_
  refine own_aloadN X2 hx (pc' := 9) (hb hby d3_8) rfl rfl rfl ?_
  obtain ⟨sa3, T3, h3, k1_3, sb3, kc3, X3, e3, E3, hs3, hk3, hZ, hown, Ex3, Fc3, Fv3, Av3, -, -, CR3, -, sf3, st3⟩ := ldcCH X2 hx hZ hown (Wd21 hw) (own_atoms hw) e2 hs0 (Nat.zero_le _) (own_EW hw) (List.mem_cons_self) hH.1 (vs := []) (z := (0 : Int32)) ⟨fun c hc => by simp at hc, rfl⟩ (by decide) (by decide) (g := (mkF m 9 #[.val (.ref so), .val (.ref ca), .val (.int (0 : Int32)), .val (.int (0 : Int32)), .val .null, .unset] [(.ref so)])) rfl (hb hby d3_9) (n := 0) (by decide) (by decide) (by decide) (by decide)
  have Sf3 := CR3.safe E_s.lt hH.2
  have CH3 := CR3.1
  have Z4 : n0 ≤ h3.size := Nat.le_trans Z0 E3.1
  have K5 : Keep h0 h3 [so] := K1.ext E3
  have F6 := (Exa.ext E3 E_s)
  have F7 := (Fld.ext E3 F_c)
  have F8 := (Fld.ext E3 F_v)
  refine own_go (f' := (mkF m 11 #[.val (.ref so), .val (.ref ca), .val (.int (0 : Int32)), .val (.int (0 : Int32)), .val .null, .unset] [(.ref sa3), (.ref so)])) st3 ?_
  refine own_getF X3 hx (pc' := 14) hZ hown (host := "") (Or.inl (Wd27 hw)) Via.refl e3 Fv3 (hb hby d3_11) rfl (fun T9 X9 e9 => ?_)
  refine own_putF X9 hx (pc' := 17) hZ (ty := (.array .byte)) hown (host := "") (Or.inl (Wd27 hw)) Via.refl e9 F8 F6 (Or.inr ⟨(Wd23 hw), rfl, hnm⟩) (Wd9 hw) (by decide) rfl rfl (hb hby d3_14) rfl (fun T10 h10 X10 e10 W10 => ?_)
  have N11 := Fr.snoc X10 N0 g_s
  have Z12 : n0 ≤ h10.size := Nat.le_trans Z4 (Nat.le_of_eq (Wr.size W10).symm)
  have K13 : Keep h0 h10 [so] := K5.wr W10 (Or.inl (List.mem_of_getElem? (i := 0) rfl))
  have hk14 := Nat.le_trans hk3 (Nat.le_of_eq (Wr.size W10).symm)
  have CH15 := CHv.wr W10 Sf3 CH3
  have Sf15 := Safe.wr W10 Sf3 CH3 Sf3
  have F16 := (Exa.wr W10 F6)
  have F17 := (Fld.other W10 F7 (Or.inr (slot_ne (Or.inr (Wd24 hw)) (Or.inr (Wd23 hw)) (by decide) (t := .byte) (t' := (.array .byte)) (by decide) (by decide))))
  have F18 := (Fld.same W10 F8)
  have F19 := (Exa.wr W10 Ex3)
  have F20 := (Fld.other W10 Fv3 (Or.inl (Ne.symm (sf3 so Sf3).1)))
  have F21 := (Fld.other W10 Fc3 (Or.inl (Ne.symm (sf3 so Sf3).1)))
  have F22 := (Av3.other W10 (Ne.symm (sf3 so Sf3).2))
  refine own_aloadN X10 hx (pc' := 18) (hb hby d3_17) rfl rfl rfl ?_
  obtain ⟨sa23, T23, h23, k1_23, sb23, kc23, X23, e23, E23, hs23, hk23, hZ, hown, Ex23, Fc23, Fv23, Av23, -, -, CR23, -, sf23, st23⟩ := ldcCH X10 hx hZ hown (Wd21 hw) (own_atoms hw) e10 hs3 hk14 (own_EW hw) (List.mem_cons_self) CH15 (vs := []) (z := (0 : Int32)) ⟨fun c hc => by simp at hc, rfl⟩ (by decide) (by decide) (g := (mkF m 18 #[.val (.ref so), .val (.ref ca), .val (.int (0 : Int32)), .val (.int (0 : Int32)), .val .null, .unset] [(.ref so)])) rfl (hb hby d3_18) (n := 0) (by decide) (by decide) (by decide) (by decide)
  have Sf23 := CR23.safe F16.lt Sf15
  have CH23 := CR23.1
  have Z24 : n0 ≤ h23.size := Nat.le_trans Z12 E23.1
  have K25 : Keep h0 h23 [so] := K13.ext E23
  have F26 := (Exa.ext E23 F16)
  have F27 := (Fld.ext E23 F17)
  have F28 := (Fld.ext E23 F18)
  have F29 := (Exa.ext E23 F19)
  have F30 := (Fld.ext E23 F20)
  have F31 := (Fld.ext E23 F21)
  have F32 := (F22.ext E23)
  refine own_go (f' := (mkF m 20 #[.val (.ref so), .val (.ref ca), .val (.int (0 : Int32)), .val (.int (0 : Int32)), .val .null, .unset] [(.ref sa23), (.ref so)])) st23 ?_
  refine own_getF X23 hx (pc' := 23) hZ hown (host := "") (Or.inl (Wd28 hw)) Via.refl e23 Fc23 (hb hby d3_20) rfl (fun T33 X33 e33 => ?_)
  refine own_putFN X33 hx (pc' := 26) hZ (ty := .byte) (.int (0 : Int32)) hown (Wd28 hw) Via.refl e33 F27 F26 (Or.inr ⟨(Wd24 hw), rfl, hnm⟩) (Wd9 hw) (by decide) rfl rfl (hb hby d3_23) rfl (fun T34 h34 X34 e34 W34 => ?_)
  have N35 := Fr.snoc X34 N11 g_s
  have Z36 : n0 ≤ h34.size := Nat.le_trans Z24 (Nat.le_of_eq (Wr.size W34).symm)
  have K37 : Keep h0 h34 [so] := K25.wr W34 (Or.inl (List.mem_of_getElem? (i := 0) rfl))
  have hk38 := Nat.le_trans hk23 (Nat.le_of_eq (Wr.size W34).symm)
  have CH39 := CHv.wr W34 Sf23 CH23
  have Sf39 := Safe.wr W34 Sf23 CH23 Sf23
  have F40 := (Exa.wr W34 F26)
  have F41 := (Fld.same W34 F27)
  have F42 := (Fld.other W34 F28 (Or.inr (slot_ne (Or.inr (Wd23 hw)) (Or.inr (Wd24 hw)) (by decide) (t := (.array .byte)) (t' := .byte) (by decide) (by decide))))
  have F43 := (Exa.wr W34 F29)
  have F44 := (Fld.other W34 F30 (Or.inl (Ne.symm (sf3 so Sf3).1)))
  have F45 := (Fld.other W34 F31 (Or.inl (Ne.symm (sf3 so Sf3).1)))
  have F46 := (F32.other W34 (Ne.symm (sf3 so Sf3).2))
  have F47 := (Exa.wr W34 Ex23)
  have F48 := (Fld.other W34 Fv23 (Or.inl (Ne.symm (sf23 so Sf23).1)))
  have F49 := (Fld.other W34 Fc23 (Or.inl (Ne.symm (sf23 so Sf23).1)))
  have F50 := (Av23.other W34 (Ne.symm (sf23 so Sf23).2))
  refine own_retVW X34 hs23 e34 hk38 hx hlk hret (hb hby d3_26) (by decide) (by decide) ?_
  rw [e34]
  exact ⟨rfl, N35, K37, sb3, _, F42, F41, F46⟩

theorem ef_rm_i1_0 (m : MethodId) (x0 : Addr) (x1 : Addr) : entryFrame m #[(.ref x0), (.ref x1)] 2 = mkF m 0 #[.val (.ref x0), .val (.ref x1)] [] := by first | (simp [entryFrame, mkF, argsToLocals, Value.category, maxLocals]; done) | rfl
set_option maxRecDepth 65536 in
set_option maxHeartbeats 40000000 in
theorem rm_i1_0 (l : Launch) (Z : State) (a0 : Array Value) (hw : ∀ d ∈ tables_1, d.before a0 Z = true) (ws : List Jvm.Cond) (so ca : Addr) (ka : ClassId) (h0 : Heap) (n0 : Nat) (Z0 : n0 ≤ h0.size) (g_s : n0 ≤ so) (E_s : Exa Z h0 so "java/lang/String") (F_c : Fld Z h0 so "java/lang/String" "coder" "B" (.int (0 : Int32))) (F_v : Fld Z h0 so "java/lang/String" "value" "[B" .null) (V_c : Arv Z h0 ca ka .char (0 : Int32) [] (.int (0 : Int32))) :
    own_MW l Z (⟨"java/lang/String", "<init>", "([C)V"⟩ : MethodName) jdk_42_method_3_code 2 none ws ({ frames := 2, cells := 4, slots := 8, locals := 29 } : Room) #[(.ref so), (.ref ca)] h0 (fun vm => (CHv Z own_EL vm h0 ∧ Safe Z own_EL vm h0 so)) (Qin_0 Z so h0 n0) := by
  refine own_bodyW (H := (fun vm => (CHv Z own_EL vm h0 ∧ Safe Z own_EL vm h0 so))) pf_22 ?_
  intro p e s m below meth c s₁ vm0 hx hby hml hown hnm hlk hret hZ X0 e0 hs0 hH
  have N0 : Fr n0 [] := Fr.nil n0
  refine own_go (f' := (mkF m 0 #[.val (.ref so), .val (.ref ca)] [])) (fun t k => castTop (ef_rm_i1_0 m so ca) k) ?_
  refine own_aloadN X0 hx (pc' := 1) (hb hby d2_0) rfl rfl rfl ?_
  refine own_aloadN X0 hx (pc' := 2) (hb hby d2_1) rfl rfl rfl ?_
  refine own_iconst X0 hx (pc' := 3) (0 : Int32) (hb hby d2_2) rfl rfl ?_
  refine own_aloadN X0 hx (pc' := 4) (hb hby d2_3) rfl rfl rfl ?_
  obtain ⟨cl1, Ar1, q1, S1, M1, H1, G1⟩ := id V_c
  refine own_len X0 hx (pc' := 5) hZ e0 Ar1 S1 M1 (hb hby d2_4) rfl ?_
  refine own_aconstNull X0 hx (pc' := 6) (hb hby d2_5) rfl ?_
  refine own_callIW (H := fun vm => (CHv Z own_EL vm h0 ∧ Safe Z own_EL vm h0 so)) X0 hx (pc' := 9) hZ rfl hown (Wd14 hw) (Wd15 hw) (Wd17 hw) (Wd10 hw) (by decide) (rm_i2_0 l Z a0 hw []  so ca h0 n0 Z0 g_s E_s F_c F_v ) (fun Y => ⟨(CHv.at Y hZ (own_EW hw) hH.1).1, (CHv.at Y hZ (own_EW hw) hH.1).safe E_s.lt hH.2⟩) hs0 e0 (Nat.zero_le _) (b := so) 0 (by decide) (by decide) (by decide) (by decide) [(.ref ca), (.int (0 : Int32)), (.int (0 : Int32)), .null] [] (by rw [hml]; rfl) (lenOf pd_9 rfl) rfl rfl (Nat.le_of_eq rfl) (hb hby d2_6) rfl (fun v2 T2 L2 X2 hZ hown hs2 hQ2 => ?_)
  obtain ⟨rfl, Nq2, hf2⟩ := hQ2
  have N3 := Fr.app N0 Nq2
  have hQf := And.intro (rfl : (none : Option Value) = none) (And.intro N3 hf2)
  show own_G p.tables e below _ T2 (mkF m 9 #[.val (.ref so), .val (.ref ca)] [])
  refine own_retVW X2 hs2 rfl (Nat.le_refl _) hx hlk hret (hb hby d2_9) (by decide) (by decide) ?_
  exact hQf

def own_w10 (c0 : Int32) : Int32 := own_k ((¬ own_hiI c0 = (0 : Int32)) ∨ (¬ own_loI c0 = (0 : Int32)))
def own_w20 (c0 c1 : Int32) : Int32 := own_k (((¬ own_hiI c0 = (0 : Int32)) ∧ ¬ (¬ own_loI c1 = (0 : Int32))) ∨ (¬ own_loI c0 = (0 : Int32)))
def own_w21 (c0 c1 : Int32) : Int32 := own_k ((¬ own_hiI c1 = (0 : Int32)) ∨ ((¬ own_loI c1 = (0 : Int32)) ∧ ¬ (¬ own_hiI c0 = (0 : Int32))))
def own_w30 (c0 c1 : Int32) : Int32 := own_k (((¬ own_hiI c0 = (0 : Int32)) ∧ ¬ (¬ own_loI c1 = (0 : Int32))) ∨ (¬ own_loI c0 = (0 : Int32)))
def own_w31 (c0 c1 c2 : Int32) : Int32 := own_k (((¬ own_hiI c1 = (0 : Int32)) ∧ ¬ (¬ own_loI c2 = (0 : Int32))) ∨ ((¬ own_loI c1 = (0 : Int32)) ∧ ¬ (¬ own_hiI c0 = (0 : Int32))))
def own_w32 (c1 c2 : Int32) : Int32 := own_k ((¬ own_hiI c2 = (0 : Int32)) ∨ ((¬ own_loI c2 = (0 : Int32)) ∧ ¬ (¬ own_hiI c1 = (0 : Int32))))
def own_w40 (c0 c1 : Int32) : Int32 := own_k (((¬ own_hiI c0 = (0 : Int32)) ∧ ¬ (¬ own_loI c1 = (0 : Int32))) ∨ (¬ own_loI c0 = (0 : Int32)))
def own_w41 (c0 c1 c2 : Int32) : Int32 := own_k (((¬ own_hiI c1 = (0 : Int32)) ∧ ¬ (¬ own_loI c2 = (0 : Int32))) ∨ ((¬ own_loI c1 = (0 : Int32)) ∧ ¬ (¬ own_hiI c0 = (0 : Int32))))
def own_w42 (c1 c2 c3 : Int32) : Int32 := own_k (((¬ own_hiI c2 = (0 : Int32)) ∧ ¬ (¬ own_loI c3 = (0 : Int32))) ∨ ((¬ own_loI c2 = (0 : Int32)) ∧ ¬ (¬ own_hiI c1 = (0 : Int32))))
def own_w43 (c2 c3 : Int32) : Int32 := own_k ((¬ own_hiI c3 = (0 : Int32)) ∨ ((¬ own_loI c3 = (0 : Int32)) ∧ ¬ (¬ own_hiI c2 = (0 : Int32))))
set_option maxHeartbeats 4000000 in
theorem own_fin1 (c0 : Int32) : own_lsL [c0] 0 = (if (own_w10 c0) = (0 : Int32) then (-1 : Int32) else (0 : Int32)) := by
  have d0 := own_dis c0
  simp only [own_ls0, own_ls1, own_ls2, own_k, own_w10]
  by_cases a0 : own_hiI c0 = (0 : Int32) <;> by_cases b0 : own_loI c0 = (0 : Int32)
  all_goals first | (simp_all; done) | (simp_all; rfl)
set_option maxHeartbeats 4000000 in
theorem own_fin2 (c0 c1 : Int32) : own_lsL [c0, c1] 0 = (if (own_w20 c0 c1) = (0 : Int32) then (if (own_w21 c0 c1) = (0 : Int32) then (-1 : Int32) else (1 : Int32)) else (0 : Int32)) := by
  have d0 := own_dis c0
  have d1 := own_dis c1
  simp only [own_ls0, own_ls1, own_ls2, own_k, own_w20, own_w21]
  by_cases a0 : own_hiI c0 = (0 : Int32) <;> by_cases b0 : own_loI c0 = (0 : Int32) <;> by_cases a1 : own_hiI c1 = (0 : Int32) <;> by_cases b1 : own_loI c1 = (0 : Int32)
  all_goals first | (simp_all; done) | (simp_all; rfl)
set_option maxHeartbeats 4000000 in
theorem own_fin3 (c0 c1 c2 : Int32) : own_lsL [c0, c1, c2] 0 = (if (own_w30 c0 c1) = (0 : Int32) then (if (own_w31 c0 c1 c2) = (0 : Int32) then (if (own_w32 c1 c2) = (0 : Int32) then (-1 : Int32) else (2 : Int32)) else (1 : Int32)) else (0 : Int32)) := by
  have d0 := own_dis c0
  have d1 := own_dis c1
  have d2 := own_dis c2
  simp only [own_ls0, own_ls1, own_ls2, own_k, own_w30, own_w31, own_w32]
  by_cases a0 : own_hiI c0 = (0 : Int32) <;> by_cases b0 : own_loI c0 = (0 : Int32) <;> by_cases a1 : own_hiI c1 = (0 : Int32) <;> by_cases b1 : own_loI c1 = (0 : Int32) <;> by_cases a2 : own_hiI c2 = (0 : Int32) <;> by_cases b2 : own_loI c2 = (0 : Int32)
  all_goals first | (simp_all; done) | (simp_all; rfl)
set_option maxHeartbeats 4000000 in
theorem own_fin4 (c0 c1 c2 c3 : Int32) : own_lsL [c0, c1, c2, c3] 0 = (if (own_w40 c0 c1) = (0 : Int32) then (if (own_w41 c0 c1 c2) = (0 : Int32) then (if (own_w42 c1 c2 c3) = (0 : Int32) then (if (own_w43 c2 c3) = (0 : Int32) then (-1 : Int32) else (3 : Int32)) else (2 : Int32)) else (1 : Int32)) else (0 : Int32)) := by
  have d0 := own_dis c0
  have d1 := own_dis c1
  have d2 := own_dis c2
  have d3 := own_dis c3
  simp only [own_ls0, own_ls1, own_ls2, own_k, own_w40, own_w41, own_w42, own_w43]
  by_cases a0 : own_hiI c0 = (0 : Int32) <;> by_cases b0 : own_loI c0 = (0 : Int32) <;> by_cases a1 : own_hiI c1 = (0 : Int32) <;> by_cases b1 : own_loI c1 = (0 : Int32) <;> by_cases a2 : own_hiI c2 = (0 : Int32) <;> by_cases b2 : own_loI c2 = (0 : Int32) <;> by_cases a3 : own_hiI c3 = (0 : Int32) <;> by_cases b3 : own_loI c3 = (0 : Int32)
  all_goals first | (simp_all; done) | (simp_all; rfl)
def Q0 (n0 : Nat) (v : Option Value) (h : Heap) (L : List Loc) : Prop := v = some (.int 1) ∧ Fr n0 L
theorem own_n5 (x : Int32) : (x &&& (7 : Int32)) % (5 : Int32) = (0 : Int32) ∨ (x &&& (7 : Int32)) % (5 : Int32) = (1 : Int32) ∨ (x &&& (7 : Int32)) % (5 : Int32) = (2 : Int32) ∨ (x &&& (7 : Int32)) % (5 : Int32) = (3 : Int32) ∨ (x &&& (7 : Int32)) % (5 : Int32) = (4 : Int32) := by
  have q1 := c_mask x (7 : Int32) 3 (by decide) (by decide)
  rw [show ((2 ^ 3 : Nat) : Int) = 8 from rfl] at q1
  have q2 := (c_irem (x &&& (7 : Int32)) (5 : Int32) 5 (by decide)).1 (by omega)
  simp only [← Int32.toInt_inj, own_t32_0, own_t32_1, own_t32_2, own_t32_3, own_t32_4]
  omega
theorem ef_rm0 (m : MethodId) (x0 : Int32) (x1 : Int32) (x2 : Int32) (x3 : Int32) (x4 : Int32) : entryFrame m #[(.int x0), (.int x1), (.int x2), (.int x3), (.int x4)] maxLocals = mkF m 0 #[.val (.int x0), .val (.int x1), .val (.int x2), .val (.int x3), .val (.int x4), .unset, .unset, .unset, .unset, .unset, .unset, .unset, .unset, .unset, .unset, .unset, .unset] [] := by first | (simp [entryFrame, mkF, argsToLocals, Value.category, maxLocals]; done) | rfl
theorem pf_27 : plainFor (⟨"com/example/rhadamanthus/rhadamanthus/util/Utf16LoneSurrogateIndexPinLaw", "law", "(IIIII)Z"⟩ : MethodName) = true := by apply plainFor_of_name; first | (simp [plainName, overriddenIn]; done) | decide +kernel
theorem Wd3 {a0 : Array Value} {Z : State} (hw : ∀ d ∈ tables_1, d.before a0 Z = true) : (Jvm.Cond.code ({ cls := "com/example/rhadamanthus/rhadamanthus/util/Utf16LoneSurrogateIndexPinLaw", name := "draw", desc := "(I)C" } : Jvm.MethodName) method_2_code (3 : Nat) (Option.some Jvm.ClassFile.FieldType.char)).before a0 Z = true := hw _ (List.mem_of_getElem? (i := 3) rfl)
theorem Wd2 {a0 : Array Value} {Z : State} (hw : ∀ d ∈ tables_1, d.before a0 Z = true) : (Jvm.Cond.initialized "com/example/rhadamanthus/rhadamanthus/util/Utf16LoneSurrogateIndexPinLaw").before a0 Z = true := hw _ (List.mem_of_getElem? (i := 2) rfl)
theorem pd_18 : parseMethodDescriptor "(I)C" = some ⟨[.int], some .char⟩ := by decide +kernel
theorem Wd0 {a0 : Array Value} {Z : State} (hw : ∀ d ∈ tables_1, d.before a0 Z = true) : (Jvm.Cond.methodLink "com/example/rhadamanthus/rhadamanthus/util/Utf16LoneSurrogateIndexPinLaw" (12 : Nat) ({ cls := "com/example/rhadamanthus/rhadamanthus/util/Utf16LoneSurrogateIndexPinLaw", name := "draw", desc := "(I)C" } : Jvm.MethodName)).before a0 Z = true := hw _ (List.mem_of_getElem? (i := 0) rfl)
theorem Wd1 {a0 : Array Value} {Z : State} (hw : ∀ d ∈ tables_1, d.before a0 Z = true) : (Jvm.Cond.static ({ cls := "com/example/rhadamanthus/rhadamanthus/util/Utf16LoneSurrogateIndexPinLaw", name := "draw", desc := "(I)C" } : Jvm.MethodName)).before a0 Z = true := hw _ (List.mem_of_getElem? (i := 1) rfl)
theorem Wd7 {a0 : Array Value} {Z : State} (hw : ∀ d ∈ tables_1, d.before a0 Z = true) : (Jvm.Cond.arrayClass Jvm.ClassFile.FieldType.char).before a0 Z = true := hw _ (List.mem_of_getElem? (i := 7) rfl)
theorem Wd8 {a0 : Array Value} {Z : State} (hw : ∀ d ∈ tables_1, d.before a0 Z = true) : (Jvm.Cond.classLink "com/example/rhadamanthus/rhadamanthus/util/Utf16LoneSurrogateIndexPinLaw" (18 : Nat) "java/lang/String").before a0 Z = true := hw _ (List.mem_of_getElem? (i := 8) rfl)
theorem Wd13 {a0 : Array Value} {Z : State} (hw : ∀ d ∈ tables_1, d.before a0 Z = true) : (Jvm.Cond.code ({ cls := "java/lang/String", name := "<init>", desc := "([C)V" } : Jvm.MethodName) jdk_42_method_3_code (2 : Nat) (Option.none : Option Jvm.ClassFile.FieldType)).before a0 Z = true := hw _ (List.mem_of_getElem? (i := 13) rfl)
theorem pd_19 : parseMethodDescriptor "([C)V" = some ⟨[(.array .char)], none⟩ := by decide +kernel
theorem Wd11 {a0 : Array Value} {Z : State} (hw : ∀ d ∈ tables_1, d.before a0 Z = true) : (Jvm.Cond.methodLink "com/example/rhadamanthus/rhadamanthus/util/Utf16LoneSurrogateIndexPinLaw" (20 : Nat) ({ cls := "java/lang/String", name := "<init>", desc := "([C)V" } : Jvm.MethodName)).before a0 Z = true := hw _ (List.mem_of_getElem? (i := 11) rfl)
theorem Wd12 {a0 : Array Value} {Z : State} (hw : ∀ d ∈ tables_1, d.before a0 Z = true) : (Jvm.Cond.instanceMethod ({ cls := "java/lang/String", name := "<init>", desc := "([C)V" } : Jvm.MethodName)).before a0 Z = true := hw _ (List.mem_of_getElem? (i := 12) rfl)
theorem Wd32 {a0 : Array Value} {Z : State} (hw : ∀ d ∈ tables_1, d.before a0 Z = true) : (Jvm.Cond.code ({ cls := "com/example/rhadamanthus/rhadamanthus/util/Utf16", name := "loneSurrogateIndex", desc := "(Ljava/lang/String;)I" } : Jvm.MethodName) prog_46_method_2_code (4 : Nat) (Option.some Jvm.ClassFile.FieldType.int)).before a0 Z = true := hw _ (List.mem_of_getElem? (i := 32) rfl)
theorem Wd31 {a0 : Array Value} {Z : State} (hw : ∀ d ∈ tables_1, d.before a0 Z = true) : (Jvm.Cond.initialized "com/example/rhadamanthus/rhadamanthus/util/Utf16").before a0 Z = true := hw _ (List.mem_of_getElem? (i := 31) rfl)
theorem pd_20 : parseMethodDescriptor "(Ljava/lang/String;)I" = some ⟨[(.object "java/lang/String")], some .int⟩ := by decide +kernel
theorem Wd29 {a0 : Array Value} {Z : State} (hw : ∀ d ∈ tables_1, d.before a0 Z = true) : (Jvm.Cond.methodLink "com/example/rhadamanthus/rhadamanthus/util/Utf16LoneSurrogateIndexPinLaw" (30 : Nat) ({ cls := "com/example/rhadamanthus/rhadamanthus/util/Utf16", name := "loneSurrogateIndex", desc := "(Ljava/lang/String;)I" } : Jvm.MethodName)).before a0 Z = true := hw _ (List.mem_of_getElem? (i := 29) rfl)
theorem Wd30 {a0 : Array Value} {Z : State} (hw : ∀ d ∈ tables_1, d.before a0 Z = true) : (Jvm.Cond.static ({ cls := "com/example/rhadamanthus/rhadamanthus/util/Utf16", name := "loneSurrogateIndex", desc := "(Ljava/lang/String;)I" } : Jvm.MethodName)).before a0 Z = true := hw _ (List.mem_of_getElem? (i := 30) rfl)
theorem Wd61 {a0 : Array Value} {Z : State} (hw : ∀ d ∈ tables_1, d.before a0 Z = true) : (Jvm.Cond.code ({ cls := "com/example/rhadamanthus/rhadamanthus/util/Utf16LoneSurrogateIndexPinLaw", name := "hi", desc := "(C)Z" } : Jvm.MethodName) method_3_code (1 : Nat) (Option.some Jvm.ClassFile.FieldType.boolean)).before a0 Z = true := hw _ (List.mem_of_getElem? (i := 61) rfl)
theorem Wd59 {a0 : Array Value} {Z : State} (hw : ∀ d ∈ tables_1, d.before a0 Z = true) : (Jvm.Cond.methodLink "com/example/rhadamanthus/rhadamanthus/util/Utf16LoneSurrogateIndexPinLaw" (23 : Nat) ({ cls := "com/example/rhadamanthus/rhadamanthus/util/Utf16LoneSurrogateIndexPinLaw", name := "hi", desc := "(C)Z" } : Jvm.MethodName)).before a0 Z = true := hw _ (List.mem_of_getElem? (i := 59) rfl)
theorem Wd60 {a0 : Array Value} {Z : State} (hw : ∀ d ∈ tables_1, d.before a0 Z = true) : (Jvm.Cond.static ({ cls := "com/example/rhadamanthus/rhadamanthus/util/Utf16LoneSurrogateIndexPinLaw", name := "hi", desc := "(C)Z" } : Jvm.MethodName)).before a0 Z = true := hw _ (List.mem_of_getElem? (i := 60) rfl)
theorem Wd64 {a0 : Array Value} {Z : State} (hw : ∀ d ∈ tables_1, d.before a0 Z = true) : (Jvm.Cond.code ({ cls := "com/example/rhadamanthus/rhadamanthus/util/Utf16LoneSurrogateIndexPinLaw", name := "lo", desc := "(C)Z" } : Jvm.MethodName) method_4_code (1 : Nat) (Option.some Jvm.ClassFile.FieldType.boolean)).before a0 Z = true := hw _ (List.mem_of_getElem? (i := 64) rfl)
theorem Wd62 {a0 : Array Value} {Z : State} (hw : ∀ d ∈ tables_1, d.before a0 Z = true) : (Jvm.Cond.methodLink "com/example/rhadamanthus/rhadamanthus/util/Utf16LoneSurrogateIndexPinLaw" (27 : Nat) ({ cls := "com/example/rhadamanthus/rhadamanthus/util/Utf16LoneSurrogateIndexPinLaw", name := "lo", desc := "(C)Z" } : Jvm.MethodName)).before a0 Z = true := hw _ (List.mem_of_getElem? (i := 62) rfl)
theorem Wd63 {a0 : Array Value} {Z : State} (hw : ∀ d ∈ tables_1, d.before a0 Z = true) : (Jvm.Cond.static ({ cls := "com/example/rhadamanthus/rhadamanthus/util/Utf16LoneSurrogateIndexPinLaw", name := "lo", desc := "(C)Z" } : Jvm.MethodName)).before a0 Z = true := hw _ (List.mem_of_getElem? (i := 63) rfl)
set_option maxRecDepth 65536 in
set_option maxHeartbeats 40000000 in
theorem rm0 (l : Launch) (Z : State) (a0 : Array Value) (hw : ∀ d ∈ tables_1, d.before a0 Z = true) (ws : List Jvm.Cond) (cz : Int32) (sv : Value) (hcz : ¬ cz = (0 : Int32)) (hsv : sv.isRef = true) (p0 p1 p2 p3 p4 : Int32) (h0 : Heap) (n0 : Nat) (Z0 : n0 ≤ h0.size)  (B_ST : own_ST n0 Z h0 cz sv) :
    own_MW l Z x code maxLocals ret ws room_1 #[(.int p0), (.int p1), (.int p2), (.int p3), (.int p4)] h0 (fun vm => CHv Z own_EL vm h0) (Q0 n0) := by
  refine own_bodyW (H := (fun vm => CHv Z own_EL vm h0)) pf_27 ?_
  intro p e s m below meth c s₁ vm0 hx hby hml hown hnm hlk hret hZ X0 e0 hs0 hH
  have N0 : Fr n0 [] := Fr.nil n0
  refine own_go (f' := (mkF m 0 #[.val (.int p0), .val (.int p1), .val (.int p2), .val (.int p3), .val (.int p4), .unset, .unset, .unset, .unset, .unset, .unset, .unset, .unset, .unset, .unset, .unset, .unset] [])) (fun t k => castTop (ef_rm0 m p0 p1 p2 p3 p4) k) ?_
  refine own_iload X0 hx (pc' := 2) (hb hby at_0) rfl rfl ?_
  refine own_bipush X0 hx (pc' := 4) (7 : Int32) (hb hby at_2) rfl rfl ?_
  refine own_iand X0 hx (pc' := 5) (hb hby at_4) rfl rfl ?_
  refine own_iconst X0 hx (pc' := 6) (5 : Int32) (hb hby at_5) rfl rfl ?_
  refine own_irem X0 hx (pc' := 7) (hb hby at_6) (by decide) rfl ?_
  refine own_istore X0 hx (pc' := 9) (Ls' := #[.val (.int p0), .val (.int p1), .val (.int p2), .val (.int p3), .val (.int p4), .val (.int ((p4 &&& (7 : Int32)) % (5 : Int32))), .unset, .unset, .unset, .unset, .unset, .unset, .unset, .unset, .unset, .unset, .unset]) (hb hby at_7) rfl rfl ?_
  refine own_iloadN X0 hx (pc' := 10) (hb hby at_9) rfl rfl ?_
  refine own_callS X0 hx (pc' := 13) hZ hown (Wd0 hw) (Wd1 hw) (Wd2 hw) (Wd3 hw) (by decide) (rm_draw l Z a0 hw []  p0 h0 n0 Z0  ) e0 0 (by decide) (by decide) (by decide) (by decide) [(.int p0)] [] (by rw [hml]; rfl) (lenOf pd_18 rfl) rfl rfl (Nat.le_of_eq rfl) (hb hby at_10) rfl (fun v1 T1 L1 X1 hQ1 => ?_)
  obtain ⟨⟨c0, rfl, rc0⟩, Nq1, e1⟩ := hQ1
  have N2 := Fr.app N0 Nq1
  show own_G p.tables e below _ T1 (mkF m 13 #[.val (.int p0), .val (.int p1), .val (.int p2), .val (.int p3), .val (.int p4), .val (.int ((p4 &&& (7 : Int32)) % (5 : Int32))), .unset, .unset, .unset, .unset, .unset, .unset, .unset, .unset, .unset, .unset, .unset] [(.int c0)])
  refine own_istore X1 hx (pc' := 15) (Ls' := #[.val (.int p0), .val (.int p1), .val (.int p2), .val (.int p3), .val (.int p4), .val (.int ((p4 &&& (7 : Int32)) % (5 : Int32))), .val (.int c0), .unset, .unset, .unset, .unset, .unset, .unset, .unset, .unset, .unset, .unset]) (hb hby at_13) rfl rfl ?_
  refine own_iloadN X1 hx (pc' := 16) (hb hby at_15) rfl rfl ?_
  refine own_callS X1 hx (pc' := 19) hZ hown (Wd0 hw) (Wd1 hw) (Wd2 hw) (Wd3 hw) (by decide) (rm_draw l Z a0 hw []  p1 h0 n0 Z0  ) e1 0 (by decide) (by decide) (by decide) (by decide) [(.int p1)] [] (by rw [hml]; rfl) (lenOf pd_18 rfl) rfl rfl (Nat.le_of_eq rfl) (hb hby at_16) rfl (fun v3 T3 L3 X3 hQ3 => ?_)
  obtain ⟨⟨c1, rfl, rc1⟩, Nq3, e3⟩ := hQ3
  have N4 := Fr.app N2 Nq3
  show own_G p.tables e below _ T3 (mkF m 19 #[.val (.int p0), .val (.int p1), .val (.int p2), .val (.int p3), .val (.int p4), .val (.int ((p4 &&& (7 : Int32)) % (5 : Int32))), .val (.int c0), .unset, .unset, .unset, .unset, .unset, .unset, .unset, .unset, .unset, .unset] [(.int c1)])
  refine own_istore X3 hx (pc' := 21) (Ls' := #[.val (.int p0), .val (.int p1), .val (.int p2), .val (.int p3), .val (.int p4), .val (.int ((p4 &&& (7 : Int32)) % (5 : Int32))), .val (.int c0), .val (.int c1), .unset, .unset, .unset, .unset, .unset, .unset, .unset, .unset, .unset]) (hb hby at_19) rfl rfl ?_
  refine own_iloadN X3 hx (pc' := 22) (hb hby at_21) rfl rfl ?_
  refine own_callS X3 hx (pc' := 25) hZ hown (Wd0 hw) (Wd1 hw) (Wd2 hw) (Wd3 hw) (by decide) (rm_draw l Z a0 hw []  p2 h0 n0 Z0  ) e3 0 (by decide) (by decide) (by decide) (by decide) [(.int p2)] [] (by rw [hml]; rfl) (lenOf pd_18 rfl) rfl rfl (Nat.le_of_eq rfl) (hb hby at_22) rfl (fun v5 T5 L5 X5 hQ5 => ?_)
  obtain ⟨⟨c2, rfl, rc2⟩, Nq5, e5⟩ := hQ5
  have N6 := Fr.app N4 Nq5
  show own_G p.tables e below _ T5 (mkF m 25 #[.val (.int p0), .val (.int p1), .val (.int p2), .val (.int p3), .val (.int p4), .val (.int ((p4 &&& (7 : Int32)) % (5 : Int32))), .val (.int c0), .val (.int c1), .unset, .unset, .unset, .unset, .unset, .unset, .unset, .unset, .unset] [(.int c2)])
  refine own_istore X5 hx (pc' := 27) (Ls' := #[.val (.int p0), .val (.int p1), .val (.int p2), .val (.int p3), .val (.int p4), .val (.int ((p4 &&& (7 : Int32)) % (5 : Int32))), .val (.int c0), .val (.int c1), .val (.int c2), .unset, .unset, .unset, .unset, .unset, .unset, .unset, .unset]) (hb hby at_25) rfl rfl ?_
  refine own_iloadN X5 hx (pc' := 28) (hb hby at_27) rfl rfl ?_
  refine own_callS X5 hx (pc' := 31) hZ hown (Wd0 hw) (Wd1 hw) (Wd2 hw) (Wd3 hw) (by decide) (rm_draw l Z a0 hw []  p3 h0 n0 Z0  ) e5 0 (by decide) (by decide) (by decide) (by decide) [(.int p3)] [] (by rw [hml]; rfl) (lenOf pd_18 rfl) rfl rfl (Nat.le_of_eq rfl) (hb hby at_28) rfl (fun v7 T7 L7 X7 hQ7 => ?_)
  obtain ⟨⟨c3, rfl, rc3⟩, Nq7, e7⟩ := hQ7
  have N8 := Fr.app N6 Nq7
  show own_G p.tables e below _ T7 (mkF m 31 #[.val (.int p0), .val (.int p1), .val (.int p2), .val (.int p3), .val (.int p4), .val (.int ((p4 &&& (7 : Int32)) % (5 : Int32))), .val (.int c0), .val (.int c1), .val (.int c2), .unset, .unset, .unset, .unset, .unset, .unset, .unset, .unset] [(.int c3)])
  refine own_istore X7 hx (pc' := 33) (Ls' := #[.val (.int p0), .val (.int p1), .val (.int p2), .val (.int p3), .val (.int p4), .val (.int ((p4 &&& (7 : Int32)) % (5 : Int32))), .val (.int c0), .val (.int c1), .val (.int c2), .val (.int c3), .unset, .unset, .unset, .unset, .unset, .unset, .unset]) (hb hby at_31) rfl rfl ?_
  rcases own_n5 p4 with hk | hk | hk | hk | hk
  · rw [hk]
    refine own_iload X7 hx (pc' := 35) (hb hby at_33) rfl rfl ?_
    refine own_ifNo X7 hx (pc' := 38) (hb hby at_35) (teq rfl).2 rfl ?_
    refine own_iconst X7 hx (pc' := 39) (0 : Int32) (hb hby at_38) rfl rfl ?_
    refine own_newP X7 hx (pc' := 41) hZ (aty := .char) (Wd7 hw) e7 (hb hby at_39) (by decide) 0 (by decide) (by decide) (by decide) (by decide) rfl (fun T9 h9 kc9 nb9 g9 X9 e9 E9 A9 => ?_)
    have ge_nb9 : n0 ≤ nb9 := Nat.le_trans Z0 (Nat.le_of_eq g9.symm)
    have Z10 : n0 ≤ h9.size := Nat.le_trans Z0 E9.1
    have F11 := (B_ST.ext E9)
    have V12a : Arv Z h9 nb9 kc9 .char (0 : Int32) [] (.int (0 : Int32)) := Arv.new A9 (by decide)
    have V12b : Arv Z h9 nb9 kc9 .char (0 : Int32) (List.replicate 0 (.int (0 : Int32))) (.int (0 : Int32)) := V12a.pad (pad_rep [] _ 0)
    have V12 : Arv Z h9 nb9 kc9 .char (0 : Int32) [] (.int (0 : Int32)) := V12b
    have CH1 := CHv.ext E9 hH
    refine own_astore X9 hx (pc' := 43) (Ls' := #[.val (.int p0), .val (.int p1), .val (.int p2), .val (.int p3), .val (.int p4), .val (.int (0 : Int32)), .val (.int c0), .val (.int c1), .val (.int c2), .val (.int c3), .val (.ref nb9), .unset, .unset, .unset, .unset, .unset, .unset]) (hb hby at_41) rfl rfl rfl ?_
    refine own_goto X9 hx (pc' := 143) (hb hby at_43) (by decide) (by decide) ?_
    refine own_new X9 hx (pc' := 146) hZ hown (Wd8 hw) (Wd9 hw) (Wd10 hw) e9 (hb hby at_143) (by decide) (by decide) rfl (fun T13 h13 nb13 g13 X13 e13 E13 A13 D13 => ?_)
    have ne_nb9_nb13_14 : nb9 ≠ nb13 := Nat.ne_of_lt (Nat.lt_of_lt_of_le V12.lt (Nat.le_of_eq g13.symm))
    have ge_nb13 : n0 ≤ nb13 := Nat.le_trans Z10 (Nat.le_of_eq g13.symm)
    have Z15 : n0 ≤ h13.size := Nat.le_trans Z10 E13.1
    have F16 := (F11.ext E13)
    have F17 := (V12.ext E13)
    have F18 : Fld Z h13 nb13 "java/lang/String" "value" "[B" .null := D13 (Or.inr (Wd23 hw)) (ty := (.array .byte)) (by decide)
    have F19 : Fld Z h13 nb13 "java/lang/String" "coder" "B" (.int (0 : Int32)) := D13 (Or.inr (Wd24 hw)) (ty := .byte) (by decide)
    have Sfn := Safe.ext E13 CH1 (Safe.new (Nat.le_of_eq g13.symm))
    have CH2 := CHv.ext E13 CH1
    refine own_dup X13 hx (pc' := 147) (hb hby at_146) rfl rfl ?_
    refine own_aload X13 hx (pc' := 149) (hb hby at_147) rfl rfl rfl ?_
    refine own_callIW (H := fun vm => (CHv Z own_EL vm h13 ∧ Safe Z own_EL vm h13 nb13)) X13 hx (pc' := 152) hZ rfl hown (Wd11 hw) (Wd12 hw) (Wd13 hw) (Wd10 hw) (by decide) (rm_i1_0 l Z a0 hw []  nb13 nb9 kc9 h13 n0 Z15 ge_nb13 A13 F19 F18 F17 ) (fun Y => ⟨(CHv.at Y hZ (own_EW hw) CH2).1, (CHv.at Y hZ (own_EW hw) CH2).safe A13.lt Sfn⟩) hs0 e13 (Nat.zero_le _) (b := nb13) 1 (by decide) (by decide) (by decide) (by decide) [(.ref nb9)] [(.ref nb13)] (by rw [hml]; rfl) (lenOf pd_19 rfl) rfl rfl (Nat.le_of_eq rfl) (hb hby at_149) rfl (fun v20 T20 L20 X20 hZ hown hs20 hQ20 => ?_)
    obtain ⟨rfl, Nq20, K20, ba, kb, F_v, F_c, V_b⟩ := hQ20
    have N21 := Fr.app N8 Nq20
    have Z22 : n0 ≤ T20.heap.size := Nat.le_trans Z15 K20.1
    have F23 := (F16.keep K20 (own_allge ge_nb13 (fun x hx => absurd hx List.not_mem_nil)))
    have F24 := (Exa.keep A13 K20)
    show own_G p.tables e below _ T20 (mkF m 152 #[.val (.int p0), .val (.int p1), .val (.int p2), .val (.int p3), .val (.int p4), .val (.int (0 : Int32)), .val (.int c0), .val (.int c1), .val (.int c2), .val (.int c3), .val (.ref nb9), .unset, .unset, .unset, .unset, .unset, .unset] [(.ref nb13)])
    refine own_astore X20 hx (pc' := 154) (Ls' := #[.val (.int p0), .val (.int p1), .val (.int p2), .val (.int p3), .val (.int p4), .val (.int (0 : Int32)), .val (.int c0), .val (.int c1), .val (.int c2), .val (.int c3), .val (.ref nb9), .val (.ref nb13), .unset, .unset, .unset, .unset, .unset]) (hb hby at_152) rfl rfl rfl ?_
    refine own_iload X20 hx (pc' := 156) (hb hby at_154) rfl rfl ?_
    refine own_ifYes X20 hx (pc' := 193) (hb hby at_156) (flt (by decide : ¬ ((0 : Int32) < (0 : Int32)))).2.2.2 (by decide) (by decide) ?_
    refine own_iconst X20 hx (pc' := 194) (0 : Int32) (hb hby at_193) rfl rfl ?_
    refine own_istore X20 hx (pc' := 196) (Ls' := #[.val (.int p0), .val (.int p1), .val (.int p2), .val (.int p3), .val (.int p4), .val (.int (0 : Int32)), .val (.int c0), .val (.int c1), .val (.int c2), .val (.int c3), .val (.ref nb9), .val (.ref nb13), .val (.int (0 : Int32)), .unset, .unset, .unset, .unset]) (hb hby at_194) rfl rfl ?_
    refine own_iload X20 hx (pc' := 198) (hb hby at_196) rfl rfl ?_
    refine own_iconst X20 hx (pc' := 199) (1 : Int32) (hb hby at_198) rfl rfl ?_
    refine own_icmpYes X20 hx (pc' := 244) (hb hby at_199) (flt (by decide : ¬ ((1 : Int32) < (0 : Int32)))).2.2.2 (by decide) (by decide) ?_
    refine own_iconst X20 hx (pc' := 245) (0 : Int32) (hb hby at_244) rfl rfl ?_
    refine own_istore X20 hx (pc' := 247) (Ls' := #[.val (.int p0), .val (.int p1), .val (.int p2), .val (.int p3), .val (.int p4), .val (.int (0 : Int32)), .val (.int c0), .val (.int c1), .val (.int c2), .val (.int c3), .val (.ref nb9), .val (.ref nb13), .val (.int (0 : Int32)), .val (.int (0 : Int32)), .unset, .unset, .unset]) (hb hby at_245) rfl rfl ?_
    refine own_iload X20 hx (pc' := 249) (hb hby at_247) rfl rfl ?_
    refine own_iconst X20 hx (pc' := 250) (2 : Int32) (hb hby at_249) rfl rfl ?_
    refine own_icmpYes X20 hx (pc' := 295) (hb hby at_250) (flt (by decide : ¬ ((2 : Int32) < (0 : Int32)))).2.2.2 (by decide) (by decide) ?_
    refine own_iconst X20 hx (pc' := 296) (0 : Int32) (hb hby at_295) rfl rfl ?_
    refine own_istore X20 hx (pc' := 298) (Ls' := #[.val (.int p0), .val (.int p1), .val (.int p2), .val (.int p3), .val (.int p4), .val (.int (0 : Int32)), .val (.int c0), .val (.int c1), .val (.int c2), .val (.int c3), .val (.ref nb9), .val (.ref nb13), .val (.int (0 : Int32)), .val (.int (0 : Int32)), .val (.int (0 : Int32)), .unset, .unset]) (hb hby at_296) rfl rfl ?_
    refine own_iload X20 hx (pc' := 300) (hb hby at_298) rfl rfl ?_
    refine own_iconst X20 hx (pc' := 301) (3 : Int32) (hb hby at_300) rfl rfl ?_
    refine own_icmpYes X20 hx (pc' := 332) (hb hby at_301) (flt (by decide : ¬ ((3 : Int32) < (0 : Int32)))).2.2.2 (by decide) (by decide) ?_
    refine own_iconst X20 hx (pc' := 333) (0 : Int32) (hb hby at_332) rfl rfl ?_
    refine own_istore X20 hx (pc' := 335) (Ls' := #[.val (.int p0), .val (.int p1), .val (.int p2), .val (.int p3), .val (.int p4), .val (.int (0 : Int32)), .val (.int c0), .val (.int c1), .val (.int c2), .val (.int c3), .val (.ref nb9), .val (.ref nb13), .val (.int (0 : Int32)), .val (.int (0 : Int32)), .val (.int (0 : Int32)), .val (.int (0 : Int32)), .unset]) (hb hby at_333) rfl rfl ?_
    refine own_iload X20 hx (pc' := 337) (hb hby at_335) rfl rfl ?_
    refine own_ifYes X20 hx (pc' := 346) (hb hby at_337) (teq rfl).1 (by decide) (by decide) ?_
    refine own_iload X20 hx (pc' := 348) (hb hby at_346) rfl rfl ?_
    refine own_ifYes X20 hx (pc' := 357) (hb hby at_348) (teq rfl).1 (by decide) (by decide) ?_
    refine own_iload X20 hx (pc' := 359) (hb hby at_357) rfl rfl ?_
    refine own_ifYes X20 hx (pc' := 368) (hb hby at_359) (teq rfl).1 (by decide) (by decide) ?_
    refine own_iload X20 hx (pc' := 370) (hb hby at_368) rfl rfl ?_
    refine own_ifYes X20 hx (pc' := 379) (hb hby at_370) (teq rfl).1 (by decide) (by decide) ?_
    refine own_iconst X20 hx (pc' := 380) (-1 : Int32) (hb hby at_379) rfl rfl ?_
    refine own_istore X20 hx (pc' := 382) (Ls' := #[.val (.int p0), .val (.int p1), .val (.int p2), .val (.int p3), .val (.int p4), .val (.int (0 : Int32)), .val (.int c0), .val (.int c1), .val (.int c2), .val (.int c3), .val (.ref nb9), .val (.ref nb13), .val (.int (0 : Int32)), .val (.int (0 : Int32)), .val (.int (0 : Int32)), .val (.int (0 : Int32)), .val (.int (-1 : Int32))]) (hb hby at_380) rfl rfl ?_
    refine own_aload X20 hx (pc' := 384) (hb hby at_382) rfl rfl rfl ?_
    refine own_callSW (H := fun vm => True) X20 hx (pc' := 387) hZ hown (Wd29 hw) (Wd30 hw) (Wd31 hw) (Wd32 hw) (by decide) (rm_ls_0 l Z a0 hw [] cz sv hcz hsv nb13 ba kb  T20.heap n0 Z22 F24 F_v (Or.inl ⟨F_c, trivial, V_b⟩)  F23) (fun _ => trivial) hs20 rfl (Nat.le_refl _) 0 (by decide) (by decide) (by decide) (by decide) [(.ref nb13)] [] (by rw [hml]; rfl) (lenOf pd_20 rfl) rfl rfl (Nat.le_of_eq rfl) (hb hby at_384) rfl (fun v25 T25 L25 X25 hZ hown hs25 hQ25 => ?_)
    obtain ⟨rfl, Nq25⟩ := hQ25
    have N26 := Fr.app N21 Nq25
    show own_G p.tables e below _ T25 (mkF m 387 #[.val (.int p0), .val (.int p1), .val (.int p2), .val (.int p3), .val (.int p4), .val (.int (0 : Int32)), .val (.int c0), .val (.int c1), .val (.int c2), .val (.int c3), .val (.ref nb9), .val (.ref nb13), .val (.int (0 : Int32)), .val (.int (0 : Int32)), .val (.int (0 : Int32)), .val (.int (0 : Int32)), .val (.int (-1 : Int32))] [(.int (own_lsL [] 0))])
    rw [own_ls0]
    refine own_iload X25 hx (pc' := 389) (hb hby at_387) rfl rfl ?_
    refine own_icmpNo X25 hx (pc' := 392) (hb hby at_389) (teq rfl).2 rfl ?_
    refine own_iconst X25 hx (pc' := 393) (1 : Int32) (hb hby at_392) rfl rfl ?_
    refine own_goto X25 hx (pc' := 397) (hb hby at_393) (by decide) (by decide) ?_
    refine own_retNW X25 hs25 rfl (Nat.le_refl _) hx hlk hret (by simp) (hb hby at_397) (by decide) (by decide) ?_
    exact ⟨rfl, N26⟩
  · rw [hk]
    refine own_iload X7 hx (pc' := 35) (hb hby at_33) rfl rfl ?_
    refine own_ifYes X7 hx (pc' := 46) (hb hby at_35) (feq (by decide : ¬ ((1 : Int32) = (0 : Int32)))).2 (by decide) (by decide) ?_
    refine own_iload X7 hx (pc' := 48) (hb hby at_46) rfl rfl ?_
    refine own_iconst X7 hx (pc' := 49) (1 : Int32) (hb hby at_48) rfl rfl ?_
    refine own_icmpNo X7 hx (pc' := 52) (hb hby at_49) (teq rfl).2 rfl ?_
    refine own_iconst X7 hx (pc' := 53) (1 : Int32) (hb hby at_52) rfl rfl ?_
    refine own_newP X7 hx (pc' := 55) hZ (aty := .char) (Wd7 hw) e7 (hb hby at_53) (by decide) 1 (by decide) (by decide) (by decide) (by decide) rfl (fun T27 h27 kc27 nb27 g27 X27 e27 E27 A27 => ?_)
    have ge_nb27 : n0 ≤ nb27 := Nat.le_trans Z0 (Nat.le_of_eq g27.symm)
    have Z28 : n0 ≤ h27.size := Nat.le_trans Z0 E27.1
    have F29 := (B_ST.ext E27)
    have V30a : Arv Z h27 nb27 kc27 .char (1 : Int32) [] (.int (0 : Int32)) := Arv.new A27 (by decide)
    have V30b : Arv Z h27 nb27 kc27 .char (1 : Int32) (List.replicate 1 (.int (0 : Int32))) (.int (0 : Int32)) := V30a.pad (pad_rep [] _ 1)
    have V30 : Arv Z h27 nb27 kc27 .char (1 : Int32) [(.int (0 : Int32))] (.int (0 : Int32)) := V30b
    refine own_dup X27 hx (pc' := 56) (hb hby at_55) rfl rfl ?_
    refine own_iconst X27 hx (pc' := 57) (0 : Int32) (hb hby at_56) rfl rfl ?_
    refine own_iload X27 hx (pc' := 59) (hb hby at_57) rfl rfl ?_
    obtain ⟨cl31, Ar31, q31, S31, M31, H31, G31⟩ := id V30
    refine own_stC X27 hx (pc' := 60) hZ e27 Ar31 (inb_of S31 ⟨by decide, by decide⟩) (hb hby at_59) rfl (fun T32 h32 X32 e32 W32 => ?_)
    have N33 := Fr.snoc X32 N8 ge_nb27
    have Z34 : n0 ≤ h32.size := Nat.le_trans Z28 (Nat.le_of_eq (Wr.size W32).symm)
    have F35 := (F29.wr W32 ge_nb27)
    have F36 : Arv Z h32 nb27 kc27 .char (1 : Int32) [(.int (nar .char c0))] (.int (0 : Int32)) := (Arv.set Ar31 q31 S31 M31 H31 G31 (fits_nar_char _) W32 0 rfl (Nat.le_of_ble_eq_true rfl))
    refine own_astore X32 hx (pc' := 62) (Ls' := #[.val (.int p0), .val (.int p1), .val (.int p2), .val (.int p3), .val (.int p4), .val (.int (1 : Int32)), .val (.int c0), .val (.int c1), .val (.int c2), .val (.int c3), .val (.ref nb27), .unset, .unset, .unset, .unset, .unset, .unset]) (hb hby at_60) rfl rfl rfl ?_
    refine own_goto X32 hx (pc' := 143) (hb hby at_62) (by decide) (by decide) ?_
    refine own_new X32 hx (pc' := 146) hZ hown (Wd8 hw) (Wd9 hw) (Wd10 hw) e32 (hb hby at_143) (by decide) (by decide) rfl (fun T37 h37 nb37 g37 X37 e37 E37 A37 D37 => ?_)
    have ne_nb27_nb37_38 : nb27 ≠ nb37 := Nat.ne_of_lt (Nat.lt_of_lt_of_le F36.lt (Nat.le_of_eq g37.symm))
    have ge_nb37 : n0 ≤ nb37 := Nat.le_trans Z34 (Nat.le_of_eq g37.symm)
    have Z39 : n0 ≤ h37.size := Nat.le_trans Z34 E37.1
    have F40 := (F35.ext E37)
    have F41 := (F36.ext E37)
    have F42 : Fld Z h37 nb37 "java/lang/String" "value" "[B" .null := D37 (Or.inr (Wd23 hw)) (ty := (.array .byte)) (by decide)
    have F43 : Fld Z h37 nb37 "java/lang/String" "coder" "B" (.int (0 : Int32)) := D37 (Or.inr (Wd24 hw)) (ty := .byte) (by decide)
    refine own_dup X37 hx (pc' := 147) (hb hby at_146) rfl rfl ?_
    refine own_aload X37 hx (pc' := 149) (hb hby at_147) rfl rfl rfl ?_
    have V_c : Arv Z h37 nb27 kc27 .char (1 : Int32) [(.int c0)] (.int (0 : Int32)) := by have q := F41; rw [own_narc rc0] at q; exact q
    refine own_callI X37 hx (pc' := 152) hZ rfl hown (Wd11 hw) (Wd12 hw) (Wd13 hw) (Wd10 hw) (by decide) (rm_i1_1 l Z a0 hw [] cz sv hcz hsv nb37 nb27 kc27 c0 h37 n0 Z39 ge_nb37 A37 F43 F42 rc0 V_c F40) e37 (b := nb37) 1 (by decide) (by decide) (by decide) (by decide) [(.ref nb27)] [(.ref nb37)] (by rw [hml]; rfl) (lenOf pd_19 rfl) rfl rfl (Nat.le_of_eq rfl) (hb hby at_149) rfl (fun v44 T44 L44 X44 hQ44 => ?_)
    obtain ⟨rfl, Nq44, K44, ba, kb, F_v, hF⟩ := hQ44
    have N45 := Fr.app N33 Nq44
    have Z46 : n0 ≤ T44.heap.size := Nat.le_trans Z39 K44.1
    have F47 := (F40.keep K44 (own_allge ge_nb37 (fun x hx => absurd hx List.not_mem_nil)))
    have F48 := (Exa.keep A37 K44)
    show own_G p.tables e below _ T44 (mkF m 152 #[.val (.int p0), .val (.int p1), .val (.int p2), .val (.int p3), .val (.int p4), .val (.int (1 : Int32)), .val (.int c0), .val (.int c1), .val (.int c2), .val (.int c3), .val (.ref nb27), .unset, .unset, .unset, .unset, .unset, .unset] [(.ref nb37)])
    refine own_astore X44 hx (pc' := 154) (Ls' := #[.val (.int p0), .val (.int p1), .val (.int p2), .val (.int p3), .val (.int p4), .val (.int (1 : Int32)), .val (.int c0), .val (.int c1), .val (.int c2), .val (.int c3), .val (.ref nb27), .val (.ref nb37), .unset, .unset, .unset, .unset, .unset]) (hb hby at_152) rfl rfl rfl ?_
    have J194 : ∀ (TJ : State) (locsJ : List Loc) (XJ : Stand p l e room_1 (s.setVm vm0) m #[(.int p0), (.int p1), (.int p2), (.int p3), (.int p4)] below meth c TJ locsJ 4 8) (eJ : TJ.heap = T44.heap) (NJ : Fr n0 locsJ), own_G p.tables e below (own_PW s (Q0 n0) 24 2176) TJ (mkF m 194 #[.val (.int p0), .val (.int p1), .val (.int p2), .val (.int p3), .val (.int p4), .val (.int (1 : Int32)), .val (.int c0), .val (.int c1), .val (.int c2), .val (.int c3), .val (.ref nb27), .val (.ref nb37), .unset, .unset, .unset, .unset, .unset] [(.int (own_w10 c0))]) := by
      intro TJ locsJ XJ eJ NJ
      refine own_istore XJ hx (pc' := 196) (Ls' := #[.val (.int p0), .val (.int p1), .val (.int p2), .val (.int p3), .val (.int p4), .val (.int (1 : Int32)), .val (.int c0), .val (.int c1), .val (.int c2), .val (.int c3), .val (.ref nb27), .val (.ref nb37), .val (.int (own_w10 c0)), .unset, .unset, .unset, .unset]) (hb hby at_194) rfl rfl ?_
      refine own_iload XJ hx (pc' := 198) (hb hby at_196) rfl rfl ?_
      refine own_iconst XJ hx (pc' := 199) (1 : Int32) (hb hby at_198) rfl rfl ?_
      refine own_icmpYes XJ hx (pc' := 244) (hb hby at_199) (flt (by decide : ¬ ((1 : Int32) < (1 : Int32)))).2.2.2 (by decide) (by decide) ?_
      refine own_iconst XJ hx (pc' := 245) (0 : Int32) (hb hby at_244) rfl rfl ?_
      refine own_istore XJ hx (pc' := 247) (Ls' := #[.val (.int p0), .val (.int p1), .val (.int p2), .val (.int p3), .val (.int p4), .val (.int (1 : Int32)), .val (.int c0), .val (.int c1), .val (.int c2), .val (.int c3), .val (.ref nb27), .val (.ref nb37), .val (.int (own_w10 c0)), .val (.int (0 : Int32)), .unset, .unset, .unset]) (hb hby at_245) rfl rfl ?_
      refine own_iload XJ hx (pc' := 249) (hb hby at_247) rfl rfl ?_
      refine own_iconst XJ hx (pc' := 250) (2 : Int32) (hb hby at_249) rfl rfl ?_
      refine own_icmpYes XJ hx (pc' := 295) (hb hby at_250) (flt (by decide : ¬ ((2 : Int32) < (1 : Int32)))).2.2.2 (by decide) (by decide) ?_
      refine own_iconst XJ hx (pc' := 296) (0 : Int32) (hb hby at_295) rfl rfl ?_
      refine own_istore XJ hx (pc' := 298) (Ls' := #[.val (.int p0), .val (.int p1), .val (.int p2), .val (.int p3), .val (.int p4), .val (.int (1 : Int32)), .val (.int c0), .val (.int c1), .val (.int c2), .val (.int c3), .val (.ref nb27), .val (.ref nb37), .val (.int (own_w10 c0)), .val (.int (0 : Int32)), .val (.int (0 : Int32)), .unset, .unset]) (hb hby at_296) rfl rfl ?_
      refine own_iload XJ hx (pc' := 300) (hb hby at_298) rfl rfl ?_
      refine own_iconst XJ hx (pc' := 301) (3 : Int32) (hb hby at_300) rfl rfl ?_
      refine own_icmpYes XJ hx (pc' := 332) (hb hby at_301) (flt (by decide : ¬ ((3 : Int32) < (1 : Int32)))).2.2.2 (by decide) (by decide) ?_
      refine own_iconst XJ hx (pc' := 333) (0 : Int32) (hb hby at_332) rfl rfl ?_
      refine own_istore XJ hx (pc' := 335) (Ls' := #[.val (.int p0), .val (.int p1), .val (.int p2), .val (.int p3), .val (.int p4), .val (.int (1 : Int32)), .val (.int c0), .val (.int c1), .val (.int c2), .val (.int c3), .val (.ref nb27), .val (.ref nb37), .val (.int (own_w10 c0)), .val (.int (0 : Int32)), .val (.int (0 : Int32)), .val (.int (0 : Int32)), .unset]) (hb hby at_333) rfl rfl ?_
      refine own_iload XJ hx (pc' := 337) (hb hby at_335) rfl rfl ?_
      by_cases hc337_49 : (own_w10 c0) = (0 : Int32)
      · skip
        refine own_ifYes XJ hx (pc' := 346) (hb hby at_337) (teq hc337_49).1 (by decide) (by decide) ?_
        refine own_iload XJ hx (pc' := 348) (hb hby at_346) rfl rfl ?_
        refine own_ifYes XJ hx (pc' := 357) (hb hby at_348) (teq rfl).1 (by decide) (by decide) ?_
        refine own_iload XJ hx (pc' := 359) (hb hby at_357) rfl rfl ?_
        refine own_ifYes XJ hx (pc' := 368) (hb hby at_359) (teq rfl).1 (by decide) (by decide) ?_
        refine own_iload XJ hx (pc' := 370) (hb hby at_368) rfl rfl ?_
        refine own_ifYes XJ hx (pc' := 379) (hb hby at_370) (teq rfl).1 (by decide) (by decide) ?_
        refine own_iconst XJ hx (pc' := 380) (-1 : Int32) (hb hby at_379) rfl rfl ?_
        refine own_istore XJ hx (pc' := 382) (Ls' := #[.val (.int p0), .val (.int p1), .val (.int p2), .val (.int p3), .val (.int p4), .val (.int (1 : Int32)), .val (.int c0), .val (.int c1), .val (.int c2), .val (.int c3), .val (.ref nb27), .val (.ref nb37), .val (.int (own_w10 c0)), .val (.int (0 : Int32)), .val (.int (0 : Int32)), .val (.int (0 : Int32)), .val (.int (-1 : Int32))]) (hb hby at_380) rfl rfl ?_
        refine own_aload XJ hx (pc' := 384) (hb hby at_382) rfl rfl rfl ?_
        refine own_callSW (H := fun vm => True) XJ hx (pc' := 387) hZ hown (Wd29 hw) (Wd30 hw) (Wd31 hw) (Wd32 hw) (by decide) (rm_ls_1 l Z a0 hw [] cz sv hcz hsv nb37 ba kb c0 T44.heap n0 Z46 F48 F_v hF rc0 F47) (fun _ => trivial) hs0 eJ (Nat.zero_le _) 0 (by decide) (by decide) (by decide) (by decide) [(.ref nb37)] [] (by rw [hml]; rfl) (lenOf pd_20 rfl) rfl rfl (Nat.le_of_eq rfl) (hb hby at_384) rfl (fun v50 T50 L50 X50 hZ hown hs50 hQ50 => ?_)
        obtain ⟨rfl, Nq50⟩ := hQ50
        have N51 := Fr.app NJ Nq50
        show own_G p.tables e below _ T50 (mkF m 387 #[.val (.int p0), .val (.int p1), .val (.int p2), .val (.int p3), .val (.int p4), .val (.int (1 : Int32)), .val (.int c0), .val (.int c1), .val (.int c2), .val (.int c3), .val (.ref nb27), .val (.ref nb37), .val (.int (own_w10 c0)), .val (.int (0 : Int32)), .val (.int (0 : Int32)), .val (.int (0 : Int32)), .val (.int (-1 : Int32))] [(.int (own_lsL [c0] 0))])
        rw [own_fin1, if_pos hc337_49]
        refine own_iload X50 hx (pc' := 389) (hb hby at_387) rfl rfl ?_
        refine own_icmpNo X50 hx (pc' := 392) (hb hby at_389) (teq rfl).2 rfl ?_
        refine own_iconst X50 hx (pc' := 393) (1 : Int32) (hb hby at_392) rfl rfl ?_
        refine own_goto X50 hx (pc' := 397) (hb hby at_393) (by decide) (by decide) ?_
        refine own_retNW X50 hs50 rfl (Nat.le_refl _) hx hlk hret (by simp) (hb hby at_397) (by decide) (by decide) ?_
        exact ⟨rfl, N51⟩
      · skip
        refine own_ifNo XJ hx (pc' := 340) (hb hby at_337) (feq hc337_49).1 rfl ?_
        refine own_iconst XJ hx (pc' := 341) (0 : Int32) (hb hby at_340) rfl rfl ?_
        refine own_istore XJ hx (pc' := 343) (Ls' := #[.val (.int p0), .val (.int p1), .val (.int p2), .val (.int p3), .val (.int p4), .val (.int (1 : Int32)), .val (.int c0), .val (.int c1), .val (.int c2), .val (.int c3), .val (.ref nb27), .val (.ref nb37), .val (.int (own_w10 c0)), .val (.int (0 : Int32)), .val (.int (0 : Int32)), .val (.int (0 : Int32)), .val (.int (0 : Int32))]) (hb hby at_341) rfl rfl ?_
        refine own_goto XJ hx (pc' := 382) (hb hby at_343) (by decide) (by decide) ?_
        refine own_aload XJ hx (pc' := 384) (hb hby at_382) rfl rfl rfl ?_
        refine own_callSW (H := fun vm => True) XJ hx (pc' := 387) hZ hown (Wd29 hw) (Wd30 hw) (Wd31 hw) (Wd32 hw) (by decide) (rm_ls_1 l Z a0 hw [] cz sv hcz hsv nb37 ba kb c0 T44.heap n0 Z46 F48 F_v hF rc0 F47) (fun _ => trivial) hs0 eJ (Nat.zero_le _) 0 (by decide) (by decide) (by decide) (by decide) [(.ref nb37)] [] (by rw [hml]; rfl) (lenOf pd_20 rfl) rfl rfl (Nat.le_of_eq rfl) (hb hby at_384) rfl (fun v52 T52 L52 X52 hZ hown hs52 hQ52 => ?_)
        obtain ⟨rfl, Nq52⟩ := hQ52
        have N53 := Fr.app NJ Nq52
        show own_G p.tables e below _ T52 (mkF m 387 #[.val (.int p0), .val (.int p1), .val (.int p2), .val (.int p3), .val (.int p4), .val (.int (1 : Int32)), .val (.int c0), .val (.int c1), .val (.int c2), .val (.int c3), .val (.ref nb27), .val (.ref nb37), .val (.int (own_w10 c0)), .val (.int (0 : Int32)), .val (.int (0 : Int32)), .val (.int (0 : Int32)), .val (.int (0 : Int32))] [(.int (own_lsL [c0] 0))])
        rw [own_fin1, if_neg hc337_49]
        refine own_iload X52 hx (pc' := 389) (hb hby at_387) rfl rfl ?_
        refine own_icmpNo X52 hx (pc' := 392) (hb hby at_389) (teq rfl).2 rfl ?_
        refine own_iconst X52 hx (pc' := 393) (1 : Int32) (hb hby at_392) rfl rfl ?_
        refine own_goto X52 hx (pc' := 397) (hb hby at_393) (by decide) (by decide) ?_
        refine own_retNW X52 hs52 rfl (Nat.le_refl _) hx hlk hret (by simp) (hb hby at_397) (by decide) (by decide) ?_
        exact ⟨rfl, N53⟩
    refine own_iload X44 hx (pc' := 156) (hb hby at_154) rfl rfl ?_
    refine own_ifNo X44 hx (pc' := 159) (hb hby at_156) (tlt (by decide : (0 : Int32) < (1 : Int32))).2.2.2 rfl ?_
    refine own_iload X44 hx (pc' := 161) (hb hby at_159) rfl rfl ?_
    refine own_cSI X44 hx (pc' := 164) hZ hown (Wd59 hw) (Wd60 hw) (Wd2 hw) (Wd61 hw) (rm_hi l Z a0 hw []  c0 T44.heap n0 Z46  ) rfl N45 hml pd_10 (hb hby at_161) 0 [(.int c0)] [] (fun T54 L54 X54 e54 N54 => ?_)
    by_cases hc164_55 : (own_hiI c0) = (0 : Int32)
    · skip
      refine own_ifYes X54 hx (pc' := 181) (hb hby at_164) (teq hc164_55).1 (by decide) (by decide) ?_
      refine own_iload X54 hx (pc' := 183) (hb hby at_181) rfl rfl ?_
      refine own_cSI X54 hx (pc' := 186) hZ hown (Wd62 hw) (Wd63 hw) (Wd2 hw) (Wd64 hw) (rm_lo l Z a0 hw []  c0 T44.heap n0 Z46  ) e54 N54 hml pd_10 (hb hby at_183) 0 [(.int c0)] [] (fun T56 L56 X56 e56 N56 => ?_)
      by_cases hc186_57 : (own_loI c0) = (0 : Int32)
      · skip
        refine own_ifYes X56 hx (pc' := 193) (hb hby at_186) (teq hc186_57).1 (by decide) (by decide) ?_
        refine own_iconst X56 hx (pc' := 194) (0 : Int32) (hb hby at_193) rfl rfl ?_
        have hz58 : (own_w10 c0) = (0 : Int32) := by simp [own_w10, own_k, hc164_55, hc186_57]
        have hj58 := J194 _ _ X56 e56 N56
        rw [hz58] at hj58
        exact hj58
      · skip
        refine own_ifNo X56 hx (pc' := 189) (hb hby at_186) (feq hc186_57).1 rfl ?_
        refine own_iconst X56 hx (pc' := 190) (1 : Int32) (hb hby at_189) rfl rfl ?_
        refine own_goto X56 hx (pc' := 194) (hb hby at_190) (by decide) (by decide) ?_
        have hz59 : (own_w10 c0) = (1 : Int32) := by simp [own_w10, own_k, hc164_55, hc186_57]
        have hj59 := J194 _ _ X56 e56 N56
        rw [hz59] at hj59
        exact hj59
    · skip
      refine own_ifNo X54 hx (pc' := 167) (hb hby at_164) (feq hc164_55).1 rfl ?_
      refine own_iload X54 hx (pc' := 169) (hb hby at_167) rfl rfl ?_
      refine own_iconst X54 hx (pc' := 170) (1 : Int32) (hb hby at_169) rfl rfl ?_
      refine own_icmpYes X54 hx (pc' := 189) (hb hby at_170) (flt (by decide : ¬ ((1 : Int32) < (1 : Int32)))).2.2.2 (by decide) (by decide) ?_
      refine own_iconst X54 hx (pc' := 190) (1 : Int32) (hb hby at_189) rfl rfl ?_
      refine own_goto X54 hx (pc' := 194) (hb hby at_190) (by decide) (by decide) ?_
      have hz60 : (own_w10 c0) = (1 : Int32) := by simp [own_w10, own_k, hc164_55]
      have hj60 := J194 _ _ X54 e54 N54
      rw [hz60] at hj60
      exact hj60
  · rw [hk]
    refine own_iload X7 hx (pc' := 35) (hb hby at_33) rfl rfl ?_
    refine own_ifYes X7 hx (pc' := 46) (hb hby at_35) (feq (by decide : ¬ ((2 : Int32) = (0 : Int32)))).2 (by decide) (by decide) ?_
    refine own_iload X7 hx (pc' := 48) (hb hby at_46) rfl rfl ?_
    refine own_iconst X7 hx (pc' := 49) (1 : Int32) (hb hby at_48) rfl rfl ?_
    refine own_icmpYes X7 hx (pc' := 65) (hb hby at_49) (feq (by decide : ¬ ((2 : Int32) = (1 : Int32)))).2 (by decide) (by decide) ?_
    refine own_iload X7 hx (pc' := 67) (hb hby at_65) rfl rfl ?_
    refine own_iconst X7 hx (pc' := 68) (2 : Int32) (hb hby at_67) rfl rfl ?_
    refine own_icmpNo X7 hx (pc' := 71) (hb hby at_68) (teq rfl).2 rfl ?_
    refine own_iconst X7 hx (pc' := 72) (2 : Int32) (hb hby at_71) rfl rfl ?_
    refine own_newP X7 hx (pc' := 74) hZ (aty := .char) (Wd7 hw) e7 (hb hby at_72) (by decide) 2 (by decide) (by decide) (by decide) (by decide) rfl (fun T61 h61 kc61 nb61 g61 X61 e61 E61 A61 => ?_)
    have ge_nb61 : n0 ≤ nb61 := Nat.le_trans Z0 (Nat.le_of_eq g61.symm)
    have Z62 : n0 ≤ h61.size := Nat.le_trans Z0 E61.1
    have F63 := (B_ST.ext E61)
    have V64a : Arv Z h61 nb61 kc61 .char (2 : Int32) [] (.int (0 : Int32)) := Arv.new A61 (by decide)
    have V64b : Arv Z h61 nb61 kc61 .char (2 : Int32) (List.replicate 2 (.int (0 : Int32))) (.int (0 : Int32)) := V64a.pad (pad_rep [] _ 2)
    have V64 : Arv Z h61 nb61 kc61 .char (2 : Int32) [(.int (0 : Int32)), (.int (0 : Int32))] (.int (0 : Int32)) := V64b
    refine own_dup X61 hx (pc' := 75) (hb hby at_74) rfl rfl ?_
    refine own_iconst X61 hx (pc' := 76) (0 : Int32) (hb hby at_75) rfl rfl ?_
    refine own_iload X61 hx (pc' := 78) (hb hby at_76) rfl rfl ?_
    obtain ⟨cl65, Ar65, q65, S65, M65, H65, G65⟩ := id V64
    refine own_stC X61 hx (pc' := 79) hZ e61 Ar65 (inb_of S65 ⟨by decide, by decide⟩) (hb hby at_78) rfl (fun T66 h66 X66 e66 W66 => ?_)
    have N67 := Fr.snoc X66 N8 ge_nb61
    have Z68 : n0 ≤ h66.size := Nat.le_trans Z62 (Nat.le_of_eq (Wr.size W66).symm)
    have F69 := (F63.wr W66 ge_nb61)
    have F70 : Arv Z h66 nb61 kc61 .char (2 : Int32) [(.int (nar .char c0)), (.int (0 : Int32))] (.int (0 : Int32)) := (Arv.set Ar65 q65 S65 M65 H65 G65 (fits_nar_char _) W66 0 rfl (Nat.le_of_ble_eq_true rfl))
    refine own_dup X66 hx (pc' := 80) (hb hby at_79) rfl rfl ?_
    refine own_iconst X66 hx (pc' := 81) (1 : Int32) (hb hby at_80) rfl rfl ?_
    refine own_iload X66 hx (pc' := 83) (hb hby at_81) rfl rfl ?_
    obtain ⟨cl71, Ar71, q71, S71, M71, H71, G71⟩ := id F70
    refine own_stC X66 hx (pc' := 84) hZ e66 Ar71 (inb_of S71 ⟨by decide, by decide⟩) (hb hby at_83) rfl (fun T72 h72 X72 e72 W72 => ?_)
    have N73 := Fr.snoc X72 N67 ge_nb61
    have Z74 : n0 ≤ h72.size := Nat.le_trans Z68 (Nat.le_of_eq (Wr.size W72).symm)
    have F75 := (F69.wr W72 ge_nb61)
    have F76 : Arv Z h72 nb61 kc61 .char (2 : Int32) [(.int (nar .char c0)), (.int (nar .char c1))] (.int (0 : Int32)) := (Arv.set Ar71 q71 S71 M71 H71 G71 (fits_nar_char _) W72 1 rfl (Nat.le_of_ble_eq_true rfl))
    refine own_astore X72 hx (pc' := 86) (Ls' := #[.val (.int p0), .val (.int p1), .val (.int p2), .val (.int p3), .val (.int p4), .val (.int (2 : Int32)), .val (.int c0), .val (.int c1), .val (.int c2), .val (.int c3), .val (.ref nb61), .unset, .unset, .unset, .unset, .unset, .unset]) (hb hby at_84) rfl rfl rfl ?_
    refine own_goto X72 hx (pc' := 143) (hb hby at_86) (by decide) (by decide) ?_
    refine own_new X72 hx (pc' := 146) hZ hown (Wd8 hw) (Wd9 hw) (Wd10 hw) e72 (hb hby at_143) (by decide) (by decide) rfl (fun T77 h77 nb77 g77 X77 e77 E77 A77 D77 => ?_)
    have ne_nb61_nb77_78 : nb61 ≠ nb77 := Nat.ne_of_lt (Nat.lt_of_lt_of_le F76.lt (Nat.le_of_eq g77.symm))
    have ge_nb77 : n0 ≤ nb77 := Nat.le_trans Z74 (Nat.le_of_eq g77.symm)
    have Z79 : n0 ≤ h77.size := Nat.le_trans Z74 E77.1
    have F80 := (F75.ext E77)
    have F81 := (F76.ext E77)
    have F82 : Fld Z h77 nb77 "java/lang/String" "value" "[B" .null := D77 (Or.inr (Wd23 hw)) (ty := (.array .byte)) (by decide)
    have F83 : Fld Z h77 nb77 "java/lang/String" "coder" "B" (.int (0 : Int32)) := D77 (Or.inr (Wd24 hw)) (ty := .byte) (by decide)
    refine own_dup X77 hx (pc' := 147) (hb hby at_146) rfl rfl ?_
    refine own_aload X77 hx (pc' := 149) (hb hby at_147) rfl rfl rfl ?_
    have V_c : Arv Z h77 nb61 kc61 .char (2 : Int32) [(.int c0), (.int c1)] (.int (0 : Int32)) := by have q := F81; rw [own_narc rc0, own_narc rc1] at q; exact q
    refine own_callI X77 hx (pc' := 152) hZ rfl hown (Wd11 hw) (Wd12 hw) (Wd13 hw) (Wd10 hw) (by decide) (rm_i1_2 l Z a0 hw [] cz sv hcz hsv nb77 nb61 kc61 c0 c1 h77 n0 Z79 ge_nb77 A77 F83 F82 rc0 rc1 V_c F80) e77 (b := nb77) 1 (by decide) (by decide) (by decide) (by decide) [(.ref nb61)] [(.ref nb77)] (by rw [hml]; rfl) (lenOf pd_19 rfl) rfl rfl (Nat.le_of_eq rfl) (hb hby at_149) rfl (fun v84 T84 L84 X84 hQ84 => ?_)
    obtain ⟨rfl, Nq84, K84, ba, kb, F_v, hF⟩ := hQ84
    have N85 := Fr.app N73 Nq84
    have Z86 : n0 ≤ T84.heap.size := Nat.le_trans Z79 K84.1
    have F87 := (F80.keep K84 (own_allge ge_nb77 (fun x hx => absurd hx List.not_mem_nil)))
    have F88 := (Exa.keep A77 K84)
    show own_G p.tables e below _ T84 (mkF m 152 #[.val (.int p0), .val (.int p1), .val (.int p2), .val (.int p3), .val (.int p4), .val (.int (2 : Int32)), .val (.int c0), .val (.int c1), .val (.int c2), .val (.int c3), .val (.ref nb61), .unset, .unset, .unset, .unset, .unset, .unset] [(.ref nb77)])
    refine own_astore X84 hx (pc' := 154) (Ls' := #[.val (.int p0), .val (.int p1), .val (.int p2), .val (.int p3), .val (.int p4), .val (.int (2 : Int32)), .val (.int c0), .val (.int c1), .val (.int c2), .val (.int c3), .val (.ref nb61), .val (.ref nb77), .unset, .unset, .unset, .unset, .unset]) (hb hby at_152) rfl rfl rfl ?_
    have J245 : ∀ (TJ : State) (locsJ : List Loc) (XJ : Stand p l e room_1 (s.setVm vm0) m #[(.int p0), (.int p1), (.int p2), (.int p3), (.int p4)] below meth c TJ locsJ 4 12) (eJ : TJ.heap = T84.heap) (NJ : Fr n0 locsJ), own_G p.tables e below (own_PW s (Q0 n0) 24 2176) TJ (mkF m 245 #[.val (.int p0), .val (.int p1), .val (.int p2), .val (.int p3), .val (.int p4), .val (.int (2 : Int32)), .val (.int c0), .val (.int c1), .val (.int c2), .val (.int c3), .val (.ref nb61), .val (.ref nb77), .val (.int (own_w20 c0 c1)), .unset, .unset, .unset, .unset] [(.int (own_w21 c0 c1))]) := by
      intro TJ locsJ XJ eJ NJ
      refine own_istore XJ hx (pc' := 247) (Ls' := #[.val (.int p0), .val (.int p1), .val (.int p2), .val (.int p3), .val (.int p4), .val (.int (2 : Int32)), .val (.int c0), .val (.int c1), .val (.int c2), .val (.int c3), .val (.ref nb61), .val (.ref nb77), .val (.int (own_w20 c0 c1)), .val (.int (own_w21 c0 c1)), .unset, .unset, .unset]) (hb hby at_245) rfl rfl ?_
      refine own_iload XJ hx (pc' := 249) (hb hby at_247) rfl rfl ?_
      refine own_iconst XJ hx (pc' := 250) (2 : Int32) (hb hby at_249) rfl rfl ?_
      refine own_icmpYes XJ hx (pc' := 295) (hb hby at_250) (flt (by decide : ¬ ((2 : Int32) < (2 : Int32)))).2.2.2 (by decide) (by decide) ?_
      refine own_iconst XJ hx (pc' := 296) (0 : Int32) (hb hby at_295) rfl rfl ?_
      refine own_istore XJ hx (pc' := 298) (Ls' := #[.val (.int p0), .val (.int p1), .val (.int p2), .val (.int p3), .val (.int p4), .val (.int (2 : Int32)), .val (.int c0), .val (.int c1), .val (.int c2), .val (.int c3), .val (.ref nb61), .val (.ref nb77), .val (.int (own_w20 c0 c1)), .val (.int (own_w21 c0 c1)), .val (.int (0 : Int32)), .unset, .unset]) (hb hby at_296) rfl rfl ?_
      refine own_iload XJ hx (pc' := 300) (hb hby at_298) rfl rfl ?_
      refine own_iconst XJ hx (pc' := 301) (3 : Int32) (hb hby at_300) rfl rfl ?_
      refine own_icmpYes XJ hx (pc' := 332) (hb hby at_301) (flt (by decide : ¬ ((3 : Int32) < (2 : Int32)))).2.2.2 (by decide) (by decide) ?_
      refine own_iconst XJ hx (pc' := 333) (0 : Int32) (hb hby at_332) rfl rfl ?_
      refine own_istore XJ hx (pc' := 335) (Ls' := #[.val (.int p0), .val (.int p1), .val (.int p2), .val (.int p3), .val (.int p4), .val (.int (2 : Int32)), .val (.int c0), .val (.int c1), .val (.int c2), .val (.int c3), .val (.ref nb61), .val (.ref nb77), .val (.int (own_w20 c0 c1)), .val (.int (own_w21 c0 c1)), .val (.int (0 : Int32)), .val (.int (0 : Int32)), .unset]) (hb hby at_333) rfl rfl ?_
      refine own_iload XJ hx (pc' := 337) (hb hby at_335) rfl rfl ?_
      by_cases hc337_89 : (own_w20 c0 c1) = (0 : Int32)
      · skip
        refine own_ifYes XJ hx (pc' := 346) (hb hby at_337) (teq hc337_89).1 (by decide) (by decide) ?_
        refine own_iload XJ hx (pc' := 348) (hb hby at_346) rfl rfl ?_
        by_cases hc348_90 : (own_w21 c0 c1) = (0 : Int32)
        · skip
          refine own_ifYes XJ hx (pc' := 357) (hb hby at_348) (teq hc348_90).1 (by decide) (by decide) ?_
          refine own_iload XJ hx (pc' := 359) (hb hby at_357) rfl rfl ?_
          refine own_ifYes XJ hx (pc' := 368) (hb hby at_359) (teq rfl).1 (by decide) (by decide) ?_
          refine own_iload XJ hx (pc' := 370) (hb hby at_368) rfl rfl ?_
          refine own_ifYes XJ hx (pc' := 379) (hb hby at_370) (teq rfl).1 (by decide) (by decide) ?_
          refine own_iconst XJ hx (pc' := 380) (-1 : Int32) (hb hby at_379) rfl rfl ?_
          refine own_istore XJ hx (pc' := 382) (Ls' := #[.val (.int p0), .val (.int p1), .val (.int p2), .val (.int p3), .val (.int p4), .val (.int (2 : Int32)), .val (.int c0), .val (.int c1), .val (.int c2), .val (.int c3), .val (.ref nb61), .val (.ref nb77), .val (.int (own_w20 c0 c1)), .val (.int (own_w21 c0 c1)), .val (.int (0 : Int32)), .val (.int (0 : Int32)), .val (.int (-1 : Int32))]) (hb hby at_380) rfl rfl ?_
          refine own_aload XJ hx (pc' := 384) (hb hby at_382) rfl rfl rfl ?_
          refine own_callSW (H := fun vm => True) XJ hx (pc' := 387) hZ hown (Wd29 hw) (Wd30 hw) (Wd31 hw) (Wd32 hw) (by decide) (rm_ls_2 l Z a0 hw [] cz sv hcz hsv nb77 ba kb c0 c1 T84.heap n0 Z86 F88 F_v hF rc0 rc1 F87) (fun _ => trivial) hs0 eJ (Nat.zero_le _) 0 (by decide) (by decide) (by decide) (by decide) [(.ref nb77)] [] (by rw [hml]; rfl) (lenOf pd_20 rfl) rfl rfl (Nat.le_of_eq rfl) (hb hby at_384) rfl (fun v91 T91 L91 X91 hZ hown hs91 hQ91 => ?_)
          obtain ⟨rfl, Nq91⟩ := hQ91
          have N92 := Fr.app NJ Nq91
          show own_G p.tables e below _ T91 (mkF m 387 #[.val (.int p0), .val (.int p1), .val (.int p2), .val (.int p3), .val (.int p4), .val (.int (2 : Int32)), .val (.int c0), .val (.int c1), .val (.int c2), .val (.int c3), .val (.ref nb61), .val (.ref nb77), .val (.int (own_w20 c0 c1)), .val (.int (own_w21 c0 c1)), .val (.int (0 : Int32)), .val (.int (0 : Int32)), .val (.int (-1 : Int32))] [(.int (own_lsL [c0, c1] 0))])
          rw [own_fin2, if_pos hc337_89, if_pos hc348_90]
          refine own_iload X91 hx (pc' := 389) (hb hby at_387) rfl rfl ?_
          refine own_icmpNo X91 hx (pc' := 392) (hb hby at_389) (teq rfl).2 rfl ?_
          refine own_iconst X91 hx (pc' := 393) (1 : Int32) (hb hby at_392) rfl rfl ?_
          refine own_goto X91 hx (pc' := 397) (hb hby at_393) (by decide) (by decide) ?_
          refine own_retNW X91 hs91 rfl (Nat.le_refl _) hx hlk hret (by simp) (hb hby at_397) (by decide) (by decide) ?_
          exact ⟨rfl, N92⟩
        · skip
          refine own_ifNo XJ hx (pc' := 351) (hb hby at_348) (feq hc348_90).1 rfl ?_
          refine own_iconst XJ hx (pc' := 352) (1 : Int32) (hb hby at_351) rfl rfl ?_
          refine own_istore XJ hx (pc' := 354) (Ls' := #[.val (.int p0), .val (.int p1), .val (.int p2), .val (.int p3), .val (.int p4), .val (.int (2 : Int32)), .val (.int c0), .val (.int c1), .val (.int c2), .val (.int c3), .val (.ref nb61), .val (.ref nb77), .val (.int (own_w20 c0 c1)), .val (.int (own_w21 c0 c1)), .val (.int (0 : Int32)), .val (.int (0 : Int32)), .val (.int (1 : Int32))]) (hb hby at_352) rfl rfl ?_
          refine own_goto XJ hx (pc' := 382) (hb hby at_354) (by decide) (by decide) ?_
          refine own_aload XJ hx (pc' := 384) (hb hby at_382) rfl rfl rfl ?_
          refine own_callSW (H := fun vm => True) XJ hx (pc' := 387) hZ hown (Wd29 hw) (Wd30 hw) (Wd31 hw) (Wd32 hw) (by decide) (rm_ls_2 l Z a0 hw [] cz sv hcz hsv nb77 ba kb c0 c1 T84.heap n0 Z86 F88 F_v hF rc0 rc1 F87) (fun _ => trivial) hs0 eJ (Nat.zero_le _) 0 (by decide) (by decide) (by decide) (by decide) [(.ref nb77)] [] (by rw [hml]; rfl) (lenOf pd_20 rfl) rfl rfl (Nat.le_of_eq rfl) (hb hby at_384) rfl (fun v93 T93 L93 X93 hZ hown hs93 hQ93 => ?_)
          obtain ⟨rfl, Nq93⟩ := hQ93
          have N94 := Fr.app NJ Nq93
          show own_G p.tables e below _ T93 (mkF m 387 #[.val (.int p0), .val (.int p1), .val (.int p2), .val (.int p3), .val (.int p4), .val (.int (2 : Int32)), .val (.int c0), .val (.int c1), .val (.int c2), .val (.int c3), .val (.ref nb61), .val (.ref nb77), .val (.int (own_w20 c0 c1)), .val (.int (own_w21 c0 c1)), .val (.int (0 : Int32)), .val (.int (0 : Int32)), .val (.int (1 : Int32))] [(.int (own_lsL [c0, c1] 0))])
          rw [own_fin2, if_pos hc337_89, if_neg hc348_90]
          refine own_iload X93 hx (pc' := 389) (hb hby at_387) rfl rfl ?_
          refine own_icmpNo X93 hx (pc' := 392) (hb hby at_389) (teq rfl).2 rfl ?_
          refine own_iconst X93 hx (pc' := 393) (1 : Int32) (hb hby at_392) rfl rfl ?_
          refine own_goto X93 hx (pc' := 397) (hb hby at_393) (by decide) (by decide) ?_
          refine own_retNW X93 hs93 rfl (Nat.le_refl _) hx hlk hret (by simp) (hb hby at_397) (by decide) (by decide) ?_
          exact ⟨rfl, N94⟩
      · skip
        refine own_ifNo XJ hx (pc' := 340) (hb hby at_337) (feq hc337_89).1 rfl ?_
        refine own_iconst XJ hx (pc' := 341) (0 : Int32) (hb hby at_340) rfl rfl ?_
        refine own_istore XJ hx (pc' := 343) (Ls' := #[.val (.int p0), .val (.int p1), .val (.int p2), .val (.int p3), .val (.int p4), .val (.int (2 : Int32)), .val (.int c0), .val (.int c1), .val (.int c2), .val (.int c3), .val (.ref nb61), .val (.ref nb77), .val (.int (own_w20 c0 c1)), .val (.int (own_w21 c0 c1)), .val (.int (0 : Int32)), .val (.int (0 : Int32)), .val (.int (0 : Int32))]) (hb hby at_341) rfl rfl ?_
        refine own_goto XJ hx (pc' := 382) (hb hby at_343) (by decide) (by decide) ?_
        refine own_aload XJ hx (pc' := 384) (hb hby at_382) rfl rfl rfl ?_
        refine own_callSW (H := fun vm => True) XJ hx (pc' := 387) hZ hown (Wd29 hw) (Wd30 hw) (Wd31 hw) (Wd32 hw) (by decide) (rm_ls_2 l Z a0 hw [] cz sv hcz hsv nb77 ba kb c0 c1 T84.heap n0 Z86 F88 F_v hF rc0 rc1 F87) (fun _ => trivial) hs0 eJ (Nat.zero_le _) 0 (by decide) (by decide) (by decide) (by decide) [(.ref nb77)] [] (by rw [hml]; rfl) (lenOf pd_20 rfl) rfl rfl (Nat.le_of_eq rfl) (hb hby at_384) rfl (fun v95 T95 L95 X95 hZ hown hs95 hQ95 => ?_)
        obtain ⟨rfl, Nq95⟩ := hQ95
        have N96 := Fr.app NJ Nq95
        show own_G p.tables e below _ T95 (mkF m 387 #[.val (.int p0), .val (.int p1), .val (.int p2), .val (.int p3), .val (.int p4), .val (.int (2 : Int32)), .val (.int c0), .val (.int c1), .val (.int c2), .val (.int c3), .val (.ref nb61), .val (.ref nb77), .val (.int (own_w20 c0 c1)), .val (.int (own_w21 c0 c1)), .val (.int (0 : Int32)), .val (.int (0 : Int32)), .val (.int (0 : Int32))] [(.int (own_lsL [c0, c1] 0))])
        rw [own_fin2, if_neg hc337_89]
        refine own_iload X95 hx (pc' := 389) (hb hby at_387) rfl rfl ?_
        refine own_icmpNo X95 hx (pc' := 392) (hb hby at_389) (teq rfl).2 rfl ?_
        refine own_iconst X95 hx (pc' := 393) (1 : Int32) (hb hby at_392) rfl rfl ?_
        refine own_goto X95 hx (pc' := 397) (hb hby at_393) (by decide) (by decide) ?_
        refine own_retNW X95 hs95 rfl (Nat.le_refl _) hx hlk hret (by simp) (hb hby at_397) (by decide) (by decide) ?_
        exact ⟨rfl, N96⟩
    have J194 : ∀ (TJ : State) (locsJ : List Loc) (XJ : Stand p l e room_1 (s.setVm vm0) m #[(.int p0), (.int p1), (.int p2), (.int p3), (.int p4)] below meth c TJ locsJ 4 12) (eJ : TJ.heap = T84.heap) (NJ : Fr n0 locsJ), own_G p.tables e below (own_PW s (Q0 n0) 24 2176) TJ (mkF m 194 #[.val (.int p0), .val (.int p1), .val (.int p2), .val (.int p3), .val (.int p4), .val (.int (2 : Int32)), .val (.int c0), .val (.int c1), .val (.int c2), .val (.int c3), .val (.ref nb61), .val (.ref nb77), .unset, .unset, .unset, .unset, .unset] [(.int (own_w20 c0 c1))]) := by
      intro TJ locsJ XJ eJ NJ
      refine own_istore XJ hx (pc' := 196) (Ls' := #[.val (.int p0), .val (.int p1), .val (.int p2), .val (.int p3), .val (.int p4), .val (.int (2 : Int32)), .val (.int c0), .val (.int c1), .val (.int c2), .val (.int c3), .val (.ref nb61), .val (.ref nb77), .val (.int (own_w20 c0 c1)), .unset, .unset, .unset, .unset]) (hb hby at_194) rfl rfl ?_
      refine own_iload XJ hx (pc' := 198) (hb hby at_196) rfl rfl ?_
      refine own_iconst XJ hx (pc' := 199) (1 : Int32) (hb hby at_198) rfl rfl ?_
      refine own_icmpNo XJ hx (pc' := 202) (hb hby at_199) (tlt (by decide : (1 : Int32) < (2 : Int32))).2.2.2 rfl ?_
      refine own_iload XJ hx (pc' := 204) (hb hby at_202) rfl rfl ?_
      refine own_cSI XJ hx (pc' := 207) hZ hown (Wd59 hw) (Wd60 hw) (Wd2 hw) (Wd61 hw) (rm_hi l Z a0 hw []  c1 T84.heap n0 Z86  ) eJ NJ hml pd_10 (hb hby at_204) 0 [(.int c1)] [] (fun T97 L97 X97 e97 N97 => ?_)
      by_cases hc207_98 : (own_hiI c1) = (0 : Int32)
      · skip
        refine own_ifYes X97 hx (pc' := 224) (hb hby at_207) (teq hc207_98).1 (by decide) (by decide) ?_
        refine own_iload X97 hx (pc' := 226) (hb hby at_224) rfl rfl ?_
        refine own_cSI X97 hx (pc' := 229) hZ hown (Wd62 hw) (Wd63 hw) (Wd2 hw) (Wd64 hw) (rm_lo l Z a0 hw []  c1 T84.heap n0 Z86  ) e97 N97 hml pd_10 (hb hby at_226) 0 [(.int c1)] [] (fun T99 L99 X99 e99 N99 => ?_)
        by_cases hc229_100 : (own_loI c1) = (0 : Int32)
        · skip
          refine own_ifYes X99 hx (pc' := 244) (hb hby at_229) (teq hc229_100).1 (by decide) (by decide) ?_
          refine own_iconst X99 hx (pc' := 245) (0 : Int32) (hb hby at_244) rfl rfl ?_
          have hz101 : (own_w21 c0 c1) = (0 : Int32) := by simp [own_w21, own_k, hc207_98, hc229_100]
          have hj101 := J245 _ _ X99 e99 N99
          rw [hz101] at hj101
          exact hj101
        · skip
          refine own_ifNo X99 hx (pc' := 232) (hb hby at_229) (feq hc229_100).1 rfl ?_
          refine own_iload X99 hx (pc' := 234) (hb hby at_232) rfl rfl ?_
          refine own_cSI X99 hx (pc' := 237) hZ hown (Wd59 hw) (Wd60 hw) (Wd2 hw) (Wd61 hw) (rm_hi l Z a0 hw []  c0 T84.heap n0 Z86  ) e99 N99 hml pd_10 (hb hby at_234) 0 [(.int c0)] [] (fun T102 L102 X102 e102 N102 => ?_)
          by_cases hc237_103 : (own_hiI c0) = (0 : Int32)
          · skip
            refine own_ifNo X102 hx (pc' := 240) (hb hby at_237) (teq hc237_103).2 rfl ?_
            refine own_iconst X102 hx (pc' := 241) (1 : Int32) (hb hby at_240) rfl rfl ?_
            refine own_goto X102 hx (pc' := 245) (hb hby at_241) (by decide) (by decide) ?_
            have hz104 : (own_w21 c0 c1) = (1 : Int32) := by simp [own_w21, own_k, hc207_98, hc229_100, hc237_103]
            have hj104 := J245 _ _ X102 e102 N102
            rw [hz104] at hj104
            exact hj104
          · skip
            refine own_ifYes X102 hx (pc' := 244) (hb hby at_237) (feq hc237_103).2 (by decide) (by decide) ?_
            refine own_iconst X102 hx (pc' := 245) (0 : Int32) (hb hby at_244) rfl rfl ?_
            have hz105 : (own_w21 c0 c1) = (0 : Int32) := by simp [own_w21, own_k, hc207_98, hc229_100, hc237_103]
            have hj105 := J245 _ _ X102 e102 N102
            rw [hz105] at hj105
            exact hj105
      · skip
        refine own_ifNo X97 hx (pc' := 210) (hb hby at_207) (feq hc207_98).1 rfl ?_
        refine own_iload X97 hx (pc' := 212) (hb hby at_210) rfl rfl ?_
        refine own_iconst X97 hx (pc' := 213) (2 : Int32) (hb hby at_212) rfl rfl ?_
        refine own_icmpYes X97 hx (pc' := 240) (hb hby at_213) (flt (by decide : ¬ ((2 : Int32) < (2 : Int32)))).2.2.2 (by decide) (by decide) ?_
        refine own_iconst X97 hx (pc' := 241) (1 : Int32) (hb hby at_240) rfl rfl ?_
        refine own_goto X97 hx (pc' := 245) (hb hby at_241) (by decide) (by decide) ?_
        have hz106 : (own_w21 c0 c1) = (1 : Int32) := by simp [own_w21, own_k, hc207_98]
        have hj106 := J245 _ _ X97 e97 N97
        rw [hz106] at hj106
        exact hj106
    refine own_iload X84 hx (pc' := 156) (hb hby at_154) rfl rfl ?_
    refine own_ifNo X84 hx (pc' := 159) (hb hby at_156) (tlt (by decide : (0 : Int32) < (2 : Int32))).2.2.2 rfl ?_
    refine own_iload X84 hx (pc' := 161) (hb hby at_159) rfl rfl ?_
    refine own_cSI X84 hx (pc' := 164) hZ hown (Wd59 hw) (Wd60 hw) (Wd2 hw) (Wd61 hw) (rm_hi l Z a0 hw []  c0 T84.heap n0 Z86  ) rfl N85 hml pd_10 (hb hby at_161) 0 [(.int c0)] [] (fun T107 L107 X107 e107 N107 => ?_)
    by_cases hc164_108 : (own_hiI c0) = (0 : Int32)
    · skip
      refine own_ifYes X107 hx (pc' := 181) (hb hby at_164) (teq hc164_108).1 (by decide) (by decide) ?_
      refine own_iload X107 hx (pc' := 183) (hb hby at_181) rfl rfl ?_
      refine own_cSI X107 hx (pc' := 186) hZ hown (Wd62 hw) (Wd63 hw) (Wd2 hw) (Wd64 hw) (rm_lo l Z a0 hw []  c0 T84.heap n0 Z86  ) e107 N107 hml pd_10 (hb hby at_183) 0 [(.int c0)] [] (fun T109 L109 X109 e109 N109 => ?_)
      by_cases hc186_110 : (own_loI c0) = (0 : Int32)
      · skip
        refine own_ifYes X109 hx (pc' := 193) (hb hby at_186) (teq hc186_110).1 (by decide) (by decide) ?_
        refine own_iconst X109 hx (pc' := 194) (0 : Int32) (hb hby at_193) rfl rfl ?_
        have hz111 : (own_w20 c0 c1) = (0 : Int32) := by simp [own_w20, own_k, hc164_108, hc186_110]
        have hj111 := J194 _ _ X109 e109 N109
        rw [hz111] at hj111
        exact hj111
      · skip
        refine own_ifNo X109 hx (pc' := 189) (hb hby at_186) (feq hc186_110).1 rfl ?_
        refine own_iconst X109 hx (pc' := 190) (1 : Int32) (hb hby at_189) rfl rfl ?_
        refine own_goto X109 hx (pc' := 194) (hb hby at_190) (by decide) (by decide) ?_
        have hz112 : (own_w20 c0 c1) = (1 : Int32) := by simp [own_w20, own_k, hc164_108, hc186_110]
        have hj112 := J194 _ _ X109 e109 N109
        rw [hz112] at hj112
        exact hj112
    · skip
      refine own_ifNo X107 hx (pc' := 167) (hb hby at_164) (feq hc164_108).1 rfl ?_
      refine own_iload X107 hx (pc' := 169) (hb hby at_167) rfl rfl ?_
      refine own_iconst X107 hx (pc' := 170) (1 : Int32) (hb hby at_169) rfl rfl ?_
      refine own_icmpNo X107 hx (pc' := 173) (hb hby at_170) (tlt (by decide : (1 : Int32) < (2 : Int32))).2.2.2 rfl ?_
      refine own_iload X107 hx (pc' := 175) (hb hby at_173) rfl rfl ?_
      refine own_cSI X107 hx (pc' := 178) hZ hown (Wd62 hw) (Wd63 hw) (Wd2 hw) (Wd64 hw) (rm_lo l Z a0 hw []  c1 T84.heap n0 Z86  ) e107 N107 hml pd_10 (hb hby at_175) 0 [(.int c1)] [] (fun T113 L113 X113 e113 N113 => ?_)
      by_cases hc178_114 : (own_loI c1) = (0 : Int32)
      · skip
        refine own_ifYes X113 hx (pc' := 189) (hb hby at_178) (teq hc178_114).1 (by decide) (by decide) ?_
        refine own_iconst X113 hx (pc' := 190) (1 : Int32) (hb hby at_189) rfl rfl ?_
        refine own_goto X113 hx (pc' := 194) (hb hby at_190) (by decide) (by decide) ?_
        have hz115 : (own_w20 c0 c1) = (1 : Int32) := by simp [own_w20, own_k, hc164_108, hc178_114]
        have hj115 := J194 _ _ X113 e113 N113
        rw [hz115] at hj115
        exact hj115
      · skip
        refine own_ifNo X113 hx (pc' := 181) (hb hby at_178) (feq hc178_114).1 rfl ?_
        refine own_iload X113 hx (pc' := 183) (hb hby at_181) rfl rfl ?_
        refine own_cSI X113 hx (pc' := 186) hZ hown (Wd62 hw) (Wd63 hw) (Wd2 hw) (Wd64 hw) (rm_lo l Z a0 hw []  c0 T84.heap n0 Z86  ) e113 N113 hml pd_10 (hb hby at_183) 0 [(.int c0)] [] (fun T116 L116 X116 e116 N116 => ?_)
        by_cases hc186_117 : (own_loI c0) = (0 : Int32)
        · skip
          refine own_ifYes X116 hx (pc' := 193) (hb hby at_186) (teq hc186_117).1 (by decide) (by decide) ?_
          refine own_iconst X116 hx (pc' := 194) (0 : Int32) (hb hby at_193) rfl rfl ?_
          have hz118 : (own_w20 c0 c1) = (0 : Int32) := by simp [own_w20, own_k, hc164_108, hc178_114, hc186_117]
          have hj118 := J194 _ _ X116 e116 N116
          rw [hz118] at hj118
          exact hj118
        · skip
          refine own_ifNo X116 hx (pc' := 189) (hb hby at_186) (feq hc186_117).1 rfl ?_
          refine own_iconst X116 hx (pc' := 190) (1 : Int32) (hb hby at_189) rfl rfl ?_
          refine own_goto X116 hx (pc' := 194) (hb hby at_190) (by decide) (by decide) ?_
          have hz119 : (own_w20 c0 c1) = (1 : Int32) := by simp [own_w20, own_k, hc164_108, hc178_114, hc186_117]
          have hj119 := J194 _ _ X116 e116 N116
          rw [hz119] at hj119
          exact hj119
  · rw [hk]
    refine own_iload X7 hx (pc' := 35) (hb hby at_33) rfl rfl ?_
    refine own_ifYes X7 hx (pc' := 46) (hb hby at_35) (feq (by decide : ¬ ((3 : Int32) = (0 : Int32)))).2 (by decide) (by decide) ?_
    refine own_iload X7 hx (pc' := 48) (hb hby at_46) rfl rfl ?_
    refine own_iconst X7 hx (pc' := 49) (1 : Int32) (hb hby at_48) rfl rfl ?_
    refine own_icmpYes X7 hx (pc' := 65) (hb hby at_49) (feq (by decide : ¬ ((3 : Int32) = (1 : Int32)))).2 (by decide) (by decide) ?_
    refine own_iload X7 hx (pc' := 67) (hb hby at_65) rfl rfl ?_
    refine own_iconst X7 hx (pc' := 68) (2 : Int32) (hb hby at_67) rfl rfl ?_
    refine own_icmpYes X7 hx (pc' := 89) (hb hby at_68) (feq (by decide : ¬ ((3 : Int32) = (2 : Int32)))).2 (by decide) (by decide) ?_
    refine own_iload X7 hx (pc' := 91) (hb hby at_89) rfl rfl ?_
    refine own_iconst X7 hx (pc' := 92) (3 : Int32) (hb hby at_91) rfl rfl ?_
    refine own_icmpNo X7 hx (pc' := 95) (hb hby at_92) (teq rfl).2 rfl ?_
    refine own_iconst X7 hx (pc' := 96) (3 : Int32) (hb hby at_95) rfl rfl ?_
    refine own_newP X7 hx (pc' := 98) hZ (aty := .char) (Wd7 hw) e7 (hb hby at_96) (by decide) 3 (by decide) (by decide) (by decide) (by decide) rfl (fun T120 h120 kc120 nb120 g120 X120 e120 E120 A120 => ?_)
    have ge_nb120 : n0 ≤ nb120 := Nat.le_trans Z0 (Nat.le_of_eq g120.symm)
    have Z121 : n0 ≤ h120.size := Nat.le_trans Z0 E120.1
    have F122 := (B_ST.ext E120)
    have V123a : Arv Z h120 nb120 kc120 .char (3 : Int32) [] (.int (0 : Int32)) := Arv.new A120 (by decide)
    have V123b : Arv Z h120 nb120 kc120 .char (3 : Int32) (List.replicate 3 (.int (0 : Int32))) (.int (0 : Int32)) := V123a.pad (pad_rep [] _ 3)
    have V123 : Arv Z h120 nb120 kc120 .char (3 : Int32) [(.int (0 : Int32)), (.int (0 : Int32)), (.int (0 : Int32))] (.int (0 : Int32)) := V123b
    refine own_dup X120 hx (pc' := 99) (hb hby at_98) rfl rfl ?_
    refine own_iconst X120 hx (pc' := 100) (0 : Int32) (hb hby at_99) rfl rfl ?_
    refine own_iload X120 hx (pc' := 102) (hb hby at_100) rfl rfl ?_
    obtain ⟨cl124, Ar124, q124, S124, M124, H124, G124⟩ := id V123
    refine own_stC X120 hx (pc' := 103) hZ e120 Ar124 (inb_of S124 ⟨by decide, by decide⟩) (hb hby at_102) rfl (fun T125 h125 X125 e125 W125 => ?_)
    have N126 := Fr.snoc X125 N8 ge_nb120
    have Z127 : n0 ≤ h125.size := Nat.le_trans Z121 (Nat.le_of_eq (Wr.size W125).symm)
    have F128 := (F122.wr W125 ge_nb120)
    have F129 : Arv Z h125 nb120 kc120 .char (3 : Int32) [(.int (nar .char c0)), (.int (0 : Int32)), (.int (0 : Int32))] (.int (0 : Int32)) := (Arv.set Ar124 q124 S124 M124 H124 G124 (fits_nar_char _) W125 0 rfl (Nat.le_of_ble_eq_true rfl))
    refine own_dup X125 hx (pc' := 104) (hb hby at_103) rfl rfl ?_
    refine own_iconst X125 hx (pc' := 105) (1 : Int32) (hb hby at_104) rfl rfl ?_
    refine own_iload X125 hx (pc' := 107) (hb hby at_105) rfl rfl ?_
    obtain ⟨cl130, Ar130, q130, S130, M130, H130, G130⟩ := id F129
    refine own_stC X125 hx (pc' := 108) hZ e125 Ar130 (inb_of S130 ⟨by decide, by decide⟩) (hb hby at_107) rfl (fun T131 h131 X131 e131 W131 => ?_)
    have N132 := Fr.snoc X131 N126 ge_nb120
    have Z133 : n0 ≤ h131.size := Nat.le_trans Z127 (Nat.le_of_eq (Wr.size W131).symm)
    have F134 := (F128.wr W131 ge_nb120)
    have F135 : Arv Z h131 nb120 kc120 .char (3 : Int32) [(.int (nar .char c0)), (.int (nar .char c1)), (.int (0 : Int32))] (.int (0 : Int32)) := (Arv.set Ar130 q130 S130 M130 H130 G130 (fits_nar_char _) W131 1 rfl (Nat.le_of_ble_eq_true rfl))
    refine own_dup X131 hx (pc' := 109) (hb hby at_108) rfl rfl ?_
    refine own_iconst X131 hx (pc' := 110) (2 : Int32) (hb hby at_109) rfl rfl ?_
    refine own_iload X131 hx (pc' := 112) (hb hby at_110) rfl rfl ?_
    obtain ⟨cl136, Ar136, q136, S136, M136, H136, G136⟩ := id F135
    refine own_stC X131 hx (pc' := 113) hZ e131 Ar136 (inb_of S136 ⟨by decide, by decide⟩) (hb hby at_112) rfl (fun T137 h137 X137 e137 W137 => ?_)
    have N138 := Fr.snoc X137 N132 ge_nb120
    have Z139 : n0 ≤ h137.size := Nat.le_trans Z133 (Nat.le_of_eq (Wr.size W137).symm)
    have F140 := (F134.wr W137 ge_nb120)
    have F141 : Arv Z h137 nb120 kc120 .char (3 : Int32) [(.int (nar .char c0)), (.int (nar .char c1)), (.int (nar .char c2))] (.int (0 : Int32)) := (Arv.set Ar136 q136 S136 M136 H136 G136 (fits_nar_char _) W137 2 rfl (Nat.le_of_ble_eq_true rfl))
    refine own_astore X137 hx (pc' := 115) (Ls' := #[.val (.int p0), .val (.int p1), .val (.int p2), .val (.int p3), .val (.int p4), .val (.int (3 : Int32)), .val (.int c0), .val (.int c1), .val (.int c2), .val (.int c3), .val (.ref nb120), .unset, .unset, .unset, .unset, .unset, .unset]) (hb hby at_113) rfl rfl rfl ?_
    refine own_goto X137 hx (pc' := 143) (hb hby at_115) (by decide) (by decide) ?_
    refine own_new X137 hx (pc' := 146) hZ hown (Wd8 hw) (Wd9 hw) (Wd10 hw) e137 (hb hby at_143) (by decide) (by decide) rfl (fun T142 h142 nb142 g142 X142 e142 E142 A142 D142 => ?_)
    have ne_nb120_nb142_143 : nb120 ≠ nb142 := Nat.ne_of_lt (Nat.lt_of_lt_of_le F141.lt (Nat.le_of_eq g142.symm))
    have ge_nb142 : n0 ≤ nb142 := Nat.le_trans Z139 (Nat.le_of_eq g142.symm)
    have Z144 : n0 ≤ h142.size := Nat.le_trans Z139 E142.1
    have F145 := (F140.ext E142)
    have F146 := (F141.ext E142)
    have F147 : Fld Z h142 nb142 "java/lang/String" "value" "[B" .null := D142 (Or.inr (Wd23 hw)) (ty := (.array .byte)) (by decide)
    have F148 : Fld Z h142 nb142 "java/lang/String" "coder" "B" (.int (0 : Int32)) := D142 (Or.inr (Wd24 hw)) (ty := .byte) (by decide)
    refine own_dup X142 hx (pc' := 147) (hb hby at_146) rfl rfl ?_
    refine own_aload X142 hx (pc' := 149) (hb hby at_147) rfl rfl rfl ?_
    have V_c : Arv Z h142 nb120 kc120 .char (3 : Int32) [(.int c0), (.int c1), (.int c2)] (.int (0 : Int32)) := by have q := F146; rw [own_narc rc0, own_narc rc1, own_narc rc2] at q; exact q
    refine own_callI X142 hx (pc' := 152) hZ rfl hown (Wd11 hw) (Wd12 hw) (Wd13 hw) (Wd10 hw) (by decide) (rm_i1_3 l Z a0 hw [] cz sv hcz hsv nb142 nb120 kc120 c0 c1 c2 h142 n0 Z144 ge_nb142 A142 F148 F147 rc0 rc1 rc2 V_c F145) e142 (b := nb142) 1 (by decide) (by decide) (by decide) (by decide) [(.ref nb120)] [(.ref nb142)] (by rw [hml]; rfl) (lenOf pd_19 rfl) rfl rfl (Nat.le_of_eq rfl) (hb hby at_149) rfl (fun v149 T149 L149 X149 hQ149 => ?_)
    obtain ⟨rfl, Nq149, K149, ba, kb, F_v, hF⟩ := hQ149
    have N150 := Fr.app N138 Nq149
    have Z151 : n0 ≤ T149.heap.size := Nat.le_trans Z144 K149.1
    have F152 := (F145.keep K149 (own_allge ge_nb142 (fun x hx => absurd hx List.not_mem_nil)))
    have F153 := (Exa.keep A142 K149)
    show own_G p.tables e below _ T149 (mkF m 152 #[.val (.int p0), .val (.int p1), .val (.int p2), .val (.int p3), .val (.int p4), .val (.int (3 : Int32)), .val (.int c0), .val (.int c1), .val (.int c2), .val (.int c3), .val (.ref nb120), .unset, .unset, .unset, .unset, .unset, .unset] [(.ref nb142)])
    refine own_astore X149 hx (pc' := 154) (Ls' := #[.val (.int p0), .val (.int p1), .val (.int p2), .val (.int p3), .val (.int p4), .val (.int (3 : Int32)), .val (.int c0), .val (.int c1), .val (.int c2), .val (.int c3), .val (.ref nb120), .val (.ref nb142), .unset, .unset, .unset, .unset, .unset]) (hb hby at_152) rfl rfl rfl ?_
    have J296 : ∀ (TJ : State) (locsJ : List Loc) (XJ : Stand p l e room_1 (s.setVm vm0) m #[(.int p0), (.int p1), (.int p2), (.int p3), (.int p4)] below meth c TJ locsJ 4 16) (eJ : TJ.heap = T149.heap) (NJ : Fr n0 locsJ), own_G p.tables e below (own_PW s (Q0 n0) 24 2176) TJ (mkF m 296 #[.val (.int p0), .val (.int p1), .val (.int p2), .val (.int p3), .val (.int p4), .val (.int (3 : Int32)), .val (.int c0), .val (.int c1), .val (.int c2), .val (.int c3), .val (.ref nb120), .val (.ref nb142), .val (.int (own_w30 c0 c1)), .val (.int (own_w31 c0 c1 c2)), .unset, .unset, .unset] [(.int (own_w32 c1 c2))]) := by
      intro TJ locsJ XJ eJ NJ
      refine own_istore XJ hx (pc' := 298) (Ls' := #[.val (.int p0), .val (.int p1), .val (.int p2), .val (.int p3), .val (.int p4), .val (.int (3 : Int32)), .val (.int c0), .val (.int c1), .val (.int c2), .val (.int c3), .val (.ref nb120), .val (.ref nb142), .val (.int (own_w30 c0 c1)), .val (.int (own_w31 c0 c1 c2)), .val (.int (own_w32 c1 c2)), .unset, .unset]) (hb hby at_296) rfl rfl ?_
      refine own_iload XJ hx (pc' := 300) (hb hby at_298) rfl rfl ?_
      refine own_iconst XJ hx (pc' := 301) (3 : Int32) (hb hby at_300) rfl rfl ?_
      refine own_icmpYes XJ hx (pc' := 332) (hb hby at_301) (flt (by decide : ¬ ((3 : Int32) < (3 : Int32)))).2.2.2 (by decide) (by decide) ?_
      refine own_iconst XJ hx (pc' := 333) (0 : Int32) (hb hby at_332) rfl rfl ?_
      refine own_istore XJ hx (pc' := 335) (Ls' := #[.val (.int p0), .val (.int p1), .val (.int p2), .val (.int p3), .val (.int p4), .val (.int (3 : Int32)), .val (.int c0), .val (.int c1), .val (.int c2), .val (.int c3), .val (.ref nb120), .val (.ref nb142), .val (.int (own_w30 c0 c1)), .val (.int (own_w31 c0 c1 c2)), .val (.int (own_w32 c1 c2)), .val (.int (0 : Int32)), .unset]) (hb hby at_333) rfl rfl ?_
      refine own_iload XJ hx (pc' := 337) (hb hby at_335) rfl rfl ?_
      by_cases hc337_154 : (own_w30 c0 c1) = (0 : Int32)
      · skip
        refine own_ifYes XJ hx (pc' := 346) (hb hby at_337) (teq hc337_154).1 (by decide) (by decide) ?_
        refine own_iload XJ hx (pc' := 348) (hb hby at_346) rfl rfl ?_
        by_cases hc348_155 : (own_w31 c0 c1 c2) = (0 : Int32)
        · skip
          refine own_ifYes XJ hx (pc' := 357) (hb hby at_348) (teq hc348_155).1 (by decide) (by decide) ?_
          refine own_iload XJ hx (pc' := 359) (hb hby at_357) rfl rfl ?_
          by_cases hc359_156 : (own_w32 c1 c2) = (0 : Int32)
          · skip
            refine own_ifYes XJ hx (pc' := 368) (hb hby at_359) (teq hc359_156).1 (by decide) (by decide) ?_
            refine own_iload XJ hx (pc' := 370) (hb hby at_368) rfl rfl ?_
            refine own_ifYes XJ hx (pc' := 379) (hb hby at_370) (teq rfl).1 (by decide) (by decide) ?_
            refine own_iconst XJ hx (pc' := 380) (-1 : Int32) (hb hby at_379) rfl rfl ?_
            refine own_istore XJ hx (pc' := 382) (Ls' := #[.val (.int p0), .val (.int p1), .val (.int p2), .val (.int p3), .val (.int p4), .val (.int (3 : Int32)), .val (.int c0), .val (.int c1), .val (.int c2), .val (.int c3), .val (.ref nb120), .val (.ref nb142), .val (.int (own_w30 c0 c1)), .val (.int (own_w31 c0 c1 c2)), .val (.int (own_w32 c1 c2)), .val (.int (0 : Int32)), .val (.int (-1 : Int32))]) (hb hby at_380) rfl rfl ?_
            refine own_aload XJ hx (pc' := 384) (hb hby at_382) rfl rfl rfl ?_
            refine own_callSW (H := fun vm => True) XJ hx (pc' := 387) hZ hown (Wd29 hw) (Wd30 hw) (Wd31 hw) (Wd32 hw) (by decide) (rm_ls_3 l Z a0 hw [] cz sv hcz hsv nb142 ba kb c0 c1 c2 T149.heap n0 Z151 F153 F_v hF rc0 rc1 rc2 F152) (fun _ => trivial) hs0 eJ (Nat.zero_le _) 0 (by decide) (by decide) (by decide) (by decide) [(.ref nb142)] [] (by rw [hml]; rfl) (lenOf pd_20 rfl) rfl rfl (Nat.le_of_eq rfl) (hb hby at_384) rfl (fun v157 T157 L157 X157 hZ hown hs157 hQ157 => ?_)
            obtain ⟨rfl, Nq157⟩ := hQ157
            have N158 := Fr.app NJ Nq157
            show own_G p.tables e below _ T157 (mkF m 387 #[.val (.int p0), .val (.int p1), .val (.int p2), .val (.int p3), .val (.int p4), .val (.int (3 : Int32)), .val (.int c0), .val (.int c1), .val (.int c2), .val (.int c3), .val (.ref nb120), .val (.ref nb142), .val (.int (own_w30 c0 c1)), .val (.int (own_w31 c0 c1 c2)), .val (.int (own_w32 c1 c2)), .val (.int (0 : Int32)), .val (.int (-1 : Int32))] [(.int (own_lsL [c0, c1, c2] 0))])
            rw [own_fin3, if_pos hc337_154, if_pos hc348_155, if_pos hc359_156]
            refine own_iload X157 hx (pc' := 389) (hb hby at_387) rfl rfl ?_
            refine own_icmpNo X157 hx (pc' := 392) (hb hby at_389) (teq rfl).2 rfl ?_
            refine own_iconst X157 hx (pc' := 393) (1 : Int32) (hb hby at_392) rfl rfl ?_
            refine own_goto X157 hx (pc' := 397) (hb hby at_393) (by decide) (by decide) ?_
            refine own_retNW X157 hs157 rfl (Nat.le_refl _) hx hlk hret (by simp) (hb hby at_397) (by decide) (by decide) ?_
            exact ⟨rfl, N158⟩
          · skip
            refine own_ifNo XJ hx (pc' := 362) (hb hby at_359) (feq hc359_156).1 rfl ?_
            refine own_iconst XJ hx (pc' := 363) (2 : Int32) (hb hby at_362) rfl rfl ?_
            refine own_istore XJ hx (pc' := 365) (Ls' := #[.val (.int p0), .val (.int p1), .val (.int p2), .val (.int p3), .val (.int p4), .val (.int (3 : Int32)), .val (.int c0), .val (.int c1), .val (.int c2), .val (.int c3), .val (.ref nb120), .val (.ref nb142), .val (.int (own_w30 c0 c1)), .val (.int (own_w31 c0 c1 c2)), .val (.int (own_w32 c1 c2)), .val (.int (0 : Int32)), .val (.int (2 : Int32))]) (hb hby at_363) rfl rfl ?_
            refine own_goto XJ hx (pc' := 382) (hb hby at_365) (by decide) (by decide) ?_
            refine own_aload XJ hx (pc' := 384) (hb hby at_382) rfl rfl rfl ?_
            refine own_callSW (H := fun vm => True) XJ hx (pc' := 387) hZ hown (Wd29 hw) (Wd30 hw) (Wd31 hw) (Wd32 hw) (by decide) (rm_ls_3 l Z a0 hw [] cz sv hcz hsv nb142 ba kb c0 c1 c2 T149.heap n0 Z151 F153 F_v hF rc0 rc1 rc2 F152) (fun _ => trivial) hs0 eJ (Nat.zero_le _) 0 (by decide) (by decide) (by decide) (by decide) [(.ref nb142)] [] (by rw [hml]; rfl) (lenOf pd_20 rfl) rfl rfl (Nat.le_of_eq rfl) (hb hby at_384) rfl (fun v159 T159 L159 X159 hZ hown hs159 hQ159 => ?_)
            obtain ⟨rfl, Nq159⟩ := hQ159
            have N160 := Fr.app NJ Nq159
            show own_G p.tables e below _ T159 (mkF m 387 #[.val (.int p0), .val (.int p1), .val (.int p2), .val (.int p3), .val (.int p4), .val (.int (3 : Int32)), .val (.int c0), .val (.int c1), .val (.int c2), .val (.int c3), .val (.ref nb120), .val (.ref nb142), .val (.int (own_w30 c0 c1)), .val (.int (own_w31 c0 c1 c2)), .val (.int (own_w32 c1 c2)), .val (.int (0 : Int32)), .val (.int (2 : Int32))] [(.int (own_lsL [c0, c1, c2] 0))])
            rw [own_fin3, if_pos hc337_154, if_pos hc348_155, if_neg hc359_156]
            refine own_iload X159 hx (pc' := 389) (hb hby at_387) rfl rfl ?_
            refine own_icmpNo X159 hx (pc' := 392) (hb hby at_389) (teq rfl).2 rfl ?_
            refine own_iconst X159 hx (pc' := 393) (1 : Int32) (hb hby at_392) rfl rfl ?_
            refine own_goto X159 hx (pc' := 397) (hb hby at_393) (by decide) (by decide) ?_
            refine own_retNW X159 hs159 rfl (Nat.le_refl _) hx hlk hret (by simp) (hb hby at_397) (by decide) (by decide) ?_
            exact ⟨rfl, N160⟩
        · skip
          refine own_ifNo XJ hx (pc' := 351) (hb hby at_348) (feq hc348_155).1 rfl ?_
          refine own_iconst XJ hx (pc' := 352) (1 : Int32) (hb hby at_351) rfl rfl ?_
          refine own_istore XJ hx (pc' := 354) (Ls' := #[.val (.int p0), .val (.int p1), .val (.int p2), .val (.int p3), .val (.int p4), .val (.int (3 : Int32)), .val (.int c0), .val (.int c1), .val (.int c2), .val (.int c3), .val (.ref nb120), .val (.ref nb142), .val (.int (own_w30 c0 c1)), .val (.int (own_w31 c0 c1 c2)), .val (.int (own_w32 c1 c2)), .val (.int (0 : Int32)), .val (.int (1 : Int32))]) (hb hby at_352) rfl rfl ?_
          refine own_goto XJ hx (pc' := 382) (hb hby at_354) (by decide) (by decide) ?_
          refine own_aload XJ hx (pc' := 384) (hb hby at_382) rfl rfl rfl ?_
          refine own_callSW (H := fun vm => True) XJ hx (pc' := 387) hZ hown (Wd29 hw) (Wd30 hw) (Wd31 hw) (Wd32 hw) (by decide) (rm_ls_3 l Z a0 hw [] cz sv hcz hsv nb142 ba kb c0 c1 c2 T149.heap n0 Z151 F153 F_v hF rc0 rc1 rc2 F152) (fun _ => trivial) hs0 eJ (Nat.zero_le _) 0 (by decide) (by decide) (by decide) (by decide) [(.ref nb142)] [] (by rw [hml]; rfl) (lenOf pd_20 rfl) rfl rfl (Nat.le_of_eq rfl) (hb hby at_384) rfl (fun v161 T161 L161 X161 hZ hown hs161 hQ161 => ?_)
          obtain ⟨rfl, Nq161⟩ := hQ161
          have N162 := Fr.app NJ Nq161
          show own_G p.tables e below _ T161 (mkF m 387 #[.val (.int p0), .val (.int p1), .val (.int p2), .val (.int p3), .val (.int p4), .val (.int (3 : Int32)), .val (.int c0), .val (.int c1), .val (.int c2), .val (.int c3), .val (.ref nb120), .val (.ref nb142), .val (.int (own_w30 c0 c1)), .val (.int (own_w31 c0 c1 c2)), .val (.int (own_w32 c1 c2)), .val (.int (0 : Int32)), .val (.int (1 : Int32))] [(.int (own_lsL [c0, c1, c2] 0))])
          rw [own_fin3, if_pos hc337_154, if_neg hc348_155]
          refine own_iload X161 hx (pc' := 389) (hb hby at_387) rfl rfl ?_
          refine own_icmpNo X161 hx (pc' := 392) (hb hby at_389) (teq rfl).2 rfl ?_
          refine own_iconst X161 hx (pc' := 393) (1 : Int32) (hb hby at_392) rfl rfl ?_
          refine own_goto X161 hx (pc' := 397) (hb hby at_393) (by decide) (by decide) ?_
          refine own_retNW X161 hs161 rfl (Nat.le_refl _) hx hlk hret (by simp) (hb hby at_397) (by decide) (by decide) ?_
          exact ⟨rfl, N162⟩
      · skip
        refine own_ifNo XJ hx (pc' := 340) (hb hby at_337) (feq hc337_154).1 rfl ?_
        refine own_iconst XJ hx (pc' := 341) (0 : Int32) (hb hby at_340) rfl rfl ?_
        refine own_istore XJ hx (pc' := 343) (Ls' := #[.val (.int p0), .val (.int p1), .val (.int p2), .val (.int p3), .val (.int p4), .val (.int (3 : Int32)), .val (.int c0), .val (.int c1), .val (.int c2), .val (.int c3), .val (.ref nb120), .val (.ref nb142), .val (.int (own_w30 c0 c1)), .val (.int (own_w31 c0 c1 c2)), .val (.int (own_w32 c1 c2)), .val (.int (0 : Int32)), .val (.int (0 : Int32))]) (hb hby at_341) rfl rfl ?_
        refine own_goto XJ hx (pc' := 382) (hb hby at_343) (by decide) (by decide) ?_
        refine own_aload XJ hx (pc' := 384) (hb hby at_382) rfl rfl rfl ?_
        refine own_callSW (H := fun vm => True) XJ hx (pc' := 387) hZ hown (Wd29 hw) (Wd30 hw) (Wd31 hw) (Wd32 hw) (by decide) (rm_ls_3 l Z a0 hw [] cz sv hcz hsv nb142 ba kb c0 c1 c2 T149.heap n0 Z151 F153 F_v hF rc0 rc1 rc2 F152) (fun _ => trivial) hs0 eJ (Nat.zero_le _) 0 (by decide) (by decide) (by decide) (by decide) [(.ref nb142)] [] (by rw [hml]; rfl) (lenOf pd_20 rfl) rfl rfl (Nat.le_of_eq rfl) (hb hby at_384) rfl (fun v163 T163 L163 X163 hZ hown hs163 hQ163 => ?_)
        obtain ⟨rfl, Nq163⟩ := hQ163
        have N164 := Fr.app NJ Nq163
        show own_G p.tables e below _ T163 (mkF m 387 #[.val (.int p0), .val (.int p1), .val (.int p2), .val (.int p3), .val (.int p4), .val (.int (3 : Int32)), .val (.int c0), .val (.int c1), .val (.int c2), .val (.int c3), .val (.ref nb120), .val (.ref nb142), .val (.int (own_w30 c0 c1)), .val (.int (own_w31 c0 c1 c2)), .val (.int (own_w32 c1 c2)), .val (.int (0 : Int32)), .val (.int (0 : Int32))] [(.int (own_lsL [c0, c1, c2] 0))])
        rw [own_fin3, if_neg hc337_154]
        refine own_iload X163 hx (pc' := 389) (hb hby at_387) rfl rfl ?_
        refine own_icmpNo X163 hx (pc' := 392) (hb hby at_389) (teq rfl).2 rfl ?_
        refine own_iconst X163 hx (pc' := 393) (1 : Int32) (hb hby at_392) rfl rfl ?_
        refine own_goto X163 hx (pc' := 397) (hb hby at_393) (by decide) (by decide) ?_
        refine own_retNW X163 hs163 rfl (Nat.le_refl _) hx hlk hret (by simp) (hb hby at_397) (by decide) (by decide) ?_
        exact ⟨rfl, N164⟩
    have J245 : ∀ (TJ : State) (locsJ : List Loc) (XJ : Stand p l e room_1 (s.setVm vm0) m #[(.int p0), (.int p1), (.int p2), (.int p3), (.int p4)] below meth c TJ locsJ 4 16) (eJ : TJ.heap = T149.heap) (NJ : Fr n0 locsJ), own_G p.tables e below (own_PW s (Q0 n0) 24 2176) TJ (mkF m 245 #[.val (.int p0), .val (.int p1), .val (.int p2), .val (.int p3), .val (.int p4), .val (.int (3 : Int32)), .val (.int c0), .val (.int c1), .val (.int c2), .val (.int c3), .val (.ref nb120), .val (.ref nb142), .val (.int (own_w30 c0 c1)), .unset, .unset, .unset, .unset] [(.int (own_w31 c0 c1 c2))]) := by
      intro TJ locsJ XJ eJ NJ
      refine own_istore XJ hx (pc' := 247) (Ls' := #[.val (.int p0), .val (.int p1), .val (.int p2), .val (.int p3), .val (.int p4), .val (.int (3 : Int32)), .val (.int c0), .val (.int c1), .val (.int c2), .val (.int c3), .val (.ref nb120), .val (.ref nb142), .val (.int (own_w30 c0 c1)), .val (.int (own_w31 c0 c1 c2)), .unset, .unset, .unset]) (hb hby at_245) rfl rfl ?_
      refine own_iload XJ hx (pc' := 249) (hb hby at_247) rfl rfl ?_
      refine own_iconst XJ hx (pc' := 250) (2 : Int32) (hb hby at_249) rfl rfl ?_
      refine own_icmpNo XJ hx (pc' := 253) (hb hby at_250) (tlt (by decide : (2 : Int32) < (3 : Int32))).2.2.2 rfl ?_
      refine own_iload XJ hx (pc' := 255) (hb hby at_253) rfl rfl ?_
      refine own_cSI XJ hx (pc' := 258) hZ hown (Wd59 hw) (Wd60 hw) (Wd2 hw) (Wd61 hw) (rm_hi l Z a0 hw []  c2 T149.heap n0 Z151  ) eJ NJ hml pd_10 (hb hby at_255) 0 [(.int c2)] [] (fun T165 L165 X165 e165 N165 => ?_)
      by_cases hc258_166 : (own_hiI c2) = (0 : Int32)
      · skip
        refine own_ifYes X165 hx (pc' := 275) (hb hby at_258) (teq hc258_166).1 (by decide) (by decide) ?_
        refine own_iload X165 hx (pc' := 277) (hb hby at_275) rfl rfl ?_
        refine own_cSI X165 hx (pc' := 280) hZ hown (Wd62 hw) (Wd63 hw) (Wd2 hw) (Wd64 hw) (rm_lo l Z a0 hw []  c2 T149.heap n0 Z151  ) e165 N165 hml pd_10 (hb hby at_277) 0 [(.int c2)] [] (fun T167 L167 X167 e167 N167 => ?_)
        by_cases hc280_168 : (own_loI c2) = (0 : Int32)
        · skip
          refine own_ifYes X167 hx (pc' := 295) (hb hby at_280) (teq hc280_168).1 (by decide) (by decide) ?_
          refine own_iconst X167 hx (pc' := 296) (0 : Int32) (hb hby at_295) rfl rfl ?_
          have hz169 : (own_w32 c1 c2) = (0 : Int32) := by simp [own_w32, own_k, hc258_166, hc280_168]
          have hj169 := J296 _ _ X167 e167 N167
          rw [hz169] at hj169
          exact hj169
        · skip
          refine own_ifNo X167 hx (pc' := 283) (hb hby at_280) (feq hc280_168).1 rfl ?_
          refine own_iload X167 hx (pc' := 285) (hb hby at_283) rfl rfl ?_
          refine own_cSI X167 hx (pc' := 288) hZ hown (Wd59 hw) (Wd60 hw) (Wd2 hw) (Wd61 hw) (rm_hi l Z a0 hw []  c1 T149.heap n0 Z151  ) e167 N167 hml pd_10 (hb hby at_285) 0 [(.int c1)] [] (fun T170 L170 X170 e170 N170 => ?_)
          by_cases hc288_171 : (own_hiI c1) = (0 : Int32)
          · skip
            refine own_ifNo X170 hx (pc' := 291) (hb hby at_288) (teq hc288_171).2 rfl ?_
            refine own_iconst X170 hx (pc' := 292) (1 : Int32) (hb hby at_291) rfl rfl ?_
            refine own_goto X170 hx (pc' := 296) (hb hby at_292) (by decide) (by decide) ?_
            have hz172 : (own_w32 c1 c2) = (1 : Int32) := by simp [own_w32, own_k, hc258_166, hc280_168, hc288_171]
            have hj172 := J296 _ _ X170 e170 N170
            rw [hz172] at hj172
            exact hj172
          · skip
            refine own_ifYes X170 hx (pc' := 295) (hb hby at_288) (feq hc288_171).2 (by decide) (by decide) ?_
            refine own_iconst X170 hx (pc' := 296) (0 : Int32) (hb hby at_295) rfl rfl ?_
            have hz173 : (own_w32 c1 c2) = (0 : Int32) := by simp [own_w32, own_k, hc258_166, hc280_168, hc288_171]
            have hj173 := J296 _ _ X170 e170 N170
            rw [hz173] at hj173
            exact hj173
      · skip
        refine own_ifNo X165 hx (pc' := 261) (hb hby at_258) (feq hc258_166).1 rfl ?_
        refine own_iload X165 hx (pc' := 263) (hb hby at_261) rfl rfl ?_
        refine own_iconst X165 hx (pc' := 264) (3 : Int32) (hb hby at_263) rfl rfl ?_
        refine own_icmpYes X165 hx (pc' := 291) (hb hby at_264) (flt (by decide : ¬ ((3 : Int32) < (3 : Int32)))).2.2.2 (by decide) (by decide) ?_
        refine own_iconst X165 hx (pc' := 292) (1 : Int32) (hb hby at_291) rfl rfl ?_
        refine own_goto X165 hx (pc' := 296) (hb hby at_292) (by decide) (by decide) ?_
        have hz174 : (own_w32 c1 c2) = (1 : Int32) := by simp [own_w32, own_k, hc258_166]
        have hj174 := J296 _ _ X165 e165 N165
        rw [hz174] at hj174
        exact hj174
    have J194 : ∀ (TJ : State) (locsJ : List Loc) (XJ : Stand p l e room_1 (s.setVm vm0) m #[(.int p0), (.int p1), (.int p2), (.int p3), (.int p4)] below meth c TJ locsJ 4 16) (eJ : TJ.heap = T149.heap) (NJ : Fr n0 locsJ), own_G p.tables e below (own_PW s (Q0 n0) 24 2176) TJ (mkF m 194 #[.val (.int p0), .val (.int p1), .val (.int p2), .val (.int p3), .val (.int p4), .val (.int (3 : Int32)), .val (.int c0), .val (.int c1), .val (.int c2), .val (.int c3), .val (.ref nb120), .val (.ref nb142), .unset, .unset, .unset, .unset, .unset] [(.int (own_w30 c0 c1))]) := by
      intro TJ locsJ XJ eJ NJ
      refine own_istore XJ hx (pc' := 196) (Ls' := #[.val (.int p0), .val (.int p1), .val (.int p2), .val (.int p3), .val (.int p4), .val (.int (3 : Int32)), .val (.int c0), .val (.int c1), .val (.int c2), .val (.int c3), .val (.ref nb120), .val (.ref nb142), .val (.int (own_w30 c0 c1)), .unset, .unset, .unset, .unset]) (hb hby at_194) rfl rfl ?_
      refine own_iload XJ hx (pc' := 198) (hb hby at_196) rfl rfl ?_
      refine own_iconst XJ hx (pc' := 199) (1 : Int32) (hb hby at_198) rfl rfl ?_
      refine own_icmpNo XJ hx (pc' := 202) (hb hby at_199) (tlt (by decide : (1 : Int32) < (3 : Int32))).2.2.2 rfl ?_
      refine own_iload XJ hx (pc' := 204) (hb hby at_202) rfl rfl ?_
      refine own_cSI XJ hx (pc' := 207) hZ hown (Wd59 hw) (Wd60 hw) (Wd2 hw) (Wd61 hw) (rm_hi l Z a0 hw []  c1 T149.heap n0 Z151  ) eJ NJ hml pd_10 (hb hby at_204) 0 [(.int c1)] [] (fun T175 L175 X175 e175 N175 => ?_)
      by_cases hc207_176 : (own_hiI c1) = (0 : Int32)
      · skip
        refine own_ifYes X175 hx (pc' := 224) (hb hby at_207) (teq hc207_176).1 (by decide) (by decide) ?_
        refine own_iload X175 hx (pc' := 226) (hb hby at_224) rfl rfl ?_
        refine own_cSI X175 hx (pc' := 229) hZ hown (Wd62 hw) (Wd63 hw) (Wd2 hw) (Wd64 hw) (rm_lo l Z a0 hw []  c1 T149.heap n0 Z151  ) e175 N175 hml pd_10 (hb hby at_226) 0 [(.int c1)] [] (fun T177 L177 X177 e177 N177 => ?_)
        by_cases hc229_178 : (own_loI c1) = (0 : Int32)
        · skip
          refine own_ifYes X177 hx (pc' := 244) (hb hby at_229) (teq hc229_178).1 (by decide) (by decide) ?_
          refine own_iconst X177 hx (pc' := 245) (0 : Int32) (hb hby at_244) rfl rfl ?_
          have hz179 : (own_w31 c0 c1 c2) = (0 : Int32) := by simp [own_w31, own_k, hc207_176, hc229_178]
          have hj179 := J245 _ _ X177 e177 N177
          rw [hz179] at hj179
          exact hj179
        · skip
          refine own_ifNo X177 hx (pc' := 232) (hb hby at_229) (feq hc229_178).1 rfl ?_
          refine own_iload X177 hx (pc' := 234) (hb hby at_232) rfl rfl ?_
          refine own_cSI X177 hx (pc' := 237) hZ hown (Wd59 hw) (Wd60 hw) (Wd2 hw) (Wd61 hw) (rm_hi l Z a0 hw []  c0 T149.heap n0 Z151  ) e177 N177 hml pd_10 (hb hby at_234) 0 [(.int c0)] [] (fun T180 L180 X180 e180 N180 => ?_)
          by_cases hc237_181 : (own_hiI c0) = (0 : Int32)
          · skip
            refine own_ifNo X180 hx (pc' := 240) (hb hby at_237) (teq hc237_181).2 rfl ?_
            refine own_iconst X180 hx (pc' := 241) (1 : Int32) (hb hby at_240) rfl rfl ?_
            refine own_goto X180 hx (pc' := 245) (hb hby at_241) (by decide) (by decide) ?_
            have hz182 : (own_w31 c0 c1 c2) = (1 : Int32) := by simp [own_w31, own_k, hc207_176, hc229_178, hc237_181]
            have hj182 := J245 _ _ X180 e180 N180
            rw [hz182] at hj182
            exact hj182
          · skip
            refine own_ifYes X180 hx (pc' := 244) (hb hby at_237) (feq hc237_181).2 (by decide) (by decide) ?_
            refine own_iconst X180 hx (pc' := 245) (0 : Int32) (hb hby at_244) rfl rfl ?_
            have hz183 : (own_w31 c0 c1 c2) = (0 : Int32) := by simp [own_w31, own_k, hc207_176, hc229_178, hc237_181]
            have hj183 := J245 _ _ X180 e180 N180
            rw [hz183] at hj183
            exact hj183
      · skip
        refine own_ifNo X175 hx (pc' := 210) (hb hby at_207) (feq hc207_176).1 rfl ?_
        refine own_iload X175 hx (pc' := 212) (hb hby at_210) rfl rfl ?_
        refine own_iconst X175 hx (pc' := 213) (2 : Int32) (hb hby at_212) rfl rfl ?_
        refine own_icmpNo X175 hx (pc' := 216) (hb hby at_213) (tlt (by decide : (2 : Int32) < (3 : Int32))).2.2.2 rfl ?_
        refine own_iload X175 hx (pc' := 218) (hb hby at_216) rfl rfl ?_
        refine own_cSI X175 hx (pc' := 221) hZ hown (Wd62 hw) (Wd63 hw) (Wd2 hw) (Wd64 hw) (rm_lo l Z a0 hw []  c2 T149.heap n0 Z151  ) e175 N175 hml pd_10 (hb hby at_218) 0 [(.int c2)] [] (fun T184 L184 X184 e184 N184 => ?_)
        by_cases hc221_185 : (own_loI c2) = (0 : Int32)
        · skip
          refine own_ifYes X184 hx (pc' := 240) (hb hby at_221) (teq hc221_185).1 (by decide) (by decide) ?_
          refine own_iconst X184 hx (pc' := 241) (1 : Int32) (hb hby at_240) rfl rfl ?_
          refine own_goto X184 hx (pc' := 245) (hb hby at_241) (by decide) (by decide) ?_
          have hz186 : (own_w31 c0 c1 c2) = (1 : Int32) := by simp [own_w31, own_k, hc207_176, hc221_185]
          have hj186 := J245 _ _ X184 e184 N184
          rw [hz186] at hj186
          exact hj186
        · skip
          refine own_ifNo X184 hx (pc' := 224) (hb hby at_221) (feq hc221_185).1 rfl ?_
          refine own_iload X184 hx (pc' := 226) (hb hby at_224) rfl rfl ?_
          refine own_cSI X184 hx (pc' := 229) hZ hown (Wd62 hw) (Wd63 hw) (Wd2 hw) (Wd64 hw) (rm_lo l Z a0 hw []  c1 T149.heap n0 Z151  ) e184 N184 hml pd_10 (hb hby at_226) 0 [(.int c1)] [] (fun T187 L187 X187 e187 N187 => ?_)
          by_cases hc229_188 : (own_loI c1) = (0 : Int32)
          · skip
            refine own_ifYes X187 hx (pc' := 244) (hb hby at_229) (teq hc229_188).1 (by decide) (by decide) ?_
            refine own_iconst X187 hx (pc' := 245) (0 : Int32) (hb hby at_244) rfl rfl ?_
            have hz189 : (own_w31 c0 c1 c2) = (0 : Int32) := by simp [own_w31, own_k, hc207_176, hc221_185, hc229_188]
            have hj189 := J245 _ _ X187 e187 N187
            rw [hz189] at hj189
            exact hj189
          · skip
            refine own_ifNo X187 hx (pc' := 232) (hb hby at_229) (feq hc229_188).1 rfl ?_
            refine own_iload X187 hx (pc' := 234) (hb hby at_232) rfl rfl ?_
            refine own_cSI X187 hx (pc' := 237) hZ hown (Wd59 hw) (Wd60 hw) (Wd2 hw) (Wd61 hw) (rm_hi l Z a0 hw []  c0 T149.heap n0 Z151  ) e187 N187 hml pd_10 (hb hby at_234) 0 [(.int c0)] [] (fun T190 L190 X190 e190 N190 => ?_)
            by_cases hc237_191 : (own_hiI c0) = (0 : Int32)
            · skip
              refine own_ifNo X190 hx (pc' := 240) (hb hby at_237) (teq hc237_191).2 rfl ?_
              refine own_iconst X190 hx (pc' := 241) (1 : Int32) (hb hby at_240) rfl rfl ?_
              refine own_goto X190 hx (pc' := 245) (hb hby at_241) (by decide) (by decide) ?_
              have hz192 : (own_w31 c0 c1 c2) = (1 : Int32) := by simp [own_w31, own_k, hc207_176, hc221_185, hc229_188, hc237_191]
              have hj192 := J245 _ _ X190 e190 N190
              rw [hz192] at hj192
              exact hj192
            · skip
              refine own_ifYes X190 hx (pc' := 244) (hb hby at_237) (feq hc237_191).2 (by decide) (by decide) ?_
              refine own_iconst X190 hx (pc' := 245) (0 : Int32) (hb hby at_244) rfl rfl ?_
              have hz193 : (own_w31 c0 c1 c2) = (0 : Int32) := by simp [own_w31, own_k, hc207_176, hc221_185, hc229_188, hc237_191]
              have hj193 := J245 _ _ X190 e190 N190
              rw [hz193] at hj193
              exact hj193
    refine own_iload X149 hx (pc' := 156) (hb hby at_154) rfl rfl ?_
    refine own_ifNo X149 hx (pc' := 159) (hb hby at_156) (tlt (by decide : (0 : Int32) < (3 : Int32))).2.2.2 rfl ?_
    refine own_iload X149 hx (pc' := 161) (hb hby at_159) rfl rfl ?_
    refine own_cSI X149 hx (pc' := 164) hZ hown (Wd59 hw) (Wd60 hw) (Wd2 hw) (Wd61 hw) (rm_hi l Z a0 hw []  c0 T149.heap n0 Z151  ) rfl N150 hml pd_10 (hb hby at_161) 0 [(.int c0)] [] (fun T194 L194 X194 e194 N194 => ?_)
    by_cases hc164_195 : (own_hiI c0) = (0 : Int32)
    · skip
      refine own_ifYes X194 hx (pc' := 181) (hb hby at_164) (teq hc164_195).1 (by decide) (by decide) ?_
      refine own_iload X194 hx (pc' := 183) (hb hby at_181) rfl rfl ?_
      refine own_cSI X194 hx (pc' := 186) hZ hown (Wd62 hw) (Wd63 hw) (Wd2 hw) (Wd64 hw) (rm_lo l Z a0 hw []  c0 T149.heap n0 Z151  ) e194 N194 hml pd_10 (hb hby at_183) 0 [(.int c0)] [] (fun T196 L196 X196 e196 N196 => ?_)
      by_cases hc186_197 : (own_loI c0) = (0 : Int32)
      · skip
        refine own_ifYes X196 hx (pc' := 193) (hb hby at_186) (teq hc186_197).1 (by decide) (by decide) ?_
        refine own_iconst X196 hx (pc' := 194) (0 : Int32) (hb hby at_193) rfl rfl ?_
        have hz198 : (own_w30 c0 c1) = (0 : Int32) := by simp [own_w30, own_k, hc164_195, hc186_197]
        have hj198 := J194 _ _ X196 e196 N196
        rw [hz198] at hj198
        exact hj198
      · skip
        refine own_ifNo X196 hx (pc' := 189) (hb hby at_186) (feq hc186_197).1 rfl ?_
        refine own_iconst X196 hx (pc' := 190) (1 : Int32) (hb hby at_189) rfl rfl ?_
        refine own_goto X196 hx (pc' := 194) (hb hby at_190) (by decide) (by decide) ?_
        have hz199 : (own_w30 c0 c1) = (1 : Int32) := by simp [own_w30, own_k, hc164_195, hc186_197]
        have hj199 := J194 _ _ X196 e196 N196
        rw [hz199] at hj199
        exact hj199
    · skip
      refine own_ifNo X194 hx (pc' := 167) (hb hby at_164) (feq hc164_195).1 rfl ?_
      refine own_iload X194 hx (pc' := 169) (hb hby at_167) rfl rfl ?_
      refine own_iconst X194 hx (pc' := 170) (1 : Int32) (hb hby at_169) rfl rfl ?_
      refine own_icmpNo X194 hx (pc' := 173) (hb hby at_170) (tlt (by decide : (1 : Int32) < (3 : Int32))).2.2.2 rfl ?_
      refine own_iload X194 hx (pc' := 175) (hb hby at_173) rfl rfl ?_
      refine own_cSI X194 hx (pc' := 178) hZ hown (Wd62 hw) (Wd63 hw) (Wd2 hw) (Wd64 hw) (rm_lo l Z a0 hw []  c1 T149.heap n0 Z151  ) e194 N194 hml pd_10 (hb hby at_175) 0 [(.int c1)] [] (fun T200 L200 X200 e200 N200 => ?_)
      by_cases hc178_201 : (own_loI c1) = (0 : Int32)
      · skip
        refine own_ifYes X200 hx (pc' := 189) (hb hby at_178) (teq hc178_201).1 (by decide) (by decide) ?_
        refine own_iconst X200 hx (pc' := 190) (1 : Int32) (hb hby at_189) rfl rfl ?_
        refine own_goto X200 hx (pc' := 194) (hb hby at_190) (by decide) (by decide) ?_
        have hz202 : (own_w30 c0 c1) = (1 : Int32) := by simp [own_w30, own_k, hc164_195, hc178_201]
        have hj202 := J194 _ _ X200 e200 N200
        rw [hz202] at hj202
        exact hj202
      · skip
        refine own_ifNo X200 hx (pc' := 181) (hb hby at_178) (feq hc178_201).1 rfl ?_
        refine own_iload X200 hx (pc' := 183) (hb hby at_181) rfl rfl ?_
        refine own_cSI X200 hx (pc' := 186) hZ hown (Wd62 hw) (Wd63 hw) (Wd2 hw) (Wd64 hw) (rm_lo l Z a0 hw []  c0 T149.heap n0 Z151  ) e200 N200 hml pd_10 (hb hby at_183) 0 [(.int c0)] [] (fun T203 L203 X203 e203 N203 => ?_)
        by_cases hc186_204 : (own_loI c0) = (0 : Int32)
        · skip
          refine own_ifYes X203 hx (pc' := 193) (hb hby at_186) (teq hc186_204).1 (by decide) (by decide) ?_
          refine own_iconst X203 hx (pc' := 194) (0 : Int32) (hb hby at_193) rfl rfl ?_
          have hz205 : (own_w30 c0 c1) = (0 : Int32) := by simp [own_w30, own_k, hc164_195, hc178_201, hc186_204]
          have hj205 := J194 _ _ X203 e203 N203
          rw [hz205] at hj205
          exact hj205
        · skip
          refine own_ifNo X203 hx (pc' := 189) (hb hby at_186) (feq hc186_204).1 rfl ?_
          refine own_iconst X203 hx (pc' := 190) (1 : Int32) (hb hby at_189) rfl rfl ?_
          refine own_goto X203 hx (pc' := 194) (hb hby at_190) (by decide) (by decide) ?_
          have hz206 : (own_w30 c0 c1) = (1 : Int32) := by simp [own_w30, own_k, hc164_195, hc178_201, hc186_204]
          have hj206 := J194 _ _ X203 e203 N203
          rw [hz206] at hj206
          exact hj206
  · rw [hk]
    refine own_iload X7 hx (pc' := 35) (hb hby at_33) rfl rfl ?_
    refine own_ifYes X7 hx (pc' := 46) (hb hby at_35) (feq (by decide : ¬ ((4 : Int32) = (0 : Int32)))).2 (by decide) (by decide) ?_
    refine own_iload X7 hx (pc' := 48) (hb hby at_46) rfl rfl ?_
    refine own_iconst X7 hx (pc' := 49) (1 : Int32) (hb hby at_48) rfl rfl ?_
    refine own_icmpYes X7 hx (pc' := 65) (hb hby at_49) (feq (by decide : ¬ ((4 : Int32) = (1 : Int32)))).2 (by decide) (by decide) ?_
    refine own_iload X7 hx (pc' := 67) (hb hby at_65) rfl rfl ?_
    refine own_iconst X7 hx (pc' := 68) (2 : Int32) (hb hby at_67) rfl rfl ?_
    refine own_icmpYes X7 hx (pc' := 89) (hb hby at_68) (feq (by decide : ¬ ((4 : Int32) = (2 : Int32)))).2 (by decide) (by decide) ?_
    refine own_iload X7 hx (pc' := 91) (hb hby at_89) rfl rfl ?_
    refine own_iconst X7 hx (pc' := 92) (3 : Int32) (hb hby at_91) rfl rfl ?_
    refine own_icmpYes X7 hx (pc' := 118) (hb hby at_92) (feq (by decide : ¬ ((4 : Int32) = (3 : Int32)))).2 (by decide) (by decide) ?_
    refine own_iconst X7 hx (pc' := 119) (4 : Int32) (hb hby at_118) rfl rfl ?_
    refine own_newP X7 hx (pc' := 121) hZ (aty := .char) (Wd7 hw) e7 (hb hby at_119) (by decide) 4 (by decide) (by decide) (by decide) (by decide) rfl (fun T207 h207 kc207 nb207 g207 X207 e207 E207 A207 => ?_)
    have ge_nb207 : n0 ≤ nb207 := Nat.le_trans Z0 (Nat.le_of_eq g207.symm)
    have Z208 : n0 ≤ h207.size := Nat.le_trans Z0 E207.1
    have F209 := (B_ST.ext E207)
    have V210a : Arv Z h207 nb207 kc207 .char (4 : Int32) [] (.int (0 : Int32)) := Arv.new A207 (by decide)
    have V210b : Arv Z h207 nb207 kc207 .char (4 : Int32) (List.replicate 4 (.int (0 : Int32))) (.int (0 : Int32)) := V210a.pad (pad_rep [] _ 4)
    have V210 : Arv Z h207 nb207 kc207 .char (4 : Int32) [(.int (0 : Int32)), (.int (0 : Int32)), (.int (0 : Int32)), (.int (0 : Int32))] (.int (0 : Int32)) := V210b
    refine own_dup X207 hx (pc' := 122) (hb hby at_121) rfl rfl ?_
    refine own_iconst X207 hx (pc' := 123) (0 : Int32) (hb hby at_122) rfl rfl ?_
    refine own_iload X207 hx (pc' := 125) (hb hby at_123) rfl rfl ?_
    obtain ⟨cl211, Ar211, q211, S211, M211, H211, G211⟩ := id V210
    refine own_stC X207 hx (pc' := 126) hZ e207 Ar211 (inb_of S211 ⟨by decide, by decide⟩) (hb hby at_125) rfl (fun T212 h212 X212 e212 W212 => ?_)
    have N213 := Fr.snoc X212 N8 ge_nb207
    have Z214 : n0 ≤ h212.size := Nat.le_trans Z208 (Nat.le_of_eq (Wr.size W212).symm)
    have F215 := (F209.wr W212 ge_nb207)
    have F216 : Arv Z h212 nb207 kc207 .char (4 : Int32) [(.int (nar .char c0)), (.int (0 : Int32)), (.int (0 : Int32)), (.int (0 : Int32))] (.int (0 : Int32)) := (Arv.set Ar211 q211 S211 M211 H211 G211 (fits_nar_char _) W212 0 rfl (Nat.le_of_ble_eq_true rfl))
    refine own_dup X212 hx (pc' := 127) (hb hby at_126) rfl rfl ?_
    refine own_iconst X212 hx (pc' := 128) (1 : Int32) (hb hby at_127) rfl rfl ?_
    refine own_iload X212 hx (pc' := 130) (hb hby at_128) rfl rfl ?_
    obtain ⟨cl217, Ar217, q217, S217, M217, H217, G217⟩ := id F216
    refine own_stC X212 hx (pc' := 131) hZ e212 Ar217 (inb_of S217 ⟨by decide, by decide⟩) (hb hby at_130) rfl (fun T218 h218 X218 e218 W218 => ?_)
    have N219 := Fr.snoc X218 N213 ge_nb207
    have Z220 : n0 ≤ h218.size := Nat.le_trans Z214 (Nat.le_of_eq (Wr.size W218).symm)
    have F221 := (F215.wr W218 ge_nb207)
    have F222 : Arv Z h218 nb207 kc207 .char (4 : Int32) [(.int (nar .char c0)), (.int (nar .char c1)), (.int (0 : Int32)), (.int (0 : Int32))] (.int (0 : Int32)) := (Arv.set Ar217 q217 S217 M217 H217 G217 (fits_nar_char _) W218 1 rfl (Nat.le_of_ble_eq_true rfl))
    refine own_dup X218 hx (pc' := 132) (hb hby at_131) rfl rfl ?_
    refine own_iconst X218 hx (pc' := 133) (2 : Int32) (hb hby at_132) rfl rfl ?_
    refine own_iload X218 hx (pc' := 135) (hb hby at_133) rfl rfl ?_
    obtain ⟨cl223, Ar223, q223, S223, M223, H223, G223⟩ := id F222
    refine own_stC X218 hx (pc' := 136) hZ e218 Ar223 (inb_of S223 ⟨by decide, by decide⟩) (hb hby at_135) rfl (fun T224 h224 X224 e224 W224 => ?_)
    have N225 := Fr.snoc X224 N219 ge_nb207
    have Z226 : n0 ≤ h224.size := Nat.le_trans Z220 (Nat.le_of_eq (Wr.size W224).symm)
    have F227 := (F221.wr W224 ge_nb207)
    have F228 : Arv Z h224 nb207 kc207 .char (4 : Int32) [(.int (nar .char c0)), (.int (nar .char c1)), (.int (nar .char c2)), (.int (0 : Int32))] (.int (0 : Int32)) := (Arv.set Ar223 q223 S223 M223 H223 G223 (fits_nar_char _) W224 2 rfl (Nat.le_of_ble_eq_true rfl))
    refine own_dup X224 hx (pc' := 137) (hb hby at_136) rfl rfl ?_
    refine own_iconst X224 hx (pc' := 138) (3 : Int32) (hb hby at_137) rfl rfl ?_
    refine own_iload X224 hx (pc' := 140) (hb hby at_138) rfl rfl ?_
    obtain ⟨cl229, Ar229, q229, S229, M229, H229, G229⟩ := id F228
    refine own_stC X224 hx (pc' := 141) hZ e224 Ar229 (inb_of S229 ⟨by decide, by decide⟩) (hb hby at_140) rfl (fun T230 h230 X230 e230 W230 => ?_)
    have N231 := Fr.snoc X230 N225 ge_nb207
    have Z232 : n0 ≤ h230.size := Nat.le_trans Z226 (Nat.le_of_eq (Wr.size W230).symm)
    have F233 := (F227.wr W230 ge_nb207)
    have F234 : Arv Z h230 nb207 kc207 .char (4 : Int32) [(.int (nar .char c0)), (.int (nar .char c1)), (.int (nar .char c2)), (.int (nar .char c3))] (.int (0 : Int32)) := (Arv.set Ar229 q229 S229 M229 H229 G229 (fits_nar_char _) W230 3 rfl (Nat.le_of_ble_eq_true rfl))
    refine own_astore X230 hx (pc' := 143) (Ls' := #[.val (.int p0), .val (.int p1), .val (.int p2), .val (.int p3), .val (.int p4), .val (.int (4 : Int32)), .val (.int c0), .val (.int c1), .val (.int c2), .val (.int c3), .val (.ref nb207), .unset, .unset, .unset, .unset, .unset, .unset]) (hb hby at_141) rfl rfl rfl ?_
    refine own_new X230 hx (pc' := 146) hZ hown (Wd8 hw) (Wd9 hw) (Wd10 hw) e230 (hb hby at_143) (by decide) (by decide) rfl (fun T235 h235 nb235 g235 X235 e235 E235 A235 D235 => ?_)
    have ne_nb207_nb235_236 : nb207 ≠ nb235 := Nat.ne_of_lt (Nat.lt_of_lt_of_le F234.lt (Nat.le_of_eq g235.symm))
    have ge_nb235 : n0 ≤ nb235 := Nat.le_trans Z232 (Nat.le_of_eq g235.symm)
    have Z237 : n0 ≤ h235.size := Nat.le_trans Z232 E235.1
    have F238 := (F233.ext E235)
    have F239 := (F234.ext E235)
    have F240 : Fld Z h235 nb235 "java/lang/String" "value" "[B" .null := D235 (Or.inr (Wd23 hw)) (ty := (.array .byte)) (by decide)
    have F241 : Fld Z h235 nb235 "java/lang/String" "coder" "B" (.int (0 : Int32)) := D235 (Or.inr (Wd24 hw)) (ty := .byte) (by decide)
    refine own_dup X235 hx (pc' := 147) (hb hby at_146) rfl rfl ?_
    refine own_aload X235 hx (pc' := 149) (hb hby at_147) rfl rfl rfl ?_
    have V_c : Arv Z h235 nb207 kc207 .char (4 : Int32) [(.int c0), (.int c1), (.int c2), (.int c3)] (.int (0 : Int32)) := by have q := F239; rw [own_narc rc0, own_narc rc1, own_narc rc2, own_narc rc3] at q; exact q
    refine own_callI X235 hx (pc' := 152) hZ rfl hown (Wd11 hw) (Wd12 hw) (Wd13 hw) (Wd10 hw) (by decide) (rm_i1_4 l Z a0 hw [] cz sv hcz hsv nb235 nb207 kc207 c0 c1 c2 c3 h235 n0 Z237 ge_nb235 A235 F241 F240 rc0 rc1 rc2 rc3 V_c F238) e235 (b := nb235) 1 (by decide) (by decide) (by decide) (by decide) [(.ref nb207)] [(.ref nb235)] (by rw [hml]; rfl) (lenOf pd_19 rfl) rfl rfl (Nat.le_of_eq rfl) (hb hby at_149) rfl (fun v242 T242 L242 X242 hQ242 => ?_)
    obtain ⟨rfl, Nq242, K242, ba, kb, F_v, hF⟩ := hQ242
    have N243 := Fr.app N231 Nq242
    have Z244 : n0 ≤ T242.heap.size := Nat.le_trans Z237 K242.1
    have F245 := (F238.keep K242 (own_allge ge_nb235 (fun x hx => absurd hx List.not_mem_nil)))
    have F246 := (Exa.keep A235 K242)
    show own_G p.tables e below _ T242 (mkF m 152 #[.val (.int p0), .val (.int p1), .val (.int p2), .val (.int p3), .val (.int p4), .val (.int (4 : Int32)), .val (.int c0), .val (.int c1), .val (.int c2), .val (.int c3), .val (.ref nb207), .unset, .unset, .unset, .unset, .unset, .unset] [(.ref nb235)])
    refine own_astore X242 hx (pc' := 154) (Ls' := #[.val (.int p0), .val (.int p1), .val (.int p2), .val (.int p3), .val (.int p4), .val (.int (4 : Int32)), .val (.int c0), .val (.int c1), .val (.int c2), .val (.int c3), .val (.ref nb207), .val (.ref nb235), .unset, .unset, .unset, .unset, .unset]) (hb hby at_152) rfl rfl rfl ?_
    have J333 : ∀ (TJ : State) (locsJ : List Loc) (XJ : Stand p l e room_1 (s.setVm vm0) m #[(.int p0), (.int p1), (.int p2), (.int p3), (.int p4)] below meth c TJ locsJ 4 20) (eJ : TJ.heap = T242.heap) (NJ : Fr n0 locsJ), own_G p.tables e below (own_PW s (Q0 n0) 24 2176) TJ (mkF m 333 #[.val (.int p0), .val (.int p1), .val (.int p2), .val (.int p3), .val (.int p4), .val (.int (4 : Int32)), .val (.int c0), .val (.int c1), .val (.int c2), .val (.int c3), .val (.ref nb207), .val (.ref nb235), .val (.int (own_w40 c0 c1)), .val (.int (own_w41 c0 c1 c2)), .val (.int (own_w42 c1 c2 c3)), .unset, .unset] [(.int (own_w43 c2 c3))]) := by
      intro TJ locsJ XJ eJ NJ
      refine own_istore XJ hx (pc' := 335) (Ls' := #[.val (.int p0), .val (.int p1), .val (.int p2), .val (.int p3), .val (.int p4), .val (.int (4 : Int32)), .val (.int c0), .val (.int c1), .val (.int c2), .val (.int c3), .val (.ref nb207), .val (.ref nb235), .val (.int (own_w40 c0 c1)), .val (.int (own_w41 c0 c1 c2)), .val (.int (own_w42 c1 c2 c3)), .val (.int (own_w43 c2 c3)), .unset]) (hb hby at_333) rfl rfl ?_
      refine own_iload XJ hx (pc' := 337) (hb hby at_335) rfl rfl ?_
      by_cases hc337_247 : (own_w40 c0 c1) = (0 : Int32)
      · skip
        refine own_ifYes XJ hx (pc' := 346) (hb hby at_337) (teq hc337_247).1 (by decide) (by decide) ?_
        refine own_iload XJ hx (pc' := 348) (hb hby at_346) rfl rfl ?_
        by_cases hc348_248 : (own_w41 c0 c1 c2) = (0 : Int32)
        · skip
          refine own_ifYes XJ hx (pc' := 357) (hb hby at_348) (teq hc348_248).1 (by decide) (by decide) ?_
          refine own_iload XJ hx (pc' := 359) (hb hby at_357) rfl rfl ?_
          by_cases hc359_249 : (own_w42 c1 c2 c3) = (0 : Int32)
          · skip
            refine own_ifYes XJ hx (pc' := 368) (hb hby at_359) (teq hc359_249).1 (by decide) (by decide) ?_
            refine own_iload XJ hx (pc' := 370) (hb hby at_368) rfl rfl ?_
            by_cases hc370_250 : (own_w43 c2 c3) = (0 : Int32)
            · skip
              refine own_ifYes XJ hx (pc' := 379) (hb hby at_370) (teq hc370_250).1 (by decide) (by decide) ?_
              refine own_iconst XJ hx (pc' := 380) (-1 : Int32) (hb hby at_379) rfl rfl ?_
              refine own_istore XJ hx (pc' := 382) (Ls' := #[.val (.int p0), .val (.int p1), .val (.int p2), .val (.int p3), .val (.int p4), .val (.int (4 : Int32)), .val (.int c0), .val (.int c1), .val (.int c2), .val (.int c3), .val (.ref nb207), .val (.ref nb235), .val (.int (own_w40 c0 c1)), .val (.int (own_w41 c0 c1 c2)), .val (.int (own_w42 c1 c2 c3)), .val (.int (own_w43 c2 c3)), .val (.int (-1 : Int32))]) (hb hby at_380) rfl rfl ?_
              refine own_aload XJ hx (pc' := 384) (hb hby at_382) rfl rfl rfl ?_
              refine own_callSW (H := fun vm => True) XJ hx (pc' := 387) hZ hown (Wd29 hw) (Wd30 hw) (Wd31 hw) (Wd32 hw) (by decide) (rm_ls_4 l Z a0 hw [] cz sv hcz hsv nb235 ba kb c0 c1 c2 c3 T242.heap n0 Z244 F246 F_v hF rc0 rc1 rc2 rc3 F245) (fun _ => trivial) hs0 eJ (Nat.zero_le _) 0 (by decide) (by decide) (by decide) (by decide) [(.ref nb235)] [] (by rw [hml]; rfl) (lenOf pd_20 rfl) rfl rfl (Nat.le_of_eq rfl) (hb hby at_384) rfl (fun v251 T251 L251 X251 hZ hown hs251 hQ251 => ?_)
              obtain ⟨rfl, Nq251⟩ := hQ251
              have N252 := Fr.app NJ Nq251
              show own_G p.tables e below _ T251 (mkF m 387 #[.val (.int p0), .val (.int p1), .val (.int p2), .val (.int p3), .val (.int p4), .val (.int (4 : Int32)), .val (.int c0), .val (.int c1), .val (.int c2), .val (.int c3), .val (.ref nb207), .val (.ref nb235), .val (.int (own_w40 c0 c1)), .val (.int (own_w41 c0 c1 c2)), .val (.int (own_w42 c1 c2 c3)), .val (.int (own_w43 c2 c3)), .val (.int (-1 : Int32))] [(.int (own_lsL [c0, c1, c2, c3] 0))])
              rw [own_fin4, if_pos hc337_247, if_pos hc348_248, if_pos hc359_249, if_pos hc370_250]
              refine own_iload X251 hx (pc' := 389) (hb hby at_387) rfl rfl ?_
              refine own_icmpNo X251 hx (pc' := 392) (hb hby at_389) (teq rfl).2 rfl ?_
              refine own_iconst X251 hx (pc' := 393) (1 : Int32) (hb hby at_392) rfl rfl ?_
              refine own_goto X251 hx (pc' := 397) (hb hby at_393) (by decide) (by decide) ?_
              refine own_retNW X251 hs251 rfl (Nat.le_refl _) hx hlk hret (by simp) (hb hby at_397) (by decide) (by decide) ?_
              exact ⟨rfl, N252⟩
            · skip
              refine own_ifNo XJ hx (pc' := 373) (hb hby at_370) (feq hc370_250).1 rfl ?_
              refine own_iconst XJ hx (pc' := 374) (3 : Int32) (hb hby at_373) rfl rfl ?_
              refine own_istore XJ hx (pc' := 376) (Ls' := #[.val (.int p0), .val (.int p1), .val (.int p2), .val (.int p3), .val (.int p4), .val (.int (4 : Int32)), .val (.int c0), .val (.int c1), .val (.int c2), .val (.int c3), .val (.ref nb207), .val (.ref nb235), .val (.int (own_w40 c0 c1)), .val (.int (own_w41 c0 c1 c2)), .val (.int (own_w42 c1 c2 c3)), .val (.int (own_w43 c2 c3)), .val (.int (3 : Int32))]) (hb hby at_374) rfl rfl ?_
              refine own_goto XJ hx (pc' := 382) (hb hby at_376) (by decide) (by decide) ?_
              refine own_aload XJ hx (pc' := 384) (hb hby at_382) rfl rfl rfl ?_
              refine own_callSW (H := fun vm => True) XJ hx (pc' := 387) hZ hown (Wd29 hw) (Wd30 hw) (Wd31 hw) (Wd32 hw) (by decide) (rm_ls_4 l Z a0 hw [] cz sv hcz hsv nb235 ba kb c0 c1 c2 c3 T242.heap n0 Z244 F246 F_v hF rc0 rc1 rc2 rc3 F245) (fun _ => trivial) hs0 eJ (Nat.zero_le _) 0 (by decide) (by decide) (by decide) (by decide) [(.ref nb235)] [] (by rw [hml]; rfl) (lenOf pd_20 rfl) rfl rfl (Nat.le_of_eq rfl) (hb hby at_384) rfl (fun v253 T253 L253 X253 hZ hown hs253 hQ253 => ?_)
              obtain ⟨rfl, Nq253⟩ := hQ253
              have N254 := Fr.app NJ Nq253
              show own_G p.tables e below _ T253 (mkF m 387 #[.val (.int p0), .val (.int p1), .val (.int p2), .val (.int p3), .val (.int p4), .val (.int (4 : Int32)), .val (.int c0), .val (.int c1), .val (.int c2), .val (.int c3), .val (.ref nb207), .val (.ref nb235), .val (.int (own_w40 c0 c1)), .val (.int (own_w41 c0 c1 c2)), .val (.int (own_w42 c1 c2 c3)), .val (.int (own_w43 c2 c3)), .val (.int (3 : Int32))] [(.int (own_lsL [c0, c1, c2, c3] 0))])
              rw [own_fin4, if_pos hc337_247, if_pos hc348_248, if_pos hc359_249, if_neg hc370_250]
              refine own_iload X253 hx (pc' := 389) (hb hby at_387) rfl rfl ?_
              refine own_icmpNo X253 hx (pc' := 392) (hb hby at_389) (teq rfl).2 rfl ?_
              refine own_iconst X253 hx (pc' := 393) (1 : Int32) (hb hby at_392) rfl rfl ?_
              refine own_goto X253 hx (pc' := 397) (hb hby at_393) (by decide) (by decide) ?_
              refine own_retNW X253 hs253 rfl (Nat.le_refl _) hx hlk hret (by simp) (hb hby at_397) (by decide) (by decide) ?_
              exact ⟨rfl, N254⟩
          · skip
            refine own_ifNo XJ hx (pc' := 362) (hb hby at_359) (feq hc359_249).1 rfl ?_
            refine own_iconst XJ hx (pc' := 363) (2 : Int32) (hb hby at_362) rfl rfl ?_
            refine own_istore XJ hx (pc' := 365) (Ls' := #[.val (.int p0), .val (.int p1), .val (.int p2), .val (.int p3), .val (.int p4), .val (.int (4 : Int32)), .val (.int c0), .val (.int c1), .val (.int c2), .val (.int c3), .val (.ref nb207), .val (.ref nb235), .val (.int (own_w40 c0 c1)), .val (.int (own_w41 c0 c1 c2)), .val (.int (own_w42 c1 c2 c3)), .val (.int (own_w43 c2 c3)), .val (.int (2 : Int32))]) (hb hby at_363) rfl rfl ?_
            refine own_goto XJ hx (pc' := 382) (hb hby at_365) (by decide) (by decide) ?_
            refine own_aload XJ hx (pc' := 384) (hb hby at_382) rfl rfl rfl ?_
            refine own_callSW (H := fun vm => True) XJ hx (pc' := 387) hZ hown (Wd29 hw) (Wd30 hw) (Wd31 hw) (Wd32 hw) (by decide) (rm_ls_4 l Z a0 hw [] cz sv hcz hsv nb235 ba kb c0 c1 c2 c3 T242.heap n0 Z244 F246 F_v hF rc0 rc1 rc2 rc3 F245) (fun _ => trivial) hs0 eJ (Nat.zero_le _) 0 (by decide) (by decide) (by decide) (by decide) [(.ref nb235)] [] (by rw [hml]; rfl) (lenOf pd_20 rfl) rfl rfl (Nat.le_of_eq rfl) (hb hby at_384) rfl (fun v255 T255 L255 X255 hZ hown hs255 hQ255 => ?_)
            obtain ⟨rfl, Nq255⟩ := hQ255
            have N256 := Fr.app NJ Nq255
            show own_G p.tables e below _ T255 (mkF m 387 #[.val (.int p0), .val (.int p1), .val (.int p2), .val (.int p3), .val (.int p4), .val (.int (4 : Int32)), .val (.int c0), .val (.int c1), .val (.int c2), .val (.int c3), .val (.ref nb207), .val (.ref nb235), .val (.int (own_w40 c0 c1)), .val (.int (own_w41 c0 c1 c2)), .val (.int (own_w42 c1 c2 c3)), .val (.int (own_w43 c2 c3)), .val (.int (2 : Int32))] [(.int (own_lsL [c0, c1, c2, c3] 0))])
            rw [own_fin4, if_pos hc337_247, if_pos hc348_248, if_neg hc359_249]
            refine own_iload X255 hx (pc' := 389) (hb hby at_387) rfl rfl ?_
            refine own_icmpNo X255 hx (pc' := 392) (hb hby at_389) (teq rfl).2 rfl ?_
            refine own_iconst X255 hx (pc' := 393) (1 : Int32) (hb hby at_392) rfl rfl ?_
            refine own_goto X255 hx (pc' := 397) (hb hby at_393) (by decide) (by decide) ?_
            refine own_retNW X255 hs255 rfl (Nat.le_refl _) hx hlk hret (by simp) (hb hby at_397) (by decide) (by decide) ?_
            exact ⟨rfl, N256⟩
        · skip
          refine own_ifNo XJ hx (pc' := 351) (hb hby at_348) (feq hc348_248).1 rfl ?_
          refine own_iconst XJ hx (pc' := 352) (1 : Int32) (hb hby at_351) rfl rfl ?_
          refine own_istore XJ hx (pc' := 354) (Ls' := #[.val (.int p0), .val (.int p1), .val (.int p2), .val (.int p3), .val (.int p4), .val (.int (4 : Int32)), .val (.int c0), .val (.int c1), .val (.int c2), .val (.int c3), .val (.ref nb207), .val (.ref nb235), .val (.int (own_w40 c0 c1)), .val (.int (own_w41 c0 c1 c2)), .val (.int (own_w42 c1 c2 c3)), .val (.int (own_w43 c2 c3)), .val (.int (1 : Int32))]) (hb hby at_352) rfl rfl ?_
          refine own_goto XJ hx (pc' := 382) (hb hby at_354) (by decide) (by decide) ?_
          refine own_aload XJ hx (pc' := 384) (hb hby at_382) rfl rfl rfl ?_
          refine own_callSW (H := fun vm => True) XJ hx (pc' := 387) hZ hown (Wd29 hw) (Wd30 hw) (Wd31 hw) (Wd32 hw) (by decide) (rm_ls_4 l Z a0 hw [] cz sv hcz hsv nb235 ba kb c0 c1 c2 c3 T242.heap n0 Z244 F246 F_v hF rc0 rc1 rc2 rc3 F245) (fun _ => trivial) hs0 eJ (Nat.zero_le _) 0 (by decide) (by decide) (by decide) (by decide) [(.ref nb235)] [] (by rw [hml]; rfl) (lenOf pd_20 rfl) rfl rfl (Nat.le_of_eq rfl) (hb hby at_384) rfl (fun v257 T257 L257 X257 hZ hown hs257 hQ257 => ?_)
          obtain ⟨rfl, Nq257⟩ := hQ257
          have N258 := Fr.app NJ Nq257
          show own_G p.tables e below _ T257 (mkF m 387 #[.val (.int p0), .val (.int p1), .val (.int p2), .val (.int p3), .val (.int p4), .val (.int (4 : Int32)), .val (.int c0), .val (.int c1), .val (.int c2), .val (.int c3), .val (.ref nb207), .val (.ref nb235), .val (.int (own_w40 c0 c1)), .val (.int (own_w41 c0 c1 c2)), .val (.int (own_w42 c1 c2 c3)), .val (.int (own_w43 c2 c3)), .val (.int (1 : Int32))] [(.int (own_lsL [c0, c1, c2, c3] 0))])
          rw [own_fin4, if_pos hc337_247, if_neg hc348_248]
          refine own_iload X257 hx (pc' := 389) (hb hby at_387) rfl rfl ?_
          refine own_icmpNo X257 hx (pc' := 392) (hb hby at_389) (teq rfl).2 rfl ?_
          refine own_iconst X257 hx (pc' := 393) (1 : Int32) (hb hby at_392) rfl rfl ?_
          refine own_goto X257 hx (pc' := 397) (hb hby at_393) (by decide) (by decide) ?_
          refine own_retNW X257 hs257 rfl (Nat.le_refl _) hx hlk hret (by simp) (hb hby at_397) (by decide) (by decide) ?_
          exact ⟨rfl, N258⟩
      · skip
        refine own_ifNo XJ hx (pc' := 340) (hb hby at_337) (feq hc337_247).1 rfl ?_
        refine own_iconst XJ hx (pc' := 341) (0 : Int32) (hb hby at_340) rfl rfl ?_
        refine own_istore XJ hx (pc' := 343) (Ls' := #[.val (.int p0), .val (.int p1), .val (.int p2), .val (.int p3), .val (.int p4), .val (.int (4 : Int32)), .val (.int c0), .val (.int c1), .val (.int c2), .val (.int c3), .val (.ref nb207), .val (.ref nb235), .val (.int (own_w40 c0 c1)), .val (.int (own_w41 c0 c1 c2)), .val (.int (own_w42 c1 c2 c3)), .val (.int (own_w43 c2 c3)), .val (.int (0 : Int32))]) (hb hby at_341) rfl rfl ?_
        refine own_goto XJ hx (pc' := 382) (hb hby at_343) (by decide) (by decide) ?_
        refine own_aload XJ hx (pc' := 384) (hb hby at_382) rfl rfl rfl ?_
        refine own_callSW (H := fun vm => True) XJ hx (pc' := 387) hZ hown (Wd29 hw) (Wd30 hw) (Wd31 hw) (Wd32 hw) (by decide) (rm_ls_4 l Z a0 hw [] cz sv hcz hsv nb235 ba kb c0 c1 c2 c3 T242.heap n0 Z244 F246 F_v hF rc0 rc1 rc2 rc3 F245) (fun _ => trivial) hs0 eJ (Nat.zero_le _) 0 (by decide) (by decide) (by decide) (by decide) [(.ref nb235)] [] (by rw [hml]; rfl) (lenOf pd_20 rfl) rfl rfl (Nat.le_of_eq rfl) (hb hby at_384) rfl (fun v259 T259 L259 X259 hZ hown hs259 hQ259 => ?_)
        obtain ⟨rfl, Nq259⟩ := hQ259
        have N260 := Fr.app NJ Nq259
        show own_G p.tables e below _ T259 (mkF m 387 #[.val (.int p0), .val (.int p1), .val (.int p2), .val (.int p3), .val (.int p4), .val (.int (4 : Int32)), .val (.int c0), .val (.int c1), .val (.int c2), .val (.int c3), .val (.ref nb207), .val (.ref nb235), .val (.int (own_w40 c0 c1)), .val (.int (own_w41 c0 c1 c2)), .val (.int (own_w42 c1 c2 c3)), .val (.int (own_w43 c2 c3)), .val (.int (0 : Int32))] [(.int (own_lsL [c0, c1, c2, c3] 0))])
        rw [own_fin4, if_neg hc337_247]
        refine own_iload X259 hx (pc' := 389) (hb hby at_387) rfl rfl ?_
        refine own_icmpNo X259 hx (pc' := 392) (hb hby at_389) (teq rfl).2 rfl ?_
        refine own_iconst X259 hx (pc' := 393) (1 : Int32) (hb hby at_392) rfl rfl ?_
        refine own_goto X259 hx (pc' := 397) (hb hby at_393) (by decide) (by decide) ?_
        refine own_retNW X259 hs259 rfl (Nat.le_refl _) hx hlk hret (by simp) (hb hby at_397) (by decide) (by decide) ?_
        exact ⟨rfl, N260⟩
    have J296 : ∀ (TJ : State) (locsJ : List Loc) (XJ : Stand p l e room_1 (s.setVm vm0) m #[(.int p0), (.int p1), (.int p2), (.int p3), (.int p4)] below meth c TJ locsJ 4 20) (eJ : TJ.heap = T242.heap) (NJ : Fr n0 locsJ), own_G p.tables e below (own_PW s (Q0 n0) 24 2176) TJ (mkF m 296 #[.val (.int p0), .val (.int p1), .val (.int p2), .val (.int p3), .val (.int p4), .val (.int (4 : Int32)), .val (.int c0), .val (.int c1), .val (.int c2), .val (.int c3), .val (.ref nb207), .val (.ref nb235), .val (.int (own_w40 c0 c1)), .val (.int (own_w41 c0 c1 c2)), .unset, .unset, .unset] [(.int (own_w42 c1 c2 c3))]) := by
      intro TJ locsJ XJ eJ NJ
      refine own_istore XJ hx (pc' := 298) (Ls' := #[.val (.int p0), .val (.int p1), .val (.int p2), .val (.int p3), .val (.int p4), .val (.int (4 : Int32)), .val (.int c0), .val (.int c1), .val (.int c2), .val (.int c3), .val (.ref nb207), .val (.ref nb235), .val (.int (own_w40 c0 c1)), .val (.int (own_w41 c0 c1 c2)), .val (.int (own_w42 c1 c2 c3)), .unset, .unset]) (hb hby at_296) rfl rfl ?_
      refine own_iload XJ hx (pc' := 300) (hb hby at_298) rfl rfl ?_
      refine own_iconst XJ hx (pc' := 301) (3 : Int32) (hb hby at_300) rfl rfl ?_
      refine own_icmpNo XJ hx (pc' := 304) (hb hby at_301) (tlt (by decide : (3 : Int32) < (4 : Int32))).2.2.2 rfl ?_
      refine own_iload XJ hx (pc' := 306) (hb hby at_304) rfl rfl ?_
      refine own_cSI XJ hx (pc' := 309) hZ hown (Wd59 hw) (Wd60 hw) (Wd2 hw) (Wd61 hw) (rm_hi l Z a0 hw []  c3 T242.heap n0 Z244  ) eJ NJ hml pd_10 (hb hby at_306) 0 [(.int c3)] [] (fun T261 L261 X261 e261 N261 => ?_)
      by_cases hc309_262 : (own_hiI c3) = (0 : Int32)
      · skip
        refine own_ifNo X261 hx (pc' := 312) (hb hby at_309) (teq hc309_262).2 rfl ?_
        refine own_iload X261 hx (pc' := 314) (hb hby at_312) rfl rfl ?_
        refine own_cSI X261 hx (pc' := 317) hZ hown (Wd62 hw) (Wd63 hw) (Wd2 hw) (Wd64 hw) (rm_lo l Z a0 hw []  c3 T242.heap n0 Z244  ) e261 N261 hml pd_10 (hb hby at_314) 0 [(.int c3)] [] (fun T263 L263 X263 e263 N263 => ?_)
        by_cases hc317_264 : (own_loI c3) = (0 : Int32)
        · skip
          refine own_ifYes X263 hx (pc' := 332) (hb hby at_317) (teq hc317_264).1 (by decide) (by decide) ?_
          refine own_iconst X263 hx (pc' := 333) (0 : Int32) (hb hby at_332) rfl rfl ?_
          have hz265 : (own_w43 c2 c3) = (0 : Int32) := by simp [own_w43, own_k, hc309_262, hc317_264]
          have hj265 := J333 _ _ X263 e263 N263
          rw [hz265] at hj265
          exact hj265
        · skip
          refine own_ifNo X263 hx (pc' := 320) (hb hby at_317) (feq hc317_264).1 rfl ?_
          refine own_iload X263 hx (pc' := 322) (hb hby at_320) rfl rfl ?_
          refine own_cSI X263 hx (pc' := 325) hZ hown (Wd59 hw) (Wd60 hw) (Wd2 hw) (Wd61 hw) (rm_hi l Z a0 hw []  c2 T242.heap n0 Z244  ) e263 N263 hml pd_10 (hb hby at_322) 0 [(.int c2)] [] (fun T266 L266 X266 e266 N266 => ?_)
          by_cases hc325_267 : (own_hiI c2) = (0 : Int32)
          · skip
            refine own_ifNo X266 hx (pc' := 328) (hb hby at_325) (teq hc325_267).2 rfl ?_
            refine own_iconst X266 hx (pc' := 329) (1 : Int32) (hb hby at_328) rfl rfl ?_
            refine own_goto X266 hx (pc' := 333) (hb hby at_329) (by decide) (by decide) ?_
            have hz268 : (own_w43 c2 c3) = (1 : Int32) := by simp [own_w43, own_k, hc309_262, hc317_264, hc325_267]
            have hj268 := J333 _ _ X266 e266 N266
            rw [hz268] at hj268
            exact hj268
          · skip
            refine own_ifYes X266 hx (pc' := 332) (hb hby at_325) (feq hc325_267).2 (by decide) (by decide) ?_
            refine own_iconst X266 hx (pc' := 333) (0 : Int32) (hb hby at_332) rfl rfl ?_
            have hz269 : (own_w43 c2 c3) = (0 : Int32) := by simp [own_w43, own_k, hc309_262, hc317_264, hc325_267]
            have hj269 := J333 _ _ X266 e266 N266
            rw [hz269] at hj269
            exact hj269
      · skip
        refine own_ifYes X261 hx (pc' := 328) (hb hby at_309) (feq hc309_262).2 (by decide) (by decide) ?_
        refine own_iconst X261 hx (pc' := 329) (1 : Int32) (hb hby at_328) rfl rfl ?_
        refine own_goto X261 hx (pc' := 333) (hb hby at_329) (by decide) (by decide) ?_
        have hz270 : (own_w43 c2 c3) = (1 : Int32) := by simp [own_w43, own_k, hc309_262]
        have hj270 := J333 _ _ X261 e261 N261
        rw [hz270] at hj270
        exact hj270
    have J245 : ∀ (TJ : State) (locsJ : List Loc) (XJ : Stand p l e room_1 (s.setVm vm0) m #[(.int p0), (.int p1), (.int p2), (.int p3), (.int p4)] below meth c TJ locsJ 4 20) (eJ : TJ.heap = T242.heap) (NJ : Fr n0 locsJ), own_G p.tables e below (own_PW s (Q0 n0) 24 2176) TJ (mkF m 245 #[.val (.int p0), .val (.int p1), .val (.int p2), .val (.int p3), .val (.int p4), .val (.int (4 : Int32)), .val (.int c0), .val (.int c1), .val (.int c2), .val (.int c3), .val (.ref nb207), .val (.ref nb235), .val (.int (own_w40 c0 c1)), .unset, .unset, .unset, .unset] [(.int (own_w41 c0 c1 c2))]) := by
      intro TJ locsJ XJ eJ NJ
      refine own_istore XJ hx (pc' := 247) (Ls' := #[.val (.int p0), .val (.int p1), .val (.int p2), .val (.int p3), .val (.int p4), .val (.int (4 : Int32)), .val (.int c0), .val (.int c1), .val (.int c2), .val (.int c3), .val (.ref nb207), .val (.ref nb235), .val (.int (own_w40 c0 c1)), .val (.int (own_w41 c0 c1 c2)), .unset, .unset, .unset]) (hb hby at_245) rfl rfl ?_
      refine own_iload XJ hx (pc' := 249) (hb hby at_247) rfl rfl ?_
      refine own_iconst XJ hx (pc' := 250) (2 : Int32) (hb hby at_249) rfl rfl ?_
      refine own_icmpNo XJ hx (pc' := 253) (hb hby at_250) (tlt (by decide : (2 : Int32) < (4 : Int32))).2.2.2 rfl ?_
      refine own_iload XJ hx (pc' := 255) (hb hby at_253) rfl rfl ?_
      refine own_cSI XJ hx (pc' := 258) hZ hown (Wd59 hw) (Wd60 hw) (Wd2 hw) (Wd61 hw) (rm_hi l Z a0 hw []  c2 T242.heap n0 Z244  ) eJ NJ hml pd_10 (hb hby at_255) 0 [(.int c2)] [] (fun T271 L271 X271 e271 N271 => ?_)
      by_cases hc258_272 : (own_hiI c2) = (0 : Int32)
      · skip
        refine own_ifYes X271 hx (pc' := 275) (hb hby at_258) (teq hc258_272).1 (by decide) (by decide) ?_
        refine own_iload X271 hx (pc' := 277) (hb hby at_275) rfl rfl ?_
        refine own_cSI X271 hx (pc' := 280) hZ hown (Wd62 hw) (Wd63 hw) (Wd2 hw) (Wd64 hw) (rm_lo l Z a0 hw []  c2 T242.heap n0 Z244  ) e271 N271 hml pd_10 (hb hby at_277) 0 [(.int c2)] [] (fun T273 L273 X273 e273 N273 => ?_)
        by_cases hc280_274 : (own_loI c2) = (0 : Int32)
        · skip
          refine own_ifYes X273 hx (pc' := 295) (hb hby at_280) (teq hc280_274).1 (by decide) (by decide) ?_
          refine own_iconst X273 hx (pc' := 296) (0 : Int32) (hb hby at_295) rfl rfl ?_
          have hz275 : (own_w42 c1 c2 c3) = (0 : Int32) := by simp [own_w42, own_k, hc258_272, hc280_274]
          have hj275 := J296 _ _ X273 e273 N273
          rw [hz275] at hj275
          exact hj275
        · skip
          refine own_ifNo X273 hx (pc' := 283) (hb hby at_280) (feq hc280_274).1 rfl ?_
          refine own_iload X273 hx (pc' := 285) (hb hby at_283) rfl rfl ?_
          refine own_cSI X273 hx (pc' := 288) hZ hown (Wd59 hw) (Wd60 hw) (Wd2 hw) (Wd61 hw) (rm_hi l Z a0 hw []  c1 T242.heap n0 Z244  ) e273 N273 hml pd_10 (hb hby at_285) 0 [(.int c1)] [] (fun T276 L276 X276 e276 N276 => ?_)
          by_cases hc288_277 : (own_hiI c1) = (0 : Int32)
          · skip
            refine own_ifNo X276 hx (pc' := 291) (hb hby at_288) (teq hc288_277).2 rfl ?_
            refine own_iconst X276 hx (pc' := 292) (1 : Int32) (hb hby at_291) rfl rfl ?_
            refine own_goto X276 hx (pc' := 296) (hb hby at_292) (by decide) (by decide) ?_
            have hz278 : (own_w42 c1 c2 c3) = (1 : Int32) := by simp [own_w42, own_k, hc258_272, hc280_274, hc288_277]
            have hj278 := J296 _ _ X276 e276 N276
            rw [hz278] at hj278
            exact hj278
          · skip
            refine own_ifYes X276 hx (pc' := 295) (hb hby at_288) (feq hc288_277).2 (by decide) (by decide) ?_
            refine own_iconst X276 hx (pc' := 296) (0 : Int32) (hb hby at_295) rfl rfl ?_
            have hz279 : (own_w42 c1 c2 c3) = (0 : Int32) := by simp [own_w42, own_k, hc258_272, hc280_274, hc288_277]
            have hj279 := J296 _ _ X276 e276 N276
            rw [hz279] at hj279
            exact hj279
      · skip
        refine own_ifNo X271 hx (pc' := 261) (hb hby at_258) (feq hc258_272).1 rfl ?_
        refine own_iload X271 hx (pc' := 263) (hb hby at_261) rfl rfl ?_
        refine own_iconst X271 hx (pc' := 264) (3 : Int32) (hb hby at_263) rfl rfl ?_
        refine own_icmpNo X271 hx (pc' := 267) (hb hby at_264) (tlt (by decide : (3 : Int32) < (4 : Int32))).2.2.2 rfl ?_
        refine own_iload X271 hx (pc' := 269) (hb hby at_267) rfl rfl ?_
        refine own_cSI X271 hx (pc' := 272) hZ hown (Wd62 hw) (Wd63 hw) (Wd2 hw) (Wd64 hw) (rm_lo l Z a0 hw []  c3 T242.heap n0 Z244  ) e271 N271 hml pd_10 (hb hby at_269) 0 [(.int c3)] [] (fun T280 L280 X280 e280 N280 => ?_)
        by_cases hc272_281 : (own_loI c3) = (0 : Int32)
        · skip
          refine own_ifYes X280 hx (pc' := 291) (hb hby at_272) (teq hc272_281).1 (by decide) (by decide) ?_
          refine own_iconst X280 hx (pc' := 292) (1 : Int32) (hb hby at_291) rfl rfl ?_
          refine own_goto X280 hx (pc' := 296) (hb hby at_292) (by decide) (by decide) ?_
          have hz282 : (own_w42 c1 c2 c3) = (1 : Int32) := by simp [own_w42, own_k, hc258_272, hc272_281]
          have hj282 := J296 _ _ X280 e280 N280
          rw [hz282] at hj282
          exact hj282
        · skip
          refine own_ifNo X280 hx (pc' := 275) (hb hby at_272) (feq hc272_281).1 rfl ?_
          refine own_iload X280 hx (pc' := 277) (hb hby at_275) rfl rfl ?_
          refine own_cSI X280 hx (pc' := 280) hZ hown (Wd62 hw) (Wd63 hw) (Wd2 hw) (Wd64 hw) (rm_lo l Z a0 hw []  c2 T242.heap n0 Z244  ) e280 N280 hml pd_10 (hb hby at_277) 0 [(.int c2)] [] (fun T283 L283 X283 e283 N283 => ?_)
          by_cases hc280_284 : (own_loI c2) = (0 : Int32)
          · skip
            refine own_ifYes X283 hx (pc' := 295) (hb hby at_280) (teq hc280_284).1 (by decide) (by decide) ?_
            refine own_iconst X283 hx (pc' := 296) (0 : Int32) (hb hby at_295) rfl rfl ?_
            have hz285 : (own_w42 c1 c2 c3) = (0 : Int32) := by simp [own_w42, own_k, hc258_272, hc272_281, hc280_284]
            have hj285 := J296 _ _ X283 e283 N283
            rw [hz285] at hj285
            exact hj285
          · skip
            refine own_ifNo X283 hx (pc' := 283) (hb hby at_280) (feq hc280_284).1 rfl ?_
            refine own_iload X283 hx (pc' := 285) (hb hby at_283) rfl rfl ?_
            refine own_cSI X283 hx (pc' := 288) hZ hown (Wd59 hw) (Wd60 hw) (Wd2 hw) (Wd61 hw) (rm_hi l Z a0 hw []  c1 T242.heap n0 Z244  ) e283 N283 hml pd_10 (hb hby at_285) 0 [(.int c1)] [] (fun T286 L286 X286 e286 N286 => ?_)
            by_cases hc288_287 : (own_hiI c1) = (0 : Int32)
            · skip
              refine own_ifNo X286 hx (pc' := 291) (hb hby at_288) (teq hc288_287).2 rfl ?_
              refine own_iconst X286 hx (pc' := 292) (1 : Int32) (hb hby at_291) rfl rfl ?_
              refine own_goto X286 hx (pc' := 296) (hb hby at_292) (by decide) (by decide) ?_
              have hz288 : (own_w42 c1 c2 c3) = (1 : Int32) := by simp [own_w42, own_k, hc258_272, hc272_281, hc280_284, hc288_287]
              have hj288 := J296 _ _ X286 e286 N286
              rw [hz288] at hj288
              exact hj288
            · skip
              refine own_ifYes X286 hx (pc' := 295) (hb hby at_288) (feq hc288_287).2 (by decide) (by decide) ?_
              refine own_iconst X286 hx (pc' := 296) (0 : Int32) (hb hby at_295) rfl rfl ?_
              have hz289 : (own_w42 c1 c2 c3) = (0 : Int32) := by simp [own_w42, own_k, hc258_272, hc272_281, hc280_284, hc288_287]
              have hj289 := J296 _ _ X286 e286 N286
              rw [hz289] at hj289
              exact hj289
    have J194 : ∀ (TJ : State) (locsJ : List Loc) (XJ : Stand p l e room_1 (s.setVm vm0) m #[(.int p0), (.int p1), (.int p2), (.int p3), (.int p4)] below meth c TJ locsJ 4 20) (eJ : TJ.heap = T242.heap) (NJ : Fr n0 locsJ), own_G p.tables e below (own_PW s (Q0 n0) 24 2176) TJ (mkF m 194 #[.val (.int p0), .val (.int p1), .val (.int p2), .val (.int p3), .val (.int p4), .val (.int (4 : Int32)), .val (.int c0), .val (.int c1), .val (.int c2), .val (.int c3), .val (.ref nb207), .val (.ref nb235), .unset, .unset, .unset, .unset, .unset] [(.int (own_w40 c0 c1))]) := by
      intro TJ locsJ XJ eJ NJ
      refine own_istore XJ hx (pc' := 196) (Ls' := #[.val (.int p0), .val (.int p1), .val (.int p2), .val (.int p3), .val (.int p4), .val (.int (4 : Int32)), .val (.int c0), .val (.int c1), .val (.int c2), .val (.int c3), .val (.ref nb207), .val (.ref nb235), .val (.int (own_w40 c0 c1)), .unset, .unset, .unset, .unset]) (hb hby at_194) rfl rfl ?_
      refine own_iload XJ hx (pc' := 198) (hb hby at_196) rfl rfl ?_
      refine own_iconst XJ hx (pc' := 199) (1 : Int32) (hb hby at_198) rfl rfl ?_
      refine own_icmpNo XJ hx (pc' := 202) (hb hby at_199) (tlt (by decide : (1 : Int32) < (4 : Int32))).2.2.2 rfl ?_
      refine own_iload XJ hx (pc' := 204) (hb hby at_202) rfl rfl ?_
      refine own_cSI XJ hx (pc' := 207) hZ hown (Wd59 hw) (Wd60 hw) (Wd2 hw) (Wd61 hw) (rm_hi l Z a0 hw []  c1 T242.heap n0 Z244  ) eJ NJ hml pd_10 (hb hby at_204) 0 [(.int c1)] [] (fun T290 L290 X290 e290 N290 => ?_)
      by_cases hc207_291 : (own_hiI c1) = (0 : Int32)
      · skip
        refine own_ifYes X290 hx (pc' := 224) (hb hby at_207) (teq hc207_291).1 (by decide) (by decide) ?_
        refine own_iload X290 hx (pc' := 226) (hb hby at_224) rfl rfl ?_
        refine own_cSI X290 hx (pc' := 229) hZ hown (Wd62 hw) (Wd63 hw) (Wd2 hw) (Wd64 hw) (rm_lo l Z a0 hw []  c1 T242.heap n0 Z244  ) e290 N290 hml pd_10 (hb hby at_226) 0 [(.int c1)] [] (fun T292 L292 X292 e292 N292 => ?_)
        by_cases hc229_293 : (own_loI c1) = (0 : Int32)
        · skip
          refine own_ifYes X292 hx (pc' := 244) (hb hby at_229) (teq hc229_293).1 (by decide) (by decide) ?_
          refine own_iconst X292 hx (pc' := 245) (0 : Int32) (hb hby at_244) rfl rfl ?_
          have hz294 : (own_w41 c0 c1 c2) = (0 : Int32) := by simp [own_w41, own_k, hc207_291, hc229_293]
          have hj294 := J245 _ _ X292 e292 N292
          rw [hz294] at hj294
          exact hj294
        · skip
          refine own_ifNo X292 hx (pc' := 232) (hb hby at_229) (feq hc229_293).1 rfl ?_
          refine own_iload X292 hx (pc' := 234) (hb hby at_232) rfl rfl ?_
          refine own_cSI X292 hx (pc' := 237) hZ hown (Wd59 hw) (Wd60 hw) (Wd2 hw) (Wd61 hw) (rm_hi l Z a0 hw []  c0 T242.heap n0 Z244  ) e292 N292 hml pd_10 (hb hby at_234) 0 [(.int c0)] [] (fun T295 L295 X295 e295 N295 => ?_)
          by_cases hc237_296 : (own_hiI c0) = (0 : Int32)
          · skip
            refine own_ifNo X295 hx (pc' := 240) (hb hby at_237) (teq hc237_296).2 rfl ?_
            refine own_iconst X295 hx (pc' := 241) (1 : Int32) (hb hby at_240) rfl rfl ?_
            refine own_goto X295 hx (pc' := 245) (hb hby at_241) (by decide) (by decide) ?_
            have hz297 : (own_w41 c0 c1 c2) = (1 : Int32) := by simp [own_w41, own_k, hc207_291, hc229_293, hc237_296]
            have hj297 := J245 _ _ X295 e295 N295
            rw [hz297] at hj297
            exact hj297
          · skip
            refine own_ifYes X295 hx (pc' := 244) (hb hby at_237) (feq hc237_296).2 (by decide) (by decide) ?_
            refine own_iconst X295 hx (pc' := 245) (0 : Int32) (hb hby at_244) rfl rfl ?_
            have hz298 : (own_w41 c0 c1 c2) = (0 : Int32) := by simp [own_w41, own_k, hc207_291, hc229_293, hc237_296]
            have hj298 := J245 _ _ X295 e295 N295
            rw [hz298] at hj298
            exact hj298
      · skip
        refine own_ifNo X290 hx (pc' := 210) (hb hby at_207) (feq hc207_291).1 rfl ?_
        refine own_iload X290 hx (pc' := 212) (hb hby at_210) rfl rfl ?_
        refine own_iconst X290 hx (pc' := 213) (2 : Int32) (hb hby at_212) rfl rfl ?_
        refine own_icmpNo X290 hx (pc' := 216) (hb hby at_213) (tlt (by decide : (2 : Int32) < (4 : Int32))).2.2.2 rfl ?_
        refine own_iload X290 hx (pc' := 218) (hb hby at_216) rfl rfl ?_
        refine own_cSI X290 hx (pc' := 221) hZ hown (Wd62 hw) (Wd63 hw) (Wd2 hw) (Wd64 hw) (rm_lo l Z a0 hw []  c2 T242.heap n0 Z244  ) e290 N290 hml pd_10 (hb hby at_218) 0 [(.int c2)] [] (fun T299 L299 X299 e299 N299 => ?_)
        by_cases hc221_300 : (own_loI c2) = (0 : Int32)
        · skip
          refine own_ifYes X299 hx (pc' := 240) (hb hby at_221) (teq hc221_300).1 (by decide) (by decide) ?_
          refine own_iconst X299 hx (pc' := 241) (1 : Int32) (hb hby at_240) rfl rfl ?_
          refine own_goto X299 hx (pc' := 245) (hb hby at_241) (by decide) (by decide) ?_
          have hz301 : (own_w41 c0 c1 c2) = (1 : Int32) := by simp [own_w41, own_k, hc207_291, hc221_300]
          have hj301 := J245 _ _ X299 e299 N299
          rw [hz301] at hj301
          exact hj301
        · skip
          refine own_ifNo X299 hx (pc' := 224) (hb hby at_221) (feq hc221_300).1 rfl ?_
          refine own_iload X299 hx (pc' := 226) (hb hby at_224) rfl rfl ?_
          refine own_cSI X299 hx (pc' := 229) hZ hown (Wd62 hw) (Wd63 hw) (Wd2 hw) (Wd64 hw) (rm_lo l Z a0 hw []  c1 T242.heap n0 Z244  ) e299 N299 hml pd_10 (hb hby at_226) 0 [(.int c1)] [] (fun T302 L302 X302 e302 N302 => ?_)
          by_cases hc229_303 : (own_loI c1) = (0 : Int32)
          · skip
            refine own_ifYes X302 hx (pc' := 244) (hb hby at_229) (teq hc229_303).1 (by decide) (by decide) ?_
            refine own_iconst X302 hx (pc' := 245) (0 : Int32) (hb hby at_244) rfl rfl ?_
            have hz304 : (own_w41 c0 c1 c2) = (0 : Int32) := by simp [own_w41, own_k, hc207_291, hc221_300, hc229_303]
            have hj304 := J245 _ _ X302 e302 N302
            rw [hz304] at hj304
            exact hj304
          · skip
            refine own_ifNo X302 hx (pc' := 232) (hb hby at_229) (feq hc229_303).1 rfl ?_
            refine own_iload X302 hx (pc' := 234) (hb hby at_232) rfl rfl ?_
            refine own_cSI X302 hx (pc' := 237) hZ hown (Wd59 hw) (Wd60 hw) (Wd2 hw) (Wd61 hw) (rm_hi l Z a0 hw []  c0 T242.heap n0 Z244  ) e302 N302 hml pd_10 (hb hby at_234) 0 [(.int c0)] [] (fun T305 L305 X305 e305 N305 => ?_)
            by_cases hc237_306 : (own_hiI c0) = (0 : Int32)
            · skip
              refine own_ifNo X305 hx (pc' := 240) (hb hby at_237) (teq hc237_306).2 rfl ?_
              refine own_iconst X305 hx (pc' := 241) (1 : Int32) (hb hby at_240) rfl rfl ?_
              refine own_goto X305 hx (pc' := 245) (hb hby at_241) (by decide) (by decide) ?_
              have hz307 : (own_w41 c0 c1 c2) = (1 : Int32) := by simp [own_w41, own_k, hc207_291, hc221_300, hc229_303, hc237_306]
              have hj307 := J245 _ _ X305 e305 N305
              rw [hz307] at hj307
              exact hj307
            · skip
              refine own_ifYes X305 hx (pc' := 244) (hb hby at_237) (feq hc237_306).2 (by decide) (by decide) ?_
              refine own_iconst X305 hx (pc' := 245) (0 : Int32) (hb hby at_244) rfl rfl ?_
              have hz308 : (own_w41 c0 c1 c2) = (0 : Int32) := by simp [own_w41, own_k, hc207_291, hc221_300, hc229_303, hc237_306]
              have hj308 := J245 _ _ X305 e305 N305
              rw [hz308] at hj308
              exact hj308
    refine own_iload X242 hx (pc' := 156) (hb hby at_154) rfl rfl ?_
    refine own_ifNo X242 hx (pc' := 159) (hb hby at_156) (tlt (by decide : (0 : Int32) < (4 : Int32))).2.2.2 rfl ?_
    refine own_iload X242 hx (pc' := 161) (hb hby at_159) rfl rfl ?_
    refine own_cSI X242 hx (pc' := 164) hZ hown (Wd59 hw) (Wd60 hw) (Wd2 hw) (Wd61 hw) (rm_hi l Z a0 hw []  c0 T242.heap n0 Z244  ) rfl N243 hml pd_10 (hb hby at_161) 0 [(.int c0)] [] (fun T309 L309 X309 e309 N309 => ?_)
    by_cases hc164_310 : (own_hiI c0) = (0 : Int32)
    · skip
      refine own_ifYes X309 hx (pc' := 181) (hb hby at_164) (teq hc164_310).1 (by decide) (by decide) ?_
      refine own_iload X309 hx (pc' := 183) (hb hby at_181) rfl rfl ?_
      refine own_cSI X309 hx (pc' := 186) hZ hown (Wd62 hw) (Wd63 hw) (Wd2 hw) (Wd64 hw) (rm_lo l Z a0 hw []  c0 T242.heap n0 Z244  ) e309 N309 hml pd_10 (hb hby at_183) 0 [(.int c0)] [] (fun T311 L311 X311 e311 N311 => ?_)
      by_cases hc186_312 : (own_loI c0) = (0 : Int32)
      · skip
        refine own_ifYes X311 hx (pc' := 193) (hb hby at_186) (teq hc186_312).1 (by decide) (by decide) ?_
        refine own_iconst X311 hx (pc' := 194) (0 : Int32) (hb hby at_193) rfl rfl ?_
        have hz313 : (own_w40 c0 c1) = (0 : Int32) := by simp [own_w40, own_k, hc164_310, hc186_312]
        have hj313 := J194 _ _ X311 e311 N311
        rw [hz313] at hj313
        exact hj313
      · skip
        refine own_ifNo X311 hx (pc' := 189) (hb hby at_186) (feq hc186_312).1 rfl ?_
        refine own_iconst X311 hx (pc' := 190) (1 : Int32) (hb hby at_189) rfl rfl ?_
        refine own_goto X311 hx (pc' := 194) (hb hby at_190) (by decide) (by decide) ?_
        have hz314 : (own_w40 c0 c1) = (1 : Int32) := by simp [own_w40, own_k, hc164_310, hc186_312]
        have hj314 := J194 _ _ X311 e311 N311
        rw [hz314] at hj314
        exact hj314
    · skip
      refine own_ifNo X309 hx (pc' := 167) (hb hby at_164) (feq hc164_310).1 rfl ?_
      refine own_iload X309 hx (pc' := 169) (hb hby at_167) rfl rfl ?_
      refine own_iconst X309 hx (pc' := 170) (1 : Int32) (hb hby at_169) rfl rfl ?_
      refine own_icmpNo X309 hx (pc' := 173) (hb hby at_170) (tlt (by decide : (1 : Int32) < (4 : Int32))).2.2.2 rfl ?_
      refine own_iload X309 hx (pc' := 175) (hb hby at_173) rfl rfl ?_
      refine own_cSI X309 hx (pc' := 178) hZ hown (Wd62 hw) (Wd63 hw) (Wd2 hw) (Wd64 hw) (rm_lo l Z a0 hw []  c1 T242.heap n0 Z244  ) e309 N309 hml pd_10 (hb hby at_175) 0 [(.int c1)] [] (fun T315 L315 X315 e315 N315 => ?_)
      by_cases hc178_316 : (own_loI c1) = (0 : Int32)
      · skip
        refine own_ifYes X315 hx (pc' := 189) (hb hby at_178) (teq hc178_316).1 (by decide) (by decide) ?_
        refine own_iconst X315 hx (pc' := 190) (1 : Int32) (hb hby at_189) rfl rfl ?_
        refine own_goto X315 hx (pc' := 194) (hb hby at_190) (by decide) (by decide) ?_
        have hz317 : (own_w40 c0 c1) = (1 : Int32) := by simp [own_w40, own_k, hc164_310, hc178_316]
        have hj317 := J194 _ _ X315 e315 N315
        rw [hz317] at hj317
        exact hj317
      · skip
        refine own_ifNo X315 hx (pc' := 181) (hb hby at_178) (feq hc178_316).1 rfl ?_
        refine own_iload X315 hx (pc' := 183) (hb hby at_181) rfl rfl ?_
        refine own_cSI X315 hx (pc' := 186) hZ hown (Wd62 hw) (Wd63 hw) (Wd2 hw) (Wd64 hw) (rm_lo l Z a0 hw []  c0 T242.heap n0 Z244  ) e315 N315 hml pd_10 (hb hby at_183) 0 [(.int c0)] [] (fun T318 L318 X318 e318 N318 => ?_)
        by_cases hc186_319 : (own_loI c0) = (0 : Int32)
        · skip
          refine own_ifYes X318 hx (pc' := 193) (hb hby at_186) (teq hc186_319).1 (by decide) (by decide) ?_
          refine own_iconst X318 hx (pc' := 194) (0 : Int32) (hb hby at_193) rfl rfl ?_
          have hz320 : (own_w40 c0 c1) = (0 : Int32) := by simp [own_w40, own_k, hc164_310, hc178_316, hc186_319]
          have hj320 := J194 _ _ X318 e318 N318
          rw [hz320] at hj320
          exact hj320
        · skip
          refine own_ifNo X318 hx (pc' := 189) (hb hby at_186) (feq hc186_319).1 rfl ?_
          refine own_iconst X318 hx (pc' := 190) (1 : Int32) (hb hby at_189) rfl rfl ?_
          refine own_goto X318 hx (pc' := 194) (hb hby at_190) (by decide) (by decide) ?_
          have hz321 : (own_w40 c0 c1) = (1 : Int32) := by simp [own_w40, own_k, hc164_310, hc178_316, hc186_319]
          have hj321 := J194 _ _ X318 e318 N318
          rw [hz321] at hj321
          exact hj321

set_option maxRecDepth 65536 in
set_option maxHeartbeats 40000000 in
theorem comes_1 {Post : Tables → Env → Array Value → State → Outcome → State → Prop} (hpost : ∀ tb e args s v u, (limb_1_1.after args s (.returned v) u = true ∧ limb_1_2.after args s (.returned v) u = true ∧ True) → ReturnedEndW s (.returned v) u (Jvm.fieldLocs frame_1_writes args s ++ Jvm.arrayLocs frame_1_arrays args s ++ Jvm.staticLocs frame_1_statics s) 24 2176 → Post tb e args s (.returned v) u) :
    ArmFor flags0 classFile x code maxLocals ret World_1 tables_1 room_1 Calls_1 rest_1 Pre_1 Post := by
  intro l hfl _ _ p e ha hc hk s m args below hf hA hF happ hP
  obtain ⟨hcalls, hrest, hpre⟩ := hP
  obtain ⟨-, -, -, hnamed, -, -, -, hat⟩ := (Spec.applies_iff hf).mp happ
  obtain ⟨hg, hn⟩ := and_e (Cond.before_iff.mp (show (Jvm.Cond.and given_1 narrow_1).before args s = true from hpre))
  obtain ⟨hcnt, hg0⟩ := and_e hg
  obtain ⟨ha0, hg1⟩ := and_e hg0
  obtain ⟨ha1, hg2⟩ := and_e hg1
  obtain ⟨ha2, hg3⟩ := and_e hg2
  obtain ⟨ha3, hg4⟩ := and_e hg3
  obtain ⟨w0, w1, w2, w3, w4, rfl⟩ : ∃ w0 w1 w2 w3 w4 : Value, args = #[w0, w1, w2, w3, w4] := by
    have hs : args.size = 5 := by simpa [Cond.value, given_1] using hcnt
    obtain ⟨L⟩ := args
    match L, hs with
    | [w0, w1, w2, w3, w4], _ => exact ⟨w0, w1, w2, w3, w4, rfl⟩
  have hw := fun d (hd : d ∈ tables_1) => atoms_spec (ws := Jvm.Cond.code x code maxLocals ret :: tables_1) hat d (List.mem_cons_of_mem _ hd)
  have hfit : Fit s := fun {y c} hc i hi => by
    obtain ⟨ha, rfl⟩ := Array.getElem?_eq_some_iff.mp hc
    have q := List.all_eq_true.mp ((Array.all_eq_true_iff_forall_mem.mp hF) _ (Array.getElem_mem ha)) i (List.mem_range.mpr hi)
    simpa [Array.getElem?_eq_getElem hi] using q
  obtain ⟨i0, ei0⟩ := is_v ha0
  obtain rfl : w0 = (.int i0) := Option.some.inj ei0
  obtain ⟨i1, ei1⟩ := is_v ha1
  obtain rfl : w1 = (.int i1) := Option.some.inj ei1
  obtain ⟨i2, ei2⟩ := is_v ha2
  obtain rfl : w2 = (.int i2) := Option.some.inj ei2
  obtain ⟨i3, ei3⟩ := is_v ha3
  obtain rfl : w3 = (.int i3) := Option.some.inj ei3
  obtain ⟨i4, ei4⟩ := is_v hg4
  obtain rfl : w4 = (.int i4) := Option.some.inj ei4
  obtain ⟨j0, hr0⟩ := and_e (Cond.before_iff.mp (show rest_1_c.before _ s = true from hrest))
  obtain ⟨j1, hr1⟩ := and_e hr0
  obtain ⟨j2, hr2⟩ := and_e hr1
  obtain ⟨j3, hr3⟩ := and_e hr2
  obtain ⟨j4, hr4⟩ := and_e hr3
  obtain ⟨j5, hr5⟩ := and_e hr4
  obtain ⟨j6, hr6⟩ := and_e hr5
  obtain ⟨j7, hr7⟩ := and_e hr6
  obtain ⟨j8, hr8⟩ := and_e hr7
  obtain ⟨j9, hr9⟩ := and_e hr8
  obtain ⟨j10, hr10⟩ := and_e hr9
  obtain ⟨j11, hr11⟩ := and_e hr10
  obtain ⟨j12, hr12⟩ := and_e hr11
  obtain ⟨j13, hr13⟩ := and_e hr12
  obtain ⟨j14, hr14⟩ := and_e hr13
  obtain ⟨j15, hr15⟩ := and_e hr14
  obtain ⟨j16, hr16⟩ := and_e hr15
  obtain ⟨j17, hr17⟩ := and_e hr16
  obtain ⟨j18, hr18⟩ := and_e hr17
  obtain ⟨cz, ecz⟩ := is_v j1
  have hcz : ¬ cz = (0 : Int32) := fun q => by subst q; have q2 : ∀ aa, Term.eval aa s none [] s (Term.int (0 : Int32)) = some (.int 0) := fun _ => rfl; simp [Cond.value, ecz, q2] at j2
  obtain ⟨sv, esv, hsv⟩ := isR_v j8
  have B_ST : own_ST s.heap.size s s.heap cz sv := ⟨own_SB.start (Sta.start ecz (Or.inl (Cond.before_iff.mpr j0))), own_SB.start (Sta.start (Cond.eq_int (Cond.before_iff.mpr j12) rfl) (Or.inl (Cond.before_iff.mpr j11))), own_SB.start (Sta.start (Cond.eq_int (Cond.before_iff.mpr j15) rfl) (Or.inl (Cond.before_iff.mpr j14))), own_SB.start (Sta.start (Cond.eq_int (Cond.before_iff.mpr j18) rfl) (Or.inl (Cond.before_iff.mpr j17))), own_SB.start (Sta.start esv (Or.inl (Cond.before_iff.mpr j7)))⟩
  have hCH : CHv s own_EL s.vm s.heap := CHv.start (own_EW hw) (fun q hq => hcalls.1 q (List.mem_cons_of_mem _ hq)) (Cond.before_iff.mpr j2) (Wd22 hw) (Wd9 hw)
  obtain ⟨n, o, h1, h2, h3, _, L, rfl, ⟨rfl, N⟩, hq⟩ := rm0 l s _ hw tables_1 cz sv hcz hsv i0 i1 i2 i3 i4 s.heap s.heap.size (Nat.le_refl _) B_ST p e ha hc hk s m _ below hf ((Spec.applies_iff_loose hf).mp happ).1 ⟨rfl, State.Warmed39.refl s, rfl, hCH⟩ trivial
  refine ⟨n, _, h1, h2, h3, hpost _ _ _ _ _ _ ⟨Cond.after_iff.mpr rfl, Cond.after_iff.mpr (eq_i res_at (Term.int_eval (1)) rfl), trivial⟩ ⟨hq.1, hq.2.1, hq.2.2.1, (hq.2.2.2.sift fun y hy => Or.inr (N y hy)).mono (by decide) (by decide)⟩⟩
theorem main_1_1 : Claimed_1_1 := comes_1 fun _ _ _ _ _ _ h hF => ⟨h.1, hF⟩
theorem main_1_2 : Claimed_1_2 := comes_1 fun _ _ _ _ _ _ h hF => ⟨h.2.1, hF⟩
end Jvm.Pilot.@@N@@
namespace Jvm.Pilot.@@N@@
open Jvm Jvm.ClassFile Sem Op Lib Jvm.Free Jvm.Stand Jvm.Pilot.@@N@@.Jvm.D
/-! MADE BY PROGRAM (witnessworld.py) out of the Statement's table words and the real class files: 22 classes; the members and pool entries that the words name. The judged class is class 1, her method 4. -/
namespace start1
open Jvm.ClassFile
def u (s : String) : CpInfo := .utf8 (stringToUtf16 s)
/-- a pool by its gaps: so many unusable entries, then the entry; so many at the end -/
def gap : Nat → List CpInfo → List CpInfo
  | 0, r => r
  | n + 1, r => .unusable :: gap n r
def poolList (es : List (Nat × CpInfo)) (last : Nat) : List CpInfo := es.foldr (fun e r => gap e.1 (e.2 :: r)) (gap last [])
def pool (es : List (Nat × CpInfo)) (last : Nat) : Array CpInfo := ⟨poolList es last⟩
def fileOf (pool : Array CpInfo) (this : Nat) (attrs : Array Attribute := #[]) (ms : Array MethodInfo := #[]) (fl : Nat := 33) (sup : Nat := 0) (ifs : Array Nat := #[]) (fds : Array FieldInfo := #[]) : ClassFile where
  minorVersion := 0
  majorVersion := 65
  constantPool := pool
  accessFlags := fl
  thisClass := this
  superClass := sup
  interfaces := ifs
  fields := fds
  methods := ms
  attributes := attrs
def plain (name : String) (sup : Option ClassId) : Class where
  name := name
  kind := .ordinary
  loader := none
  accessFlags := 33
  super := sup
  interfaces := #[]
  cf := none
  fields := #[]
  methods := #[]
  instanceTypes := #[]
  staticTypes := #[]
  resolved := #[]
  callSites := []
  init := .initialized
  statics := none
  mirror := none

def pool0 : Array CpInfo := pool [(5, u "<init>"), (0, u "()V"), (1, .class_ 10), (1, u "java/lang/Object")] 113

def k0c0 : Code := { maxStack := 0, maxLocals := 1, code := object_method_1_code, exceptionTable := #[], attributes := #[] }
def k0m0 : Method := { name := "<init>", desc := "()V", sig := { parameters := [], returnType := none }, accessFlags := 1, code := some k0c0 }
/-- java/lang/Object -/
def k0 : Class := { plain "java/lang/Object" none with
  accessFlags := 33
  interfaces := #[]
  cf := some (fileOf pool0 8 #[] #[{ accessFlags := 1, nameIndex := 5, descriptorIndex := 6, attributes := #[] }] 33 0 #[] #[])
  fields := #[]
  methods := #[k0m0]
  instanceTypes := #[]
  staticTypes := #[]
  resolved := Array.replicate 124 none
  statics := none }

def pool1 : Array CpInfo := pool [(2, .class_ 4), (1, u "java/lang/Object"), (0, u "<init>"), (0, u "()V"), (0, .integer 55296), (0, .integer 56320), (0, .integer 65535), (0, .integer 56319), (0, .integer 57343), (0, .methodref 13 14), (0, .class_ 15), (0, .nameAndType 16 17), (0, u "com/example/rhadamanthus/rhadamanthus/util/Utf16LoneSurrogateIndexPinLaw"), (0, u "draw"), (0, u "(I)C"), (0, .class_ 19), (0, u "java/lang/String"), (0, .methodref 18 21), (0, .nameAndType 5 22), (0, u "([C)V"), (0, .methodref 13 24), (0, .nameAndType 25 26), (0, u "hi"), (0, u "(C)Z"), (0, .methodref 13 28), (0, .nameAndType 29 26), (0, u "lo"), (0, .methodref 31 32), (0, .class_ 33), (0, .nameAndType 34 35), (0, u "com/example/rhadamanthus/rhadamanthus/util/Utf16"), (0, u "loneSurrogateIndex"), (0, u "(Ljava/lang/String;)I"), (3, u "law"), (0, u "(IIIII)Z")] 4

def k1m0 : Method := { name := "<init>", desc := "()V", sig := { parameters := [], returnType := none }, accessFlags := 2, code := none }
def k1c1 : Code := { maxStack := 3, maxLocals := 3, code := method_2_code, exceptionTable := #[], attributes := #[] }
def k1m1 : Method := { name := "draw", desc := "(I)C", sig := { parameters := [.int], returnType := some .char }, accessFlags := 10, code := some k1c1 }
def k1c2 : Code := { maxStack := 2, maxLocals := 1, code := method_3_code, exceptionTable := #[], attributes := #[] }
def k1m2 : Method := { name := "hi", desc := "(C)Z", sig := { parameters := [.char], returnType := some .boolean }, accessFlags := 10, code := some k1c2 }
def k1c3 : Code := { maxStack := 2, maxLocals := 1, code := method_4_code, exceptionTable := #[], attributes := #[] }
def k1m3 : Method := { name := "lo", desc := "(C)Z", sig := { parameters := [.char], returnType := some .boolean }, accessFlags := 10, code := some k1c3 }
def k1c4 : Code := { maxStack := 4, maxLocals := 17, code := code, exceptionTable := #[], attributes := #[] }
def k1m4 : Method := { name := "law", desc := "(IIIII)Z", sig := { parameters := [.int, .int, .int, .int, .int], returnType := some .boolean }, accessFlags := 9, code := some k1c4 }
/-- com/example/rhadamanthus/rhadamanthus/util/Utf16LoneSurrogateIndexPinLaw -/
def k1 : Class := { plain "com/example/rhadamanthus/rhadamanthus/util/Utf16LoneSurrogateIndexPinLaw" (some 0) with
  accessFlags := 49
  interfaces := #[]
  cf := some (fileOf pool1 13 #[] #[{ accessFlags := 2, nameIndex := 5, descriptorIndex := 6, attributes := #[] }, { accessFlags := 10, nameIndex := 16, descriptorIndex := 17, attributes := #[] }, { accessFlags := 10, nameIndex := 25, descriptorIndex := 26, attributes := #[] }, { accessFlags := 10, nameIndex := 29, descriptorIndex := 26, attributes := #[] }, { accessFlags := 9, nameIndex := 39, descriptorIndex := 40, attributes := #[] }] 49 2 #[] #[])
  fields := #[]
  methods := #[k1m0, k1m1, k1m2, k1m3, k1m4]
  instanceTypes := #[]
  staticTypes := #[]
  resolved := Array.replicate 45 none
  statics := none }

def pool2 : Array CpInfo := pool [(1, .class_ 2), (0, u "java/io/Serializable"), (0, .class_ 4), (0, u "java/lang/Object")] 2

/-- java/io/Serializable -/
def k2 : Class := { plain "java/io/Serializable" (some 0) with
  accessFlags := 1537
  interfaces := #[]
  cf := some (fileOf pool2 1 #[] #[] 1537 3 #[] #[])
  fields := #[]
  methods := #[]
  instanceTypes := #[]
  staticTypes := #[]
  resolved := Array.replicate 7 none
  statics := none }

def pool3 : Array CpInfo := pool [(1, .class_ 2), (0, u "java/lang/Comparable"), (0, .class_ 4), (0, u "java/lang/Object")] 7

/-- java/lang/Comparable -/
def k3 : Class := { plain "java/lang/Comparable" (some 0) with
  accessFlags := 1537
  interfaces := #[]
  cf := some (fileOf pool3 1 #[] #[] 1537 3 #[] #[])
  fields := #[]
  methods := #[]
  instanceTypes := #[]
  staticTypes := #[]
  resolved := Array.replicate 12 none
  statics := none }

def pool4 : Array CpInfo := pool [(2, .class_ 4), (1, u "java/lang/CharSequence"), (42, .class_ 48), (0, u "java/lang/CharSequence$1CodePointIterator"), (10, .class_ 60), (0, u "java/lang/CharSequence$1CharIterator"), (5, .class_ 67), (0, u "java/lang/Object")] 63

/-- java/lang/CharSequence -/
def k4 : Class := { plain "java/lang/CharSequence" (some 0) with
  accessFlags := 1537
  interfaces := #[]
  cf := some (fileOf pool4 2 #[.nestMembers #[47, 59]] #[] 1537 66 #[] #[])
  fields := #[]
  methods := #[]
  instanceTypes := #[]
  staticTypes := #[]
  resolved := Array.replicate 131 none
  statics := none }

def pool5 : Array CpInfo := pool [(1, .class_ 2), (0, u "java/lang/constant/Constable"), (0, .class_ 4), (0, u "java/lang/Object")] 6

/-- java/lang/constant/Constable -/
def k5 : Class := { plain "java/lang/constant/Constable" (some 0) with
  accessFlags := 1537
  interfaces := #[]
  cf := some (fileOf pool5 1 #[] #[] 1537 3 #[] #[])
  fields := #[]
  methods := #[]
  instanceTypes := #[]
  staticTypes := #[]
  resolved := Array.replicate 11 none
  statics := none }

def pool6 : Array CpInfo := pool [(1, .class_ 2), (0, u "java/lang/constant/ConstantDesc"), (0, .class_ 4), (0, u "java/lang/Object")] 32

/-- java/lang/constant/ConstantDesc -/
def k6 : Class := { plain "java/lang/constant/ConstantDesc" (some 0) with
  accessFlags := 1537
  interfaces := #[]
  cf := some (fileOf pool6 1 #[] #[] 1537 3 #[] #[])
  fields := #[]
  methods := #[]
  instanceTypes := #[]
  staticTypes := #[]
  resolved := Array.replicate 37 none
  statics := none }

def pool7 : Array CpInfo := pool [(1, .methodref 2 3), (0, .class_ 4), (0, .nameAndType 5 6), (0, u "java/lang/Object"), (0, u "<init>"), (0, u "()V"), (0, .string 8), (0, u ""), (0, .fieldref 10 11), (0, .class_ 12), (0, .nameAndType 13 14), (0, u "java/lang/String"), (0, u "value"), (0, u "[B"), (0, .fieldref 10 16), (0, .nameAndType 17 18), (0, u "coder"), (0, u "B"), (2, u "hash"), (0, u "I"), (2, u "hashIsZero"), (0, u "Z"), (0, .methodref 10 28), (0, .nameAndType 5 29), (0, u "([CIILjava/lang/Void;)V"), (8, .fieldref 10 39), (0, .nameAndType 40 26), (0, u "COMPACT_STRINGS"), (1, .class_ 44), (1, u "java/lang/StringUTF16"), (0, u "compress"), (1, .methodref 42 48), (0, .nameAndType 49 50), (0, u "coderFromArrayLen"), (0, u "([BI)B"), (46, u "([BII)I"), (44, u "()Z"), (34, .methodref 42 178), (0, .nameAndType 45 179), (0, u "([CII)[B"), (154, u "()I"), (0, .methodref 10 336), (0, .nameAndType 17 337), (0, u "()B"), (53, u "(II)V"), (100, .methodref 10 493), (0, .nameAndType 494 142), (0, u "isLatin1"), (4, .methodref 10 500), (0, .nameAndType 501 391), (0, u "checkIndex"), (0, .methodref 42 503), (0, .nameAndType 504 97), (0, u "codePointAt"), (2, u "length"), (67, .class_ 576), (0, u "java/lang/CharSequence"), (22, u "CASE_INSENSITIVE_ORDER"), (0, u "Ljava/util/Comparator;"), (164, u "(I)I"), (244, u "([C)V"), (42, .fieldref 1054 1055), (0, .class_ 1056), (0, .nameAndType 1057 1058), (0, u "jdk/internal/util/Preconditions"), (0, u "SIOOBE_FORMATTER"), (0, u "Ljava/util/function/BiFunction;"), (0, .methodref 1054 1060), (0, .nameAndType 501 1061), (0, u "(IILjava/util/function/BiFunction;)I"), (39, u "serialPersistentFields"), (0, u "[Ljava/io/ObjectStreamField;"), (0, .class_ 1104), (0, u "java/lang/String$CaseInsensitiveComparator"), (1, .class_ 1107), (0, u "java/io/Serializable"), (0, .class_ 1109), (0, u "java/lang/Comparable"), (0, .class_ 1111), (0, u "java/lang/constant/Constable"), (0, .class_ 1113), (0, u "java/lang/constant/ConstantDesc"), (2, u "serialVersionUID"), (0, u "J"), (3, u "REPL"), (0, u "C"), (2, u "LATIN1"), (1, u "UTF16")] 323

def k7m0 : Method := { name := "<init>", desc := "()V", sig := { parameters := [], returnType := none }, accessFlags := 1, code := none }
def k7c1 : Code := { maxStack := 5, maxLocals := 2, code := jdk_42_method_3_code, exceptionTable := #[], attributes := #[] }
def k7m1 : Method := { name := "<init>", desc := "([C)V", sig := { parameters := [(.array .char)], returnType := none }, accessFlags := 1, code := some k7c1 }
def k7c2 : Code := { maxStack := 2, maxLocals := 1, code := jdk_42_method_54_code, exceptionTable := #[], attributes := #[] }
def k7m2 : Method := { name := "length", desc := "()I", sig := { parameters := [], returnType := some .int }, accessFlags := 1, code := some k7c2 }
def k7c3 : Code := { maxStack := 3, maxLocals := 3, code := jdk_42_method_57_code, exceptionTable := #[], attributes := #[] }
def k7m3 : Method := { name := "codePointAt", desc := "(I)I", sig := { parameters := [.int], returnType := some .int }, accessFlags := 1, code := some k7c3 }
def k7c4 : Code := { maxStack := 4, maxLocals := 6, code := jdk_42_method_149_code, exceptionTable := #[], attributes := #[] }
def k7m4 : Method := { name := "<init>", desc := "([CIILjava/lang/Void;)V", sig := { parameters := [(.array .char), .int, .int, (.object "java/lang/Void")], returnType := none }, accessFlags := 2, code := some k7c4 }
def k7c5 : Code := { maxStack := 1, maxLocals := 1, code := jdk_42_method_152_code, exceptionTable := #[], attributes := #[] }
def k7m5 : Method := { name := "coder", desc := "()B", sig := { parameters := [], returnType := some .byte }, accessFlags := 0, code := some k7c5 }
def k7c6 : Code := { maxStack := 1, maxLocals := 1, code := jdk_42_method_154_code, exceptionTable := #[], attributes := #[] }
def k7m6 : Method := { name := "isLatin1", desc := "()Z", sig := { parameters := [], returnType := some .boolean }, accessFlags := 0, code := some k7c6 }
def k7c7 : Code := { maxStack := 3, maxLocals := 2, code := jdk_42_method_155_code, exceptionTable := #[], attributes := #[] }
def k7m7 : Method := { name := "checkIndex", desc := "(II)V", sig := { parameters := [.int, .int], returnType := none }, accessFlags := 8, code := some k7c7 }
/-- java/lang/String -/
def k7 : Class := { plain "java/lang/String" (some 0) with
  accessFlags := 49
  interfaces := #[2, 3, 4, 5, 6]
  cf := some (fileOf pool7 10 #[.nestMembers #[1103]] #[{ accessFlags := 1, nameIndex := 5, descriptorIndex := 6, attributes := #[] }, { accessFlags := 1, nameIndex := 5, descriptorIndex := 1010, attributes := #[] }, { accessFlags := 1, nameIndex := 507, descriptorIndex := 334, attributes := #[] }, { accessFlags := 1, nameIndex := 504, descriptorIndex := 765, attributes := #[] }, { accessFlags := 2, nameIndex := 5, descriptorIndex := 29, attributes := #[] }, { accessFlags := 0, nameIndex := 17, descriptorIndex := 337, attributes := #[] }, { accessFlags := 0, nameIndex := 494, descriptorIndex := 142, attributes := #[] }, { accessFlags := 8, nameIndex := 501, descriptorIndex := 391, attributes := #[] }] 49 2 #[1106, 1108, 575, 1110, 1112] #[{ accessFlags := 18, nameIndex := 13, descriptorIndex := 14, attributes := #[] }, { accessFlags := 18, nameIndex := 17, descriptorIndex := 18, attributes := #[] }, { accessFlags := 2, nameIndex := 21, descriptorIndex := 22, attributes := #[] }, { accessFlags := 2, nameIndex := 25, descriptorIndex := 26, attributes := #[] }, { accessFlags := 26, nameIndex := 1116, descriptorIndex := 1117, attributes := #[] }, { accessFlags := 24, nameIndex := 40, descriptorIndex := 26, attributes := #[] }, { accessFlags := 26, nameIndex := 1101, descriptorIndex := 1102, attributes := #[] }, { accessFlags := 26, nameIndex := 1121, descriptorIndex := 1122, attributes := #[] }, { accessFlags := 25, nameIndex := 599, descriptorIndex := 600, attributes := #[] }, { accessFlags := 24, nameIndex := 1125, descriptorIndex := 18, attributes := #[] }, { accessFlags := 24, nameIndex := 1127, descriptorIndex := 18, attributes := #[] }])
  fields := #[{ name := "value", type := (.array .byte), accessFlags := 18, slot := 0, constantValue := 0 }, { name := "coder", type := .byte, accessFlags := 18, slot := 1, constantValue := 0 }, { name := "hash", type := .int, accessFlags := 2, slot := 2, constantValue := 0 }, { name := "hashIsZero", type := .boolean, accessFlags := 2, slot := 3, constantValue := 0 }, { name := "serialVersionUID", type := .long, accessFlags := 26, slot := 0, constantValue := 0 }, { name := "COMPACT_STRINGS", type := .boolean, accessFlags := 24, slot := 1, constantValue := 0 }, { name := "serialPersistentFields", type := (.array (.object "java/io/ObjectStreamField")), accessFlags := 26, slot := 2, constantValue := 0 }, { name := "REPL", type := .char, accessFlags := 26, slot := 3, constantValue := 0 }, { name := "CASE_INSENSITIVE_ORDER", type := (.object "java/util/Comparator"), accessFlags := 25, slot := 4, constantValue := 0 }, { name := "LATIN1", type := .byte, accessFlags := 24, slot := 5, constantValue := 0 }, { name := "UTF16", type := .byte, accessFlags := 24, slot := 6, constantValue := 0 }]
  methods := #[k7m0, k7m1, k7m2, k7m3, k7m4, k7m5, k7m6, k7m7]
  instanceTypes := #[(.array .byte), .byte, .int, .boolean]
  staticTypes := #[.long, .boolean, (.array (.object "java/io/ObjectStreamField")), .char, (.object "java/util/Comparator"), .byte, .byte]
  resolved := Array.replicate 1451 none
  statics := some 0 }

def pool8 : Array CpInfo := pool [(2, .class_ 4), (1, u "java/lang/Object"), (0, u "<init>"), (0, u "()V"), (0, .string 8), (0, u "text"), (0, .methodref 10 11), (0, .class_ 12), (0, .nameAndType 13 14), (0, u "java/util/Objects"), (0, u "requireNonNull"), (0, u "(Ljava/lang/Object;Ljava/lang/String;)Ljava/lang/Object;"), (0, .methodref 16 17), (0, .class_ 18), (0, .nameAndType 19 20), (0, u "java/lang/String"), (0, u "length"), (0, u "()I"), (0, .methodref 16 22), (0, .nameAndType 23 24), (0, u "codePointAt"), (0, u "(I)I"), (0, .class_ 26), (0, u "java/lang/Character"), (0, .integer 55296), (0, .integer 57343), (0, .methodref 25 30), (0, .nameAndType 31 24), (0, u "charCount"), (9, .class_ 42), (0, u "com/example/rhadamanthus/rhadamanthus/util/Utf16"), (2, u "loneSurrogateIndex"), (0, u "(Ljava/lang/String;)I")] 20

def k8m0 : Method := { name := "<init>", desc := "()V", sig := { parameters := [], returnType := none }, accessFlags := 2, code := none }
def k8c1 : Code := { maxStack := 2, maxLocals := 4, code := prog_46_method_2_code, exceptionTable := #[], attributes := #[] }
def k8m1 : Method := { name := "loneSurrogateIndex", desc := "(Ljava/lang/String;)I", sig := { parameters := [(.object "java/lang/String")], returnType := some .int }, accessFlags := 9, code := some k8c1 }
/-- com/example/rhadamanthus/rhadamanthus/util/Utf16 -/
def k8 : Class := { plain "com/example/rhadamanthus/rhadamanthus/util/Utf16" (some 0) with
  accessFlags := 33
  interfaces := #[]
  cf := some (fileOf pool8 41 #[] #[{ accessFlags := 2, nameIndex := 5, descriptorIndex := 6, attributes := #[] }, { accessFlags := 9, nameIndex := 45, descriptorIndex := 46, attributes := #[] }] 33 2 #[] #[])
  fields := #[]
  methods := #[k8m0, k8m1]
  instanceTypes := #[]
  staticTypes := #[]
  resolved := Array.replicate 67 none
  statics := none }

def pool9 : Array CpInfo := pool [(2, .class_ 4), (1, u "java/lang/Object"), (0, u "<init>"), (0, u "()V"), (35, .class_ 44), (1, u "java/util/Objects"), (0, u "requireNonNull"), (48, u "(Ljava/lang/Object;Ljava/lang/String;)Ljava/lang/Object;")] 89

def k9m0 : Method := { name := "<init>", desc := "()V", sig := { parameters := [], returnType := none }, accessFlags := 2, code := none }
def k9c1 : Code := { maxStack := 3, maxLocals := 2, code := jdk_31_method_11_code, exceptionTable := #[], attributes := #[] }
def k9m1 : Method := { name := "requireNonNull", desc := "(Ljava/lang/Object;Ljava/lang/String;)Ljava/lang/Object;", sig := { parameters := [(.object "java/lang/Object"), (.object "java/lang/String")], returnType := some (.object "java/lang/Object") }, accessFlags := 9, code := some k9c1 }
/-- java/util/Objects -/
def k9 : Class := { plain "java/util/Objects" (some 0) with
  accessFlags := 49
  interfaces := #[]
  cf := some (fileOf pool9 42 #[] #[{ accessFlags := 2, nameIndex := 5, descriptorIndex := 6, attributes := #[] }, { accessFlags := 9, nameIndex := 45, descriptorIndex := 94, attributes := #[] }] 49 2 #[] #[])
  fields := #[]
  methods := #[k9m0, k9m1]
  instanceTypes := #[]
  staticTypes := #[]
  resolved := Array.replicate 184 none
  statics := none }

def pool10 : Array CpInfo := pool [(6, .class_ 8), (1, u "java/lang/Object"), (0, u "<init>"), (0, u "()V"), (0, .methodref 12 13), (0, .class_ 14), (0, .nameAndType 15 16), (0, u "java/lang/StringUTF16"), (0, u "newBytesLength"), (0, u "(I)I"), (3, .integer 1073741823), (23, .fieldref 12 45), (0, .nameAndType 46 47), (0, u "$assertionsDisabled"), (0, u "Z"), (11, .fieldref 12 60), (0, .nameAndType 61 62), (0, u "HI_BYTE_SHIFT"), (0, u "I"), (0, .fieldref 12 64), (0, .nameAndType 65 62), (0, u "LO_BYTE_SHIFT"), (5, .methodref 12 72), (0, .nameAndType 73 74), (0, u "getChar"), (0, u "([BI)C"), (0, .methodref 76 77), (0, .class_ 78), (0, .nameAndType 79 80), (0, u "java/lang/Character"), (0, u "isHighSurrogate"), (0, u "(C)Z"), (0, .methodref 76 82), (0, .nameAndType 83 80), (0, u "isLowSurrogate"), (0, .methodref 76 85), (0, .nameAndType 86 87), (0, u "toCodePoint"), (0, u "(CC)I"), (0, .methodref 12 89), (0, .nameAndType 90 91), (0, u "codePointAt"), (0, u "([BIIZ)I"), (15, .methodref 12 108), (0, .nameAndType 109 110), (0, u "newBytesFor"), (0, u "(I)[B"), (0, .methodref 12 112), (0, .nameAndType 113 114), (0, u "putChar"), (0, u "([BII)V"), (0, .methodref 12 116), (0, .nameAndType 117 118), (0, u "compress"), (0, u "([CI[BII)I"), (0, .methodref 12 120), (0, .nameAndType 121 122), (0, u "toBytes"), (0, u "([CII)[B"), (127, u "([BII)I"), (10, u "coderFromArrayLen"), (0, u "([BI)B"), (106, .class_ 371), (1, u "java/lang/StringUTF16$LinesSpliterator"), (58, u "MAX_LENGTH"), (196, .class_ 628), (0, u "java/lang/StringUTF16$CodePointsSpliterator"), (0, .class_ 630), (0, u "java/lang/StringUTF16$CharsSpliterator")] 4

def k10m0 : Method := { name := "<init>", desc := "()V", sig := { parameters := [], returnType := none }, accessFlags := 0, code := none }
def k10c1 : Code := { maxStack := 1, maxLocals := 1, code := jdk_52_method_2_code, exceptionTable := #[], attributes := #[] }
def k10m1 : Method := { name := "newBytesFor", desc := "(I)[B", sig := { parameters := [.int], returnType := some (.array .byte) }, accessFlags := 9, code := some k10c1 }
def k10c2 : Code := { maxStack := 4, maxLocals := 1, code := jdk_52_method_3_code, exceptionTable := #[], attributes := #[] }
def k10m2 : Method := { name := "newBytesLength", desc := "(I)I", sig := { parameters := [.int], returnType := some .int }, accessFlags := 9, code := some k10c2 }
def k10c3 : Code := { maxStack := 4, maxLocals := 3, code := jdk_52_method_4_code, exceptionTable := #[], attributes := #[] }
def k10m3 : Method := { name := "putChar", desc := "([BII)V", sig := { parameters := [(.array .byte), .int, .int], returnType := none }, accessFlags := 8, code := some k10c3 }
def k10c4 : Code := { maxStack := 3, maxLocals := 2, code := jdk_52_method_5_code, exceptionTable := #[], attributes := #[] }
def k10m4 : Method := { name := "getChar", desc := "([BI)C", sig := { parameters := [(.array .byte), .int], returnType := some .char }, accessFlags := 8, code := some k10c4 }
def k10c5 : Code := { maxStack := 2, maxLocals := 6, code := jdk_52_method_7_code, exceptionTable := #[], attributes := #[] }
def k10m5 : Method := { name := "codePointAt", desc := "([BIIZ)I", sig := { parameters := [(.array .byte), .int, .int, .boolean], returnType := some .int }, accessFlags := 10, code := some k10c5 }
def k10c6 : Code := { maxStack := 4, maxLocals := 3, code := jdk_52_method_8_code, exceptionTable := #[], attributes := #[] }
def k10m6 : Method := { name := "codePointAt", desc := "([BII)I", sig := { parameters := [(.array .byte), .int, .int], returnType := some .int }, accessFlags := 9, code := some k10c6 }
def k10c7 : Code := { maxStack := 4, maxLocals := 5, code := jdk_52_method_14_code, exceptionTable := #[], attributes := #[] }
def k10m7 : Method := { name := "toBytes", desc := "([CII)[B", sig := { parameters := [(.array .char), .int, .int], returnType := some (.array .byte) }, accessFlags := 9, code := some k10c7 }
def k10c8 : Code := { maxStack := 2, maxLocals := 2, code := jdk_52_method_15_code, exceptionTable := #[], attributes := #[] }
def k10m8 : Method := { name := "coderFromArrayLen", desc := "([BI)B", sig := { parameters := [(.array .byte), .int], returnType := some .byte }, accessFlags := 8, code := some k10c8 }
def k10c9 : Code := { maxStack := 5, maxLocals := 6, code := jdk_52_method_16_code, exceptionTable := #[], attributes := #[] }
def k10m9 : Method := { name := "compress", desc := "([CII)[B", sig := { parameters := [(.array .char), .int, .int], returnType := some (.array .byte) }, accessFlags := 9, code := some k10c9 }
def k10c10 : Code := { maxStack := 3, maxLocals := 7, code := jdk_52_method_21_code, exceptionTable := #[], attributes := #[] }
def k10m10 : Method := { name := "compress", desc := "([CI[BII)I", sig := { parameters := [(.array .char), .int, (.array .byte), .int, .int], returnType := some .int }, accessFlags := 9, code := some k10c10 }
/-- java/lang/StringUTF16 -/
def k10 : Class := { plain "java/lang/StringUTF16" (some 0) with
  accessFlags := 48
  interfaces := #[]
  cf := some (fileOf pool10 12 #[.nestMembers #[627, 629, 369]] #[{ accessFlags := 0, nameIndex := 9, descriptorIndex := 10, attributes := #[] }, { accessFlags := 9, nameIndex := 109, descriptorIndex := 110, attributes := #[] }, { accessFlags := 9, nameIndex := 15, descriptorIndex := 16, attributes := #[] }, { accessFlags := 8, nameIndex := 113, descriptorIndex := 114, attributes := #[] }, { accessFlags := 8, nameIndex := 73, descriptorIndex := 74, attributes := #[] }, { accessFlags := 10, nameIndex := 90, descriptorIndex := 91, attributes := #[] }, { accessFlags := 9, nameIndex := 90, descriptorIndex := 250, attributes := #[] }, { accessFlags := 9, nameIndex := 121, descriptorIndex := 122, attributes := #[] }, { accessFlags := 8, nameIndex := 261, descriptorIndex := 262, attributes := #[] }, { accessFlags := 9, nameIndex := 117, descriptorIndex := 122, attributes := #[] }, { accessFlags := 9, nameIndex := 117, descriptorIndex := 118, attributes := #[] }] 48 6 #[] #[{ accessFlags := 26, nameIndex := 61, descriptorIndex := 62, attributes := #[] }, { accessFlags := 26, nameIndex := 65, descriptorIndex := 62, attributes := #[] }, { accessFlags := 24, nameIndex := 430, descriptorIndex := 62, attributes := #[] }, { accessFlags := 4120, nameIndex := 46, descriptorIndex := 47, attributes := #[] }])
  fields := #[{ name := "HI_BYTE_SHIFT", type := .int, accessFlags := 26, slot := 0, constantValue := 0 }, { name := "LO_BYTE_SHIFT", type := .int, accessFlags := 26, slot := 1, constantValue := 0 }, { name := "MAX_LENGTH", type := .int, accessFlags := 24, slot := 2, constantValue := 0 }, { name := "$assertionsDisabled", type := .boolean, accessFlags := 4120, slot := 3, constantValue := 0 }]
  methods := #[k10m0, k10m1, k10m2, k10m3, k10m4, k10m5, k10m6, k10m7, k10m8, k10m9, k10m10]
  instanceTypes := #[]
  staticTypes := #[.int, .int, .int, .boolean]
  resolved := Array.replicate 635 none
  statics := some 1 }

def pool11 : Array CpInfo := pool [(2, .class_ 4), (1, u "java/lang/Object"), (0, u "<init>"), (0, u "()V"), (17, .class_ 26), (1, u "jdk/internal/util/Preconditions"), (6, u "checkIndex"), (21, .class_ 56), (0, u "jdk/internal/util/Preconditions$4"), (57, .class_ 115), (0, u "jdk/internal/util/Preconditions$1"), (7, u "SIOOBE_FORMATTER"), (0, u "Ljava/util/function/BiFunction;"), (0, .class_ 126), (0, u "jdk/internal/util/Preconditions$2"), (3, u "AIOOBE_FORMATTER"), (0, .class_ 132), (0, u "jdk/internal/util/Preconditions$3"), (3, u "IOOBE_FORMATTER"), (41, u "(IILjava/util/function/BiFunction;)I")] 15

def k11m0 : Method := { name := "<init>", desc := "()V", sig := { parameters := [], returnType := none }, accessFlags := 1, code := none }
def k11c1 : Code := { maxStack := 3, maxLocals := 3, code := jdk_41_method_11_code, exceptionTable := #[], attributes := #[] }
def k11m1 : Method := { name := "checkIndex", desc := "(IILjava/util/function/BiFunction;)I", sig := { parameters := [.int, .int, (.object "java/util/function/BiFunction")], returnType := some .int }, accessFlags := 9, code := some k11c1 }
/-- jdk/internal/util/Preconditions -/
def k11 : Class := { plain "jdk/internal/util/Preconditions" (some 0) with
  accessFlags := 33
  interfaces := #[]
  cf := some (fileOf pool11 24 #[.nestMembers #[55, 131, 125, 114]] #[{ accessFlags := 1, nameIndex := 5, descriptorIndex := 6, attributes := #[] }, { accessFlags := 9, nameIndex := 33, descriptorIndex := 178, attributes := #[] }] 33 2 #[] #[{ accessFlags := 25, nameIndex := 123, descriptorIndex := 124, attributes := #[] }, { accessFlags := 25, nameIndex := 130, descriptorIndex := 124, attributes := #[] }, { accessFlags := 25, nameIndex := 136, descriptorIndex := 124, attributes := #[] }])
  fields := #[{ name := "SIOOBE_FORMATTER", type := (.object "java/util/function/BiFunction"), accessFlags := 25, slot := 0, constantValue := 0 }, { name := "AIOOBE_FORMATTER", type := (.object "java/util/function/BiFunction"), accessFlags := 25, slot := 1, constantValue := 0 }, { name := "IOOBE_FORMATTER", type := (.object "java/util/function/BiFunction"), accessFlags := 25, slot := 2, constantValue := 0 }]
  methods := #[k11m0, k11m1]
  instanceTypes := #[]
  staticTypes := #[(.object "java/util/function/BiFunction"), (.object "java/util/function/BiFunction"), (.object "java/util/function/BiFunction")]
  resolved := Array.replicate 194 none
  statics := some 2 }

def pool12 : Array CpInfo := pool [(1, .class_ 2), (0, u "java/lang/Character"), (18, u "value"), (0, u "C"), (19, .class_ 44), (1, u "java/lang/Object"), (3, .class_ 50), (1, u "java/lang/Character$CharacterCache"), (22, .integer 65536), (1, .integer 55296), (0, .integer 56320), (0, .integer 57344), (2, u "isHighSurrogate"), (0, u "(C)Z"), (2, u "isLowSurrogate"), (0, .integer 4238353408), (12, u "toCodePoint"), (0, u "(CC)I"), (74, u "(I)I"), (109, u "$assertionsDisabled"), (0, u "Z"), (21, .class_ 309), (1, u "java/lang/Character$UnicodeBlock"), (73, u "TYPE"), (0, u "Ljava/lang/Class;"), (0, .class_ 386), (0, u "java/io/Serializable"), (0, .class_ 388), (0, u "java/lang/Comparable"), (0, .class_ 390), (0, u "java/lang/constant/Constable"), (0, u "MIN_RADIX"), (0, u "I"), (2, u "MAX_RADIX"), (1, u "MIN_VALUE"), (1, u "MAX_VALUE"), (3, u "UNASSIGNED"), (0, u "B"), (0, u "UPPERCASE_LETTER"), (1, u "LOWERCASE_LETTER"), (0, u "TITLECASE_LETTER"), (1, u "MODIFIER_LETTER"), (1, u "OTHER_LETTER"), (1, u "NON_SPACING_MARK"), (1, u "ENCLOSING_MARK"), (1, u "COMBINING_SPACING_MARK"), (1, u "DECIMAL_DIGIT_NUMBER"), (1, u "LETTER_NUMBER"), (1, u "OTHER_NUMBER"), (1, u "SPACE_SEPARATOR"), (1, u "LINE_SEPARATOR"), (1, u "PARAGRAPH_SEPARATOR"), (1, u "CONTROL"), (1, u "FORMAT"), (1, u "PRIVATE_USE"), (1, u "SURROGATE"), (1, u "DASH_PUNCTUATION"), (1, u "START_PUNCTUATION"), (1, u "END_PUNCTUATION"), (1, u "CONNECTOR_PUNCTUATION"), (1, u "OTHER_PUNCTUATION"), (1, u "MATH_SYMBOL"), (1, u "CURRENCY_SYMBOL"), (1, u "MODIFIER_SYMBOL"), (1, u "OTHER_SYMBOL"), (1, u "INITIAL_QUOTE_PUNCTUATION"), (1, u "FINAL_QUOTE_PUNCTUATION"), (1, u "ERROR"), (1, u "DIRECTIONALITY_UNDEFINED"), (0, u "DIRECTIONALITY_LEFT_TO_RIGHT"), (0, u "DIRECTIONALITY_RIGHT_TO_LEFT"), (0, u "DIRECTIONALITY_RIGHT_TO_LEFT_ARABIC"), (0, u "DIRECTIONALITY_EUROPEAN_NUMBER"), (0, u "DIRECTIONALITY_EUROPEAN_NUMBER_SEPARATOR"), (0, u "DIRECTIONALITY_EUROPEAN_NUMBER_TERMINATOR"), (0, u "DIRECTIONALITY_ARABIC_NUMBER"), (0, u "DIRECTIONALITY_COMMON_NUMBER_SEPARATOR"), (0, u "DIRECTIONALITY_NONSPACING_MARK"), (0, u "DIRECTIONALITY_BOUNDARY_NEUTRAL"), (0, u "DIRECTIONALITY_PARAGRAPH_SEPARATOR"), (0, u "DIRECTIONALITY_SEGMENT_SEPARATOR"), (0, u "DIRECTIONALITY_WHITESPACE"), (0, u "DIRECTIONALITY_OTHER_NEUTRALS"), (0, u "DIRECTIONALITY_LEFT_TO_RIGHT_EMBEDDING"), (0, u "DIRECTIONALITY_LEFT_TO_RIGHT_OVERRIDE"), (0, u "DIRECTIONALITY_RIGHT_TO_LEFT_EMBEDDING"), (0, u "DIRECTIONALITY_RIGHT_TO_LEFT_OVERRIDE"), (1, u "DIRECTIONALITY_POP_DIRECTIONAL_FORMAT"), (0, u "DIRECTIONALITY_LEFT_TO_RIGHT_ISOLATE"), (0, u "DIRECTIONALITY_RIGHT_TO_LEFT_ISOLATE"), (0, u "DIRECTIONALITY_FIRST_STRONG_ISOLATE"), (0, u "DIRECTIONALITY_POP_DIRECTIONAL_ISOLATE"), (0, u "MIN_HIGH_SURROGATE"), (0, u "MAX_HIGH_SURROGATE"), (1, u "MIN_LOW_SURROGATE"), (0, u "MAX_LOW_SURROGATE"), (1, u "MIN_SURROGATE"), (0, u "MAX_SURROGATE"), (0, u "MIN_SUPPLEMENTARY_CODE_POINT"), (0, u "MIN_CODE_POINT"), (0, u "MAX_CODE_POINT"), (1, u "serialVersionUID"), (0, u "J"), (2, u "SIZE"), (0, u "BYTES"), (29, u "charCount"), (58, .class_ 596), (0, u "java/lang/Character$UnicodeScript"), (0, .class_ 598), (0, u "java/lang/Character$Subset")] 5

def k12c0 : Code := { maxStack := 2, maxLocals := 1, code := jdk_89_method_14_code, exceptionTable := #[], attributes := #[] }
def k12m0 : Method := { name := "isHighSurrogate", desc := "(C)Z", sig := { parameters := [.char], returnType := some .boolean }, accessFlags := 9, code := some k12c0 }
def k12c1 : Code := { maxStack := 2, maxLocals := 1, code := jdk_89_method_15_code, exceptionTable := #[], attributes := #[] }
def k12m1 : Method := { name := "isLowSurrogate", desc := "(C)Z", sig := { parameters := [.char], returnType := some .boolean }, accessFlags := 9, code := some k12c1 }
def k12c2 : Code := { maxStack := 2, maxLocals := 1, code := jdk_89_method_18_code, exceptionTable := #[], attributes := #[] }
def k12m2 : Method := { name := "charCount", desc := "(I)I", sig := { parameters := [.int], returnType := some .int }, accessFlags := 9, code := some k12c2 }
def k12c3 : Code := { maxStack := 2, maxLocals := 2, code := jdk_89_method_19_code, exceptionTable := #[], attributes := #[] }
def k12m3 : Method := { name := "toCodePoint", desc := "(CC)I", sig := { parameters := [.char, .char], returnType := some .int }, accessFlags := 9, code := some k12c3 }
/-- java/lang/Character -/
def k12 : Class := { plain "java/lang/Character" (some 0) with
  accessFlags := 49
  interfaces := #[2, 3, 5]
  cf := some (fileOf pool12 1 #[.nestMembers #[48, 595, 307, 597]] #[{ accessFlags := 9, nameIndex := 80, descriptorIndex := 81, attributes := #[] }, { accessFlags := 9, nameIndex := 84, descriptorIndex := 81, attributes := #[] }, { accessFlags := 9, nameIndex := 536, descriptorIndex := 174, attributes := #[] }, { accessFlags := 9, nameIndex := 98, descriptorIndex := 99, attributes := #[] }] 49 42 #[385, 387, 389] #[{ accessFlags := 25, nameIndex := 391, descriptorIndex := 392, attributes := #[] }, { accessFlags := 25, nameIndex := 395, descriptorIndex := 392, attributes := #[] }, { accessFlags := 25, nameIndex := 397, descriptorIndex := 22, attributes := #[] }, { accessFlags := 25, nameIndex := 399, descriptorIndex := 22, attributes := #[] }, { accessFlags := 25, nameIndex := 383, descriptorIndex := 384, attributes := #[] }, { accessFlags := 25, nameIndex := 403, descriptorIndex := 404, attributes := #[] }, { accessFlags := 25, nameIndex := 405, descriptorIndex := 404, attributes := #[] }, { accessFlags := 25, nameIndex := 407, descriptorIndex := 404, attributes := #[] }, { accessFlags := 25, nameIndex := 408, descriptorIndex := 404, attributes := #[] }, { accessFlags := 25, nameIndex := 410, descriptorIndex := 404, attributes := #[] }, { accessFlags := 25, nameIndex := 412, descriptorIndex := 404, attributes := #[] }, { accessFlags := 25, nameIndex := 414, descriptorIndex := 404, attributes := #[] }, { accessFlags := 25, nameIndex := 416, descriptorIndex := 404, attributes := #[] }, { accessFlags := 25, nameIndex := 418, descriptorIndex := 404, attributes := #[] }, { accessFlags := 25, nameIndex := 420, descriptorIndex := 404, attributes := #[] }, { accessFlags := 25, nameIndex := 422, descriptorIndex := 404, attributes := #[] }, { accessFlags := 25, nameIndex := 424, descriptorIndex := 404, attributes := #[] }, { accessFlags := 25, nameIndex := 426, descriptorIndex := 404, attributes := #[] }, { accessFlags := 25, nameIndex := 428, descriptorIndex := 404, attributes := #[] }, { accessFlags := 25, nameIndex := 430, descriptorIndex := 404, attributes := #[] }, { accessFlags := 25, nameIndex := 432, descriptorIndex := 404, attributes := #[] }, { accessFlags := 25, nameIndex := 434, descriptorIndex := 404, attributes := #[] }, { accessFlags := 25, nameIndex := 436, descriptorIndex := 404, attributes := #[] }, { accessFlags := 25, nameIndex := 438, descriptorIndex := 404, attributes := #[] }, { accessFlags := 25, nameIndex := 440, descriptorIndex := 404, attributes := #[] }, { accessFlags := 25, nameIndex := 442, descriptorIndex := 404, attributes := #[] }, { accessFlags := 25, nameIndex := 444, descriptorIndex := 404, attributes := #[] }, { accessFlags := 25, nameIndex := 446, descriptorIndex := 404, attributes := #[] }, { accessFlags := 25, nameIndex := 448, descriptorIndex := 404, attributes := #[] }, { accessFlags := 25, nameIndex := 450, descriptorIndex := 404, attributes := #[] }, { accessFlags := 25, nameIndex := 452, descriptorIndex := 404, attributes := #[] }, { accessFlags := 25, nameIndex := 454, descriptorIndex := 404, attributes := #[] }, { accessFlags := 25, nameIndex := 456, descriptorIndex := 404, attributes := #[] }, { accessFlags := 25, nameIndex := 458, descriptorIndex := 404, attributes := #[] }, { accessFlags := 25, nameIndex := 460, descriptorIndex := 404, attributes := #[] }, { accessFlags := 24, nameIndex := 462, descriptorIndex := 392, attributes := #[] }, { accessFlags := 25, nameIndex := 464, descriptorIndex := 404, attributes := #[] }, { accessFlags := 25, nameIndex := 465, descriptorIndex := 404, attributes := #[] }, { accessFlags := 25, nameIndex := 466, descriptorIndex := 404, attributes := #[] }, { accessFlags := 25, nameIndex := 467, descriptorIndex := 404, attributes := #[] }, { accessFlags := 25, nameIndex := 468, descriptorIndex := 404, attributes := #[] }, { accessFlags := 25, nameIndex := 469, descriptorIndex := 404, attributes := #[] }, { accessFlags := 25, nameIndex := 470, descriptorIndex := 404, attributes := #[] }, { accessFlags := 25, nameIndex := 471, descriptorIndex := 404, attributes := #[] }, { accessFlags := 25, nameIndex := 472, descriptorIndex := 404, attributes := #[] }, { accessFlags := 25, nameIndex := 473, descriptorIndex := 404, attributes := #[] }, { accessFlags := 25, nameIndex := 474, descriptorIndex := 404, attributes := #[] }, { accessFlags := 25, nameIndex := 475, descriptorIndex := 404, attributes := #[] }, { accessFlags := 25, nameIndex := 476, descriptorIndex := 404, attributes := #[] }, { accessFlags := 25, nameIndex := 477, descriptorIndex := 404, attributes := #[] }, { accessFlags := 25, nameIndex := 478, descriptorIndex := 404, attributes := #[] }, { accessFlags := 25, nameIndex := 479, descriptorIndex := 404, attributes := #[] }, { accessFlags := 25, nameIndex := 480, descriptorIndex := 404, attributes := #[] }, { accessFlags := 25, nameIndex := 481, descriptorIndex := 404, attributes := #[] }, { accessFlags := 25, nameIndex := 482, descriptorIndex := 404, attributes := #[] }, { accessFlags := 25, nameIndex := 484, descriptorIndex := 404, attributes := #[] }, { accessFlags := 25, nameIndex := 485, descriptorIndex := 404, attributes := #[] }, { accessFlags := 25, nameIndex := 486, descriptorIndex := 404, attributes := #[] }, { accessFlags := 25, nameIndex := 487, descriptorIndex := 404, attributes := #[] }, { accessFlags := 25, nameIndex := 488, descriptorIndex := 404, attributes := #[] }, { accessFlags := 25, nameIndex := 489, descriptorIndex := 22, attributes := #[] }, { accessFlags := 25, nameIndex := 490, descriptorIndex := 22, attributes := #[] }, { accessFlags := 25, nameIndex := 492, descriptorIndex := 22, attributes := #[] }, { accessFlags := 25, nameIndex := 493, descriptorIndex := 22, attributes := #[] }, { accessFlags := 25, nameIndex := 495, descriptorIndex := 22, attributes := #[] }, { accessFlags := 25, nameIndex := 496, descriptorIndex := 22, attributes := #[] }, { accessFlags := 25, nameIndex := 497, descriptorIndex := 392, attributes := #[] }, { accessFlags := 25, nameIndex := 498, descriptorIndex := 392, attributes := #[] }, { accessFlags := 25, nameIndex := 499, descriptorIndex := 392, attributes := #[] }, { accessFlags := 18, nameIndex := 21, descriptorIndex := 22, attributes := #[] }, { accessFlags := 26, nameIndex := 501, descriptorIndex := 502, attributes := #[] }, { accessFlags := 25, nameIndex := 505, descriptorIndex := 392, attributes := #[] }, { accessFlags := 25, nameIndex := 506, descriptorIndex := 392, attributes := #[] }, { accessFlags := 4120, nameIndex := 284, descriptorIndex := 285, attributes := #[] }])
  fields := #[{ name := "MIN_RADIX", type := .int, accessFlags := 25, slot := 0, constantValue := 0 }, { name := "MAX_RADIX", type := .int, accessFlags := 25, slot := 1, constantValue := 0 }, { name := "MIN_VALUE", type := .char, accessFlags := 25, slot := 2, constantValue := 0 }, { name := "MAX_VALUE", type := .char, accessFlags := 25, slot := 3, constantValue := 0 }, { name := "TYPE", type := (.object "java/lang/Class"), accessFlags := 25, slot := 4, constantValue := 0 }, { name := "UNASSIGNED", type := .byte, accessFlags := 25, slot := 5, constantValue := 0 }, { name := "UPPERCASE_LETTER", type := .byte, accessFlags := 25, slot := 6, constantValue := 0 }, { name := "LOWERCASE_LETTER", type := .byte, accessFlags := 25, slot := 7, constantValue := 0 }, { name := "TITLECASE_LETTER", type := .byte, accessFlags := 25, slot := 8, constantValue := 0 }, { name := "MODIFIER_LETTER", type := .byte, accessFlags := 25, slot := 9, constantValue := 0 }, { name := "OTHER_LETTER", type := .byte, accessFlags := 25, slot := 10, constantValue := 0 }, { name := "NON_SPACING_MARK", type := .byte, accessFlags := 25, slot := 11, constantValue := 0 }, { name := "ENCLOSING_MARK", type := .byte, accessFlags := 25, slot := 12, constantValue := 0 }, { name := "COMBINING_SPACING_MARK", type := .byte, accessFlags := 25, slot := 13, constantValue := 0 }, { name := "DECIMAL_DIGIT_NUMBER", type := .byte, accessFlags := 25, slot := 14, constantValue := 0 }, { name := "LETTER_NUMBER", type := .byte, accessFlags := 25, slot := 15, constantValue := 0 }, { name := "OTHER_NUMBER", type := .byte, accessFlags := 25, slot := 16, constantValue := 0 }, { name := "SPACE_SEPARATOR", type := .byte, accessFlags := 25, slot := 17, constantValue := 0 }, { name := "LINE_SEPARATOR", type := .byte, accessFlags := 25, slot := 18, constantValue := 0 }, { name := "PARAGRAPH_SEPARATOR", type := .byte, accessFlags := 25, slot := 19, constantValue := 0 }, { name := "CONTROL", type := .byte, accessFlags := 25, slot := 20, constantValue := 0 }, { name := "FORMAT", type := .byte, accessFlags := 25, slot := 21, constantValue := 0 }, { name := "PRIVATE_USE", type := .byte, accessFlags := 25, slot := 22, constantValue := 0 }, { name := "SURROGATE", type := .byte, accessFlags := 25, slot := 23, constantValue := 0 }, { name := "DASH_PUNCTUATION", type := .byte, accessFlags := 25, slot := 24, constantValue := 0 }, { name := "START_PUNCTUATION", type := .byte, accessFlags := 25, slot := 25, constantValue := 0 }, { name := "END_PUNCTUATION", type := .byte, accessFlags := 25, slot := 26, constantValue := 0 }, { name := "CONNECTOR_PUNCTUATION", type := .byte, accessFlags := 25, slot := 27, constantValue := 0 }, { name := "OTHER_PUNCTUATION", type := .byte, accessFlags := 25, slot := 28, constantValue := 0 }, { name := "MATH_SYMBOL", type := .byte, accessFlags := 25, slot := 29, constantValue := 0 }, { name := "CURRENCY_SYMBOL", type := .byte, accessFlags := 25, slot := 30, constantValue := 0 }, { name := "MODIFIER_SYMBOL", type := .byte, accessFlags := 25, slot := 31, constantValue := 0 }, { name := "OTHER_SYMBOL", type := .byte, accessFlags := 25, slot := 32, constantValue := 0 }, { name := "INITIAL_QUOTE_PUNCTUATION", type := .byte, accessFlags := 25, slot := 33, constantValue := 0 }, { name := "FINAL_QUOTE_PUNCTUATION", type := .byte, accessFlags := 25, slot := 34, constantValue := 0 }, { name := "ERROR", type := .int, accessFlags := 24, slot := 35, constantValue := 0 }, { name := "DIRECTIONALITY_UNDEFINED", type := .byte, accessFlags := 25, slot := 36, constantValue := 0 }, { name := "DIRECTIONALITY_LEFT_TO_RIGHT", type := .byte, accessFlags := 25, slot := 37, constantValue := 0 }, { name := "DIRECTIONALITY_RIGHT_TO_LEFT", type := .byte, accessFlags := 25, slot := 38, constantValue := 0 }, { name := "DIRECTIONALITY_RIGHT_TO_LEFT_ARABIC", type := .byte, accessFlags := 25, slot := 39, constantValue := 0 }, { name := "DIRECTIONALITY_EUROPEAN_NUMBER", type := .byte, accessFlags := 25, slot := 40, constantValue := 0 }, { name := "DIRECTIONALITY_EUROPEAN_NUMBER_SEPARATOR", type := .byte, accessFlags := 25, slot := 41, constantValue := 0 }, { name := "DIRECTIONALITY_EUROPEAN_NUMBER_TERMINATOR", type := .byte, accessFlags := 25, slot := 42, constantValue := 0 }, { name := "DIRECTIONALITY_ARABIC_NUMBER", type := .byte, accessFlags := 25, slot := 43, constantValue := 0 }, { name := "DIRECTIONALITY_COMMON_NUMBER_SEPARATOR", type := .byte, accessFlags := 25, slot := 44, constantValue := 0 }, { name := "DIRECTIONALITY_NONSPACING_MARK", type := .byte, accessFlags := 25, slot := 45, constantValue := 0 }, { name := "DIRECTIONALITY_BOUNDARY_NEUTRAL", type := .byte, accessFlags := 25, slot := 46, constantValue := 0 }, { name := "DIRECTIONALITY_PARAGRAPH_SEPARATOR", type := .byte, accessFlags := 25, slot := 47, constantValue := 0 }, { name := "DIRECTIONALITY_SEGMENT_SEPARATOR", type := .byte, accessFlags := 25, slot := 48, constantValue := 0 }, { name := "DIRECTIONALITY_WHITESPACE", type := .byte, accessFlags := 25, slot := 49, constantValue := 0 }, { name := "DIRECTIONALITY_OTHER_NEUTRALS", type := .byte, accessFlags := 25, slot := 50, constantValue := 0 }, { name := "DIRECTIONALITY_LEFT_TO_RIGHT_EMBEDDING", type := .byte, accessFlags := 25, slot := 51, constantValue := 0 }, { name := "DIRECTIONALITY_LEFT_TO_RIGHT_OVERRIDE", type := .byte, accessFlags := 25, slot := 52, constantValue := 0 }, { name := "DIRECTIONALITY_RIGHT_TO_LEFT_EMBEDDING", type := .byte, accessFlags := 25, slot := 53, constantValue := 0 }, { name := "DIRECTIONALITY_RIGHT_TO_LEFT_OVERRIDE", type := .byte, accessFlags := 25, slot := 54, constantValue := 0 }, { name := "DIRECTIONALITY_POP_DIRECTIONAL_FORMAT", type := .byte, accessFlags := 25, slot := 55, constantValue := 0 }, { name := "DIRECTIONALITY_LEFT_TO_RIGHT_ISOLATE", type := .byte, accessFlags := 25, slot := 56, constantValue := 0 }, { name := "DIRECTIONALITY_RIGHT_TO_LEFT_ISOLATE", type := .byte, accessFlags := 25, slot := 57, constantValue := 0 }, { name := "DIRECTIONALITY_FIRST_STRONG_ISOLATE", type := .byte, accessFlags := 25, slot := 58, constantValue := 0 }, { name := "DIRECTIONALITY_POP_DIRECTIONAL_ISOLATE", type := .byte, accessFlags := 25, slot := 59, constantValue := 0 }, { name := "MIN_HIGH_SURROGATE", type := .char, accessFlags := 25, slot := 60, constantValue := 0 }, { name := "MAX_HIGH_SURROGATE", type := .char, accessFlags := 25, slot := 61, constantValue := 0 }, { name := "MIN_LOW_SURROGATE", type := .char, accessFlags := 25, slot := 62, constantValue := 0 }, { name := "MAX_LOW_SURROGATE", type := .char, accessFlags := 25, slot := 63, constantValue := 0 }, { name := "MIN_SURROGATE", type := .char, accessFlags := 25, slot := 64, constantValue := 0 }, { name := "MAX_SURROGATE", type := .char, accessFlags := 25, slot := 65, constantValue := 0 }, { name := "MIN_SUPPLEMENTARY_CODE_POINT", type := .int, accessFlags := 25, slot := 66, constantValue := 0 }, { name := "MIN_CODE_POINT", type := .int, accessFlags := 25, slot := 67, constantValue := 0 }, { name := "MAX_CODE_POINT", type := .int, accessFlags := 25, slot := 68, constantValue := 0 }, { name := "value", type := .char, accessFlags := 18, slot := 0, constantValue := 0 }, { name := "serialVersionUID", type := .long, accessFlags := 26, slot := 69, constantValue := 0 }, { name := "SIZE", type := .int, accessFlags := 25, slot := 70, constantValue := 0 }, { name := "BYTES", type := .int, accessFlags := 25, slot := 71, constantValue := 0 }, { name := "$assertionsDisabled", type := .boolean, accessFlags := 4120, slot := 72, constantValue := 0 }]
  methods := #[k12m0, k12m1, k12m2, k12m3]
  instanceTypes := #[.char]
  staticTypes := #[.int, .int, .char, .char, (.object "java/lang/Class"), .byte, .byte, .byte, .byte, .byte, .byte, .byte, .byte, .byte, .byte, .byte, .byte, .byte, .byte, .byte, .byte, .byte, .byte, .byte, .byte, .byte, .byte, .byte, .byte, .byte, .byte, .byte, .byte, .byte, .byte, .int, .byte, .byte, .byte, .byte, .byte, .byte, .byte, .byte, .byte, .byte, .byte, .byte, .byte, .byte, .byte, .byte, .byte, .byte, .byte, .byte, .byte, .byte, .byte, .byte, .char, .char, .char, .char, .char, .char, .int, .int, .int, .long, .int, .int, .boolean]
  resolved := Array.replicate 604 none
  statics := none }

def pool13 : Array CpInfo := pool [(4, .class_ 6), (1, u "java/lang/Object"), (0, u "<init>"), (0, u "()V"), (5, .class_ 16), (1, u "java/lang/StringLatin1"), (104, u "$assertionsDisabled"), (0, u "Z"), (98, .class_ 223), (1, u "java/lang/StringLatin1$LinesSpliterator"), (166, .class_ 391), (0, u "java/lang/StringLatin1$CharsSpliterator")] 3

def k13m0 : Method := { name := "<init>", desc := "()V", sig := { parameters := [], returnType := none }, accessFlags := 0, code := none }
/-- java/lang/StringLatin1 -/
def k13 : Class := { plain "java/lang/StringLatin1" (some 0) with
  accessFlags := 48
  interfaces := #[]
  cf := some (fileOf pool13 14 #[.nestMembers #[390, 221]] #[{ accessFlags := 0, nameIndex := 7, descriptorIndex := 8, attributes := #[] }] 48 4 #[] #[{ accessFlags := 4120, nameIndex := 121, descriptorIndex := 122, attributes := #[] }])
  fields := #[{ name := "$assertionsDisabled", type := .boolean, accessFlags := 4120, slot := 0, constantValue := 0 }]
  methods := #[k13m0]
  instanceTypes := #[]
  staticTypes := #[.boolean]
  resolved := Array.replicate 395 none
  statics := none }

def pool14 : Array CpInfo := pool [(9, u "<init>"), (6, .class_ 18), (1, u "java/lang/Object"), (0, u "()V"), (1, .class_ 23), (1, u "jdk/internal/util/ArraysSupport"), (0, u "LOG2_ARRAY_LONG_INDEX_SCALE"), (0, u "I"), (2, u "U"), (0, u "Ljdk/internal/misc/Unsafe;"), (8, u "BIG_ENDIAN"), (0, u "Z"), (8, u "LOG2_BYTE_BIT_SIZE"), (4, u "LOG2_ARRAY_INT_INDEX_SCALE"), (54, u "JLA"), (0, u "Ljdk/internal/access/JavaLangAccess;"), (11, u "LOG2_ARRAY_BOOLEAN_INDEX_SCALE"), (9, u "LOG2_ARRAY_BYTE_INDEX_SCALE"), (5, u "LOG2_ARRAY_CHAR_INDEX_SCALE"), (5, u "LOG2_ARRAY_SHORT_INDEX_SCALE"), (18, u "LOG2_ARRAY_FLOAT_INDEX_SCALE"), (24, u "LOG2_ARRAY_DOUBLE_INDEX_SCALE"), (89, u "T_BOOLEAN"), (2, u "T_CHAR"), (1, u "T_FLOAT"), (1, u "T_DOUBLE"), (1, u "T_BYTE"), (1, u "T_SHORT"), (1, u "T_INT"), (1, u "T_LONG"), (1, u "SOFT_MAX_ARRAY_LENGTH")] 83

def k14m0 : Method := { name := "<init>", desc := "()V", sig := { parameters := [], returnType := none }, accessFlags := 2, code := none }
/-- jdk/internal/util/ArraysSupport -/
def k14 : Class := { plain "jdk/internal/util/ArraysSupport" (some 0) with
  accessFlags := 33
  interfaces := #[]
  cf := some (fileOf pool14 21 #[] #[{ accessFlags := 2, nameIndex := 9, descriptorIndex := 19, attributes := #[] }] 33 16 #[] #[{ accessFlags := 24, nameIndex := 28, descriptorIndex := 29, attributes := #[] }, { accessFlags := 26, nameIndex := 38, descriptorIndex := 39, attributes := #[] }, { accessFlags := 25, nameIndex := 121, descriptorIndex := 25, attributes := #[] }, { accessFlags := 25, nameIndex := 131, descriptorIndex := 25, attributes := #[] }, { accessFlags := 25, nameIndex := 137, descriptorIndex := 25, attributes := #[] }, { accessFlags := 25, nameIndex := 143, descriptorIndex := 25, attributes := #[] }, { accessFlags := 25, nameIndex := 53, descriptorIndex := 25, attributes := #[] }, { accessFlags := 25, nameIndex := 24, descriptorIndex := 25, attributes := #[] }, { accessFlags := 25, nameIndex := 162, descriptorIndex := 25, attributes := #[] }, { accessFlags := 25, nameIndex := 187, descriptorIndex := 25, attributes := #[] }, { accessFlags := 26, nameIndex := 48, descriptorIndex := 25, attributes := #[] }, { accessFlags := 25, nameIndex := 277, descriptorIndex := 25, attributes := #[] }, { accessFlags := 25, nameIndex := 280, descriptorIndex := 25, attributes := #[] }, { accessFlags := 25, nameIndex := 282, descriptorIndex := 25, attributes := #[] }, { accessFlags := 25, nameIndex := 284, descriptorIndex := 25, attributes := #[] }, { accessFlags := 25, nameIndex := 286, descriptorIndex := 25, attributes := #[] }, { accessFlags := 25, nameIndex := 288, descriptorIndex := 25, attributes := #[] }, { accessFlags := 25, nameIndex := 290, descriptorIndex := 25, attributes := #[] }, { accessFlags := 25, nameIndex := 292, descriptorIndex := 25, attributes := #[] }, { accessFlags := 26, nameIndex := 108, descriptorIndex := 109, attributes := #[] }, { accessFlags := 25, nameIndex := 294, descriptorIndex := 25, attributes := #[] }])
  fields := #[{ name := "U", type := (.object "jdk/internal/misc/Unsafe"), accessFlags := 24, slot := 0, constantValue := 0 }, { name := "BIG_ENDIAN", type := .boolean, accessFlags := 26, slot := 1, constantValue := 0 }, { name := "LOG2_ARRAY_BOOLEAN_INDEX_SCALE", type := .int, accessFlags := 25, slot := 2, constantValue := 0 }, { name := "LOG2_ARRAY_BYTE_INDEX_SCALE", type := .int, accessFlags := 25, slot := 3, constantValue := 0 }, { name := "LOG2_ARRAY_CHAR_INDEX_SCALE", type := .int, accessFlags := 25, slot := 4, constantValue := 0 }, { name := "LOG2_ARRAY_SHORT_INDEX_SCALE", type := .int, accessFlags := 25, slot := 5, constantValue := 0 }, { name := "LOG2_ARRAY_INT_INDEX_SCALE", type := .int, accessFlags := 25, slot := 6, constantValue := 0 }, { name := "LOG2_ARRAY_LONG_INDEX_SCALE", type := .int, accessFlags := 25, slot := 7, constantValue := 0 }, { name := "LOG2_ARRAY_FLOAT_INDEX_SCALE", type := .int, accessFlags := 25, slot := 8, constantValue := 0 }, { name := "LOG2_ARRAY_DOUBLE_INDEX_SCALE", type := .int, accessFlags := 25, slot := 9, constantValue := 0 }, { name := "LOG2_BYTE_BIT_SIZE", type := .int, accessFlags := 26, slot := 10, constantValue := 0 }, { name := "T_BOOLEAN", type := .int, accessFlags := 25, slot := 11, constantValue := 0 }, { name := "T_CHAR", type := .int, accessFlags := 25, slot := 12, constantValue := 0 }, { name := "T_FLOAT", type := .int, accessFlags := 25, slot := 13, constantValue := 0 }, { name := "T_DOUBLE", type := .int, accessFlags := 25, slot := 14, constantValue := 0 }, { name := "T_BYTE", type := .int, accessFlags := 25, slot := 15, constantValue := 0 }, { name := "T_SHORT", type := .int, accessFlags := 25, slot := 16, constantValue := 0 }, { name := "T_INT", type := .int, accessFlags := 25, slot := 17, constantValue := 0 }, { name := "T_LONG", type := .int, accessFlags := 25, slot := 18, constantValue := 0 }, { name := "JLA", type := (.object "jdk/internal/access/JavaLangAccess"), accessFlags := 26, slot := 19, constantValue := 0 }, { name := "SOFT_MAX_ARRAY_LENGTH", type := .int, accessFlags := 25, slot := 20, constantValue := 0 }]
  methods := #[k14m0]
  instanceTypes := #[]
  staticTypes := #[(.object "jdk/internal/misc/Unsafe"), .boolean, .int, .int, .int, .int, .int, .int, .int, .int, .int, .int, .int, .int, .int, .int, .int, .int, .int, (.object "jdk/internal/access/JavaLangAccess"), .int]
  resolved := Array.replicate 378 none
  statics := none }

def pool15 : Array CpInfo := pool [(1, u "java/lang/Cloneable"), (0, .class_ 1), (0, u "java/lang/Object"), (0, .class_ 3)] 3

/-- java/lang/Cloneable -/
def k15 : Class := { plain "java/lang/Cloneable" (some 0) with
  accessFlags := 1537
  interfaces := #[]
  cf := some (fileOf pool15 2 #[] #[] 1537 4 #[] #[])
  fields := #[]
  methods := #[]
  instanceTypes := #[]
  staticTypes := #[]
  resolved := Array.replicate 8 none
  statics := none }

/-- the primitive byte -/
def k16 : Class := { plain "byte" none with kind := .primitive 'B', accessFlags := 0x411 }
/-- [B -/
def k17 : Class := { plain "[B" (some 0) with kind := .array 16 .byte, interfaces := #[15, 2], accessFlags := 1041 }

/-- the primitive char -/
def k18 : Class := { plain "char" none with kind := .primitive 'C', accessFlags := 0x411 }
/-- [C -/
def k19 : Class := { plain "[C" (some 0) with kind := .array 18 .char, interfaces := #[15, 2], accessFlags := 1041 }

/-- the primitive int -/
def k20 : Class := { plain "int" none with kind := .primitive 'I', accessFlags := 0x411 }
/-- [I -/
def k21 : Class := { plain "[I" (some 0) with kind := .array 20 .int, interfaces := #[15, 2], accessFlags := 1041 }

def heap : Heap := #[{ cls := 7, slots := #[.long 0, .int 1, .null, .int 0, .null, .int 0, .int 0], vm := .statics 7 },
  { cls := 10, slots := #[.int 0, .int 8, .int 0, .int 1], vm := .statics 10 },
  { cls := 11, slots := #[.null, .null, .null], vm := .statics 11 }]
def classes : Array Class := #[k0, k1, k2, k3, k4, k5, k6, k7, k8, k9, k10, k11, k12, k13, k14, k15, k16, k17, k18, k19, k20, k21]
def interned : List (Array UInt16 × Addr) := []
def slotsUsed : Nat := 14
def theMethod : MethodId := ⟨1, 4⟩
def args0 : Array Value := #[.int 5, .int 6, .int 7, .int 8, .int 2]
def aboutOver (below : List Frame) : State where
  vm := { classes := classes, interned := interned.toArray }
  heap := heap
  slotsUsed := slotsUsed
  threads := #[{ frames := .invoking theMethod args0 :: below }]
def below0 : List Frame := [.native { method := ⟨0, 0⟩, args := #[] }]
def about1 : State := aboutOver below0
def p0 : Program := .bare "" "" ""
def e0 : Env := launch0.env 0 0 0
theorem w_frames : about1.frames = Frame.invoking theMethod args0 :: below0 := rfl
set_option maxRecDepth 65536 in
theorem w_args : argsFit about1.vm theMethod args0 = true := by decide +kernel
set_option maxRecDepth 65536 in
theorem w_heap : heapFits about1 = true := by decide +kernel
set_option maxRecDepth 65536 in
theorem w_runnable : about1.curStatus? = some .runnable := by decide +kernel
set_option maxRecDepth 65536 in
theorem w_alone : about1.alone = true := by decide +kernel
set_option maxRecDepth 65536 in
theorem w_named : about1.methodNamed? x = some theMethod := by decide +kernel
set_option maxRecDepth 65536 in
theorem w_hears : about1.hears theMethod below0 = true := by decide +kernel
set_option maxRecDepth 65536 in
theorem w_ripe : about1.ripe theMethod args0 below0 = true := by decide +kernel
theorem w_running : about1.status = .running := rfl
set_option maxRecDepth 65536 in
theorem w_room : about1.hasRoom e0.platform room_1 = true :=
  launch0.hasRoom_least _ room_1 (by decide +kernel) (by decide +kernel) (by decide +kernel) (by decide +kernel) (by decide +kernel) (by decide +kernel)
theorem allAtoms_all (ts : List Jvm.Cond) (a : Array Jvm.Value) (st : Jvm.State) : (allAtoms ts).before a st = ts.all (fun c => c.before a st) := by
  induction ts with
  | nil => rfl
  | cons c t ih =>
    show (Jvm.Cond.and c (allAtoms t)).before a st = _
    rw [Jvm.Cond.before_and, ih, List.all_cons]
def words1 : List Jvm.Cond := Jvm.Cond.code x code maxLocals ret :: tables_1
/-- a 'code' word, met by the world's own term for the bytes: nothing is compared byte by byte -/
theorem code_word {y : MethodName} {bytes : ByteArray} {mx : Nat} {rt : Option FieldType} {a : Array Value} {s : State} {m : MethodId} {meth : Method} {c : Code} (h1 : s.methodNamed? y = some m) (h2 : s.vm.method? m = some meth) (h3 : meth.code = some c) (h4 : c.code = bytes)
    (h5 : (c.maxLocals == mx && c.exceptionTable.isEmpty && decide (c.maxStack ≤ mostOperands) && decide (meth.sig.returnType = rt) && !meth.locks && decide (parseMethodDescriptor y.desc = some meth.sig)) = true) : (Jvm.Cond.code y bytes mx rt).before a s = true := by
  simp only [Bool.and_eq_true, beq_iff_eq, Bool.not_eq_true', decide_eq_true_eq] at h5
  obtain ⟨⟨⟨⟨⟨g1, g2⟩, g3⟩, g4⟩, g5⟩, g6⟩ := h5
  simp [Cond.before, Cond.holds, Cond.value, h1, h2, h3, h4, g1, g2, g3, g4, g5, g6]
def isCode : Jvm.Cond → Bool
  | .code _ _ _ _ => true
  | _ => false
theorem all_split {L : List Jvm.Cond} {P : Jvm.Cond → Bool} (h1 : L.all (fun c => isCode c || P c) = true) (h2 : ∀ c ∈ L.filter isCode, P c = true) : L.all P = true := by
  refine List.all_eq_true.mpr fun c hc => ?_
  have h := List.all_eq_true.mp h1 c hc
  rcases Bool.eq_false_or_eq_true (isCode c) with hi | hi
  · exact h2 c (List.mem_filter.mpr ⟨hc, hi⟩)
  · simpa [hi] using h
set_option maxRecDepth 65536 in
theorem w_c0 : (Jvm.Cond.code x code maxLocals ret).before args0 about1 = true := code_word (m := ⟨1, 4⟩) (meth := k1m4) (c := k1c4) (by decide +kernel) rfl rfl rfl (by decide +kernel)
set_option maxRecDepth 65536 in
theorem w_c1 : (Jvm.Cond.code ({ cls := "com/example/rhadamanthus/rhadamanthus/util/Utf16LoneSurrogateIndexPinLaw", name := "draw", desc := "(I)C" } : Jvm.MethodName) method_2_code (3 : Nat) (Option.some Jvm.ClassFile.FieldType.char)).before args0 about1 = true := code_word (m := ⟨1, 1⟩) (meth := k1m1) (c := k1c1) (by decide +kernel) rfl rfl rfl (by decide +kernel)
set_option maxRecDepth 65536 in
theorem w_c2 : (Jvm.Cond.code ({ cls := "java/lang/String", name := "<init>", desc := "([C)V" } : Jvm.MethodName) jdk_42_method_3_code (2 : Nat) (Option.none : Option Jvm.ClassFile.FieldType)).before args0 about1 = true := code_word (m := ⟨7, 1⟩) (meth := k7m1) (c := k7c1) (by decide +kernel) rfl rfl rfl (by decide +kernel)
set_option maxRecDepth 65536 in
theorem w_c3 : (Jvm.Cond.code ({ cls := "java/lang/String", name := "<init>", desc := "([CIILjava/lang/Void;)V" } : Jvm.MethodName) jdk_42_method_149_code (6 : Nat) (Option.none : Option Jvm.ClassFile.FieldType)).before args0 about1 = true := code_word (m := ⟨7, 4⟩) (meth := k7m4) (c := k7c4) (by decide +kernel) rfl rfl rfl (by decide +kernel)
set_option maxRecDepth 65536 in
theorem w_c4 : (Jvm.Cond.code ({ cls := "java/lang/Object", name := "<init>", desc := "()V" } : Jvm.MethodName) object_method_1_code (1 : Nat) (Option.none : Option Jvm.ClassFile.FieldType)).before args0 about1 = true := code_word (m := ⟨0, 0⟩) (meth := k0m0) (c := k0c0) (by decide +kernel) rfl rfl rfl (by decide +kernel)
set_option maxRecDepth 65536 in
theorem w_c5 : (Jvm.Cond.code ({ cls := "com/example/rhadamanthus/rhadamanthus/util/Utf16", name := "loneSurrogateIndex", desc := "(Ljava/lang/String;)I" } : Jvm.MethodName) prog_46_method_2_code (4 : Nat) (Option.some Jvm.ClassFile.FieldType.int)).before args0 about1 = true := code_word (m := ⟨8, 1⟩) (meth := k8m1) (c := k8c1) (by decide +kernel) rfl rfl rfl (by decide +kernel)
set_option maxRecDepth 65536 in
theorem w_c6 : (Jvm.Cond.code ({ cls := "java/util/Objects", name := "requireNonNull", desc := "(Ljava/lang/Object;Ljava/lang/String;)Ljava/lang/Object;" } : Jvm.MethodName) jdk_31_method_11_code (2 : Nat) (Option.some (Jvm.ClassFile.FieldType.object "java/lang/Object"))).before args0 about1 = true := code_word (m := ⟨9, 1⟩) (meth := k9m1) (c := k9c1) (by decide +kernel) rfl rfl rfl (by decide +kernel)
set_option maxRecDepth 65536 in
theorem w_c7 : (Jvm.Cond.code ({ cls := "java/lang/String", name := "length", desc := "()I" } : Jvm.MethodName) jdk_42_method_54_code (1 : Nat) (Option.some Jvm.ClassFile.FieldType.int)).before args0 about1 = true := code_word (m := ⟨7, 2⟩) (meth := k7m2) (c := k7c2) (by decide +kernel) rfl rfl rfl (by decide +kernel)
set_option maxRecDepth 65536 in
theorem w_c8 : (Jvm.Cond.code ({ cls := "java/lang/String", name := "coder", desc := "()B" } : Jvm.MethodName) jdk_42_method_152_code (1 : Nat) (Option.some Jvm.ClassFile.FieldType.byte)).before args0 about1 = true := code_word (m := ⟨7, 5⟩) (meth := k7m5) (c := k7c5) (by decide +kernel) rfl rfl rfl (by decide +kernel)
set_option maxRecDepth 65536 in
theorem w_c9 : (Jvm.Cond.code ({ cls := "java/lang/StringUTF16", name := "compress", desc := "([CII)[B" } : Jvm.MethodName) jdk_52_method_16_code (6 : Nat) (Option.some (Jvm.ClassFile.FieldType.array Jvm.ClassFile.FieldType.byte))).before args0 about1 = true := code_word (m := ⟨10, 9⟩) (meth := k10m9) (c := k10c9) (by decide +kernel) rfl rfl rfl (by decide +kernel)
set_option maxRecDepth 65536 in
theorem w_c10 : (Jvm.Cond.code ({ cls := "java/lang/StringUTF16", name := "compress", desc := "([CI[BII)I" } : Jvm.MethodName) jdk_52_method_21_code (7 : Nat) (Option.some Jvm.ClassFile.FieldType.int)).before args0 about1 = true := code_word (m := ⟨10, 10⟩) (meth := k10m10) (c := k10c10) (by decide +kernel) rfl rfl rfl (by decide +kernel)
set_option maxRecDepth 65536 in
theorem w_c11 : (Jvm.Cond.code ({ cls := "java/lang/StringUTF16", name := "coderFromArrayLen", desc := "([BI)B" } : Jvm.MethodName) jdk_52_method_15_code (2 : Nat) (Option.some Jvm.ClassFile.FieldType.byte)).before args0 about1 = true := code_word (m := ⟨10, 8⟩) (meth := k10m8) (c := k10c8) (by decide +kernel) rfl rfl rfl (by decide +kernel)
set_option maxRecDepth 65536 in
theorem w_c12 : (Jvm.Cond.code ({ cls := "com/example/rhadamanthus/rhadamanthus/util/Utf16LoneSurrogateIndexPinLaw", name := "hi", desc := "(C)Z" } : Jvm.MethodName) method_3_code (1 : Nat) (Option.some Jvm.ClassFile.FieldType.boolean)).before args0 about1 = true := code_word (m := ⟨1, 2⟩) (meth := k1m2) (c := k1c2) (by decide +kernel) rfl rfl rfl (by decide +kernel)
set_option maxRecDepth 65536 in
theorem w_c13 : (Jvm.Cond.code ({ cls := "com/example/rhadamanthus/rhadamanthus/util/Utf16LoneSurrogateIndexPinLaw", name := "lo", desc := "(C)Z" } : Jvm.MethodName) method_4_code (1 : Nat) (Option.some Jvm.ClassFile.FieldType.boolean)).before args0 about1 = true := code_word (m := ⟨1, 3⟩) (meth := k1m3) (c := k1c3) (by decide +kernel) rfl rfl rfl (by decide +kernel)
set_option maxRecDepth 65536 in
theorem w_c14 : (Jvm.Cond.code ({ cls := "java/lang/String", name := "codePointAt", desc := "(I)I" } : Jvm.MethodName) jdk_42_method_57_code (3 : Nat) (Option.some Jvm.ClassFile.FieldType.int)).before args0 about1 = true := code_word (m := ⟨7, 3⟩) (meth := k7m3) (c := k7c3) (by decide +kernel) rfl rfl rfl (by decide +kernel)
set_option maxRecDepth 65536 in
theorem w_c15 : (Jvm.Cond.code ({ cls := "java/lang/String", name := "isLatin1", desc := "()Z" } : Jvm.MethodName) jdk_42_method_154_code (1 : Nat) (Option.some Jvm.ClassFile.FieldType.boolean)).before args0 about1 = true := code_word (m := ⟨7, 6⟩) (meth := k7m6) (c := k7c6) (by decide +kernel) rfl rfl rfl (by decide +kernel)
set_option maxRecDepth 65536 in
theorem w_c16 : (Jvm.Cond.code ({ cls := "java/lang/String", name := "checkIndex", desc := "(II)V" } : Jvm.MethodName) jdk_42_method_155_code (2 : Nat) (Option.none : Option Jvm.ClassFile.FieldType)).before args0 about1 = true := code_word (m := ⟨7, 7⟩) (meth := k7m7) (c := k7c7) (by decide +kernel) rfl rfl rfl (by decide +kernel)
set_option maxRecDepth 65536 in
theorem w_c17 : (Jvm.Cond.code ({ cls := "jdk/internal/util/Preconditions", name := "checkIndex", desc := "(IILjava/util/function/BiFunction;)I" } : Jvm.MethodName) jdk_41_method_11_code (3 : Nat) (Option.some Jvm.ClassFile.FieldType.int)).before args0 about1 = true := code_word (m := ⟨11, 1⟩) (meth := k11m1) (c := k11c1) (by decide +kernel) rfl rfl rfl (by decide +kernel)
set_option maxRecDepth 65536 in
theorem w_c18 : (Jvm.Cond.code ({ cls := "java/lang/Character", name := "charCount", desc := "(I)I" } : Jvm.MethodName) jdk_89_method_18_code (1 : Nat) (Option.some Jvm.ClassFile.FieldType.int)).before args0 about1 = true := code_word (m := ⟨12, 2⟩) (meth := k12m2) (c := k12c2) (by decide +kernel) rfl rfl rfl (by decide +kernel)
set_option maxRecDepth 65536 in
theorem w_c19 : (Jvm.Cond.code ({ cls := "java/lang/StringUTF16", name := "toBytes", desc := "([CII)[B" } : Jvm.MethodName) jdk_52_method_14_code (5 : Nat) (Option.some (Jvm.ClassFile.FieldType.array Jvm.ClassFile.FieldType.byte))).before args0 about1 = true := code_word (m := ⟨10, 7⟩) (meth := k10m7) (c := k10c7) (by decide +kernel) rfl rfl rfl (by decide +kernel)
set_option maxRecDepth 65536 in
theorem w_c20 : (Jvm.Cond.code ({ cls := "java/lang/StringUTF16", name := "newBytesFor", desc := "(I)[B" } : Jvm.MethodName) jdk_52_method_2_code (1 : Nat) (Option.some (Jvm.ClassFile.FieldType.array Jvm.ClassFile.FieldType.byte))).before args0 about1 = true := code_word (m := ⟨10, 1⟩) (meth := k10m1) (c := k10c1) (by decide +kernel) rfl rfl rfl (by decide +kernel)
set_option maxRecDepth 65536 in
theorem w_c21 : (Jvm.Cond.code ({ cls := "java/lang/StringUTF16", name := "newBytesLength", desc := "(I)I" } : Jvm.MethodName) jdk_52_method_3_code (1 : Nat) (Option.some Jvm.ClassFile.FieldType.int)).before args0 about1 = true := code_word (m := ⟨10, 2⟩) (meth := k10m2) (c := k10c2) (by decide +kernel) rfl rfl rfl (by decide +kernel)
set_option maxRecDepth 65536 in
theorem w_c22 : (Jvm.Cond.code ({ cls := "java/lang/StringUTF16", name := "putChar", desc := "([BII)V" } : Jvm.MethodName) jdk_52_method_4_code (3 : Nat) (Option.none : Option Jvm.ClassFile.FieldType)).before args0 about1 = true := code_word (m := ⟨10, 3⟩) (meth := k10m3) (c := k10c3) (by decide +kernel) rfl rfl rfl (by decide +kernel)
set_option maxRecDepth 65536 in
theorem w_c23 : (Jvm.Cond.code ({ cls := "java/lang/StringUTF16", name := "getChar", desc := "([BI)C" } : Jvm.MethodName) jdk_52_method_5_code (2 : Nat) (Option.some Jvm.ClassFile.FieldType.char)).before args0 about1 = true := code_word (m := ⟨10, 4⟩) (meth := k10m4) (c := k10c4) (by decide +kernel) rfl rfl rfl (by decide +kernel)
set_option maxRecDepth 65536 in
theorem w_c24 : (Jvm.Cond.code ({ cls := "java/lang/StringUTF16", name := "codePointAt", desc := "([BII)I" } : Jvm.MethodName) jdk_52_method_8_code (3 : Nat) (Option.some Jvm.ClassFile.FieldType.int)).before args0 about1 = true := code_word (m := ⟨10, 6⟩) (meth := k10m6) (c := k10c6) (by decide +kernel) rfl rfl rfl (by decide +kernel)
set_option maxRecDepth 65536 in
theorem w_c25 : (Jvm.Cond.code ({ cls := "java/lang/StringUTF16", name := "codePointAt", desc := "([BIIZ)I" } : Jvm.MethodName) jdk_52_method_7_code (6 : Nat) (Option.some Jvm.ClassFile.FieldType.int)).before args0 about1 = true := code_word (m := ⟨10, 5⟩) (meth := k10m5) (c := k10c5) (by decide +kernel) rfl rfl rfl (by decide +kernel)
set_option maxRecDepth 65536 in
theorem w_c26 : (Jvm.Cond.code ({ cls := "java/lang/Character", name := "isHighSurrogate", desc := "(C)Z" } : Jvm.MethodName) jdk_89_method_14_code (1 : Nat) (Option.some Jvm.ClassFile.FieldType.boolean)).before args0 about1 = true := code_word (m := ⟨12, 0⟩) (meth := k12m0) (c := k12c0) (by decide +kernel) rfl rfl rfl (by decide +kernel)
set_option maxRecDepth 65536 in
theorem w_c27 : (Jvm.Cond.code ({ cls := "java/lang/Character", name := "isLowSurrogate", desc := "(C)Z" } : Jvm.MethodName) jdk_89_method_15_code (1 : Nat) (Option.some Jvm.ClassFile.FieldType.boolean)).before args0 about1 = true := code_word (m := ⟨12, 1⟩) (meth := k12m1) (c := k12c1) (by decide +kernel) rfl rfl rfl (by decide +kernel)
set_option maxRecDepth 65536 in
theorem w_c28 : (Jvm.Cond.code ({ cls := "java/lang/Character", name := "toCodePoint", desc := "(CC)I" } : Jvm.MethodName) jdk_89_method_19_code (2 : Nat) (Option.some Jvm.ClassFile.FieldType.int)).before args0 about1 = true := code_word (m := ⟨12, 3⟩) (meth := k12m3) (c := k12c3) (by decide +kernel) rfl rfl rfl (by decide +kernel)
def codes1 : List Jvm.Cond := [Jvm.Cond.code x code maxLocals ret, Jvm.Cond.code ({ cls := "com/example/rhadamanthus/rhadamanthus/util/Utf16LoneSurrogateIndexPinLaw", name := "draw", desc := "(I)C" } : Jvm.MethodName) method_2_code (3 : Nat) (Option.some Jvm.ClassFile.FieldType.char), Jvm.Cond.code ({ cls := "java/lang/String", name := "<init>", desc := "([C)V" } : Jvm.MethodName) jdk_42_method_3_code (2 : Nat) (Option.none : Option Jvm.ClassFile.FieldType), Jvm.Cond.code ({ cls := "java/lang/String", name := "<init>", desc := "([CIILjava/lang/Void;)V" } : Jvm.MethodName) jdk_42_method_149_code (6 : Nat) (Option.none : Option Jvm.ClassFile.FieldType), Jvm.Cond.code ({ cls := "java/lang/Object", name := "<init>", desc := "()V" } : Jvm.MethodName) object_method_1_code (1 : Nat) (Option.none : Option Jvm.ClassFile.FieldType), Jvm.Cond.code ({ cls := "com/example/rhadamanthus/rhadamanthus/util/Utf16", name := "loneSurrogateIndex", desc := "(Ljava/lang/String;)I" } : Jvm.MethodName) prog_46_method_2_code (4 : Nat) (Option.some Jvm.ClassFile.FieldType.int), Jvm.Cond.code ({ cls := "java/util/Objects", name := "requireNonNull", desc := "(Ljava/lang/Object;Ljava/lang/String;)Ljava/lang/Object;" } : Jvm.MethodName) jdk_31_method_11_code (2 : Nat) (Option.some (Jvm.ClassFile.FieldType.object "java/lang/Object")), Jvm.Cond.code ({ cls := "java/lang/String", name := "length", desc := "()I" } : Jvm.MethodName) jdk_42_method_54_code (1 : Nat) (Option.some Jvm.ClassFile.FieldType.int), Jvm.Cond.code ({ cls := "java/lang/String", name := "coder", desc := "()B" } : Jvm.MethodName) jdk_42_method_152_code (1 : Nat) (Option.some Jvm.ClassFile.FieldType.byte), Jvm.Cond.code ({ cls := "java/lang/StringUTF16", name := "compress", desc := "([CII)[B" } : Jvm.MethodName) jdk_52_method_16_code (6 : Nat) (Option.some (Jvm.ClassFile.FieldType.array Jvm.ClassFile.FieldType.byte)), Jvm.Cond.code ({ cls := "java/lang/StringUTF16", name := "compress", desc := "([CI[BII)I" } : Jvm.MethodName) jdk_52_method_21_code (7 : Nat) (Option.some Jvm.ClassFile.FieldType.int), Jvm.Cond.code ({ cls := "java/lang/StringUTF16", name := "coderFromArrayLen", desc := "([BI)B" } : Jvm.MethodName) jdk_52_method_15_code (2 : Nat) (Option.some Jvm.ClassFile.FieldType.byte), Jvm.Cond.code ({ cls := "com/example/rhadamanthus/rhadamanthus/util/Utf16LoneSurrogateIndexPinLaw", name := "hi", desc := "(C)Z" } : Jvm.MethodName) method_3_code (1 : Nat) (Option.some Jvm.ClassFile.FieldType.boolean), Jvm.Cond.code ({ cls := "com/example/rhadamanthus/rhadamanthus/util/Utf16LoneSurrogateIndexPinLaw", name := "lo", desc := "(C)Z" } : Jvm.MethodName) method_4_code (1 : Nat) (Option.some Jvm.ClassFile.FieldType.boolean), Jvm.Cond.code ({ cls := "java/lang/String", name := "codePointAt", desc := "(I)I" } : Jvm.MethodName) jdk_42_method_57_code (3 : Nat) (Option.some Jvm.ClassFile.FieldType.int), Jvm.Cond.code ({ cls := "java/lang/String", name := "isLatin1", desc := "()Z" } : Jvm.MethodName) jdk_42_method_154_code (1 : Nat) (Option.some Jvm.ClassFile.FieldType.boolean), Jvm.Cond.code ({ cls := "java/lang/String", name := "checkIndex", desc := "(II)V" } : Jvm.MethodName) jdk_42_method_155_code (2 : Nat) (Option.none : Option Jvm.ClassFile.FieldType), Jvm.Cond.code ({ cls := "jdk/internal/util/Preconditions", name := "checkIndex", desc := "(IILjava/util/function/BiFunction;)I" } : Jvm.MethodName) jdk_41_method_11_code (3 : Nat) (Option.some Jvm.ClassFile.FieldType.int), Jvm.Cond.code ({ cls := "java/lang/Character", name := "charCount", desc := "(I)I" } : Jvm.MethodName) jdk_89_method_18_code (1 : Nat) (Option.some Jvm.ClassFile.FieldType.int), Jvm.Cond.code ({ cls := "java/lang/StringUTF16", name := "toBytes", desc := "([CII)[B" } : Jvm.MethodName) jdk_52_method_14_code (5 : Nat) (Option.some (Jvm.ClassFile.FieldType.array Jvm.ClassFile.FieldType.byte)), Jvm.Cond.code ({ cls := "java/lang/StringUTF16", name := "newBytesFor", desc := "(I)[B" } : Jvm.MethodName) jdk_52_method_2_code (1 : Nat) (Option.some (Jvm.ClassFile.FieldType.array Jvm.ClassFile.FieldType.byte)), Jvm.Cond.code ({ cls := "java/lang/StringUTF16", name := "newBytesLength", desc := "(I)I" } : Jvm.MethodName) jdk_52_method_3_code (1 : Nat) (Option.some Jvm.ClassFile.FieldType.int), Jvm.Cond.code ({ cls := "java/lang/StringUTF16", name := "putChar", desc := "([BII)V" } : Jvm.MethodName) jdk_52_method_4_code (3 : Nat) (Option.none : Option Jvm.ClassFile.FieldType), Jvm.Cond.code ({ cls := "java/lang/StringUTF16", name := "getChar", desc := "([BI)C" } : Jvm.MethodName) jdk_52_method_5_code (2 : Nat) (Option.some Jvm.ClassFile.FieldType.char), Jvm.Cond.code ({ cls := "java/lang/StringUTF16", name := "codePointAt", desc := "([BII)I" } : Jvm.MethodName) jdk_52_method_8_code (3 : Nat) (Option.some Jvm.ClassFile.FieldType.int), Jvm.Cond.code ({ cls := "java/lang/StringUTF16", name := "codePointAt", desc := "([BIIZ)I" } : Jvm.MethodName) jdk_52_method_7_code (6 : Nat) (Option.some Jvm.ClassFile.FieldType.int), Jvm.Cond.code ({ cls := "java/lang/Character", name := "isHighSurrogate", desc := "(C)Z" } : Jvm.MethodName) jdk_89_method_14_code (1 : Nat) (Option.some Jvm.ClassFile.FieldType.boolean), Jvm.Cond.code ({ cls := "java/lang/Character", name := "isLowSurrogate", desc := "(C)Z" } : Jvm.MethodName) jdk_89_method_15_code (1 : Nat) (Option.some Jvm.ClassFile.FieldType.boolean), Jvm.Cond.code ({ cls := "java/lang/Character", name := "toCodePoint", desc := "(CC)I" } : Jvm.MethodName) jdk_89_method_19_code (2 : Nat) (Option.some Jvm.ClassFile.FieldType.int)]
set_option maxRecDepth 65536 in
theorem codes_eq : words1.filter isCode = codes1 := rfl
theorem w_codes : ∀ c ∈ words1.filter isCode, c.before args0 about1 = true := by
  rw [codes_eq]
  intro c hc
  simp only [codes1, List.mem_cons, List.not_mem_nil, or_false] at hc
  rcases hc with rfl | rfl | rfl | rfl | rfl | rfl | rfl | rfl | rfl | rfl | rfl | rfl | rfl | rfl | rfl | rfl | rfl | rfl | rfl | rfl | rfl | rfl | rfl | rfl | rfl | rfl | rfl | rfl | rfl
  · exact w_c0
  · exact w_c1
  · exact w_c2
  · exact w_c3
  · exact w_c4
  · exact w_c5
  · exact w_c6
  · exact w_c7
  · exact w_c8
  · exact w_c9
  · exact w_c10
  · exact w_c11
  · exact w_c12
  · exact w_c13
  · exact w_c14
  · exact w_c15
  · exact w_c16
  · exact w_c17
  · exact w_c18
  · exact w_c19
  · exact w_c20
  · exact w_c21
  · exact w_c22
  · exact w_c23
  · exact w_c24
  · exact w_c25
  · exact w_c26
  · exact w_c27
  · exact w_c28
set_option maxRecDepth 65536 in
theorem w_t1 : (words1.take 24).all (fun c => isCode c || c.before args0 about1) = true := by decide +kernel
set_option maxRecDepth 65536 in
theorem w_t2 : ((words1.drop 24).take 24).all (fun c => isCode c || c.before args0 about1) = true := by decide +kernel
set_option maxRecDepth 65536 in
theorem w_t3 : (((words1.drop 24).drop 24).take 24).all (fun c => isCode c || c.before args0 about1) = true := by decide +kernel
set_option maxRecDepth 65536 in
theorem w_t4 : ((((words1.drop 24).drop 24).drop 24).take 24).all (fun c => isCode c || c.before args0 about1) = true := by decide +kernel
set_option maxRecDepth 65536 in
theorem w_t5 : (((((words1.drop 24).drop 24).drop 24).drop 24).take 24).all (fun c => isCode c || c.before args0 about1) = true := by decide +kernel
set_option maxRecDepth 65536 in
theorem w_t6 : (((((words1.drop 24).drop 24).drop 24).drop 24).drop 24).all (fun c => isCode c || c.before args0 about1) = true := by decide +kernel
theorem w_tables : (allAtoms (Jvm.Cond.code x code maxLocals ret :: tables_1)).before args0 about1 = true := by
  rw [allAtoms_all]
  show words1.all (fun c => c.before args0 about1) = true
  refine all_split ?_ w_codes
  rw [← List.take_append_drop 24 words1, List.all_append, w_t1, ← List.take_append_drop 24 (words1.drop 24), List.all_append, w_t2, ← List.take_append_drop 24 ((words1.drop 24).drop 24), List.all_append, w_t3, ← List.take_append_drop 24 (((words1.drop 24).drop 24).drop 24), List.all_append, w_t4, ← List.take_append_drop 24 ((((words1.drop 24).drop 24).drop 24).drop 24), List.all_append, w_t5, w_t6]
  rfl
set_option maxRecDepth 65536 in
theorem w_rest : rest_1_c.before args0 about1 = true := by decide +kernel
set_option maxRecDepth 65536 in
theorem w_case : (Jvm.Cond.and given_1 narrow_1).before args0 about1 = true := by decide +kernel
set_option maxRecDepth 65536 in
theorem w_consts : constsHeld consts_1 about1 := Jvm.Lit.constsHeldB_iff.mp (by decide +kernel)
theorem w_applies : (headSpec (Jvm.Cond.code x code maxLocals ret :: tables_1) room_1).applies x e0.platform about1 = true :=
  (Spec.applies_iff w_frames).mpr ⟨w_running, w_runnable, w_alone, w_named, w_hears, w_ripe, w_room, w_tables⟩
theorem atStart : AtStart classFile x code maxLocals ret World_1 tables_1 room_1 Calls_1 rest_1 Pre_1 launch0 p0 e0 about1 theMethod args0 below0 :=
  ⟨lists_1, trivial, launch0.admits_env _ _ _, launch0.least_env, fairChoices_fair.cas, fairChoices_fair.clock, w_frames, w_args, w_heap, w_applies, ⟨w_consts, trivial⟩, w_rest, w_case⟩
end start1
theorem witness_1 : WitnessClaimed_1 := ⟨start1.p0, start1.e0, start1.about1, start1.theMethod, start1.args0, start1.below0, start1.atStart⟩
end Jvm.Pilot.@@N@@
