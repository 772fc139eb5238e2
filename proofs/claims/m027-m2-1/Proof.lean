import JvmDerived
import JvmDerived.Pilot.@@N@@Statement
import JvmDerived.Pilot.@@N@@Code
set_option linter.unusedVariables false
set_option linter.unusedSimpArgs false
namespace Jvm.Pilot.@@N@@
open Jvm Jvm.ClassFile Sem Op Lib Jvm.Free Jvm.Stand Jvm.LawKit Jvm.RoadKit Bundle Jvm.Pilot.@@N@@.Jvm.D
/-! own kit: the walk in program order: own_G says that from this frame on the run ends as promised -/
def own_G (tb : Tables) (e : Env) (below : List Frame) (P : Outcome → State → Prop) (T : State) (f : JFrame) : Prop :=
  ∃ s₂ o, Steps tb e below (T.setTop f) s₂ ∧ s₂.status = .running ∧ Ended s₂ below o ∧ P o s₂
def own_P (s : State) (Q : Option Value → Heap → List Loc → Prop) (C S : Nat) (o : Outcome) (U : State) : Prop :=
  ∃ v L, o = .returned v ∧ Q v U.heap L ∧ FrameEnd s o U L C S
theorem own_go {tb : Tables} {e : Env} {below : List Frame} {P : Outcome → State → Prop} {T T' : State} {f f' : JFrame} (st : ∀ target, Steps tb e below (T'.setTop f') target → Steps tb e below (T.setTop f) target) (k : own_G tb e below P T' f') : own_G tb e below P T f := by
  obtain ⟨s₂, o, h1, h2⟩ := k
  exact ⟨s₂, o, st _ h1, h2⟩
section OwnKit
variable {p : Program} {l : Launch} {e : Env} {R : Room} {s : State} {m : MethodId} {args : Array Value} {below : List Frame} {meth : Method} {c : Code} {T : State} {locs : List Loc} {cells slots : Nat} {Z : State} {a0 : Array Value} {h : Heap} {P : Outcome → State → Prop}
theorem own_body {y : MethodName} {bytes : ByteArray} {maxL : Nat} {ret : Option FieldType} {ws : List Jvm.Cond} {rm : Room} {as' : Array Value} {Q : Option Value → Heap → List Loc → Prop} {C S : Nat} (pn : plainFor y = true)
    (body : ∀ p e s m below meth c s₁, p.tables.exec = Jvm.exec → c.code = bytes → c.maxLocals = maxL → s.vm.findClass y.cls = some m.cls → meth.name = y.name → meth.locks = false → meth.sig.returnType = ret → Z.Warmed39 s.vm → Stand p l e rm s m as' below meth c s₁ [] 0 0 → s₁.heap = h →
      own_G p.tables e below (own_P s Q C S) s₁ (entryFrame m as' maxL)) :
    MetFree l y (head1 (Jvm.Cond.code y bytes maxL ret :: ws) rm) (fun a U => a = as' ∧ Z.Warmed39 U.vm ∧ U.heap = h) (fun _ _ _ _ _ => True) (fun _ U o U' => ∃ v L, o = .returned v ∧ Q v U'.heap L ∧ FrameEnd U o U' L C S) := by
  refine MetFree.of_bodySF (maxLocals := maxL) (ret := ret) (code := bytes) pn hisR ?_
  intro p e s m args below meth c s₁ Bd hml0 hP hK
  obtain ⟨rfl, hZ, hh⟩ := hP
  exact body p e s m below meth c s₁ Bd.exec Bd.bytes hml0 (findClass_of_methodNamed Bd.named) (name_of_methodNamed Bd.named Bd.method).1 (BodyLoose.notSynchronized Bd) Bd.returns hZ (Stand.of_body Bd) (by rw [← hh, Bd.state]; rfl)
theorem own_ret {v : Option Value} {f : JFrame} {Q : Option Value → Heap → List Loc → Prop} {C S : Nat} (X : Stand p l e R s m args below meth c T locs cells slots) (hlk : meth.locks = false) (hv : meth.sig.returnType = none → v = none)
    (st : ∀ fs, (∀ (f : JFrame) (acts : List Action), f.method = m → f.locked = none → f.entered = [] → (doReturn e (T.setTop f) acts v).1 = T.setFrames fs) → Steps p.tables e below (T.setTop f) (T.setFrames fs)) (hC : cells ≤ C) (hS : slots ≤ S) (hq : Q v T.heap locs) : own_G p.tables e below (own_P s Q C S) T f := by
  obtain ⟨fs, hr, hrun, hended, hW, hsame⟩ := X.leave (v := v) hv hlk
  exact ⟨_, _, st fs hr, hrun, hended, _, _, rfl, hq, ⟨_, rfl⟩, hW, hsame.mono hC hS⟩
theorem own_retN {Q : Option Value → Heap → List Loc → Prop} {C S : Nat} (X : Stand p l e R s m args below meth c T locs cells slots) (hx : p.tables.exec = Jvm.exec) (hlk : meth.locks = false) {t : FieldType} (hret : meth.sig.returnType = some t) (ht : t = .boolean ∨ t = .byte ∨ t = .char ∨ t = .short) {pc : Nat} {Ls : Array Slot} {z : Int32} {rest : List Value} (hd : decode c.code pc = .ok (.ireturn, 1)) (hC : cells ≤ C) (hS : slots ≤ S) (hq : Q (some (.int (nar t z))) T.heap locs) :
    own_G p.tables e below (own_P s Q C S) T (mkF m pc Ls (.int z :: rest)) :=
  own_ret X hlk (fun h => by rw [hret] at h; cases h) (fun fs hr => retN X hx hret ht hd hr) hC hS hq
theorem own_retI {Q : Option Value → Heap → List Loc → Prop} {C S : Nat} (X : Stand p l e R s m args below meth c T locs cells slots) (hx : p.tables.exec = Jvm.exec) (hlk : meth.locks = false) (hret : meth.sig.returnType = some .int) {pc : Nat} {Ls : Array Slot} {z : Int32} {rest : List Value} (hd : decode c.code pc = .ok (.ireturn, 1)) (hC : cells ≤ C) (hS : slots ≤ S) (hq : Q (some (.int z)) T.heap locs) :
    own_G p.tables e below (own_P s Q C S) T (mkF m pc Ls (.int z :: rest)) :=
  own_ret X hlk (fun h => by rw [hret] at h; cases h) (fun fs hr => retOut X hx hret rfl (Or.inl ⟨rfl, Or.inl rfl, z, rfl⟩) hd hr) hC hS hq
theorem own_retJ {Q : Option Value → Heap → List Loc → Prop} {C S : Nat} (X : Stand p l e R s m args below meth c T locs cells slots) (hx : p.tables.exec = Jvm.exec) (hlk : meth.locks = false) (hret : meth.sig.returnType = some .long) {pc : Nat} {Ls : Array Slot} {z : Int64} {rest : List Value} (hd : decode c.code pc = .ok (.lreturn, 1)) (hC : cells ≤ C) (hS : slots ≤ S) (hq : Q (some (.long z)) T.heap locs) :
    own_G p.tables e below (own_P s Q C S) T (mkF m pc Ls (.long z :: rest)) :=
  own_ret X hlk (fun h => by rw [hret] at h; cases h) (fun fs hr => retOut X hx hret rfl (Or.inr (Or.inl ⟨rfl, rfl, z, rfl⟩)) hd hr) hC hS hq
theorem own_retA {Q : Option Value → Heap → List Loc → Prop} {C S : Nat} (X : Stand p l e R s m args below meth c T locs cells slots) (hx : p.tables.exec = Jvm.exec) (hlk : meth.locks = false) {t : FieldType} (hret : meth.sig.returnType = some t) (ht : t.isReference = true) {pc : Nat} {Ls : Array Slot} {w : Value} {rest : List Value} (hw : w.isRef = true) (hn : narrow t w = w) (hd : decode c.code pc = .ok (.areturn, 1)) (hC : cells ≤ C) (hS : slots ≤ S) (hq : Q (some w) T.heap locs) :
    own_G p.tables e below (own_P s Q C S) T (mkF m pc Ls (w :: rest)) :=
  own_ret X hlk (fun h => by rw [hret] at h; cases h) (fun fs hr => retOut X hx hret hn (Or.inr (Or.inr (Or.inr (Or.inr ⟨rfl, ht, hw⟩)))) hd hr) hC hS hq
theorem own_retV {Q : Option Value → Heap → List Loc → Prop} {C S : Nat} (X : Stand p l e R s m args below meth c T locs cells slots) (hx : p.tables.exec = Jvm.exec) (hlk : meth.locks = false) (hret : meth.sig.returnType = none) {pc : Nat} {Ls : Array Slot} (hd : decode c.code pc = .ok (.return_, 1)) (hC : cells ≤ C) (hS : slots ≤ S) (hq : Q none T.heap locs) :
    own_G p.tables e below (own_P s Q C S) T (mkF m pc Ls []) :=
  own_ret X hlk (fun h => rfl) (fun fs hr => X.returnOut hx hret hd hr) hC hS hq
theorem own_iadd (X : Stand p l e R s m args below meth c T locs cells slots) (hx : p.tables.exec = Jvm.exec) {pc pc' : Nat} {Ls : Array Slot} {x y z : Int32} {rest : List Value} (hd : decode c.code pc = .ok (.iadd, 1)) (hz : x + y = z) (hp : pc + 1 = pc') (k : own_G p.tables e below P T (mkF m pc' Ls (.int z :: rest))) : own_G p.tables e below P T (mkF m pc Ls (.int y :: .int x :: rest)) := by
  subst hp; subst hz; exact own_go (fun t q => XS.iadd X.here hx rfl hd rfl q) k
theorem own_isub (X : Stand p l e R s m args below meth c T locs cells slots) (hx : p.tables.exec = Jvm.exec) {pc pc' : Nat} {Ls : Array Slot} {x y z : Int32} {rest : List Value} (hd : decode c.code pc = .ok (.isub, 1)) (hz : x - y = z) (hp : pc + 1 = pc') (k : own_G p.tables e below P T (mkF m pc' Ls (.int z :: rest))) : own_G p.tables e below P T (mkF m pc Ls (.int y :: .int x :: rest)) := by
  subst hp; subst hz; exact own_go (fun t q => XS.isub X.here hx rfl hd rfl q) k
theorem own_imul (X : Stand p l e R s m args below meth c T locs cells slots) (hx : p.tables.exec = Jvm.exec) {pc pc' : Nat} {Ls : Array Slot} {x y z : Int32} {rest : List Value} (hd : decode c.code pc = .ok (.imul, 1)) (hz : x * y = z) (hp : pc + 1 = pc') (k : own_G p.tables e below P T (mkF m pc' Ls (.int z :: rest))) : own_G p.tables e below P T (mkF m pc Ls (.int y :: .int x :: rest)) := by
  subst hp; subst hz; exact own_go (fun t q => XS.imul X.here hx rfl hd rfl q) k
theorem own_iand (X : Stand p l e R s m args below meth c T locs cells slots) (hx : p.tables.exec = Jvm.exec) {pc pc' : Nat} {Ls : Array Slot} {x y z : Int32} {rest : List Value} (hd : decode c.code pc = .ok (.iand, 1)) (hz : x &&& y = z) (hp : pc + 1 = pc') (k : own_G p.tables e below P T (mkF m pc' Ls (.int z :: rest))) : own_G p.tables e below P T (mkF m pc Ls (.int y :: .int x :: rest)) := by
  subst hp; subst hz; exact own_go (fun t q => XS.iand X.here hx rfl hd rfl q) k
theorem own_ior (X : Stand p l e R s m args below meth c T locs cells slots) (hx : p.tables.exec = Jvm.exec) {pc pc' : Nat} {Ls : Array Slot} {x y z : Int32} {rest : List Value} (hd : decode c.code pc = .ok (.ior, 1)) (hz : x ||| y = z) (hp : pc + 1 = pc') (k : own_G p.tables e below P T (mkF m pc' Ls (.int z :: rest))) : own_G p.tables e below P T (mkF m pc Ls (.int y :: .int x :: rest)) := by
  subst hp; subst hz; exact own_go (fun t q => XS.ior X.here hx rfl hd rfl q) k
theorem own_ixor (X : Stand p l e R s m args below meth c T locs cells slots) (hx : p.tables.exec = Jvm.exec) {pc pc' : Nat} {Ls : Array Slot} {x y z : Int32} {rest : List Value} (hd : decode c.code pc = .ok (.ixor, 1)) (hz : x ^^^ y = z) (hp : pc + 1 = pc') (k : own_G p.tables e below P T (mkF m pc' Ls (.int z :: rest))) : own_G p.tables e below P T (mkF m pc Ls (.int y :: .int x :: rest)) := by
  subst hp; subst hz; exact own_go (fun t q => XS.ixor X.here hx rfl hd rfl q) k
theorem own_ladd (X : Stand p l e R s m args below meth c T locs cells slots) (hx : p.tables.exec = Jvm.exec) {pc pc' : Nat} {Ls : Array Slot} {x y z : Int64} {rest : List Value} (hd : decode c.code pc = .ok (.ladd, 1)) (hz : x + y = z) (hp : pc + 1 = pc') (k : own_G p.tables e below P T (mkF m pc' Ls (.long z :: rest))) : own_G p.tables e below P T (mkF m pc Ls (.long y :: .long x :: rest)) := by
  subst hp; subst hz; exact own_go (fun t q => XS.ladd X.here hx rfl hd rfl q) k
theorem own_lsub (X : Stand p l e R s m args below meth c T locs cells slots) (hx : p.tables.exec = Jvm.exec) {pc pc' : Nat} {Ls : Array Slot} {x y z : Int64} {rest : List Value} (hd : decode c.code pc = .ok (.lsub, 1)) (hz : x - y = z) (hp : pc + 1 = pc') (k : own_G p.tables e below P T (mkF m pc' Ls (.long z :: rest))) : own_G p.tables e below P T (mkF m pc Ls (.long y :: .long x :: rest)) := by
  subst hp; subst hz; exact own_go (fun t q => XS.lsub X.here hx rfl hd rfl q) k
theorem own_lmul (X : Stand p l e R s m args below meth c T locs cells slots) (hx : p.tables.exec = Jvm.exec) {pc pc' : Nat} {Ls : Array Slot} {x y z : Int64} {rest : List Value} (hd : decode c.code pc = .ok (.lmul, 1)) (hz : x * y = z) (hp : pc + 1 = pc') (k : own_G p.tables e below P T (mkF m pc' Ls (.long z :: rest))) : own_G p.tables e below P T (mkF m pc Ls (.long y :: .long x :: rest)) := by
  subst hp; subst hz; exact own_go (fun t q => XS.lmul X.here hx rfl hd rfl q) k
theorem own_land (X : Stand p l e R s m args below meth c T locs cells slots) (hx : p.tables.exec = Jvm.exec) {pc pc' : Nat} {Ls : Array Slot} {x y z : Int64} {rest : List Value} (hd : decode c.code pc = .ok (.land, 1)) (hz : x &&& y = z) (hp : pc + 1 = pc') (k : own_G p.tables e below P T (mkF m pc' Ls (.long z :: rest))) : own_G p.tables e below P T (mkF m pc Ls (.long y :: .long x :: rest)) := by
  subst hp; subst hz; exact own_go (fun t q => XS.land X.here hx rfl hd rfl q) k
theorem own_lor (X : Stand p l e R s m args below meth c T locs cells slots) (hx : p.tables.exec = Jvm.exec) {pc pc' : Nat} {Ls : Array Slot} {x y z : Int64} {rest : List Value} (hd : decode c.code pc = .ok (.lor, 1)) (hz : x ||| y = z) (hp : pc + 1 = pc') (k : own_G p.tables e below P T (mkF m pc' Ls (.long z :: rest))) : own_G p.tables e below P T (mkF m pc Ls (.long y :: .long x :: rest)) := by
  subst hp; subst hz; exact own_go (fun t q => XS.lor X.here hx rfl hd rfl q) k
theorem own_lxor (X : Stand p l e R s m args below meth c T locs cells slots) (hx : p.tables.exec = Jvm.exec) {pc pc' : Nat} {Ls : Array Slot} {x y z : Int64} {rest : List Value} (hd : decode c.code pc = .ok (.lxor, 1)) (hz : x ^^^ y = z) (hp : pc + 1 = pc') (k : own_G p.tables e below P T (mkF m pc' Ls (.long z :: rest))) : own_G p.tables e below P T (mkF m pc Ls (.long y :: .long x :: rest)) := by
  subst hp; subst hz; exact own_go (fun t q => XS.lxor X.here hx rfl hd rfl q) k
theorem own_ishl (X : Stand p l e R s m args below meth c T locs cells slots) (hx : p.tables.exec = Jvm.exec) {pc pc' : Nat} {Ls : Array Slot} {x y : Int32} {rest : List Value} (hd : decode c.code pc = .ok (.ishl, 1)) (hp : pc + 1 = pc') (k : own_G p.tables e below P T (mkF m pc' Ls (.int (x <<< (y &&& 31)) :: rest))) : own_G p.tables e below P T (mkF m pc Ls (.int y :: .int x :: rest)) := by
  subst hp; exact own_go (fun t q => XS.ishl X.here hx rfl hd rfl q) k
theorem own_ishr (X : Stand p l e R s m args below meth c T locs cells slots) (hx : p.tables.exec = Jvm.exec) {pc pc' : Nat} {Ls : Array Slot} {x y : Int32} {rest : List Value} (hd : decode c.code pc = .ok (.ishr, 1)) (hp : pc + 1 = pc') (k : own_G p.tables e below P T (mkF m pc' Ls (.int (x >>> (y &&& 31)) :: rest))) : own_G p.tables e below P T (mkF m pc Ls (.int y :: .int x :: rest)) := by
  subst hp; exact own_go (fun t q => XS.ishr X.here hx rfl hd rfl q) k
theorem own_iushr (X : Stand p l e R s m args below meth c T locs cells slots) (hx : p.tables.exec = Jvm.exec) {pc pc' : Nat} {Ls : Array Slot} {x y : Int32} {rest : List Value} (hd : decode c.code pc = .ok (.iushr, 1)) (hp : pc + 1 = pc') (k : own_G p.tables e below P T (mkF m pc' Ls (.int ((x.toUInt32 >>> (y &&& 31).toUInt32).toInt32) :: rest))) : own_G p.tables e below P T (mkF m pc Ls (.int y :: .int x :: rest)) := by
  subst hp; exact own_go (fun t q => XS.iushr X.here hx rfl hd rfl q) k
theorem own_lshl (X : Stand p l e R s m args below meth c T locs cells slots) (hx : p.tables.exec = Jvm.exec) {pc pc' : Nat} {Ls : Array Slot} {x : Int64} {y : Int32} {rest : List Value} (hd : decode c.code pc = .ok (.lshl, 1)) (hp : pc + 1 = pc') (k : own_G p.tables e below P T (mkF m pc' Ls (.long (x <<< (y &&& 0x3f).toInt64) :: rest))) : own_G p.tables e below P T (mkF m pc Ls (.int y :: .long x :: rest)) := by
  subst hp; exact own_go (fun t q => XS.lshl X.here hx rfl hd rfl q) k
theorem own_lshr (X : Stand p l e R s m args below meth c T locs cells slots) (hx : p.tables.exec = Jvm.exec) {pc pc' : Nat} {Ls : Array Slot} {x : Int64} {y : Int32} {rest : List Value} (hd : decode c.code pc = .ok (.lshr, 1)) (hp : pc + 1 = pc') (k : own_G p.tables e below P T (mkF m pc' Ls (.long (x >>> (y &&& 0x3f).toInt64) :: rest))) : own_G p.tables e below P T (mkF m pc Ls (.int y :: .long x :: rest)) := by
  subst hp; exact own_go (fun t q => XS.lshr X.here hx rfl hd rfl q) k
theorem own_lushr (X : Stand p l e R s m args below meth c T locs cells slots) (hx : p.tables.exec = Jvm.exec) {pc pc' : Nat} {Ls : Array Slot} {x : Int64} {y : Int32} {rest : List Value} (hd : decode c.code pc = .ok (.lushr, 1)) (hp : pc + 1 = pc') (k : own_G p.tables e below P T (mkF m pc' Ls (.long ((x.toUInt64 >>> (y &&& 0x3f).toInt64.toUInt64).toInt64) :: rest))) : own_G p.tables e below P T (mkF m pc Ls (.int y :: .long x :: rest)) := by
  subst hp; exact own_go (fun t q => XS.lushr X.here hx rfl hd rfl q) k
theorem own_i2l (X : Stand p l e R s m args below meth c T locs cells slots) (hx : p.tables.exec = Jvm.exec) {pc pc' : Nat} {Ls : Array Slot} {x : Int32} {rest : List Value} (hd : decode c.code pc = .ok (.i2l, 1)) (hp : pc + 1 = pc') (k : own_G p.tables e below P T (mkF m pc' Ls (.long (x.toInt64) :: rest))) : own_G p.tables e below P T (mkF m pc Ls (.int x :: rest)) := by
  subst hp; exact own_go (fun t q => XS.i2l X.here hx rfl hd rfl q) k
theorem own_l2i (X : Stand p l e R s m args below meth c T locs cells slots) (hx : p.tables.exec = Jvm.exec) {pc pc' : Nat} {Ls : Array Slot} {x : Int64} {rest : List Value} (hd : decode c.code pc = .ok (.l2i, 1)) (hp : pc + 1 = pc') (k : own_G p.tables e below P T (mkF m pc' Ls (.int (x.toInt32) :: rest))) : own_G p.tables e below P T (mkF m pc Ls (.long x :: rest)) := by
  subst hp; exact own_go (fun t q => XS.l2i X.here hx rfl hd rfl q) k
theorem own_i2b (X : Stand p l e R s m args below meth c T locs cells slots) (hx : p.tables.exec = Jvm.exec) {pc pc' : Nat} {Ls : Array Slot} {x : Int32} {rest : List Value} (hd : decode c.code pc = .ok (.i2b, 1)) (hp : pc + 1 = pc') (k : own_G p.tables e below P T (mkF m pc' Ls (.int (x.toInt8.toInt32) :: rest))) : own_G p.tables e below P T (mkF m pc Ls (.int x :: rest)) := by
  subst hp; exact own_go (fun t q => XS.i2b X.here hx rfl hd rfl q) k
theorem own_i2s (X : Stand p l e R s m args below meth c T locs cells slots) (hx : p.tables.exec = Jvm.exec) {pc pc' : Nat} {Ls : Array Slot} {x : Int32} {rest : List Value} (hd : decode c.code pc = .ok (.i2s, 1)) (hp : pc + 1 = pc') (k : own_G p.tables e below P T (mkF m pc' Ls (.int (x.toInt16.toInt32) :: rest))) : own_G p.tables e below P T (mkF m pc Ls (.int x :: rest)) := by
  subst hp; exact own_go (fun t q => XS.i2s X.here hx rfl hd rfl q) k
theorem own_i2c (X : Stand p l e R s m args below meth c T locs cells slots) (hx : p.tables.exec = Jvm.exec) {pc pc' : Nat} {Ls : Array Slot} {x : Int32} {rest : List Value} (hd : decode c.code pc = .ok (.i2c, 1)) (hp : pc + 1 = pc') (k : own_G p.tables e below P T (mkF m pc' Ls (.int (x.toUInt32.toUInt16.toUInt32.toInt32) :: rest))) : own_G p.tables e below P T (mkF m pc Ls (.int x :: rest)) := by
  subst hp; exact own_go (fun t q => XS.i2c X.here hx rfl hd rfl q) k
theorem own_ineg (X : Stand p l e R s m args below meth c T locs cells slots) (hx : p.tables.exec = Jvm.exec) {pc pc' : Nat} {Ls : Array Slot} {x : Int32} {rest : List Value} (hd : decode c.code pc = .ok (.ineg, 1)) (hp : pc + 1 = pc') (k : own_G p.tables e below P T (mkF m pc' Ls (.int (-x) :: rest))) : own_G p.tables e below P T (mkF m pc Ls (.int x :: rest)) := by
  subst hp; exact own_go (fun t q => XS.ineg X.here hx rfl hd rfl q) k
theorem own_lneg (X : Stand p l e R s m args below meth c T locs cells slots) (hx : p.tables.exec = Jvm.exec) {pc pc' : Nat} {Ls : Array Slot} {x : Int64} {rest : List Value} (hd : decode c.code pc = .ok (.lneg, 1)) (hp : pc + 1 = pc') (k : own_G p.tables e below P T (mkF m pc' Ls (.long (-x) :: rest))) : own_G p.tables e below P T (mkF m pc Ls (.long x :: rest)) := by
  subst hp; exact own_go (fun t q => XS.lneg X.here hx rfl hd rfl q) k
theorem own_lcmp (X : Stand p l e R s m args below meth c T locs cells slots) (hx : p.tables.exec = Jvm.exec) {pc pc' : Nat} {Ls : Array Slot} {x y : Int64} {rest : List Value} (hd : decode c.code pc = .ok (.lcmp, 1)) (hp : pc + 1 = pc') (k : own_G p.tables e below P T (mkF m pc' Ls (.int (lcmpW x y) :: rest))) : own_G p.tables e below P T (mkF m pc Ls (.long y :: .long x :: rest)) := by
  subst hp; exact own_go (fun t q => XS.lcmp X.here hx rfl hd rfl q) k
theorem own_idiv (X : Stand p l e R s m args below meth c T locs cells slots) (hx : p.tables.exec = Jvm.exec) {pc pc' : Nat} {Ls : Array Slot} {x y z : Int32} {rest : List Value} (hd : decode c.code pc = .ok (.idiv, 1)) (hz : x / y = z) (hy : y ≠ 0) (hp : pc + 1 = pc') (k : own_G p.tables e below P T (mkF m pc' Ls (.int z :: rest))) : own_G p.tables e below P T (mkF m pc Ls (.int y :: .int x :: rest)) := by
  subst hp; subst hz; exact own_go (fun t q => XS.idiv X.here hx rfl hd rfl hy q) k
theorem own_irem (X : Stand p l e R s m args below meth c T locs cells slots) (hx : p.tables.exec = Jvm.exec) {pc pc' : Nat} {Ls : Array Slot} {x y : Int32} {rest : List Value} (hd : decode c.code pc = .ok (.irem, 1)) (hy : y ≠ 0) (hp : pc + 1 = pc') (k : own_G p.tables e below P T (mkF m pc' Ls (.int (x % y) :: rest))) : own_G p.tables e below P T (mkF m pc Ls (.int y :: .int x :: rest)) := by
  subst hp; exact own_go (fun t q => iremM X hx rfl hd rfl hy q) k
theorem own_iloadN (X : Stand p l e R s m args below meth c T locs cells slots) (hx : p.tables.exec = Jvm.exec) {pc pc' : Nat} {Ls : Array Slot} {j : Fin 4} {v : Int32} {st : List Value} (hd : decode c.code pc = .ok (.iload_n j, 1)) (hl : Ls[j.val]? = some (.val (.int v))) (hp : pc + 1 = pc') (k : own_G p.tables e below P T (mkF m pc' Ls (.int v :: st))) : own_G p.tables e below P T (mkF m pc Ls (st)) := by
  subst hp; exact own_go (fun t q => XS.iloadN X.here hx rfl hd hl q) k
theorem own_iload (X : Stand p l e R s m args below meth c T locs cells slots) (hx : p.tables.exec = Jvm.exec) {pc pc' : Nat} {Ls : Array Slot} {j : Nat} {v : Int32} {st : List Value} (hd : decode c.code pc = .ok (.iload j, 2)) (hl : Ls[j]? = some (.val (.int v))) (hp : pc + 2 = pc') (k : own_G p.tables e below P T (mkF m pc' Ls (.int v :: st))) : own_G p.tables e below P T (mkF m pc Ls (st)) := by
  subst hp; exact own_go (fun t q => XS.iload X.here hx rfl hd hl q) k
theorem own_lloadN (X : Stand p l e R s m args below meth c T locs cells slots) (hx : p.tables.exec = Jvm.exec) {pc pc' : Nat} {Ls : Array Slot} {j : Fin 4} {v : Int64} {st : List Value} (hd : decode c.code pc = .ok (.lload_n j, 1)) (hl : Ls[j.val]? = some (.val (.long v))) (hp : pc + 1 = pc') (k : own_G p.tables e below P T (mkF m pc' Ls (.long v :: st))) : own_G p.tables e below P T (mkF m pc Ls (st)) := by
  subst hp; exact own_go (fun t q => XS.lloadN X.here hx rfl hd hl q) k
theorem own_lload (X : Stand p l e R s m args below meth c T locs cells slots) (hx : p.tables.exec = Jvm.exec) {pc pc' : Nat} {Ls : Array Slot} {j : Nat} {v : Int64} {st : List Value} (hd : decode c.code pc = .ok (.lload j, 2)) (hl : Ls[j]? = some (.val (.long v))) (hp : pc + 2 = pc') (k : own_G p.tables e below P T (mkF m pc' Ls (.long v :: st))) : own_G p.tables e below P T (mkF m pc Ls (st)) := by
  subst hp; exact own_go (fun t q => XS.lload X.here hx rfl hd hl q) k
theorem own_aloadN (X : Stand p l e R s m args below meth c T locs cells slots) (hx : p.tables.exec = Jvm.exec) {pc pc' : Nat} {Ls : Array Slot} {j : Fin 4} {v : Value} {st : List Value} (hd : decode c.code pc = .ok (.aload_n j, 1)) (hl : Ls[j.val]? = some (.val v)) (hv : v.isRef = true) (hp : pc + 1 = pc') (k : own_G p.tables e below P T (mkF m pc' Ls (v :: st))) : own_G p.tables e below P T (mkF m pc Ls (st)) := by
  subst hp; exact own_go (fun t q => XS.aloadN X.here hx rfl hd hl hv q) k
theorem own_istoreN (X : Stand p l e R s m args below meth c T locs cells slots) (hx : p.tables.exec = Jvm.exec) {pc pc' : Nat} {Ls : Array Slot} {j : Fin 4} {v : Int32} {rest : List Value} {Ls' : Array Slot} (hd : decode c.code pc = .ok (.istore_n j, 1)) (hl : storeLocals Ls j.val (.int v) = some Ls') (hp : pc + 1 = pc') (k : own_G p.tables e below P T (mkF m pc' Ls' (rest))) : own_G p.tables e below P T (mkF m pc Ls (.int v :: rest)) := by
  subst hp; exact own_go (fun t q => XS.istoreN X.here hx rfl hd rfl hl q) k
theorem own_lstoreN (X : Stand p l e R s m args below meth c T locs cells slots) (hx : p.tables.exec = Jvm.exec) {pc pc' : Nat} {Ls : Array Slot} {j : Fin 4} {v : Int64} {rest : List Value} {Ls' : Array Slot} (hd : decode c.code pc = .ok (.lstore_n j, 1)) (hl : storeLocals Ls j.val (.long v) = some Ls') (hp : pc + 1 = pc') (k : own_G p.tables e below P T (mkF m pc' Ls' (rest))) : own_G p.tables e below P T (mkF m pc Ls (.long v :: rest)) := by
  subst hp; exact own_go (fun t q => XS.lstoreN X.here hx rfl hd rfl hl q) k
theorem own_astoreN (X : Stand p l e R s m args below meth c T locs cells slots) (hx : p.tables.exec = Jvm.exec) {pc pc' : Nat} {Ls : Array Slot} {j : Fin 4} {v : Value} {rest : List Value} {Ls' : Array Slot} (hd : decode c.code pc = .ok (.astore_n j, 1)) (hv : v.isRef = true) (hl : storeLocals Ls j.val v = some Ls') (hp : pc + 1 = pc') (k : own_G p.tables e below P T (mkF m pc' Ls' (rest))) : own_G p.tables e below P T (mkF m pc Ls (v :: rest)) := by
  subst hp; exact own_go (fun t q => XS.astoreN X.here hx rfl hd rfl hv hl q) k
theorem own_aload (X : Stand p l e R s m args below meth c T locs cells slots) (hx : p.tables.exec = Jvm.exec) {pc pc' : Nat} {Ls : Array Slot} {j : Nat} {v : Value} {st : List Value} (hd : decode c.code pc = .ok (.aload j, 2)) (hl : Ls[j]? = some (.val v)) (hv : v.isRef = true) (hp : pc + 2 = pc') (k : own_G p.tables e below P T (mkF m pc' Ls (v :: st))) : own_G p.tables e below P T (mkF m pc Ls (st)) := by
  subst hp; exact own_go (fun t q => XS.aload X.here hx rfl hd hl hv q) k
theorem own_istore (X : Stand p l e R s m args below meth c T locs cells slots) (hx : p.tables.exec = Jvm.exec) {pc pc' : Nat} {Ls : Array Slot} {j : Nat} {v : Int32} {rest : List Value} {Ls' : Array Slot} (hd : decode c.code pc = .ok (.istore j, 2)) (hl : storeLocals Ls j (.int v) = some Ls') (hp : pc + 2 = pc') (k : own_G p.tables e below P T (mkF m pc' Ls' (rest))) : own_G p.tables e below P T (mkF m pc Ls (.int v :: rest)) := by
  subst hp; exact own_go (fun t q => XS.istore X.here hx rfl hd rfl hl q) k
theorem own_lstore (X : Stand p l e R s m args below meth c T locs cells slots) (hx : p.tables.exec = Jvm.exec) {pc pc' : Nat} {Ls : Array Slot} {j : Nat} {v : Int64} {rest : List Value} {Ls' : Array Slot} (hd : decode c.code pc = .ok (.lstore j, 2)) (hl : storeLocals Ls j (.long v) = some Ls') (hp : pc + 2 = pc') (k : own_G p.tables e below P T (mkF m pc' Ls' (rest))) : own_G p.tables e below P T (mkF m pc Ls (.long v :: rest)) := by
  subst hp; exact own_go (fun t q => XS.lstore X.here hx rfl hd rfl hl q) k
theorem own_astore (X : Stand p l e R s m args below meth c T locs cells slots) (hx : p.tables.exec = Jvm.exec) {pc pc' : Nat} {Ls : Array Slot} {j : Nat} {v : Value} {rest : List Value} {Ls' : Array Slot} (hd : decode c.code pc = .ok (.astore j, 2)) (hv : v.isRef = true) (hl : storeLocals Ls j v = some Ls') (hp : pc + 2 = pc') (k : own_G p.tables e below P T (mkF m pc' Ls' (rest))) : own_G p.tables e below P T (mkF m pc Ls (v :: rest)) := by
  subst hp; exact own_go (fun t q => XS.astore X.here hx rfl hd rfl hv hl q) k
theorem own_iinc (X : Stand p l e R s m args below meth c T locs cells slots) (hx : p.tables.exec = Jvm.exec) {pc pc' : Nat} {Ls : Array Slot} {j : Nat} {cst : Int} {x : Int32} {st : List Value} {Ls' : Array Slot} (hd : decode c.code pc = .ok (.iinc j cst, 3)) (hl : Ls[j]? = some (.val (.int x))) (hl' : storeLocals Ls j (.int (x + Int32.ofInt cst)) = some Ls') (hp : pc + 3 = pc') (k : own_G p.tables e below P T (mkF m pc' Ls' (st))) : own_G p.tables e below P T (mkF m pc Ls (st)) := by
  subst hp; exact own_go (fun t q => XS.iinc X.here hx rfl hd hl hl' q) k
theorem own_iconst (X : Stand p l e R s m args below meth c T locs cells slots) (hx : p.tables.exec = Jvm.exec) {pc pc' : Nat} {Ls : Array Slot} {i : Int} {st : List Value} (z : Int32) (hd : decode c.code pc = .ok (.iconst i, 1)) (hz : Int32.ofInt i = z) (hp : pc + 1 = pc') (k : own_G p.tables e below P T (mkF m pc' Ls (.int z :: st))) : own_G p.tables e below P T (mkF m pc Ls (st)) := by
  subst hp; subst hz; exact own_go (fun t q => XS.iconst X.here hx rfl hd q) k
theorem own_bipush (X : Stand p l e R s m args below meth c T locs cells slots) (hx : p.tables.exec = Jvm.exec) {pc pc' : Nat} {Ls : Array Slot} {i : Int} {st : List Value} (z : Int32) (hd : decode c.code pc = .ok (.bipush i, 2)) (hz : (Int8.ofInt i).toInt32 = z) (hp : pc + 2 = pc') (k : own_G p.tables e below P T (mkF m pc' Ls (.int z :: st))) : own_G p.tables e below P T (mkF m pc Ls (st)) := by
  subst hp; subst hz; exact own_go (fun t q => XS.bipush X.here hx rfl hd q) k
theorem own_sipush (X : Stand p l e R s m args below meth c T locs cells slots) (hx : p.tables.exec = Jvm.exec) {pc pc' : Nat} {Ls : Array Slot} {i : Int} {st : List Value} (z : Int32) (hd : decode c.code pc = .ok (.sipush i, 3)) (hz : (Int16.ofInt i).toInt32 = z) (hp : pc + 3 = pc') (k : own_G p.tables e below P T (mkF m pc' Ls (.int z :: st))) : own_G p.tables e below P T (mkF m pc Ls (st)) := by
  subst hp; subst hz; exact own_go (fun t q => XS.sipush X.here hx rfl hd q) k
theorem own_lconst (X : Stand p l e R s m args below meth c T locs cells slots) (hx : p.tables.exec = Jvm.exec) {pc pc' : Nat} {Ls : Array Slot} {i : Fin 2} {st : List Value} (z : Int64) (hd : decode c.code pc = .ok (.lconst i, 1)) (hz : Int64.ofNat i = z) (hp : pc + 1 = pc') (k : own_G p.tables e below P T (mkF m pc' Ls (.long z :: st))) : own_G p.tables e below P T (mkF m pc Ls (st)) := by
  subst hp; subst hz; exact own_go (fun t q => XS.lconst X.here hx rfl hd q) k
theorem own_aconstNull (X : Stand p l e R s m args below meth c T locs cells slots) (hx : p.tables.exec = Jvm.exec) {pc pc' : Nat} {Ls : Array Slot} {st : List Value} (hd : decode c.code pc = .ok (.aconst_null, 1)) (hp : pc + 1 = pc') (k : own_G p.tables e below P T (mkF m pc' Ls (.null :: st))) : own_G p.tables e below P T (mkF m pc Ls (st)) := by
  subst hp; exact own_go (fun t q => XS.aconstNull X.here hx rfl hd q) k
theorem own_dup (X : Stand p l e R s m args below meth c T locs cells slots) (hx : p.tables.exec = Jvm.exec) {pc pc' : Nat} {Ls : Array Slot} {v : Value} {rest : List Value} (hd : decode c.code pc = .ok (.dup, 1)) (hc : v.category = 1) (hp : pc + 1 = pc') (k : own_G p.tables e below P T (mkF m pc' Ls (v :: v :: rest))) : own_G p.tables e below P T (mkF m pc Ls (v :: rest)) := by
  subst hp; exact own_go (fun t q => XS.dup X.here hx rfl hd rfl hc q) k
theorem own_pop (X : Stand p l e R s m args below meth c T locs cells slots) (hx : p.tables.exec = Jvm.exec) {pc pc' : Nat} {Ls : Array Slot} {v : Value} {rest : List Value} (hd : decode c.code pc = .ok (.pop, 1)) (hc : v.category = 1) (hp : pc + 1 = pc') (k : own_G p.tables e below P T (mkF m pc' Ls (rest))) : own_G p.tables e below P T (mkF m pc Ls (v :: rest)) := by
  subst hp; exact own_go (fun t q => XS.pop X.here hx rfl hd rfl hc q) k
theorem own_dupX1 (X : Stand p l e R s m args below meth c T locs cells slots) (hx : p.tables.exec = Jvm.exec) {pc pc' : Nat} {Ls : Array Slot} {v w : Value} {rest : List Value} (hd : decode c.code pc = .ok (.dup_x1, 1)) (hc : v.category = 1) (hc' : w.category = 1) (hp : pc + 1 = pc') (k : own_G p.tables e below P T (mkF m pc' Ls (v :: w :: v :: rest))) : own_G p.tables e below P T (mkF m pc Ls (v :: w :: rest)) := by
  subst hp; exact own_go (fun t q => XS.dupX1 X.here hx rfl hd rfl hc hc' q) k
theorem own_dup2 (X : Stand p l e R s m args below meth c T locs cells slots) (hx : p.tables.exec = Jvm.exec) {pc pc' : Nat} {Ls : Array Slot} {v w : Value} {rest : List Value} (hd : decode c.code pc = .ok (.dup2, 1)) (hc : v.category = 1) (hc' : w.category = 1) (hp : pc + 1 = pc') (k : own_G p.tables e below P T (mkF m pc' Ls (v :: w :: v :: w :: rest))) : own_G p.tables e below P T (mkF m pc Ls (v :: w :: rest)) := by
  subst hp; exact own_go (fun t q => Jvm.Free.XT.dup2 X.here hx rfl hd rfl hc hc' q) k
theorem own_goto (X : Stand p l e R s m args below meth c T locs cells slots) (hx : p.tables.exec = Jvm.exec) {pc pc' : Nat} {Ls : Array Slot} {st : List Value} {o : Int} (hd : decode c.code pc = .ok (.goto o, 3)) (ho : 0 ≤ (pc : Int) + o) (hp : ((pc : Int) + o).toNat = pc') (k : own_G p.tables e below P T (mkF m pc' Ls (st))) : own_G p.tables e below P T (mkF m pc Ls (st)) := by
  exact own_go (fun t q => XS.goto X.here hx rfl (pc0 := pc) (pc' := pc') rfl hd ho hp q) k
theorem own_ifYes (X : Stand p l e R s m args below meth c T locs cells slots) (hx : p.tables.exec = Jvm.exec) {pc pc' : Nat} {Ls : Array Slot} {cd : ClassFile.Cond} {x : Int32} {rest : List Value} {o : Int} (hd : decode c.code pc = .ok (.ifCond cd o, 3)) (hc : if_icmp.holds cd x 0 = true) (ho : 0 ≤ (pc : Int) + o) (hp : ((pc : Int) + o).toNat = pc') (k : own_G p.tables e below P T (mkF m pc' Ls (rest))) : own_G p.tables e below P T (mkF m pc Ls (.int x :: rest)) := by
  exact own_go (fun t q => XS.ifYes X.here hx rfl (pc0 := pc) (pc' := pc') rfl hd rfl ((if0 _ _).trans hc) ho hp q) k
theorem own_icmpYes (X : Stand p l e R s m args below meth c T locs cells slots) (hx : p.tables.exec = Jvm.exec) {pc pc' : Nat} {Ls : Array Slot} {cd : ClassFile.Cond} {x y : Int32} {rest : List Value} {o : Int} (hd : decode c.code pc = .ok (.if_icmp cd o, 3)) (hc : if_icmp.holds cd x y = true) (ho : 0 ≤ (pc : Int) + o) (hp : ((pc : Int) + o).toNat = pc') (k : own_G p.tables e below P T (mkF m pc' Ls (rest))) : own_G p.tables e below P T (mkF m pc Ls (.int y :: .int x :: rest)) := by
  exact own_go (fun t q => XS.icmpYes X.here hx rfl (pc0 := pc) (pc' := pc') rfl hd rfl hc ho hp q) k
theorem own_ifnullYes (X : Stand p l e R s m args below meth c T locs cells slots) (hx : p.tables.exec = Jvm.exec) {pc pc' : Nat} {Ls : Array Slot} {rest : List Value} {o : Int} (hd : decode c.code pc = .ok (.ifnull o, 3)) (ho : 0 ≤ (pc : Int) + o) (hp : ((pc : Int) + o).toNat = pc') (k : own_G p.tables e below P T (mkF m pc' Ls (rest))) : own_G p.tables e below P T (mkF m pc Ls (.null :: rest)) := by
  exact own_go (fun t q => XS.ifnullYes X.here hx rfl (pc0 := pc) (pc' := pc') rfl hd rfl ho hp q) k
theorem own_ifnonnullYes (X : Stand p l e R s m args below meth c T locs cells slots) (hx : p.tables.exec = Jvm.exec) {pc pc' : Nat} {Ls : Array Slot} {b : Addr} {rest : List Value} {o : Int} (hd : decode c.code pc = .ok (.ifnonnull o, 3)) (ho : 0 ≤ (pc : Int) + o) (hp : ((pc : Int) + o).toNat = pc') (k : own_G p.tables e below P T (mkF m pc' Ls (rest))) : own_G p.tables e below P T (mkF m pc Ls (.ref b :: rest)) := by
  exact own_go (fun t q => XS.ifnonnullYes X.here hx rfl (pc0 := pc) (pc' := pc') rfl hd rfl ho hp q) k
theorem own_ifNo (X : Stand p l e R s m args below meth c T locs cells slots) (hx : p.tables.exec = Jvm.exec) {pc pc' : Nat} {Ls : Array Slot} {cd : ClassFile.Cond} {o : Int} {x : Int32} {rest : List Value} (hd : decode c.code pc = .ok (.ifCond cd o, 3)) (hc : if_icmp.holds cd x 0 = false) (hp : pc + 3 = pc') (k : own_G p.tables e below P T (mkF m pc' Ls (rest))) : own_G p.tables e below P T (mkF m pc Ls (.int x :: rest)) := by
  subst hp; exact own_go (fun t q => XS.ifNo X.here hx rfl hd rfl ((if0 _ _).trans hc) q) k
theorem own_icmpNo (X : Stand p l e R s m args below meth c T locs cells slots) (hx : p.tables.exec = Jvm.exec) {pc pc' : Nat} {Ls : Array Slot} {cd : ClassFile.Cond} {o : Int} {x y : Int32} {rest : List Value} (hd : decode c.code pc = .ok (.if_icmp cd o, 3)) (hc : if_icmp.holds cd x y = false) (hp : pc + 3 = pc') (k : own_G p.tables e below P T (mkF m pc' Ls (rest))) : own_G p.tables e below P T (mkF m pc Ls (.int y :: .int x :: rest)) := by
  subst hp; exact own_go (fun t q => XS.icmpNo X.here hx rfl hd rfl hc q) k
theorem own_ifnullNo (X : Stand p l e R s m args below meth c T locs cells slots) (hx : p.tables.exec = Jvm.exec) {pc pc' : Nat} {Ls : Array Slot} {o : Int} {b : Addr} {rest : List Value} (hd : decode c.code pc = .ok (.ifnull o, 3)) (hp : pc + 3 = pc') (k : own_G p.tables e below P T (mkF m pc' Ls (rest))) : own_G p.tables e below P T (mkF m pc Ls (.ref b :: rest)) := by
  subst hp; exact own_go (fun t q => XS.ifnullNo X.here hx rfl hd rfl q) k
theorem own_ifnonnullNo (X : Stand p l e R s m args below meth c T locs cells slots) (hx : p.tables.exec = Jvm.exec) {pc pc' : Nat} {Ls : Array Slot} {o : Int} {rest : List Value} (hd : decode c.code pc = .ok (.ifnonnull o, 3)) (hp : pc + 3 = pc') (k : own_G p.tables e below P T (mkF m pc' Ls (rest))) : own_G p.tables e below P T (mkF m pc Ls (.null :: rest)) := by
  subst hp; exact own_go (fun t q => XS.ifnonnullNo X.here hx rfl hd rfl q) k
theorem own_acmp (X : Stand p l e R s m args below meth c T locs cells slots) (hx : p.tables.exec = Jvm.exec) {pc pc' : Nat} {Ls : Array Slot} {cd : ACond} {x y : Value} {rest : List Value} {o : Int} (same : Bool) (hd : decode c.code pc = .ok (.if_acmp cd o, 3)) (h1 : x.isRef = true) (h2 : y.isRef = true) (hq : decide (x = y) = same) (ho : 0 ≤ (pc : Int) + o) (hp : pc' = if acV cd same = true then ((pc : Int) + o).toNat else pc + 3) (k : own_G p.tables e below P T (mkF m pc' Ls rest)) : own_G p.tables e below P T (mkF m pc Ls (y :: x :: rest)) := by
  exact own_go (fun t q => Jvm.RoadKit.acmp (g := mkF m pc Ls (y :: x :: rest)) X hx rfl h1 h2 (pc0 := pc) (pc' := pc') rfl hd rfl hq ho hp q) k
theorem own_ldcI (X : Stand p l e R s m args below meth c T locs cells slots) (hx : p.tables.exec = Jvm.exec) {pc pc' : Nat} {Ls : Array Slot} (hZ : Z.Warmed39 s.vm) {own : String} {idx : Nat} {z : Int32} {st : List Value} (hown : s.vm.findClass own = some m.cls) (w : (Jvm.Cond.constant own idx z).before a0 Z = true) (hd : decode c.code pc = .ok (.ldc idx, 2)) (hp : pc + 2 = pc') (k : own_G p.tables e below P T (mkF m pc' Ls (.int z :: st))) : own_G p.tables e below P T (mkF m pc Ls st) := by
  subst hp; exact own_go (X.ldcInt hx hown (mvT hZ w) (g := mkF m pc Ls st) rfl hd) k
theorem own_ldcwI (X : Stand p l e R s m args below meth c T locs cells slots) (hx : p.tables.exec = Jvm.exec) {pc pc' : Nat} {Ls : Array Slot} (hZ : Z.Warmed39 s.vm) {own : String} {idx : Nat} {z : Int32} {st : List Value} (hown : s.vm.findClass own = some m.cls) (w : (Jvm.Cond.constant own idx z).before a0 Z = true) (hd : decode c.code pc = .ok (.ldc_w idx, 3)) (hp : pc + 3 = pc') (k : own_G p.tables e below P T (mkF m pc' Ls (.int z :: st))) : own_G p.tables e below P T (mkF m pc Ls st) := by
  subst hp; exact own_go (X.ldcwInt hx hown (mvT hZ w) (g := mkF m pc Ls st) rfl hd) k
theorem own_ldc2J (X : Stand p l e R s m args below meth c T locs cells slots) (hx : p.tables.exec = Jvm.exec) {pc pc' : Nat} {Ls : Array Slot} (hZ : Z.Warmed39 s.vm) {own : String} {idx : Nat} {z : Int64} {st : List Value} (hown : s.vm.findClass own = some m.cls) (w : (Jvm.Cond.constantLong own idx z).before a0 Z = true) (hd : decode c.code pc = .ok (.ldc2_w idx, 3)) (hp : pc + 3 = pc') (k : own_G p.tables e below P T (mkF m pc' Ls (.long z :: st))) : own_G p.tables e below P T (mkF m pc Ls st) := by
  subst hp; exact own_go (X.ldc2Long hx hown (mvT hZ w) (g := mkF m pc Ls st) rfl hd) k
theorem own_getF (X : Stand p l e R s m args below meth c T locs cells slots) (hx : p.tables.exec = Jvm.exec) {pc pc' : Nat} {Ls : Array Slot} (hZ : Z.Warmed39 s.vm) {own R0 O n d host : String} {idx : Nat} {a : Addr} {v : Value} {rest : List Value} (hown : s.vm.findClass own = some m.cls) (w : (Cond.fieldLink own idx R0 n d).before a0 Z = true ∨ (Cond.fieldLinkNest own idx R0 n d host).before a0 Z = true) (via : Via Z R0 O n d) (eT : T.heap = h) (F : Fld Z h a O n d v) (hd : decode c.code pc = .ok (.getfield idx, 3)) (hp : pc + 3 = pc') (k : ∀ T', Stand p l e R s m args below meth c T' locs cells slots → T'.heap = h → own_G p.tables e below P T' (mkF m pc' Ls (v :: rest))) : own_G p.tables e below P T (mkF m pc Ls (.ref a :: rest)) := by
  subst hp; obtain ⟨T', X', e', st⟩ := getF X hx hZ hown w via eT F (g := mkF m pc Ls (.ref a :: rest)) rfl rfl hd; exact own_go st (k T' X' e')
theorem own_getS (X : Stand p l e R s m args below meth c T locs cells slots) (hx : p.tables.exec = Jvm.exec) {pc pc' : Nat} {Ls : Array Slot} (hZ : Z.Warmed39 s.vm) {own R0 O n d host : String} {idx : Nat} {v : Value} {st : List Value} (hown : s.vm.findClass own = some m.cls) (w : (Cond.fieldLink own idx R0 n d).before a0 Z = true ∨ (Cond.fieldLinkNest own idx R0 n d host).before a0 Z = true) (via : Via Z R0 O n d) (eT : T.heap = h) (F : Sta Z h O n d v) (hd : decode c.code pc = .ok (.getstatic idx, 3)) (hp : pc + 3 = pc') (k : ∀ T', Stand p l e R s m args below meth c T' locs cells slots → T'.heap = h → own_G p.tables e below P T' (mkF m pc' Ls (v :: st))) : own_G p.tables e below P T (mkF m pc Ls st) := by
  subst hp; obtain ⟨T', X', e', stp⟩ := getS2 X hx hZ hown w via eT F (g := mkF m pc Ls st) rfl hd; exact own_go stp (k T' X' e')
theorem own_len (X : Stand p l e R s m args below meth c T locs cells slots) (hx : p.tables.exec = Jvm.exec) {pc pc' : Nat} {Ls : Array Slot} (hZ : Z.Warmed39 s.vm) {a : Addr} {cl : Cell} {ty : FieldType} {z : Int32} {rest : List Value} (eT : T.heap = h) (A : Arr Z h a cl ty) (S : cl.slots.size = z.toNatClampNeg) (M : ¬ z < 0) (hd : decode c.code pc = .ok (.arraylength, 1)) (hp : pc + 1 = pc') (k : own_G p.tables e below P T (mkF m pc' Ls (.int z :: rest))) : own_G p.tables e below P T (mkF m pc Ls (.ref a :: rest)) := by
  subst hp; exact own_go (fun t q => X.arraylength hx (by rw [eT]; exact A.1) (State.isArrayOf_alike hZ.alike A.2.1) (g := mkF m pc Ls (.ref a :: rest)) rfl rfl hd _ (by rw [len_of S M]; exact q)) k
theorem own_iaload (X : Stand p l e R s m args below meth c T locs cells slots) (hx : p.tables.exec = Jvm.exec) {pc pc' : Nat} {Ls : Array Slot} (hZ : Z.Warmed39 s.vm) {a : Addr} {cl : Cell} {j : Int32} {v : Int32} {rest : List Value} (eT : T.heap = h) (A : Arr Z h a cl .int) (hj : ¬ (j < 0 ∨ cl.slots.size ≤ j.toNatClampNeg)) (hv : cl.slots[j.toNatClampNeg]? = some (.int v)) (hd : decode c.code pc = .ok (.iaload, 1)) (hp : pc + 1 = pc') (k : own_G p.tables e below P T (mkF m pc' Ls ((.int v) :: rest))) : own_G p.tables e below P T (mkF m pc Ls (.int j :: .ref a :: rest)) := by
  subst hp; exact own_go (X.iaload hx (j := j) (v := (.int v)) (by rw [eT]; exact A.1) (State.isArrayOf_alike hZ.alike A.2.1) A.2.2 hj hv (g := mkF m pc Ls (.int j :: .ref a :: rest)) rfl rfl hd) k
theorem own_laload (X : Stand p l e R s m args below meth c T locs cells slots) (hx : p.tables.exec = Jvm.exec) {pc pc' : Nat} {Ls : Array Slot} (hZ : Z.Warmed39 s.vm) {a : Addr} {cl : Cell} {j : Int32} {v : Int64} {rest : List Value} (eT : T.heap = h) (A : Arr Z h a cl .long) (hj : ¬ (j < 0 ∨ cl.slots.size ≤ j.toNatClampNeg)) (hv : cl.slots[j.toNatClampNeg]? = some (.long v)) (hd : decode c.code pc = .ok (.laload, 1)) (hp : pc + 1 = pc') (k : own_G p.tables e below P T (mkF m pc' Ls ((.long v) :: rest))) : own_G p.tables e below P T (mkF m pc Ls (.int j :: .ref a :: rest)) := by
  subst hp; exact own_go (X.laload hx (j := j) (v := (.long v)) (by rw [eT]; exact A.1) (State.isArrayOf_alike hZ.alike A.2.1) A.2.2 hj hv (g := mkF m pc Ls (.int j :: .ref a :: rest)) rfl rfl hd) k
theorem own_baload (X : Stand p l e R s m args below meth c T locs cells slots) (hx : p.tables.exec = Jvm.exec) {pc pc' : Nat} {Ls : Array Slot} (hZ : Z.Warmed39 s.vm) {a : Addr} {cl : Cell} {j : Int32} {v : Int32} {rest : List Value} (eT : T.heap = h) (A : Arr Z h a cl .byte) (hj : ¬ (j < 0 ∨ cl.slots.size ≤ j.toNatClampNeg)) (hv : cl.slots[j.toNatClampNeg]? = some (.int v)) (hd : decode c.code pc = .ok (.baload, 1)) (hp : pc + 1 = pc') (k : own_G p.tables e below P T (mkF m pc' Ls ((.int v) :: rest))) : own_G p.tables e below P T (mkF m pc Ls (.int j :: .ref a :: rest)) := by
  subst hp; exact own_go (X.baloadBytes hx (j := j) (v := (.int v)) (by rw [eT]; exact A.1) (State.isArrayOf_alike hZ.alike A.2.1) A.2.2 hj hv (g := mkF m pc Ls (.int j :: .ref a :: rest)) rfl rfl hd) k
theorem own_caload (X : Stand p l e R s m args below meth c T locs cells slots) (hx : p.tables.exec = Jvm.exec) {pc pc' : Nat} {Ls : Array Slot} (hZ : Z.Warmed39 s.vm) {a : Addr} {cl : Cell} {j : Int32} {v : Int32} {rest : List Value} (eT : T.heap = h) (A : Arr Z h a cl .char) (hj : ¬ (j < 0 ∨ cl.slots.size ≤ j.toNatClampNeg)) (hv : cl.slots[j.toNatClampNeg]? = some (.int v)) (hd : decode c.code pc = .ok (.caload, 1)) (hp : pc + 1 = pc') (k : own_G p.tables e below P T (mkF m pc' Ls ((.int v) :: rest))) : own_G p.tables e below P T (mkF m pc Ls (.int j :: .ref a :: rest)) := by
  subst hp; exact own_go (X.caload hx (j := j) (v := (.int v)) (by rw [eT]; exact A.1) (State.isArrayOf_alike hZ.alike A.2.1) A.2.2 hj hv (g := mkF m pc Ls (.int j :: .ref a :: rest)) rfl rfl hd) k
theorem own_aaload (X : Stand p l e R s m args below meth c T locs cells slots) (hx : p.tables.exec = Jvm.exec) {pc pc' : Nat} {Ls : Array Slot} (hZ : Z.Warmed39 s.vm) {a : Addr} {cl : Cell} {ty : FieldType} {j : Int32} {v : Value} {rest : List Value} (eT : T.heap = h) (A : Arr Z h a cl ty) (hty : ty.isReference = true) (hj : ¬ (j < 0 ∨ cl.slots.size ≤ j.toNatClampNeg)) (hv : cl.slots[j.toNatClampNeg]? = some v) (hd : decode c.code pc = .ok (.aaload, 1)) (hp : pc + 1 = pc') (k : own_G p.tables e below P T (mkF m pc' Ls (v :: rest))) : own_G p.tables e below P T (mkF m pc Ls (.int j :: .ref a :: rest)) := by
  subst hp; exact own_go (X.aaload hx (j := j) (v := v) (by rw [eT]; exact A.1) (State.isArrayOf_alike hZ.alike A.2.1) hty A.2.2 hj hv (g := mkF m pc Ls (.int j :: .ref a :: rest)) rfl rfl hd) k
theorem own_stI (X : Stand p l e R s m args below meth c T locs cells slots) (hx : p.tables.exec = Jvm.exec) {pc pc' : Nat} {Ls : Array Slot} (hZ : Z.Warmed39 s.vm) {a : Addr} {cl : Cell} {j : Int32} {x : Int32} {rest : List Value} (eT : T.heap = h) (A : Arr Z h a cl .int) (hj : ¬ (j < 0 ∨ cl.slots.size ≤ j.toNatClampNeg)) (hd : decode c.code pc = .ok (.iastore, 1)) (hp : pc + 1 = pc') (k : ∀ T' h', Stand p l e R s m args below meth c T' (locs ++ [⟨a, j.toNatClampNeg⟩]) cells slots → T'.heap = h' → Wr h h' a j.toNatClampNeg (.int x) → own_G p.tables e below P T' (mkF m pc' Ls rest)) : own_G p.tables e below P T (mkF m pc Ls (.int x :: .int j :: .ref a :: rest)) := by
  subst hp; obtain ⟨T', h', X', e', W', st⟩ := stI X hx hZ eT A (j := j) hj (g := mkF m pc Ls (.int x :: .int j :: .ref a :: rest)) rfl rfl hd; exact own_go st (k T' h' X' e' W')
theorem own_stJ (X : Stand p l e R s m args below meth c T locs cells slots) (hx : p.tables.exec = Jvm.exec) {pc pc' : Nat} {Ls : Array Slot} (hZ : Z.Warmed39 s.vm) {a : Addr} {cl : Cell} {j : Int32} {x : Int64} {rest : List Value} (eT : T.heap = h) (A : Arr Z h a cl .long) (hj : ¬ (j < 0 ∨ cl.slots.size ≤ j.toNatClampNeg)) (hd : decode c.code pc = .ok (.lastore, 1)) (hp : pc + 1 = pc') (k : ∀ T' h', Stand p l e R s m args below meth c T' (locs ++ [⟨a, j.toNatClampNeg⟩]) cells slots → T'.heap = h' → Wr h h' a j.toNatClampNeg (.long x) → own_G p.tables e below P T' (mkF m pc' Ls rest)) : own_G p.tables e below P T (mkF m pc Ls (.long x :: .int j :: .ref a :: rest)) := by
  subst hp; obtain ⟨T', h', X', e', W', st⟩ := stJ X hx hZ eT A (j := j) hj (g := mkF m pc Ls (.long x :: .int j :: .ref a :: rest)) rfl rfl hd; exact own_go st (k T' h' X' e' W')
theorem own_stB (X : Stand p l e R s m args below meth c T locs cells slots) (hx : p.tables.exec = Jvm.exec) {pc pc' : Nat} {Ls : Array Slot} (hZ : Z.Warmed39 s.vm) {a : Addr} {cl : Cell} {j : Int32} {x : Int32} {rest : List Value} (eT : T.heap = h) (A : Arr Z h a cl .byte) (hj : ¬ (j < 0 ∨ cl.slots.size ≤ j.toNatClampNeg)) (hd : decode c.code pc = .ok (.bastore, 1)) (hp : pc + 1 = pc') (k : ∀ T' h', Stand p l e R s m args below meth c T' (locs ++ [⟨a, j.toNatClampNeg⟩]) cells slots → T'.heap = h' → Wr h h' a j.toNatClampNeg (.int (nar .byte x)) → own_G p.tables e below P T' (mkF m pc' Ls rest)) : own_G p.tables e below P T (mkF m pc Ls (.int x :: .int j :: .ref a :: rest)) := by
  subst hp; obtain ⟨T', h', X', e', W', st⟩ := stB X hx hZ eT A (j := j) hj (g := mkF m pc Ls (.int x :: .int j :: .ref a :: rest)) rfl rfl hd; exact own_go st (k T' h' X' e' W')
theorem own_stC (X : Stand p l e R s m args below meth c T locs cells slots) (hx : p.tables.exec = Jvm.exec) {pc pc' : Nat} {Ls : Array Slot} (hZ : Z.Warmed39 s.vm) {a : Addr} {cl : Cell} {j : Int32} {x : Int32} {rest : List Value} (eT : T.heap = h) (A : Arr Z h a cl .char) (hj : ¬ (j < 0 ∨ cl.slots.size ≤ j.toNatClampNeg)) (hd : decode c.code pc = .ok (.castore, 1)) (hp : pc + 1 = pc') (k : ∀ T' h', Stand p l e R s m args below meth c T' (locs ++ [⟨a, j.toNatClampNeg⟩]) cells slots → T'.heap = h' → Wr h h' a j.toNatClampNeg (.int (nar .char x)) → own_G p.tables e below P T' (mkF m pc' Ls rest)) : own_G p.tables e below P T (mkF m pc Ls (.int x :: .int j :: .ref a :: rest)) := by
  subst hp; obtain ⟨T', h', X', e', W', st⟩ := stC X hx hZ eT A (j := j) hj (g := mkF m pc Ls (.int x :: .int j :: .ref a :: rest)) rfl rfl hd; exact own_go st (k T' h' X' e' W')
theorem own_stR (X : Stand p l e R s m args below meth c T locs cells slots) (hx : p.tables.exec = Jvm.exec) {pc pc' : Nat} {Ls : Array Slot} (hZ : Z.Warmed39 s.vm) {a : Addr} {cl : Cell} {j : Int32} {x : Value} {ty : FieldType} {rest : List Value} (eT : T.heap = h) (A : Arr Z h a cl ty) (hj : ¬ (j < 0 ∨ cl.slots.size ≤ j.toNatClampNeg)) (hty : ty.isReference = true) (F : Sto Z h a x) (hd : decode c.code pc = .ok (.aastore, 1)) (hp : pc + 1 = pc') (k : ∀ T' h', Stand p l e R s m args below meth c T' (locs ++ [⟨a, j.toNatClampNeg⟩]) cells slots → T'.heap = h' → Wr h h' a j.toNatClampNeg x → own_G p.tables e below P T' (mkF m pc' Ls rest)) : own_G p.tables e below P T (mkF m pc Ls (x :: .int j :: .ref a :: rest)) := by
  subst hp; obtain ⟨T', h', X', e', W', st⟩ := stR X hx hZ eT A (j := j) hj hty F (g := mkF m pc Ls (x :: .int j :: .ref a :: rest)) rfl rfl hd; exact own_go st (k T' h' X' e' W')
theorem own_putF (X : Stand p l e R s m args below meth c T locs cells slots) (hx : p.tables.exec = Jvm.exec) {pc pc' : Nat} {Ls : Array Slot} (hZ : Z.Warmed39 s.vm) {own R0 O n d host C : String} {idx kk : Nat} {ty : FieldType} {a : Addr} {v old : Value} {rest : List Value} (hown : s.vm.findClass own = some m.cls) (w : (Cond.fieldLink own idx R0 n d).before a0 Z = true ∨ (Cond.fieldLinkNest own idx R0 n d host).before a0 Z = true) (via : Via Z R0 O n d) (eT : T.heap = h) (F : Fld Z h a O n d old) (E : Exa Z h a C) (L : (Cond.lays C O n d).before a0 Z = true ∨ ((Cond.laysFinal C O n d).before a0 Z = true ∧ own = O ∧ meth.name = "<init>")) (wi : (Cond.instantiable C kk).before a0 Z = true) (hty : parseFieldDescriptor d = some ty) (hn : narrow ty v = v) (hf : fits ty v = true) (hd : decode c.code pc = .ok (.putfield idx, 3)) (hp : pc + 3 = pc') (k : ∀ T' h', Stand p l e R s m args below meth c T' (locs ++ [⟨a, Jvm.RoadKit.slotOf Z O n d⟩]) cells slots → T'.heap = h' → Wr h h' a (Jvm.RoadKit.slotOf Z O n d) v → own_G p.tables e below P T' (mkF m pc' Ls rest)) : own_G p.tables e below P T (mkF m pc Ls (v :: .ref a :: rest)) := by
  subst hp; obtain ⟨T', h', X', e', W', st⟩ := putF X hx hZ hown w via eT F E L wi hty hn hf (g := mkF m pc Ls (v :: .ref a :: rest)) rfl rfl hd; exact own_go st (k T' h' X' e' W')
theorem own_putFN (X : Stand p l e R s m args below meth c T locs cells slots) (hx : p.tables.exec = Jvm.exec) {pc pc' : Nat} {Ls : Array Slot} (hZ : Z.Warmed39 s.vm) {own R0 O n d C : String} {idx kk : Nat} {ty : FieldType} {a : Addr} {v old : Value} (v' : Value) {rest : List Value} (hown : s.vm.findClass own = some m.cls) (w : (Cond.fieldLink own idx R0 n d).before a0 Z = true) (via : Via Z R0 O n d) (eT : T.heap = h) (F : Fld Z h a O n d old) (E : Exa Z h a C) (L : (Cond.lays C O n d).before a0 Z = true ∨ ((Cond.laysFinal C O n d).before a0 Z = true ∧ own = O ∧ meth.name = "<init>")) (wi : (Cond.instantiable C kk).before a0 Z = true) (hty : parseFieldDescriptor d = some ty) (hn : narrow ty v = v') (hf : fits ty v' = true) (hd : decode c.code pc = .ok (.putfield idx, 3)) (hp : pc + 3 = pc') (k : ∀ T' h', Stand p l e R s m args below meth c T' (locs ++ [⟨a, Jvm.RoadKit.slotOf Z O n d⟩]) cells slots → T'.heap = h' → Wr h h' a (Jvm.RoadKit.slotOf Z O n d) v' → own_G p.tables e below P T' (mkF m pc' Ls rest)) : own_G p.tables e below P T (mkF m pc Ls (v :: .ref a :: rest)) := by
  subst hp; obtain ⟨T', h', X', e', W', st⟩ := putFN X hx hZ hown w via eT F E L wi hty hn hf (g := mkF m pc Ls (v :: .ref a :: rest)) rfl rfl hd; exact own_go st (k T' h' X' e' W')
theorem own_new (X : Stand p l e R s m args below meth c T locs cells slots) (hx : p.tables.exec = Jvm.exec) {pc pc' : Nat} {Ls : Array Slot} (hZ : Z.Warmed39 s.vm) {own C : String} {idx n : Nat} {st : List Value} (hown : s.vm.findClass own = some m.cls) (w : (Cond.classLink own idx C).before a0 Z = true) (wi : (Cond.instantiable C n).before a0 Z = true) (wz : (Cond.initialized C).before a0 Z = true) (eT : T.heap = h) (hd : decode c.code pc = .ok (.new idx, 3)) (hc : cells + 1 ≤ R.cells) (hl : slots + n ≤ R.slots) (hp : pc + 3 = pc') (k : ∀ T' h' b, b = h.size → Stand p l e R s m args below meth c T' locs (cells + 1) (slots + n) → T'.heap = h' → Ext h h' → Exa Z h' b C → (∀ {O nm d : String} {ty : FieldType}, Laid Z a0 C O nm d → parseFieldDescriptor d = some ty → Fld Z h' b O nm d (defaultValue ty)) → own_G p.tables e below P T' (mkF m pc' Ls (.ref b :: st))) : own_G p.tables e below P T (mkF m pc Ls st) := by
  subst hp; obtain ⟨T', h', X', e', E', A', D', -, stp⟩ := newO X hx hZ hown w wi wz eT (g := mkF m pc Ls st) rfl hd hc hl; exact own_go stp (k T' h' _ rfl X' e' E' A' D')
theorem own_newP (X : Stand p l e R s m args below meth c T locs cells slots) (hx : p.tables.exec = Jvm.exec) {pc pc' : Nat} {Ls : Array Slot} (hZ : Z.Warmed39 s.vm) {aty : ArrayType} {z : Int32} {rest : List Value} (w : (Cond.arrayClass (newarray.typeOf aty)).before a0 Z = true) (eT : T.heap = h) (hd : decode c.code pc = .ok (.newarray aty, 2)) (hn : ¬ z < 0) (cap : Nat) (hcap : z.toNatClampNeg ≤ cap) (hb : cap * 8 ≤ 536870912) (hc : cells + 1 ≤ R.cells) (hl : slots + cap ≤ R.slots) (hp : pc + 2 = pc') (k : ∀ T' h' cA b, b = h.size → Stand p l e R s m args below meth c T' locs (cells + 1) (slots + cap) → T'.heap = h' → Ext h h' → Arr Z h' b (newA cA (newarray.typeOf aty) z) (newarray.typeOf aty) → own_G p.tables e below P T' (mkF m pc' Ls (.ref b :: rest))) : own_G p.tables e below P T (mkF m pc Ls (.int z :: rest)) := by
  subst hp; obtain ⟨T', h', cA, X', e', E', A', stp⟩ := newP X hx hZ w eT (g := mkF m pc Ls (.int z :: rest)) rfl hd rfl hn hcap hb hc hl; exact own_go stp (k T' h' cA _ rfl X' e' E' A')
theorem own_newR (X : Stand p l e R s m args below meth c T locs cells slots) (hx : p.tables.exec = Jvm.exec) {pc pc' : Nat} {Ls : Array Slot} (hZ : Z.Warmed39 s.vm) {own C : String} {idx : Nat} {z : Int32} {rest : List Value} (hown : s.vm.findClass own = some m.cls) (w1 : (Cond.classLink own idx C).before a0 Z = true) (w2 : (Cond.arrayOver (.object C)).before a0 Z = true) (eT : T.heap = h) (hd : decode c.code pc = .ok (.anewarray idx, 3)) (hn : ¬ z < 0) (cap : Nat) (hcap : z.toNatClampNeg ≤ cap) (hb : cap * 8 ≤ 536870912) (hc : cells + 1 ≤ R.cells) (hl : slots + cap ≤ R.slots) (hp : pc + 3 = pc') (k : ∀ T' h' cA b, b = h.size → Stand p l e R s m args below meth c T' locs (cells + 1) (slots + cap) → T'.heap = h' → Ext h h' → Arr Z h' b (newA cA (.object C) z) (.object C) → Ovr Z cA C → own_G p.tables e below P T' (mkF m pc' Ls (.ref b :: rest))) : own_G p.tables e below P T (mkF m pc Ls (.int z :: rest)) := by
  subst hp; obtain ⟨T', h', cA, X', e', E', A', O', stp⟩ := newR X hx hZ hown w1 w2 eT (g := mkF m pc Ls (.int z :: rest)) rfl hd rfl hn hcap hb hc hl; exact own_go stp (k T' h' cA _ rfl X' e' E' A' O')
theorem own_initO (X : Stand p l e R s m args below meth c T locs cells slots) (hx : p.tables.exec = Jvm.exec) {pc pc' : Nat} {Ls : Array Slot} (hZ : Z.Warmed39 s.vm) {own : String} {idx : Nat} {a : Addr} {rest : List Value} (hown : s.vm.findClass own = some m.cls) (w1 : (Cond.methodLink own idx Lib.objectInit).before a0 Z = true) (w2 : (Cond.instanceMethod Lib.objectInit).before a0 Z = true) (w3 : (Cond.code Lib.objectInit ⟨#[0xb1]⟩ 1 none).before a0 Z = true) (eT : T.heap = h) (hsz : Ls.size = c.maxLocals) (hd : decode c.code pc = .ok (.invokespecial idx, 3)) (hf : 1 ≤ R.frames) (W : Nat) (hW : 2 * 0 + (rest.map fun v => v.category).sum ≤ W) (hl : W + 12 ≤ R.locals) (hp : pc + 3 = pc') (k : ∀ T', Stand p l e R s m args below meth c T' locs cells slots → T'.heap = h → own_G p.tables e below P T' (mkF m pc' Ls rest)) : own_G p.tables e below P T (mkF m pc Ls (.ref a :: rest)) := by
  subst hp; obtain ⟨T', X', e', st⟩ := initO X hx hZ hown w1 w2 w3 eT (g := mkF m pc Ls (.ref a :: rest)) rfl hsz rfl hd hf hW hl; exact own_go st (k T' X' e')
theorem own_callS (X : Stand p l e R s m args below meth c T locs cells slots) (hx : p.tables.exec = Jvm.exec) {pc pc' : Nat} {Ls : Array Slot} (hZ : Z.Warmed39 s.vm) {own : String} {idx : Nat} {y : MethodName} {bytes : ByteArray} {maxL : Nat} {ret : Option FieldType} {rm : Room} {as' : Array Value} {Q : Option Value → Heap → List Loc → Prop} (hown : s.vm.findClass own = some m.cls) (w1 : (Cond.methodLink own idx y).before a0 Z = true) (w2 : (Cond.static y).before a0 Z = true) (w3 : (Cond.initialized y.cls).before a0 Z = true) (w4 : (Cond.code y bytes maxL ret).before a0 Z = true) (hy : y.cls ≠ "java/lang/invoke/MethodHandle" ∧ y.cls ≠ "java/lang/invoke/VarHandle") (hM : MetFree l y (head1 [Cond.code y bytes maxL ret] rm) (fun a U => a = as' ∧ Z.Warmed39 U.vm ∧ U.heap = h) (fun _ _ _ _ _ => True) (fun _ U o U' => ∃ v L, o = .returned v ∧ Q v U'.heap L ∧ FrameEnd U o U' L rm.cells rm.slots)) (eT : T.heap = h) (W : Nat) (hf : rm.frames + 1 ≤ R.frames) (hl : W + (maxL + 11) + rm.locals ≤ R.locals) (hc : cells + rm.cells ≤ R.cells) (hsl : slots + rm.slots ≤ R.slots) {st : List Value} (argsL rest : List Value) (hsz : Ls.size = c.maxLocals) (hlen : ∀ sig, parseMethodDescriptor y.desc = some sig → argsL.length = sig.parameters.length) (has : argsL.toArray = as') (hst : st = argsL.reverse ++ rest) (hW : 2 * 0 + (rest.map fun v => v.category).sum ≤ W) (hd : decode c.code pc = .ok (.invokestatic idx, 3)) (hp : pc + 3 = pc') (k : ∀ v T' L, Stand p l e R s m args below meth c T' (locs ++ L) (cells + rm.cells) (slots + rm.slots) → Q v T'.heap L → own_G p.tables e below P T' (mkF m pc' Ls (v.toList ++ rest))) : own_G p.tables e below P T (mkF m pc Ls st) := by
  subst hp
  obtain ⟨v, vm, ⟨T', L', k', n'⟩, -, X', ⟨L, hQ, l', y', z'⟩, stp⟩ := Jvm.LawKit.callS X hx (y := y) hown (mvT hZ w1) (mvT hZ w2) (mvT hZ w3) (mvT hZ w4) hy (backOf (W := W) hM hZ w4 w3 hf hl) (g := mkF m pc Ls st) rfl hsz (argsL := argsL) (rest := rest) hlen hst hW hd (fun _ _ => ⟨has, eT, hc, hsl⟩)
  dsimp only [Pt.U, Pt.locs, Pt.cells, Pt.slots] at X' l' y' z' stp hQ
  subst l' y' z'
  exact own_go stp (k v T' L X' hQ)
theorem own_callV (X : Stand p l e R s m args below meth c T locs cells slots) (hx : p.tables.exec = Jvm.exec) {pc pc' : Nat} {Ls : Array Slot} (hZ : Z.Warmed39 s.vm) {own C : String} {idx : Nat} {y : MethodName} {bytes : ByteArray} {maxL : Nat} {ret : Option FieldType} {rm : Room} {as' : Array Value} {Q : Option Value → Heap → List Loc → Prop} (hown : s.vm.findClass own = some m.cls) (w1 : (Cond.methodLink own idx y).before a0 Z = true) (w2 : (Cond.instanceMethod y).before a0 Z = true) (w3 : (Cond.selects C y y).before a0 Z = true) (w4 : (Cond.code y bytes maxL ret).before a0 Z = true) (w5 : (Cond.initialized y.cls).before a0 Z = true) (hy : y.cls ≠ "java/lang/invoke/MethodHandle" ∧ y.cls ≠ "java/lang/invoke/VarHandle") (hM : MetFree l y (head1 [Cond.code y bytes maxL ret] rm) (fun a U => a = as' ∧ Z.Warmed39 U.vm ∧ U.heap = h) (fun _ _ _ _ _ => True) (fun _ U o U' => ∃ v L, o = .returned v ∧ Q v U'.heap L ∧ FrameEnd U o U' L rm.cells rm.slots)) (eT : T.heap = h) {b : Addr} (E : Exa Z h b C) (W : Nat) (hf : rm.frames + 1 ≤ R.frames) (hl : W + (maxL + 11) + rm.locals ≤ R.locals) (hc : cells + rm.cells ≤ R.cells) (hsl : slots + rm.slots ≤ R.slots) {st : List Value} (argsL rest : List Value) (hsz : Ls.size = c.maxLocals) (hlen : ∀ sig, parseMethodDescriptor y.desc = some sig → argsL.length = sig.parameters.length) (has : (Value.ref b :: argsL).toArray = as') (hst : st = argsL.reverse ++ .ref b :: rest) (hW : 2 * 0 + (rest.map fun v => v.category).sum ≤ W) (hd : decode c.code pc = .ok (.invokevirtual idx, 3)) (hp : pc + 3 = pc') (k : ∀ v T' L, Stand p l e R s m args below meth c T' (locs ++ L) (cells + rm.cells) (slots + rm.slots) → Q v T'.heap L → own_G p.tables e below P T' (mkF m pc' Ls (v.toList ++ rest))) : own_G p.tables e below P T (mkF m pc Ls st) := by
  subst hp
  obtain ⟨cell, kc, q1, q2, q3, q4, -⟩ := E
  obtain ⟨v, vm, ⟨T', L', k', n'⟩, -, X', ⟨L, hQ, l', y', z'⟩, stp⟩ := Jvm.LawKit.callV X hx (y := y) (C := C) hown (mvT hZ w1) (mvT hZ w2) (mvT hZ w3) (mvT hZ w4) hy (backOf (W := W) hM hZ w4 w5 hf hl) (b := b) (cellB := cell) (by rw [eT]; exact q1) q4 (by rw [hZ.alike.findClass]; exact q2) (g := mkF m pc Ls st) rfl hsz (argsL := argsL) (rest := rest) hlen hst hW hd (fun _ _ => ⟨has, eT, hc, hsl⟩)
  dsimp only [Pt.U, Pt.locs, Pt.cells, Pt.slots] at X' l' y' z' stp hQ
  subst l' y' z'
  exact own_go stp (k v T' L X' hQ)
theorem own_callI (X : Stand p l e R s m args below meth c T locs cells slots) (hx : p.tables.exec = Jvm.exec) {pc pc' : Nat} {Ls : Array Slot} (hZ : Z.Warmed39 s.vm) {own : String} {idx : Nat} {y : MethodName} {bytes : ByteArray} {maxL : Nat} {rm : Room} {as' : Array Value} {Q : Option Value → Heap → List Loc → Prop} (hy1 : y.name = "<init>") (hown : s.vm.findClass own = some m.cls) (w1 : (Cond.methodLink own idx y).before a0 Z = true) (w2 : (Cond.instanceMethod y).before a0 Z = true) (w4 : (Cond.code y bytes maxL none).before a0 Z = true) (w5 : (Cond.initialized y.cls).before a0 Z = true) (hy : y.cls ≠ "java/lang/invoke/MethodHandle" ∧ y.cls ≠ "java/lang/invoke/VarHandle") (hM : MetFree l y (head1 [Cond.code y bytes maxL none] rm) (fun a U => a = as' ∧ Z.Warmed39 U.vm ∧ U.heap = h) (fun _ _ _ _ _ => True) (fun _ U o U' => ∃ v L, o = .returned v ∧ Q v U'.heap L ∧ FrameEnd U o U' L rm.cells rm.slots)) (eT : T.heap = h) {b : Addr} (W : Nat) (hf : rm.frames + 1 ≤ R.frames) (hl : W + (maxL + 11) + rm.locals ≤ R.locals) (hc : cells + rm.cells ≤ R.cells) (hsl : slots + rm.slots ≤ R.slots) {st : List Value} (argsL rest : List Value) (hsz : Ls.size = c.maxLocals) (hlen : ∀ sig, parseMethodDescriptor y.desc = some sig → argsL.length = sig.parameters.length) (has : (Value.ref b :: argsL).toArray = as') (hst : st = argsL.reverse ++ .ref b :: rest) (hW : 2 * 0 + (rest.map fun v => v.category).sum ≤ W) (hd : decode c.code pc = .ok (.invokespecial idx, 3)) (hp : pc + 3 = pc') (k : ∀ v T' L, Stand p l e R s m args below meth c T' (locs ++ L) (cells + rm.cells) (slots + rm.slots) → Q v T'.heap L → own_G p.tables e below P T' (mkF m pc' Ls (v.toList ++ rest))) : own_G p.tables e below P T (mkF m pc Ls st) := by
  subst hp
  obtain ⟨v, vm, ⟨T', L', k', n'⟩, -, X', ⟨L, hQ, l', y', z'⟩, stp⟩ := Jvm.LawKit.callI X hx (y := y) hown hy1 (mvT hZ w1) (mvT hZ w2) (mvT hZ w4) hy (backOf (W := W) hM hZ w4 w5 hf hl) (g := mkF m pc Ls st) rfl hsz (a := b) (argsL := argsL) (rest := rest) hlen hst hW hd (fun _ _ => ⟨has, eT, hc, hsl⟩)
  dsimp only [Pt.U, Pt.locs, Pt.cells, Pt.slots] at X' l' y' z' stp hQ
  subst l' y' z'
  exact own_go stp (k v T' L X' hQ)
theorem own_fldI {u : Term} {C n d : String} {x : Addr} {z : Int32} (ht : u.eval args s none [] s = some (.ref x)) (hq : (Jvm.Cond.eq (.field u C n d) (.int z)).value args s none s [] = some true) : Fld s s.heap x C n d (.int z) :=
  Fld.start ((fld_at ht).symm.trans (Cond.eq_int (Cond.before_iff.mpr hq) rfl))
theorem own_fldR {u t : Term} {C n d : String} {x y : Addr} (ht : u.eval args s none [] s = some (.ref x)) (hu : t.eval args s none [] s = some (.ref y)) (hq : (Jvm.Cond.eq (.field u C n d) t).value args s none s [] = some true) : Fld s s.heap x C n d (.ref y) :=
  Fld.start ((fld_at ht).symm.trans (Cond.eq_refs (Cond.before_iff.mpr hq) hu rfl))
theorem own_none {u : Term} {x : Addr} {cl : Cell} (A : Arr s s.heap x cl .int) (ht : u.eval args s none [] s = some (.ref x)) (hq : (Jvm.Cond.eq (.length u) (.int 0)).value args s none s [] = some true) : Arv s s.heap x cl.cls .int (0 : Int32) [] (.int (0 : Int32)) := by
  have e1 := Cond.eq_int (Cond.before_iff.mpr hq) (n := 0) rfl
  obtain ⟨sd, SA, hev, harrAt, -⟩ := Term.length_spec e1
  have h31 := SBG.length_lt hev harrAt e1
  cases ht.symm.trans hev
  cases (Arr.fin (Vm.Alike.refl _) A).symm.trans harrAt
  have e2 := len_f ht harrAt h31
  have e3 : cl.slots.size.toInt32 = (0 : Int32) := by simpa using Option.some.inj (e2.symm.trans e1)
  have e4 : cl.slots.size = 0 := by
    have e5 := congrArg Int32.toInt e3
    rw [len_toInt h31] at e5
    have e6 : ((0 : Int32)).toInt = 0 := by decide
    omega
  exact ⟨cl, A, rfl, e4, by decide, fun k hk => by omega, fun i hi => by omega⟩
end OwnKit
theorem own_t32_m1 : (-1 : Int32).toInt = -1 := by decide
theorem own_t32_0 : (0 : Int32).toInt = 0 := by decide
theorem own_t32_1 : (1 : Int32).toInt = 1 := by decide
theorem own_t32_7 : (7 : Int32).toInt = 7 := by decide
theorem own_t32_8 : (8 : Int32).toInt = 8 := by decide
theorem own_t32_9 : (9 : Int32).toInt = 9 := by decide
theorem own_t32_10 : (10 : Int32).toInt = 10 := by decide
theorem own_t32_11 : (11 : Int32).toInt = 11 := by decide
theorem own_t32_12 : (12 : Int32).toInt = 12 := by decide
theorem own_t32_127 : (127 : Int32).toInt = 127 := by decide
theorem own_t32_128 : (128 : Int32).toInt = 128 := by decide
theorem own_t32_255 : (255 : Int32).toInt = 255 := by decide
def own_raw (lo hi : Int64) (i : Int32) : Int32 := if i < 8 then (((lo.toUInt64 >>> (((8 : Int32) * i) &&& 0x3f).toInt64.toUInt64).toInt64) &&& (255 : Int64)).toInt32 else (((hi.toUInt64 >>> (((8 : Int32) * (i - (8 : Int32))) &&& 0x3f).toInt64.toUInt64).toInt64) &&& (255 : Int64)).toInt32
theorem own_raw_n (lo hi : Int64) (i : Int32) : ∃ n : Fin 256, own_raw lo hi i = Int32.ofNat n.val := by
  have key : ∀ y : Int64, ∃ n : Fin 256, (y &&& (255 : Int64)).toInt32 = Int32.ofNat n.val := by
    intro y
    have q1 := c_maskL y (255 : Int64) 8 (by decide) (by decide)
    have q2 := c_l2i (y &&& (255 : Int64))
    have q3 := rng32 (y &&& (255 : Int64)).toInt32
    have q4 : ((2 ^ 8 : Nat) : Int) = 256 := rfl
    rw [q4] at q1
    refine ⟨⟨(y &&& (255 : Int64)).toInt32.toInt.toNat, by omega⟩, ?_⟩
    show (y &&& (255 : Int64)).toInt32 = Int32.ofNat ((y &&& (255 : Int64)).toInt32.toInt.toNat)
    rw [← Int32.toInt_inj, Int32.toInt_ofNat_of_lt (by omega)]
    omega
  unfold own_raw
  split <;> exact key _
def own_sh (lo hi : Int64) (i p k : Int32) : Int32 := if i - p < 0 then (own_raw lo hi i).toInt8.toInt32 else if i - p < k then (if i - p < k - 1 then (own_raw lo hi i ||| 128).toInt8.toInt32 else (own_raw lo hi i &&& 127).toInt8.toInt32) else (own_raw lo hi i).toInt8.toInt32
def own_tm (lo hi : Int64) (p k j : Int32) : Int64 := if j < k then (own_raw lo hi (p + j) &&& 127).toInt64 <<< (((7 : Int32) * j) &&& 0x3f).toInt64 else 0
def own_f (lo hi : Int64) (P K i : Nat) : Int32 := nar .byte (nar .byte (own_sh lo hi (Int32.ofNat i) (Int32.ofNat P) (Int32.ofNat K)))
def own_g (lo hi : Int64) (P j : Nat) : Int32 := own_raw lo hi (Int32.ofNat (P + j)) &&& 127
def own_term (g : Nat → Int32) (j : Nat) : Int64 := (g j).toInt64 <<< (Int32.ofNat (7 * j) &&& 0x3f).toInt64
def own_acc (g : Nat → Int32) : Nat → Int64
  | 0 => 0
  | j + 1 => own_acc g j ||| own_term g j
theorem own_ba : ∀ n : Fin 256, (nar .byte (nar .byte ((Int32.ofNat n.val ||| 128).toInt8.toInt32))).toInt < 0 ∧ nar .byte (nar .byte ((Int32.ofNat n.val ||| 128).toInt8.toInt32)) &&& 127 = Int32.ofNat n.val &&& 127 := by decide +kernel
theorem own_bb : ∀ n : Fin 256, 0 ≤ (nar .byte (nar .byte ((Int32.ofNat n.val &&& 127).toInt8.toInt32))).toInt ∧ nar .byte (nar .byte ((Int32.ofNat n.val &&& 127).toInt8.toInt32)) = Int32.ofNat n.val &&& 127 := by decide +kernel
theorem own_on {n : Nat} (h : n < 1000) : (Int32.ofNat n).toInt = n := Int32.toInt_ofNat_of_lt (by omega)
theorem own_sub {i p : Nat} (h : p ≤ i) (hi : i < 1000) : Int32.ofNat i - Int32.ofNat p = Int32.ofNat (i - p) := by
  have q := c_isub (Int32.ofNat i) (Int32.ofNat p)
  have q2 := rng32 (Int32.ofNat i - Int32.ofNat p)
  rw [own_on (by omega), own_on (by omega)] at q
  rw [← Int32.toInt_inj, own_on (n := i - p) (by omega)]
  omega
theorem own_fmid (lo hi : Int64) {P K j : Nat} (hP : P ≤ 1) (hK : K ≤ 10) (hj : j + 1 < K) : (own_f lo hi P K (P + j)).toInt < 0 ∧ own_f lo hi P K (P + j) &&& 127 = own_g lo hi P j := by
  have e1 : Int32.ofNat (P + j) - Int32.ofNat P = Int32.ofNat j := by rw [own_sub (by omega) (by omega)]; congr 1; omega
  have e2 : Int32.ofNat K - 1 = Int32.ofNat (K - 1) := own_sub (p := 1) (by omega) (by omega)
  unfold own_f own_sh own_g
  rw [e1, e2, if_neg (by rw [Int32.lt_iff_toInt_lt, own_on (by omega)]; show ¬ (j : Int) < 0; omega), if_pos (by rw [Int32.lt_iff_toInt_lt, own_on (by omega), own_on (by omega)]; omega), if_pos (by rw [Int32.lt_iff_toInt_lt, own_on (by omega), own_on (by omega)]; omega)]
  obtain ⟨n, en⟩ := own_raw_n lo hi (Int32.ofNat (P + j))
  rw [en]
  exact own_ba n
theorem own_fend (lo hi : Int64) {P K j : Nat} (hP : P ≤ 1) (hK : K ≤ 10) (hj : j + 1 = K) : 0 ≤ (own_f lo hi P K (P + j)).toInt ∧ own_f lo hi P K (P + j) = own_g lo hi P j := by
  have e1 : Int32.ofNat (P + j) - Int32.ofNat P = Int32.ofNat j := by rw [own_sub (by omega) (by omega)]; congr 1; omega
  have e2 : Int32.ofNat K - 1 = Int32.ofNat (K - 1) := own_sub (p := 1) (by omega) (by omega)
  unfold own_f own_sh own_g
  rw [e1, e2, if_neg (by rw [Int32.lt_iff_toInt_lt, own_on (by omega)]; show ¬ (j : Int) < 0; omega), if_pos (by rw [Int32.lt_iff_toInt_lt, own_on (by omega), own_on (by omega)]; omega), if_neg (by rw [Int32.lt_iff_toInt_lt, own_on (by omega), own_on (by omega)]; omega)]
  obtain ⟨n, en⟩ := own_raw_n lo hi (Int32.ofNat (P + j))
  rw [en]
  exact own_bb n
theorem own_tmj (lo hi : Int64) {P K : Nat} (hK : K ≤ 10) (j : Nat) (hj : j ≤ 9) : own_tm lo hi (Int32.ofNat P) (Int32.ofNat K) (Int32.ofNat j) = if j < K then own_term (own_g lo hi P) j else 0 := by
  unfold own_tm own_term own_g
  rw [← Int32.ofNat_add, show (7 : Int32) * Int32.ofNat j = Int32.ofNat (7 * j) from (Int32.ofNat_mul 7 j).symm]
  by_cases q : j < K
  · rw [if_pos q, if_pos (by rw [Int32.lt_iff_toInt_lt, own_on (by omega), own_on (by omega)]; omega)]
  · rw [if_neg q, if_neg (by rw [Int32.lt_iff_toInt_lt, own_on (by omega), own_on (by omega)]; omega)]
theorem own_get (f : Nat → Int32) (d : Value) (i : Nat) (hi : i < 12) : [.int (f 0), .int (f 1), .int (f 2), .int (f 3), .int (f 4), .int (f 5), .int (f 6), .int (f 7), .int (f 8), .int (f 9), .int (f 10), .int (f 11)].getD i d = .int (f i) := by
  match i, hi with
  | 0, _ => rfl
  | 1, _ => rfl
  | 2, _ => rfl
  | 3, _ => rfl
  | 4, _ => rfl
  | 5, _ => rfl
  | 6, _ => rfl
  | 7, _ => rfl
  | 8, _ => rfl
  | 9, _ => rfl
  | 10, _ => rfl
  | 11, _ => rfl
theorem own_want (lo hi : Int64) {P K : Nat} (h1 : 1 ≤ K) (hK : K ≤ 10) : (((((((((own_tm lo hi (Int32.ofNat P) (Int32.ofNat K) (0 : Int32) ||| own_tm lo hi (Int32.ofNat P) (Int32.ofNat K) (1 : Int32)) ||| own_tm lo hi (Int32.ofNat P) (Int32.ofNat K) (2 : Int32)) ||| own_tm lo hi (Int32.ofNat P) (Int32.ofNat K) (3 : Int32)) ||| own_tm lo hi (Int32.ofNat P) (Int32.ofNat K) (4 : Int32)) ||| own_tm lo hi (Int32.ofNat P) (Int32.ofNat K) (5 : Int32)) ||| own_tm lo hi (Int32.ofNat P) (Int32.ofNat K) (6 : Int32)) ||| own_tm lo hi (Int32.ofNat P) (Int32.ofNat K) (7 : Int32)) ||| own_tm lo hi (Int32.ofNat P) (Int32.ofNat K) (8 : Int32)) ||| own_tm lo hi (Int32.ofNat P) (Int32.ofNat K) (9 : Int32)) = own_acc (own_g lo hi P) K := by
  have h0' : own_tm lo hi (Int32.ofNat P) (Int32.ofNat K) (0 : Int32) = if 0 < K then own_term (own_g lo hi P) 0 else 0 := own_tmj lo hi hK 0 (by decide)
  have h1' : own_tm lo hi (Int32.ofNat P) (Int32.ofNat K) (1 : Int32) = if 1 < K then own_term (own_g lo hi P) 1 else 0 := own_tmj lo hi hK 1 (by decide)
  have h2' : own_tm lo hi (Int32.ofNat P) (Int32.ofNat K) (2 : Int32) = if 2 < K then own_term (own_g lo hi P) 2 else 0 := own_tmj lo hi hK 2 (by decide)
  have h3' : own_tm lo hi (Int32.ofNat P) (Int32.ofNat K) (3 : Int32) = if 3 < K then own_term (own_g lo hi P) 3 else 0 := own_tmj lo hi hK 3 (by decide)
  have h4' : own_tm lo hi (Int32.ofNat P) (Int32.ofNat K) (4 : Int32) = if 4 < K then own_term (own_g lo hi P) 4 else 0 := own_tmj lo hi hK 4 (by decide)
  have h5' : own_tm lo hi (Int32.ofNat P) (Int32.ofNat K) (5 : Int32) = if 5 < K then own_term (own_g lo hi P) 5 else 0 := own_tmj lo hi hK 5 (by decide)
  have h6' : own_tm lo hi (Int32.ofNat P) (Int32.ofNat K) (6 : Int32) = if 6 < K then own_term (own_g lo hi P) 6 else 0 := own_tmj lo hi hK 6 (by decide)
  have h7' : own_tm lo hi (Int32.ofNat P) (Int32.ofNat K) (7 : Int32) = if 7 < K then own_term (own_g lo hi P) 7 else 0 := own_tmj lo hi hK 7 (by decide)
  have h8' : own_tm lo hi (Int32.ofNat P) (Int32.ofNat K) (8 : Int32) = if 8 < K then own_term (own_g lo hi P) 8 else 0 := own_tmj lo hi hK 8 (by decide)
  have h9' : own_tm lo hi (Int32.ofNat P) (Int32.ofNat K) (9 : Int32) = if 9 < K then own_term (own_g lo hi P) 9 else 0 := own_tmj lo hi hK 9 (by decide)
  rw [h0', h1', h2', h3', h4', h5', h6', h7', h8', h9']
  clear h0' h1' h2' h3' h4' h5' h6' h7' h8' h9'
  generalize own_g lo hi P = g
  have hc : K = 1 ∨ K = 2 ∨ K = 3 ∨ K = 4 ∨ K = 5 ∨ K = 6 ∨ K = 7 ∨ K = 8 ∨ K = 9 ∨ K = 10 := by omega
  rcases hc with rfl | rfl | rfl | rfl | rfl | rfl | rfl | rfl | rfl | rfl <;> simp [own_acc]
theorem d2_0 : decode method_3_code 0 = .ok (.iload 4, 2) := by decide +kernel
theorem d2_2 : decode method_3_code 2 = .ok (.bipush 8, 2) := by decide +kernel
theorem d2_4 : decode method_3_code 4 = .ok (.if_icmp .ge 16, 3) := by decide +kernel
theorem d2_7 : decode method_3_code 7 = .ok (.lload_n 0, 1) := by decide +kernel
theorem d2_8 : decode method_3_code 8 = .ok (.bipush 8, 2) := by decide +kernel
theorem d2_10 : decode method_3_code 10 = .ok (.iload 4, 2) := by decide +kernel
theorem d2_12 : decode method_3_code 12 = .ok (.imul, 1) := by decide +kernel
theorem d2_13 : decode method_3_code 13 = .ok (.lushr, 1) := by decide +kernel
theorem d2_14 : decode method_3_code 14 = .ok (.ldc2_w 31, 3) := by decide +kernel
theorem d2_17 : decode method_3_code 17 = .ok (.land, 1) := by decide +kernel
theorem d2_18 : decode method_3_code 18 = .ok (.l2i, 1) := by decide +kernel
theorem d2_19 : decode method_3_code 19 = .ok (.ireturn, 1) := by decide +kernel
theorem d2_20 : decode method_3_code 20 = .ok (.lload_n 2, 1) := by decide +kernel
theorem d2_21 : decode method_3_code 21 = .ok (.bipush 8, 2) := by decide +kernel
theorem d2_23 : decode method_3_code 23 = .ok (.iload 4, 2) := by decide +kernel
theorem d2_25 : decode method_3_code 25 = .ok (.bipush 8, 2) := by decide +kernel
theorem d2_27 : decode method_3_code 27 = .ok (.isub, 1) := by decide +kernel
theorem d2_28 : decode method_3_code 28 = .ok (.imul, 1) := by decide +kernel
theorem d2_29 : decode method_3_code 29 = .ok (.lushr, 1) := by decide +kernel
theorem d2_30 : decode method_3_code 30 = .ok (.ldc2_w 31, 3) := by decide +kernel
theorem d2_33 : decode method_3_code 33 = .ok (.land, 1) := by decide +kernel
theorem d2_34 : decode method_3_code 34 = .ok (.l2i, 1) := by decide +kernel
theorem d2_35 : decode method_3_code 35 = .ok (.ireturn, 1) := by decide +kernel
def Qraw (lo hi : Int64) (i : Int32) (h0 : Heap) (n0 : Nat) (v : Option Value) (h : Heap) (L : List Loc) : Prop := v = some (.int (own_raw lo hi i)) ∧ Fr n0 L ∧ h = h0
theorem ef_rm_raw (m : MethodId) (x0 : Int64) (x1 : Int64) (x2 : Int32) : entryFrame m #[(.long x0), (.long x1), (.int x2)] 5 = mkF m 0 #[.val (.long x0), .second, .val (.long x1), .second, .val (.int x2)] [] := by first | (simp [entryFrame, mkF, argsToLocals, Value.category, maxLocals]; done) | rfl
theorem pf_0 : plainFor (⟨"com/example/mixed_likelihood/mixedlikelihood/index/InputReadNumberPinLaw", "raw", "(JJI)I"⟩ : MethodName) = true := by apply plainFor_of_name; first | (simp [plainName, overriddenIn]; done) | decide +kernel
theorem Wd9 {a0 : Array Value} {Z : State} (hw : ∀ d ∈ tables_1, d.before a0 Z = true) : (Jvm.Cond.constantLong "com/example/mixed_likelihood/mixedlikelihood/index/InputReadNumberPinLaw" (31 : Nat) (255 : Int64)).before a0 Z = true := hw _ (List.mem_of_getElem? (i := 9) rfl)
set_option maxRecDepth 65536 in
set_option maxHeartbeats 40000000 in
theorem rm_raw (l : Launch) (Z : State) (a0 : Array Value) (hw : ∀ d ∈ tables_1, d.before a0 Z = true) (ws : List Jvm.Cond) (q0 q1 : Int64) (q2 : Int32) (h0 : Heap) (n0 : Nat) (Z0 : n0 ≤ h0.size)  :
    MetFree l (⟨"com/example/mixed_likelihood/mixedlikelihood/index/InputReadNumberPinLaw", "raw", "(JJI)I"⟩ : MethodName) (head1 (Jvm.Cond.code (⟨"com/example/mixed_likelihood/mixedlikelihood/index/InputReadNumberPinLaw", "raw", "(JJI)I"⟩ : MethodName) method_3_code 5 (some .int) :: ws) ({ frames := 0, cells := 0, slots := 0, locals := 0 } : Room)) (fun aa U => aa = #[(.long q0), (.long q1), (.int q2)] ∧ Z.Warmed39 U.vm ∧ U.heap = h0) (fun _ _ _ _ _ => True) (fun _ U o U' => ∃ v L, o = .returned v ∧ Qraw q0 q1 q2 h0 n0 v U'.heap L ∧ FrameEnd U o U' L (({ frames := 0, cells := 0, slots := 0, locals := 0 } : Room).cells) (({ frames := 0, cells := 0, slots := 0, locals := 0 } : Room).slots)) := by
  refine own_body pf_0 ?_
  intro p e s m below meth c s₁ hx hby hml hown hnm hlk hret hZ X0 e0
  have N0 : Fr n0 [] := Fr.nil n0
  refine own_go (f' := (mkF m 0 #[.val (.long q0), .second, .val (.long q1), .second, .val (.int q2)] [])) (fun t k => castTop (ef_rm_raw m q0 q1 q2) k) ?_
  refine own_iload X0 hx (pc' := 2) (hb hby d2_0) rfl rfl ?_
  refine own_bipush X0 hx (pc' := 4) (8 : Int32) (hb hby d2_2) rfl rfl ?_
  by_cases hc4_1 : q2 < (8 : Int32)
  · skip
    refine own_icmpNo X0 hx (pc' := 7) (hb hby d2_4) (tlt hc4_1).2.1 rfl ?_
    refine own_lloadN X0 hx (pc' := 8) (hb hby d2_7) rfl rfl ?_
    refine own_bipush X0 hx (pc' := 10) (8 : Int32) (hb hby d2_8) rfl rfl ?_
    refine own_iload X0 hx (pc' := 12) (hb hby d2_10) rfl rfl ?_
    refine own_imul X0 hx (pc' := 13) (hb hby d2_12) rfl rfl ?_
    refine own_lushr X0 hx (pc' := 14) (hb hby d2_13) rfl ?_
    refine own_ldc2J X0 hx (pc' := 17) hZ hown (Wd9 hw) (hb hby d2_14) rfl ?_
    refine own_land X0 hx (pc' := 18) (hb hby d2_17) rfl rfl ?_
    refine own_l2i X0 hx (pc' := 19) (hb hby d2_18) rfl ?_
    refine own_retI X0 hx hlk hret (hb hby d2_19) (by decide) (by decide) ?_
    exact ⟨by simp [own_raw, hc4_1], N0, e0⟩
  · skip
    refine own_icmpYes X0 hx (pc' := 20) (hb hby d2_4) (flt hc4_1).2.1 (by decide) (by decide) ?_
    refine own_lloadN X0 hx (pc' := 21) (hb hby d2_20) rfl rfl ?_
    refine own_bipush X0 hx (pc' := 23) (8 : Int32) (hb hby d2_21) rfl rfl ?_
    refine own_iload X0 hx (pc' := 25) (hb hby d2_23) rfl rfl ?_
    refine own_bipush X0 hx (pc' := 27) (8 : Int32) (hb hby d2_25) rfl rfl ?_
    refine own_isub X0 hx (pc' := 28) (hb hby d2_27) rfl rfl ?_
    refine own_imul X0 hx (pc' := 29) (hb hby d2_28) rfl rfl ?_
    refine own_lushr X0 hx (pc' := 30) (hb hby d2_29) rfl ?_
    refine own_ldc2J X0 hx (pc' := 33) hZ hown (Wd9 hw) (hb hby d2_30) rfl ?_
    refine own_land X0 hx (pc' := 34) (hb hby d2_33) rfl rfl ?_
    refine own_l2i X0 hx (pc' := 35) (hb hby d2_34) rfl ?_
    refine own_retI X0 hx hlk hret (hb hby d2_35) (by decide) (by decide) ?_
    exact ⟨by simp [own_raw, hc4_1], N0, e0⟩

theorem d1_0 : decode method_4_code 0 = .ok (.lload_n 0, 1) := by decide +kernel
theorem d1_1 : decode method_4_code 1 = .ok (.lload_n 2, 1) := by decide +kernel
theorem d1_2 : decode method_4_code 2 = .ok (.iload 4, 2) := by decide +kernel
theorem d1_4 : decode method_4_code 4 = .ok (.invokestatic 33, 3) := by decide +kernel
theorem d1_7 : decode method_4_code 7 = .ok (.istore 7, 2) := by decide +kernel
theorem d1_9 : decode method_4_code 9 = .ok (.iload 4, 2) := by decide +kernel
theorem d1_11 : decode method_4_code 11 = .ok (.iload 5, 2) := by decide +kernel
theorem d1_13 : decode method_4_code 13 = .ok (.isub, 1) := by decide +kernel
theorem d1_14 : decode method_4_code 14 = .ok (.istore 8, 2) := by decide +kernel
theorem d1_16 : decode method_4_code 16 = .ok (.iload 8, 2) := by decide +kernel
theorem d1_18 : decode method_4_code 18 = .ok (.ifCond .lt 10, 3) := by decide +kernel
theorem d1_21 : decode method_4_code 21 = .ok (.iload 8, 2) := by decide +kernel
theorem d1_23 : decode method_4_code 23 = .ok (.iload 6, 2) := by decide +kernel
theorem d1_25 : decode method_4_code 25 = .ok (.if_icmp .lt 7, 3) := by decide +kernel
theorem d1_28 : decode method_4_code 28 = .ok (.iload 7, 2) := by decide +kernel
theorem d1_30 : decode method_4_code 30 = .ok (.i2b, 1) := by decide +kernel
theorem d1_31 : decode method_4_code 31 = .ok (.ireturn, 1) := by decide +kernel
theorem d1_32 : decode method_4_code 32 = .ok (.iload 8, 2) := by decide +kernel
theorem d1_34 : decode method_4_code 34 = .ok (.iload 6, 2) := by decide +kernel
theorem d1_36 : decode method_4_code 36 = .ok (.iconst 1, 1) := by decide +kernel
theorem d1_37 : decode method_4_code 37 = .ok (.isub, 1) := by decide +kernel
theorem d1_38 : decode method_4_code 38 = .ok (.if_icmp .ge 11, 3) := by decide +kernel
theorem d1_41 : decode method_4_code 41 = .ok (.iload 7, 2) := by decide +kernel
theorem d1_43 : decode method_4_code 43 = .ok (.sipush 128, 3) := by decide +kernel
theorem d1_46 : decode method_4_code 46 = .ok (.ior, 1) := by decide +kernel
theorem d1_47 : decode method_4_code 47 = .ok (.i2b, 1) := by decide +kernel
theorem d1_48 : decode method_4_code 48 = .ok (.ireturn, 1) := by decide +kernel
theorem d1_49 : decode method_4_code 49 = .ok (.iload 7, 2) := by decide +kernel
theorem d1_51 : decode method_4_code 51 = .ok (.bipush 127, 2) := by decide +kernel
theorem d1_53 : decode method_4_code 53 = .ok (.iand, 1) := by decide +kernel
theorem d1_54 : decode method_4_code 54 = .ok (.i2b, 1) := by decide +kernel
theorem d1_55 : decode method_4_code 55 = .ok (.ireturn, 1) := by decide +kernel
def Qsh (lo hi : Int64) (i p k : Int32) (h0 : Heap) (n0 : Nat) (v : Option Value) (h : Heap) (L : List Loc) : Prop := v = some (.int (nar .byte (own_sh lo hi i p k))) ∧ Fr n0 L ∧ h = h0
theorem ef_rm_sh (m : MethodId) (x0 : Int64) (x1 : Int64) (x2 : Int32) (x3 : Int32) (x4 : Int32) : entryFrame m #[(.long x0), (.long x1), (.int x2), (.int x3), (.int x4)] 9 = mkF m 0 #[.val (.long x0), .second, .val (.long x1), .second, .val (.int x2), .val (.int x3), .val (.int x4), .unset, .unset] [] := by first | (simp [entryFrame, mkF, argsToLocals, Value.category, maxLocals]; done) | rfl
theorem pf_1 : plainFor (⟨"com/example/mixed_likelihood/mixedlikelihood/index/InputReadNumberPinLaw", "shaped", "(JJIII)B"⟩ : MethodName) = true := by apply plainFor_of_name; first | (simp [plainName, overriddenIn]; done) | decide +kernel
theorem Wd8 {a0 : Array Value} {Z : State} (hw : ∀ d ∈ tables_1, d.before a0 Z = true) : (Jvm.Cond.code ({ cls := "com/example/mixed_likelihood/mixedlikelihood/index/InputReadNumberPinLaw", name := "raw", desc := "(JJI)I" } : Jvm.MethodName) method_3_code (5 : Nat) (Option.some Jvm.ClassFile.FieldType.int)).before a0 Z = true := hw _ (List.mem_of_getElem? (i := 8) rfl)
theorem Wd4 {a0 : Array Value} {Z : State} (hw : ∀ d ∈ tables_1, d.before a0 Z = true) : (Jvm.Cond.initialized "com/example/mixed_likelihood/mixedlikelihood/index/InputReadNumberPinLaw").before a0 Z = true := hw _ (List.mem_of_getElem? (i := 4) rfl)
theorem pd_0 : parseMethodDescriptor "(JJI)I" = some ⟨[.long, .long, .int], some .int⟩ := by decide +kernel
theorem Wd6 {a0 : Array Value} {Z : State} (hw : ∀ d ∈ tables_1, d.before a0 Z = true) : (Jvm.Cond.methodLink "com/example/mixed_likelihood/mixedlikelihood/index/InputReadNumberPinLaw" (33 : Nat) ({ cls := "com/example/mixed_likelihood/mixedlikelihood/index/InputReadNumberPinLaw", name := "raw", desc := "(JJI)I" } : Jvm.MethodName)).before a0 Z = true := hw _ (List.mem_of_getElem? (i := 6) rfl)
theorem Wd7 {a0 : Array Value} {Z : State} (hw : ∀ d ∈ tables_1, d.before a0 Z = true) : (Jvm.Cond.static ({ cls := "com/example/mixed_likelihood/mixedlikelihood/index/InputReadNumberPinLaw", name := "raw", desc := "(JJI)I" } : Jvm.MethodName)).before a0 Z = true := hw _ (List.mem_of_getElem? (i := 7) rfl)
set_option maxRecDepth 65536 in
set_option maxHeartbeats 40000000 in
theorem rm_sh (l : Launch) (Z : State) (a0 : Array Value) (hw : ∀ d ∈ tables_1, d.before a0 Z = true) (ws : List Jvm.Cond) (q0 q1 : Int64) (q2 q3 q4 : Int32) (h0 : Heap) (n0 : Nat) (Z0 : n0 ≤ h0.size)  :
    MetFree l (⟨"com/example/mixed_likelihood/mixedlikelihood/index/InputReadNumberPinLaw", "shaped", "(JJIII)B"⟩ : MethodName) (head1 (Jvm.Cond.code (⟨"com/example/mixed_likelihood/mixedlikelihood/index/InputReadNumberPinLaw", "shaped", "(JJIII)B"⟩ : MethodName) method_4_code 9 (some .byte) :: ws) ({ frames := 1, cells := 0, slots := 0, locals := 16 } : Room)) (fun aa U => aa = #[(.long q0), (.long q1), (.int q2), (.int q3), (.int q4)] ∧ Z.Warmed39 U.vm ∧ U.heap = h0) (fun _ _ _ _ _ => True) (fun _ U o U' => ∃ v L, o = .returned v ∧ Qsh q0 q1 q2 q3 q4 h0 n0 v U'.heap L ∧ FrameEnd U o U' L (({ frames := 1, cells := 0, slots := 0, locals := 16 } : Room).cells) (({ frames := 1, cells := 0, slots := 0, locals := 16 } : Room).slots)) := by
  refine own_body pf_1 ?_
  intro p e s m below meth c s₁ hx hby hml hown hnm hlk hret hZ X0 e0
  have N0 : Fr n0 [] := Fr.nil n0
  refine own_go (f' := (mkF m 0 #[.val (.long q0), .second, .val (.long q1), .second, .val (.int q2), .val (.int q3), .val (.int q4), .unset, .unset] [])) (fun t k => castTop (ef_rm_sh m q0 q1 q2 q3 q4) k) ?_
  refine own_lloadN X0 hx (pc' := 1) (hb hby d1_0) rfl rfl ?_
  refine own_lloadN X0 hx (pc' := 2) (hb hby d1_1) rfl rfl ?_
  refine own_iload X0 hx (pc' := 4) (hb hby d1_2) rfl rfl ?_
  refine own_callS X0 hx (pc' := 7) hZ hown (Wd6 hw) (Wd7 hw) (Wd4 hw) (Wd8 hw) (by decide) (rm_raw l Z a0 hw [] q0 q1 q2 h0 n0 Z0) e0 0 (by decide) (by decide) (by decide) (by decide) [(.long q0), (.long q1), (.int q2)] [] (by rw [hml]; rfl) (lenOf pd_0 rfl) rfl rfl (Nat.le_of_eq rfl) (hb hby d1_4) rfl (fun v1 T1 L1 X1 hQ1 => ?_)
  obtain ⟨rfl, Nq1, e1⟩ := hQ1
  have N2 := Fr.app N0 Nq1
  show own_G p.tables e below _ T1 (mkF m 7 #[.val (.long q0), .second, .val (.long q1), .second, .val (.int q2), .val (.int q3), .val (.int q4), .unset, .unset] [(.int (own_raw q0 q1 q2))])
  refine own_istore X1 hx (pc' := 9) (Ls' := #[.val (.long q0), .second, .val (.long q1), .second, .val (.int q2), .val (.int q3), .val (.int q4), .val (.int (own_raw q0 q1 q2)), .unset]) (hb hby d1_7) rfl rfl ?_
  refine own_iload X1 hx (pc' := 11) (hb hby d1_9) rfl rfl ?_
  refine own_iload X1 hx (pc' := 13) (hb hby d1_11) rfl rfl ?_
  refine own_isub X1 hx (pc' := 14) (hb hby d1_13) rfl rfl ?_
  refine own_istore X1 hx (pc' := 16) (Ls' := #[.val (.long q0), .second, .val (.long q1), .second, .val (.int q2), .val (.int q3), .val (.int q4), .val (.int (own_raw q0 q1 q2)), .val (.int (q2 - q3))]) (hb hby d1_14) rfl rfl ?_
  refine own_iload X1 hx (pc' := 18) (hb hby d1_16) rfl rfl ?_
  by_cases hc18_3 : (q2 - q3) < (0 : Int32)
  · skip
    refine own_ifYes X1 hx (pc' := 28) (hb hby d1_18) (tlt hc18_3).1 (by decide) (by decide) ?_
    refine own_iload X1 hx (pc' := 30) (hb hby d1_28) rfl rfl ?_
    refine own_i2b X1 hx (pc' := 31) (hb hby d1_30) rfl ?_
    refine own_retN X1 hx hlk hret (by simp) (hb hby d1_31) (by decide) (by decide) ?_
    exact ⟨by simp [own_sh, hc18_3], N2, e1⟩
  · skip
    refine own_ifNo X1 hx (pc' := 21) (hb hby d1_18) (flt hc18_3).1 rfl ?_
    refine own_iload X1 hx (pc' := 23) (hb hby d1_21) rfl rfl ?_
    refine own_iload X1 hx (pc' := 25) (hb hby d1_23) rfl rfl ?_
    by_cases hc25_4 : (q2 - q3) < q4
    · skip
      refine own_icmpYes X1 hx (pc' := 32) (hb hby d1_25) (tlt hc25_4).1 (by decide) (by decide) ?_
      refine own_iload X1 hx (pc' := 34) (hb hby d1_32) rfl rfl ?_
      refine own_iload X1 hx (pc' := 36) (hb hby d1_34) rfl rfl ?_
      refine own_iconst X1 hx (pc' := 37) (1 : Int32) (hb hby d1_36) rfl rfl ?_
      refine own_isub X1 hx (pc' := 38) (hb hby d1_37) rfl rfl ?_
      by_cases hc38_5 : (q2 - q3) < (q4 - (1 : Int32))
      · skip
        refine own_icmpNo X1 hx (pc' := 41) (hb hby d1_38) (tlt hc38_5).2.1 rfl ?_
        refine own_iload X1 hx (pc' := 43) (hb hby d1_41) rfl rfl ?_
        refine own_sipush X1 hx (pc' := 46) (128 : Int32) (hb hby d1_43) rfl rfl ?_
        refine own_ior X1 hx (pc' := 47) (hb hby d1_46) rfl rfl ?_
        refine own_i2b X1 hx (pc' := 48) (hb hby d1_47) rfl ?_
        refine own_retN X1 hx hlk hret (by simp) (hb hby d1_48) (by decide) (by decide) ?_
        exact ⟨by simp [own_sh, hc18_3, hc25_4, hc38_5], N2, e1⟩
      · skip
        refine own_icmpYes X1 hx (pc' := 49) (hb hby d1_38) (flt hc38_5).2.1 (by decide) (by decide) ?_
        refine own_iload X1 hx (pc' := 51) (hb hby d1_49) rfl rfl ?_
        refine own_bipush X1 hx (pc' := 53) (127 : Int32) (hb hby d1_51) rfl rfl ?_
        refine own_iand X1 hx (pc' := 54) (hb hby d1_53) rfl rfl ?_
        refine own_i2b X1 hx (pc' := 55) (hb hby d1_54) rfl ?_
        refine own_retN X1 hx hlk hret (by simp) (hb hby d1_55) (by decide) (by decide) ?_
        exact ⟨by simp [own_sh, hc18_3, hc25_4, hc38_5], N2, e1⟩
    · skip
      refine own_icmpNo X1 hx (pc' := 28) (hb hby d1_25) (flt hc25_4).1 rfl ?_
      refine own_iload X1 hx (pc' := 30) (hb hby d1_28) rfl rfl ?_
      refine own_i2b X1 hx (pc' := 31) (hb hby d1_30) rfl ?_
      refine own_retN X1 hx hlk hret (by simp) (hb hby d1_31) (by decide) (by decide) ?_
      exact ⟨by simp [own_sh, hc18_3, hc25_4], N2, e1⟩

theorem d3_0 : decode method_5_code 0 = .ok (.iload 6, 2) := by decide +kernel
theorem d3_2 : decode method_5_code 2 = .ok (.iload 5, 2) := by decide +kernel
theorem d3_4 : decode method_5_code 4 = .ok (.if_icmp .lt 5, 3) := by decide +kernel
theorem d3_7 : decode method_5_code 7 = .ok (.lconst 0, 1) := by decide +kernel
theorem d3_8 : decode method_5_code 8 = .ok (.lreturn, 1) := by decide +kernel
theorem d3_9 : decode method_5_code 9 = .ok (.lload_n 0, 1) := by decide +kernel
theorem d3_10 : decode method_5_code 10 = .ok (.lload_n 2, 1) := by decide +kernel
theorem d3_11 : decode method_5_code 11 = .ok (.iload 4, 2) := by decide +kernel
theorem d3_13 : decode method_5_code 13 = .ok (.iload 6, 2) := by decide +kernel
theorem d3_15 : decode method_5_code 15 = .ok (.iadd, 1) := by decide +kernel
theorem d3_16 : decode method_5_code 16 = .ok (.invokestatic 33, 3) := by decide +kernel
theorem d3_19 : decode method_5_code 19 = .ok (.bipush 127, 2) := by decide +kernel
theorem d3_21 : decode method_5_code 21 = .ok (.iand, 1) := by decide +kernel
theorem d3_22 : decode method_5_code 22 = .ok (.i2l, 1) := by decide +kernel
theorem d3_23 : decode method_5_code 23 = .ok (.bipush 7, 2) := by decide +kernel
theorem d3_25 : decode method_5_code 25 = .ok (.iload 6, 2) := by decide +kernel
theorem d3_27 : decode method_5_code 27 = .ok (.imul, 1) := by decide +kernel
theorem d3_28 : decode method_5_code 28 = .ok (.lshl, 1) := by decide +kernel
theorem d3_29 : decode method_5_code 29 = .ok (.lreturn, 1) := by decide +kernel
def Qtm (lo hi : Int64) (p k j : Int32) (h0 : Heap) (n0 : Nat) (v : Option Value) (h : Heap) (L : List Loc) : Prop := v = some (.long (own_tm lo hi p k j)) ∧ Fr n0 L ∧ h = h0
theorem ef_rm_tm (m : MethodId) (x0 : Int64) (x1 : Int64) (x2 : Int32) (x3 : Int32) (x4 : Int32) : entryFrame m #[(.long x0), (.long x1), (.int x2), (.int x3), (.int x4)] 7 = mkF m 0 #[.val (.long x0), .second, .val (.long x1), .second, .val (.int x2), .val (.int x3), .val (.int x4)] [] := by first | (simp [entryFrame, mkF, argsToLocals, Value.category, maxLocals]; done) | rfl
theorem pf_2 : plainFor (⟨"com/example/mixed_likelihood/mixedlikelihood/index/InputReadNumberPinLaw", "term", "(JJIII)J"⟩ : MethodName) = true := by apply plainFor_of_name; first | (simp [plainName, overriddenIn]; done) | decide +kernel
set_option maxRecDepth 65536 in
set_option maxHeartbeats 40000000 in
theorem rm_tm (l : Launch) (Z : State) (a0 : Array Value) (hw : ∀ d ∈ tables_1, d.before a0 Z = true) (ws : List Jvm.Cond) (q0 q1 : Int64) (q2 q3 q4 : Int32) (h0 : Heap) (n0 : Nat) (Z0 : n0 ≤ h0.size)  :
    MetFree l (⟨"com/example/mixed_likelihood/mixedlikelihood/index/InputReadNumberPinLaw", "term", "(JJIII)J"⟩ : MethodName) (head1 (Jvm.Cond.code (⟨"com/example/mixed_likelihood/mixedlikelihood/index/InputReadNumberPinLaw", "term", "(JJIII)J"⟩ : MethodName) method_5_code 7 (some .long) :: ws) ({ frames := 1, cells := 0, slots := 0, locals := 16 } : Room)) (fun aa U => aa = #[(.long q0), (.long q1), (.int q2), (.int q3), (.int q4)] ∧ Z.Warmed39 U.vm ∧ U.heap = h0) (fun _ _ _ _ _ => True) (fun _ U o U' => ∃ v L, o = .returned v ∧ Qtm q0 q1 q2 q3 q4 h0 n0 v U'.heap L ∧ FrameEnd U o U' L (({ frames := 1, cells := 0, slots := 0, locals := 16 } : Room).cells) (({ frames := 1, cells := 0, slots := 0, locals := 16 } : Room).slots)) := by
  refine own_body pf_2 ?_
  intro p e s m below meth c s₁ hx hby hml hown hnm hlk hret hZ X0 e0
  have N0 : Fr n0 [] := Fr.nil n0
  refine own_go (f' := (mkF m 0 #[.val (.long q0), .second, .val (.long q1), .second, .val (.int q2), .val (.int q3), .val (.int q4)] [])) (fun t k => castTop (ef_rm_tm m q0 q1 q2 q3 q4) k) ?_
  refine own_iload X0 hx (pc' := 2) (hb hby d3_0) rfl rfl ?_
  refine own_iload X0 hx (pc' := 4) (hb hby d3_2) rfl rfl ?_
  by_cases hc4_1 : q4 < q3
  · skip
    refine own_icmpYes X0 hx (pc' := 9) (hb hby d3_4) (tlt hc4_1).1 (by decide) (by decide) ?_
    refine own_lloadN X0 hx (pc' := 10) (hb hby d3_9) rfl rfl ?_
    refine own_lloadN X0 hx (pc' := 11) (hb hby d3_10) rfl rfl ?_
    refine own_iload X0 hx (pc' := 13) (hb hby d3_11) rfl rfl ?_
    refine own_iload X0 hx (pc' := 15) (hb hby d3_13) rfl rfl ?_
    refine own_iadd X0 hx (pc' := 16) (hb hby d3_15) rfl rfl ?_
    refine own_callS X0 hx (pc' := 19) hZ hown (Wd6 hw) (Wd7 hw) (Wd4 hw) (Wd8 hw) (by decide) (rm_raw l Z a0 hw [] q0 q1 (q2 + q4) h0 n0 Z0) e0 0 (by decide) (by decide) (by decide) (by decide) [(.long q0), (.long q1), (.int (q2 + q4))] [] (by rw [hml]; rfl) (lenOf pd_0 rfl) rfl rfl (Nat.le_of_eq rfl) (hb hby d3_16) rfl (fun v2 T2 L2 X2 hQ2 => ?_)
    obtain ⟨rfl, Nq2, e2⟩ := hQ2
    have N3 := Fr.app N0 Nq2
    show own_G p.tables e below _ T2 (mkF m 19 #[.val (.long q0), .second, .val (.long q1), .second, .val (.int q2), .val (.int q3), .val (.int q4)] [(.int (own_raw q0 q1 (q2 + q4)))])
    refine own_bipush X2 hx (pc' := 21) (127 : Int32) (hb hby d3_19) rfl rfl ?_
    refine own_iand X2 hx (pc' := 22) (hb hby d3_21) rfl rfl ?_
    refine own_i2l X2 hx (pc' := 23) (hb hby d3_22) rfl ?_
    refine own_bipush X2 hx (pc' := 25) (7 : Int32) (hb hby d3_23) rfl rfl ?_
    refine own_iload X2 hx (pc' := 27) (hb hby d3_25) rfl rfl ?_
    refine own_imul X2 hx (pc' := 28) (hb hby d3_27) rfl rfl ?_
    refine own_lshl X2 hx (pc' := 29) (hb hby d3_28) rfl ?_
    refine own_retJ X2 hx hlk hret (hb hby d3_29) (by decide) (by decide) ?_
    exact ⟨by simp [own_tm, hc4_1], N3, e2⟩
  · skip
    refine own_icmpNo X0 hx (pc' := 7) (hb hby d3_4) (flt hc4_1).1 rfl ?_
    refine own_lconst X0 hx (pc' := 8) (0 : Int64) (hb hby d3_7) rfl rfl ?_
    refine own_retJ X0 hx hlk hret (hb hby d3_8) (by decide) (by decide) ?_
    exact ⟨by simp [own_tm, hc4_1], N0, e0⟩

theorem d4_0 : decode prog_15_method_1_code 0 = .ok (.aload_n 0, 1) := by decide +kernel
theorem d4_1 : decode prog_15_method_1_code 1 = .ok (.invokespecial 1, 3) := by decide +kernel
theorem d4_4 : decode prog_15_method_1_code 4 = .ok (.aload_n 0, 1) := by decide +kernel
theorem d4_5 : decode prog_15_method_1_code 5 = .ok (.aload_n 1, 1) := by decide +kernel
theorem d4_6 : decode prog_15_method_1_code 6 = .ok (.putfield 7, 3) := by decide +kernel
theorem d4_9 : decode prog_15_method_1_code 9 = .ok (.aload_n 0, 1) := by decide +kernel
theorem d4_10 : decode prog_15_method_1_code 10 = .ok (.iload_n 2, 1) := by decide +kernel
theorem d4_11 : decode prog_15_method_1_code 11 = .ok (.putfield 13, 3) := by decide +kernel
theorem d4_14 : decode prog_15_method_1_code 14 = .ok (.return_, 1) := by decide +kernel
def Qin (Z : State) (a b : Addr) (q : Int32) (h0 : Heap) (n0 : Nat) (v : Option Value) (h : Heap) (L : List Loc) : Prop := v = none ∧ Fr n0 L ∧ Keep h0 h [a] ∧ Fld Z h a "com/example/mixed_likelihood/mixedlikelihood/index/IndexFormat$Input" "bytes" "[B" (.ref b) ∧ Fld Z h a "com/example/mixed_likelihood/mixedlikelihood/index/IndexFormat$Input" "position" "I" (.int q)
theorem ef_rm_in (m : MethodId) (x0 : Addr) (x1 : Addr) (x2 : Int32) : entryFrame m #[(.ref x0), (.ref x1), (.int x2)] 3 = mkF m 0 #[.val (.ref x0), .val (.ref x1), .val (.int x2)] [] := by first | (simp [entryFrame, mkF, argsToLocals, Value.category, maxLocals]; done) | rfl
theorem pf_3 : plainFor (⟨"com/example/mixed_likelihood/mixedlikelihood/index/IndexFormat$Input", "<init>", "([BI)V"⟩ : MethodName) = true := by apply plainFor_of_name; first | (simp [plainName, overriddenIn]; done) | decide +kernel
theorem Wd19 {a0 : Array Value} {Z : State} (hw : ∀ d ∈ tables_1, d.before a0 Z = true) : (Jvm.Cond.methodLink "com/example/mixed_likelihood/mixedlikelihood/index/IndexFormat$Input" (1 : Nat) ({ cls := "java/lang/Object", name := "<init>", desc := "()V" } : Jvm.MethodName)).before a0 Z = true := hw _ (List.mem_of_getElem? (i := 19) rfl)
theorem Wd20 {a0 : Array Value} {Z : State} (hw : ∀ d ∈ tables_1, d.before a0 Z = true) : (Jvm.Cond.instanceMethod ({ cls := "java/lang/Object", name := "<init>", desc := "()V" } : Jvm.MethodName)).before a0 Z = true := hw _ (List.mem_of_getElem? (i := 20) rfl)
theorem Wd21 {a0 : Array Value} {Z : State} (hw : ∀ d ∈ tables_1, d.before a0 Z = true) : (Jvm.Cond.code ({ cls := "java/lang/Object", name := "<init>", desc := "()V" } : Jvm.MethodName) object_method_1_code (1 : Nat) (Option.none : Option Jvm.ClassFile.FieldType)).before a0 Z = true := hw _ (List.mem_of_getElem? (i := 21) rfl)
theorem Wd22 {a0 : Array Value} {Z : State} (hw : ∀ d ∈ tables_1, d.before a0 Z = true) : (Jvm.Cond.fieldLink "com/example/mixed_likelihood/mixedlikelihood/index/IndexFormat$Input" (7 : Nat) "com/example/mixed_likelihood/mixedlikelihood/index/IndexFormat$Input" "bytes" "[B").before a0 Z = true := hw _ (List.mem_of_getElem? (i := 22) rfl)
theorem Wd23 {a0 : Array Value} {Z : State} (hw : ∀ d ∈ tables_1, d.before a0 Z = true) : (Jvm.Cond.laysFinal "com/example/mixed_likelihood/mixedlikelihood/index/IndexFormat$Input" "com/example/mixed_likelihood/mixedlikelihood/index/IndexFormat$Input" "bytes" "[B").before a0 Z = true := hw _ (List.mem_of_getElem? (i := 23) rfl)
theorem Wd14 {a0 : Array Value} {Z : State} (hw : ∀ d ∈ tables_1, d.before a0 Z = true) : (Jvm.Cond.instantiable "com/example/mixed_likelihood/mixedlikelihood/index/IndexFormat$Input" (2 : Nat)).before a0 Z = true := hw _ (List.mem_of_getElem? (i := 14) rfl)
theorem Wd25 {a0 : Array Value} {Z : State} (hw : ∀ d ∈ tables_1, d.before a0 Z = true) : (Jvm.Cond.lays "com/example/mixed_likelihood/mixedlikelihood/index/IndexFormat$Input" "com/example/mixed_likelihood/mixedlikelihood/index/IndexFormat$Input" "position" "I").before a0 Z = true := hw _ (List.mem_of_getElem? (i := 25) rfl)
theorem Wd24 {a0 : Array Value} {Z : State} (hw : ∀ d ∈ tables_1, d.before a0 Z = true) : (Jvm.Cond.fieldLink "com/example/mixed_likelihood/mixedlikelihood/index/IndexFormat$Input" (13 : Nat) "com/example/mixed_likelihood/mixedlikelihood/index/IndexFormat$Input" "position" "I").before a0 Z = true := hw _ (List.mem_of_getElem? (i := 24) rfl)
set_option maxRecDepth 65536 in
set_option maxHeartbeats 40000000 in
theorem rm_in (l : Launch) (Z : State) (a0 : Array Value) (hw : ∀ d ∈ tables_1, d.before a0 Z = true) (ws : List Jvm.Cond) (a b : Addr) (q : Int32) (h0 : Heap) (n0 : Nat) (Z0 : n0 ≤ h0.size) (g_a : n0 ≤ a) (E_a : Exa Z h0 a "com/example/mixed_likelihood/mixedlikelihood/index/IndexFormat$Input") (F_b : Fld Z h0 a "com/example/mixed_likelihood/mixedlikelihood/index/IndexFormat$Input" "bytes" "[B" .null) (F_p : Fld Z h0 a "com/example/mixed_likelihood/mixedlikelihood/index/IndexFormat$Input" "position" "I" (.int (0 : Int32))) :
    MetFree l (⟨"com/example/mixed_likelihood/mixedlikelihood/index/IndexFormat$Input", "<init>", "([BI)V"⟩ : MethodName) (head1 (Jvm.Cond.code (⟨"com/example/mixed_likelihood/mixedlikelihood/index/IndexFormat$Input", "<init>", "([BI)V"⟩ : MethodName) prog_15_method_1_code 3 none :: ws) ({ frames := 1, cells := 0, slots := 0, locals := 12 } : Room)) (fun aa U => aa = #[(.ref a), (.ref b), (.int q)] ∧ Z.Warmed39 U.vm ∧ U.heap = h0) (fun _ _ _ _ _ => True) (fun _ U o U' => ∃ v L, o = .returned v ∧ Qin Z a b q h0 n0 v U'.heap L ∧ FrameEnd U o U' L (({ frames := 1, cells := 0, slots := 0, locals := 12 } : Room).cells) (({ frames := 1, cells := 0, slots := 0, locals := 12 } : Room).slots)) := by
  refine own_body pf_3 ?_
  intro p e s m below meth c s₁ hx hby hml hown hnm hlk hret hZ X0 e0
  have N0 : Fr n0 [] := Fr.nil n0
  refine own_go (f' := (mkF m 0 #[.val (.ref a), .val (.ref b), .val (.int q)] [])) (fun t k => castTop (ef_rm_in m a b q) k) ?_
  have K1 : Keep h0 h0 [a] := Keep.refl _ _
  refine own_aloadN X0 hx (pc' := 1) (hb hby d4_0) rfl rfl rfl ?_
  refine own_initO X0 hx (pc' := 4) hZ hown (Wd19 hw) (Wd20 hw) (Wd21 hw) e0 (by rw [hml]; rfl) (hb hby d4_1) (by decide) 0 (Nat.le_of_eq rfl) (by decide) rfl (fun T2 X2 e2 => ?_)
  refine own_aloadN X2 hx (pc' := 5) (hb hby d4_4) rfl rfl rfl ?_
  refine own_aloadN X2 hx (pc' := 6) (hb hby d4_5) rfl rfl rfl ?_
  refine own_putF X2 hx (pc' := 9) hZ (ty := (.array .byte)) hown (host := "") (Or.inl (Wd22 hw)) Via.refl e2 F_b E_a (Or.inr ⟨(Wd23 hw), rfl, hnm⟩) (Wd14 hw) (by decide) rfl rfl (hb hby d4_6) rfl (fun T3 h3 X3 e3 W3 => ?_)
  have N4 := Fr.snoc X3 N0 g_a
  have Z5 : n0 ≤ h3.size := Nat.le_trans Z0 (Nat.le_of_eq (Wr.size W3).symm)
  have K6 : Keep h0 h3 [a] := K1.wr W3 (Or.inl (List.mem_of_getElem? (i := 0) rfl))
  have F7 := (Exa.wr W3 E_a)
  have F8 := (Fld.same W3 F_b)
  have F9 := (Fld.other W3 F_p (Or.inr (slot_ne (Or.inl (Wd25 hw)) (Or.inr (Wd23 hw)) (by decide) (t := .int) (t' := (.array .byte)) (by decide) (by decide))))
  refine own_aloadN X3 hx (pc' := 10) (hb hby d4_9) rfl rfl rfl ?_
  refine own_iloadN X3 hx (pc' := 11) (hb hby d4_10) rfl rfl ?_
  refine own_putF X3 hx (pc' := 14) hZ (ty := .int) hown (host := "") (Or.inl (Wd24 hw)) Via.refl e3 F9 F7 (Or.inl (Wd25 hw)) (Wd14 hw) (by decide) rfl rfl (hb hby d4_11) rfl (fun T10 h10 X10 e10 W10 => ?_)
  have N11 := Fr.snoc X10 N4 g_a
  have Z12 : n0 ≤ h10.size := Nat.le_trans Z5 (Nat.le_of_eq (Wr.size W10).symm)
  have K13 : Keep h0 h10 [a] := K6.wr W10 (Or.inl (List.mem_of_getElem? (i := 0) rfl))
  have F14 := (Exa.wr W10 F7)
  have F15 := (Fld.other W10 F8 (Or.inr (slot_ne (Or.inr (Wd23 hw)) (Or.inl (Wd25 hw)) (by decide) (t := (.array .byte)) (t' := .int) (by decide) (by decide))))
  have F16 := (Fld.same W10 F9)
  refine own_retV X10 hx hlk hret (hb hby d4_14) (by decide) (by decide) ?_
  rw [e10]
  exact ⟨rfl, N11, K13, F15, F16⟩

theorem d7_0 : decode prog_15_method_2_code 0 = .ok (.aload_n 0, 1) := by decide +kernel
theorem d7_1 : decode prog_15_method_2_code 1 = .ok (.getfield 13, 3) := by decide +kernel
theorem d7_4 : decode prog_15_method_2_code 4 = .ok (.ireturn, 1) := by decide +kernel
def Qpos (q : Int32) (h0 : Heap) (n0 : Nat) (v : Option Value) (h : Heap) (L : List Loc) : Prop := v = some (.int q) ∧ Fr n0 L ∧ h = h0
theorem ef_rm_pos (m : MethodId) (x0 : Addr) : entryFrame m #[(.ref x0)] 1 = mkF m 0 #[.val (.ref x0)] [] := by first | (simp [entryFrame, mkF, argsToLocals, Value.category, maxLocals]; done) | rfl
theorem pf_4 : plainFor (⟨"com/example/mixed_likelihood/mixedlikelihood/index/IndexFormat$Input", "position", "()I"⟩ : MethodName) = true := by apply plainFor_of_name; first | (simp [plainName, overriddenIn]; done) | decide +kernel
set_option maxRecDepth 65536 in
set_option maxHeartbeats 40000000 in
theorem rm_pos (l : Launch) (Z : State) (a0 : Array Value) (hw : ∀ d ∈ tables_1, d.before a0 Z = true) (ws : List Jvm.Cond) (a : Addr) (q : Int32) (h0 : Heap) (n0 : Nat) (Z0 : n0 ≤ h0.size) (F_p : Fld Z h0 a "com/example/mixed_likelihood/mixedlikelihood/index/IndexFormat$Input" "position" "I" (.int q)) :
    MetFree l (⟨"com/example/mixed_likelihood/mixedlikelihood/index/IndexFormat$Input", "position", "()I"⟩ : MethodName) (head1 (Jvm.Cond.code (⟨"com/example/mixed_likelihood/mixedlikelihood/index/IndexFormat$Input", "position", "()I"⟩ : MethodName) prog_15_method_2_code 1 (some .int) :: ws) ({ frames := 0, cells := 0, slots := 0, locals := 0 } : Room)) (fun aa U => aa = #[(.ref a)] ∧ Z.Warmed39 U.vm ∧ U.heap = h0) (fun _ _ _ _ _ => True) (fun _ U o U' => ∃ v L, o = .returned v ∧ Qpos q h0 n0 v U'.heap L ∧ FrameEnd U o U' L (({ frames := 0, cells := 0, slots := 0, locals := 0 } : Room).cells) (({ frames := 0, cells := 0, slots := 0, locals := 0 } : Room).slots)) := by
  refine own_body pf_4 ?_
  intro p e s m below meth c s₁ hx hby hml hown hnm hlk hret hZ X0 e0
  have N0 : Fr n0 [] := Fr.nil n0
  refine own_go (f' := (mkF m 0 #[.val (.ref a)] [])) (fun t k => castTop (ef_rm_pos m a) k) ?_
  refine own_aloadN X0 hx (pc' := 1) (hb hby d7_0) rfl rfl rfl ?_
  refine own_getF X0 hx (pc' := 4) hZ hown (host := "") (Or.inl (Wd24 hw)) Via.refl e0 F_p (hb hby d7_1) rfl (fun T1 X1 e1 => ?_)
  refine own_retI X1 hx hlk hret (hb hby d7_4) (by decide) (by decide) ?_
  exact ⟨rfl, N0, e1⟩

theorem d6_0 : decode prog_15_method_3_code 0 = .ok (.lconst 0, 1) := by decide +kernel
theorem d6_1 : decode prog_15_method_3_code 1 = .ok (.lstore_n 1, 1) := by decide +kernel
theorem d6_2 : decode prog_15_method_3_code 2 = .ok (.iconst 0, 1) := by decide +kernel
theorem d6_3 : decode prog_15_method_3_code 3 = .ok (.istore_n 3, 1) := by decide +kernel
theorem d6_4 : decode prog_15_method_3_code 4 = .ok (.aload_n 0, 1) := by decide +kernel
theorem d6_5 : decode prog_15_method_3_code 5 = .ok (.getfield 7, 3) := by decide +kernel
theorem d6_8 : decode prog_15_method_3_code 8 = .ok (.aload_n 0, 1) := by decide +kernel
theorem d6_9 : decode prog_15_method_3_code 9 = .ok (.dup, 1) := by decide +kernel
theorem d6_10 : decode prog_15_method_3_code 10 = .ok (.getfield 13, 3) := by decide +kernel
theorem d6_13 : decode prog_15_method_3_code 13 = .ok (.dup_x1, 1) := by decide +kernel
theorem d6_14 : decode prog_15_method_3_code 14 = .ok (.iconst 1, 1) := by decide +kernel
theorem d6_15 : decode prog_15_method_3_code 15 = .ok (.iadd, 1) := by decide +kernel
theorem d6_16 : decode prog_15_method_3_code 16 = .ok (.putfield 13, 3) := by decide +kernel
theorem d6_19 : decode prog_15_method_3_code 19 = .ok (.baload, 1) := by decide +kernel
theorem d6_20 : decode prog_15_method_3_code 20 = .ok (.istore 4, 2) := by decide +kernel
theorem d6_22 : decode prog_15_method_3_code 22 = .ok (.iload 4, 2) := by decide +kernel
theorem d6_24 : decode prog_15_method_3_code 24 = .ok (.ifCond .ge 38, 3) := by decide +kernel
theorem d6_27 : decode prog_15_method_3_code 27 = .ok (.lload_n 1, 1) := by decide +kernel
theorem d6_28 : decode prog_15_method_3_code 28 = .ok (.iload 4, 2) := by decide +kernel
theorem d6_30 : decode prog_15_method_3_code 30 = .ok (.bipush 127, 2) := by decide +kernel
theorem d6_32 : decode prog_15_method_3_code 32 = .ok (.iand, 1) := by decide +kernel
theorem d6_33 : decode prog_15_method_3_code 33 = .ok (.i2l, 1) := by decide +kernel
theorem d6_34 : decode prog_15_method_3_code 34 = .ok (.iload_n 3, 1) := by decide +kernel
theorem d6_35 : decode prog_15_method_3_code 35 = .ok (.lshl, 1) := by decide +kernel
theorem d6_36 : decode prog_15_method_3_code 36 = .ok (.lor, 1) := by decide +kernel
theorem d6_37 : decode prog_15_method_3_code 37 = .ok (.lstore_n 1, 1) := by decide +kernel
theorem d6_38 : decode prog_15_method_3_code 38 = .ok (.iinc 3 7, 3) := by decide +kernel
theorem d6_41 : decode prog_15_method_3_code 41 = .ok (.aload_n 0, 1) := by decide +kernel
theorem d6_42 : decode prog_15_method_3_code 42 = .ok (.getfield 7, 3) := by decide +kernel
theorem d6_45 : decode prog_15_method_3_code 45 = .ok (.aload_n 0, 1) := by decide +kernel
theorem d6_46 : decode prog_15_method_3_code 46 = .ok (.dup, 1) := by decide +kernel
theorem d6_47 : decode prog_15_method_3_code 47 = .ok (.getfield 13, 3) := by decide +kernel
theorem d6_50 : decode prog_15_method_3_code 50 = .ok (.dup_x1, 1) := by decide +kernel
theorem d6_51 : decode prog_15_method_3_code 51 = .ok (.iconst 1, 1) := by decide +kernel
theorem d6_52 : decode prog_15_method_3_code 52 = .ok (.iadd, 1) := by decide +kernel
theorem d6_53 : decode prog_15_method_3_code 53 = .ok (.putfield 13, 3) := by decide +kernel
theorem d6_56 : decode prog_15_method_3_code 56 = .ok (.baload, 1) := by decide +kernel
theorem d6_57 : decode prog_15_method_3_code 57 = .ok (.istore 4, 2) := by decide +kernel
theorem d6_59 : decode prog_15_method_3_code 59 = .ok (.goto (-37), 3) := by decide +kernel
theorem d6_62 : decode prog_15_method_3_code 62 = .ok (.lload_n 1, 1) := by decide +kernel
theorem d6_63 : decode prog_15_method_3_code 63 = .ok (.iload 4, 2) := by decide +kernel
theorem d6_65 : decode prog_15_method_3_code 65 = .ok (.i2l, 1) := by decide +kernel
theorem d6_66 : decode prog_15_method_3_code 66 = .ok (.iload_n 3, 1) := by decide +kernel
theorem d6_67 : decode prog_15_method_3_code 67 = .ok (.lshl, 1) := by decide +kernel
theorem d6_68 : decode prog_15_method_3_code 68 = .ok (.lor, 1) := by decide +kernel
theorem d6_69 : decode prog_15_method_3_code 69 = .ok (.lreturn, 1) := by decide +kernel
def Qrd (Z : State) (a : Addr) (P K : Nat) (g : Nat → Int32) (h0 : Heap) (n0 : Nat) (v : Option Value) (h : Heap) (L : List Loc) : Prop := v = some (.long (own_acc g K)) ∧ Fr n0 L ∧ Keep h0 h [a] ∧ Fld Z h a "com/example/mixed_likelihood/mixedlikelihood/index/IndexFormat$Input" "position" "I" (.int (Int32.ofNat (P + K)))
theorem ef_rm_rd (m : MethodId) (x0 : Addr) : entryFrame m #[(.ref x0)] 5 = mkF m 0 #[.val (.ref x0), .unset, .unset, .unset, .unset] [] := by first | (simp [entryFrame, mkF, argsToLocals, Value.category, maxLocals]; done) | rfl
theorem pf_5 : plainFor (⟨"com/example/mixed_likelihood/mixedlikelihood/index/IndexFormat$Input", "readNumber", "()J"⟩ : MethodName) = true := by apply plainFor_of_name; first | (simp [plainName, overriddenIn]; done) | decide +kernel
set_option maxRecDepth 65536 in
set_option maxHeartbeats 40000000 in
theorem rm_rd (l : Launch) (Z : State) (a0 : Array Value) (hw : ∀ d ∈ tables_1, d.before a0 Z = true) (ws : List Jvm.Cond) (a b : Addr) (kb : ClassId) (P K : Nat) (f g : Nat → Int32) (h0 : Heap) (n0 : Nat) (Z0 : n0 ≤ h0.size) (g_a : n0 ≤ a) (hP : P ≤ 1) (hK : 1 ≤ K ∧ K ≤ 10) (hf : ∀ j, j + 1 < K → (f (P + j)).toInt < 0 ∧ f (P + j) &&& 127 = g j) (hl : ∀ j, j + 1 = K → 0 ≤ (f (P + j)).toInt ∧ f (P + j) = g j) (E_a : Exa Z h0 a "com/example/mixed_likelihood/mixedlikelihood/index/IndexFormat$Input") (F_b : Fld Z h0 a "com/example/mixed_likelihood/mixedlikelihood/index/IndexFormat$Input" "bytes" "[B" (.ref b)) (F_p : Fld Z h0 a "com/example/mixed_likelihood/mixedlikelihood/index/IndexFormat$Input" "position" "I" (.int (Int32.ofNat P))) (V_b : Arv Z h0 b kb .byte (12 : Int32) [.int (f 0), .int (f 1), .int (f 2), .int (f 3), .int (f 4), .int (f 5), .int (f 6), .int (f 7), .int (f 8), .int (f 9), .int (f 10), .int (f 11)] (.int (0 : Int32))) :
    MetFree l (⟨"com/example/mixed_likelihood/mixedlikelihood/index/IndexFormat$Input", "readNumber", "()J"⟩ : MethodName) (head1 (Jvm.Cond.code (⟨"com/example/mixed_likelihood/mixedlikelihood/index/IndexFormat$Input", "readNumber", "()J"⟩ : MethodName) prog_15_method_3_code 5 (some .long) :: ws) ({ frames := 0, cells := 0, slots := 0, locals := 0 } : Room)) (fun aa U => aa = #[(.ref a)] ∧ Z.Warmed39 U.vm ∧ U.heap = h0) (fun _ _ _ _ _ => True) (fun _ U o U' => ∃ v L, o = .returned v ∧ Qrd Z a P K g h0 n0 v U'.heap L ∧ FrameEnd U o U' L (({ frames := 0, cells := 0, slots := 0, locals := 0 } : Room).cells) (({ frames := 0, cells := 0, slots := 0, locals := 0 } : Room).slots)) := by
  refine own_body pf_5 ?_
  intro p e s m below meth c s₁ hx hby hml hown hnm hlk hret hZ X0 e0
  have N0 : Fr n0 [] := Fr.nil n0
  refine own_go (f' := (mkF m 0 #[.val (.ref a), .unset, .unset, .unset, .unset] [])) (fun t k => castTop (ef_rm_rd m a) k) ?_
  have ne_ab : a ≠ b := by obtain ⟨c1, A1, -⟩ := id V_b; exact ne_arr E_a (Wd14 hw) A1
  have K1 : Keep h0 h0 [a] := Keep.refl _ _
  have J22 : ∀ (n j : Nat) (TJ : State) (locsJ : List Loc) (hJ : Heap) (XJ : Stand p l e ({ frames := 0, cells := 0, slots := 0, locals := 0 } : Room) s m #[(.ref a)] below meth c TJ locsJ 0 0) (eJ : TJ.heap = hJ) (NJ : Fr n0 locsJ) (ZJ : n0 ≤ hJ.size) (EJ : Exa Z hJ a "com/example/mixed_likelihood/mixedlikelihood/index/IndexFormat$Input") (FbJ : Fld Z hJ a "com/example/mixed_likelihood/mixedlikelihood/index/IndexFormat$Input" "bytes" "[B" (.ref b)) (FpJ : Fld Z hJ a "com/example/mixed_likelihood/mixedlikelihood/index/IndexFormat$Input" "position" "I" (.int (Int32.ofNat (P + j + 1)))) (VJ : Arv Z hJ b kb .byte (12 : Int32) [.int (f 0), .int (f 1), .int (f 2), .int (f 3), .int (f 4), .int (f 5), .int (f 6), .int (f 7), .int (f 8), .int (f 9), .int (f 10), .int (f 11)] (.int (0 : Int32))) (hjn : j + n + 1 = K) (KJ : Keep h0 hJ [a]), own_G p.tables e below (own_P s (Qrd Z a P K g h0 n0) 0 0) TJ (mkF m 22 #[.val (.ref a), .val (.long (own_acc g j)), .second, .val (.int (Int32.ofNat (7 * j))), .val (.int (f (P + j)))] []) := by
    intro n
    induction n with
    | zero =>
      intro j TJ locsJ hJ XJ eJ NJ ZJ EJ FbJ FpJ VJ hjn KJ
      have hjK : K = j + 1 := by omega
      have hq := hl j (by omega)
      have hcz : ¬ (f (P + j) < (0 : Int32)) := by rw [Int32.lt_iff_toInt_lt, own_t32_0]; omega
      refine own_iload XJ hx (pc' := 24) (hb hby d6_22) rfl rfl ?_
      refine own_ifYes XJ hx (pc' := 62) (hb hby d6_24) (flt hcz).2.1 (by decide) (by decide) ?_
      refine own_lloadN XJ hx (pc' := 63) (hb hby d6_62) rfl rfl ?_
      refine own_iload XJ hx (pc' := 65) (hb hby d6_63) rfl rfl ?_
      refine own_i2l XJ hx (pc' := 66) (hb hby d6_65) rfl ?_
      refine own_iloadN XJ hx (pc' := 67) (hb hby d6_66) rfl rfl ?_
      refine own_lshl XJ hx (pc' := 68) (hb hby d6_67) rfl ?_
      refine own_lor XJ hx (pc' := 69) (hb hby d6_68) rfl rfl ?_
      refine own_retJ XJ hx hlk hret (hb hby d6_69) (by decide) (by decide) ?_
      rw [eJ]
      refine ⟨?_, NJ, KJ, ?_⟩
      · subst hjK; rw [hq.2]; rfl
      · subst hjK; exact FpJ
    | succ n ih =>
      intro j TJ locsJ hJ XJ eJ NJ ZJ EJ FbJ FpJ VJ hjn KJ
      have hq := hf j (by omega)
      have hcz : f (P + j) < (0 : Int32) := by rw [Int32.lt_iff_toInt_lt, own_t32_0]; exact hq.1
      refine own_iload XJ hx (pc' := 24) (hb hby d6_22) rfl rfl ?_
      refine own_ifNo XJ hx (pc' := 27) (hb hby d6_24) (tlt hcz).2.1 rfl ?_
      refine own_lloadN XJ hx (pc' := 28) (hb hby d6_27) rfl rfl ?_
      refine own_iload XJ hx (pc' := 30) (hb hby d6_28) rfl rfl ?_
      refine own_bipush XJ hx (pc' := 32) (127 : Int32) (hb hby d6_30) rfl rfl ?_
      refine own_iand XJ hx (pc' := 33) (hb hby d6_32) rfl rfl ?_
      rw [hq.2]
      refine own_i2l XJ hx (pc' := 34) (hb hby d6_33) rfl ?_
      refine own_iloadN XJ hx (pc' := 35) (hb hby d6_34) rfl rfl ?_
      refine own_lshl XJ hx (pc' := 36) (hb hby d6_35) rfl ?_
      refine own_lor XJ hx (pc' := 37) (hb hby d6_36) rfl rfl ?_
      refine own_lstoreN XJ hx (pc' := 38) (Ls' := #[.val (.ref a), .val (.long ((own_acc g j) ||| (((g j).toInt64) <<< ((Int32.ofNat (7 * j)) &&& 0x3f).toInt64))), .second, .val (.int (Int32.ofNat (7 * j))), .val (.int (f (P + j)))]) (hb hby d6_37) rfl rfl ?_
      refine own_iinc XJ hx (pc' := 41) (Ls' := #[.val (.ref a), .val (.long ((own_acc g j) ||| (((g j).toInt64) <<< ((Int32.ofNat (7 * j)) &&& 0x3f).toInt64))), .second, .val (.int ((Int32.ofNat (7 * j)) + (7 : Int32))), .val (.int (f (P + j)))]) (hb hby d6_38) rfl rfl rfl ?_
      rw [show ((Int32.ofNat (7 * j)) + (7 : Int32)) = Int32.ofNat (7 * (j + 1)) from (Int32.ofNat_add (7 * j) 7).symm]
      show own_G p.tables e below _ TJ (mkF m 41 #[.val (.ref a), .val (.long (own_acc g (j + 1))), .second, .val (.int (Int32.ofNat (7 * (j + 1)))), .val (.int (f (P + j)))] [])
      refine own_aloadN XJ hx (pc' := 42) (hb hby d6_41) rfl rfl rfl ?_
      refine own_getF XJ hx (pc' := 45) hZ hown (host := "") (Or.inl (Wd22 hw)) Via.refl eJ FbJ (hb hby d6_42) rfl (fun T2 X2 e2 => ?_)
      refine own_aloadN X2 hx (pc' := 46) (hb hby d6_45) rfl rfl rfl ?_
      refine own_dup X2 hx (pc' := 47) (hb hby d6_46) rfl rfl ?_
      refine own_getF X2 hx (pc' := 50) hZ hown (host := "") (Or.inl (Wd24 hw)) Via.refl e2 FpJ (hb hby d6_47) rfl (fun T3 X3 e3 => ?_)
      refine own_dupX1 X3 hx (pc' := 51) (hb hby d6_50) rfl rfl rfl ?_
      refine own_iconst X3 hx (pc' := 52) (1 : Int32) (hb hby d6_51) rfl rfl ?_
      refine own_iadd X3 hx (pc' := 53) (hb hby d6_52) rfl rfl ?_
      rw [show ((Int32.ofNat (P + j + 1)) + (1 : Int32)) = Int32.ofNat ((P + j + 1) + 1) from (Int32.ofNat_add _ 1).symm]
      refine own_putF X3 hx (pc' := 56) hZ (ty := .int) hown (host := "") (Or.inl (Wd24 hw)) Via.refl e3 FpJ EJ (Or.inl (Wd25 hw)) (Wd14 hw) (by decide) rfl rfl (hb hby d6_53) rfl (fun T4 h4 X4 e4 W4 => ?_)
      have N5 := Fr.snoc X4 NJ g_a
      have Z6 : n0 ≤ h4.size := Nat.le_trans ZJ (Nat.le_of_eq (Wr.size W4).symm)
      have K7 : Keep h0 h4 [a] := KJ.wr W4 (Or.inl (List.mem_of_getElem? (i := 0) rfl))
      have F8 := (Exa.wr W4 EJ)
      have F9 := (Fld.other W4 FbJ (Or.inr (slot_ne (Or.inr (Wd23 hw)) (Or.inl (Wd25 hw)) (by decide) (t := (.array .byte)) (t' := .int) (by decide) (by decide))))
      have F10 := (Fld.same W4 FpJ)
      have F11 := (VJ.other W4 (Ne.symm ne_ab))
      have hi12 : ¬ (Int32.ofNat (P + j + 1)) < 0 ∧ (Int32.ofNat (P + j + 1)) < (12 : Int32) := ⟨by rw [Int32.lt_iff_toInt_lt, own_on (by omega)]; show ¬ (((P + j + 1) : Nat) : Int) < 0; omega, by rw [Int32.lt_iff_toInt_lt, own_on (by omega), own_t32_12]; omega⟩
      have hc12 : ((Int32.ofNat (P + j + 1))).toNatClampNeg = (P + j + 1) := by have q := nat_of hi12.1; rw [own_on (by omega)] at q; omega
      obtain ⟨cl13, Ar13, q13, S13, M13, H13, G13⟩ := id F11
      refine own_baload X4 hx (pc' := 57) hZ (v := (f (P + j + 1))) e4 Ar13 (inb_of S13 hi12) (Has.at H13 (inb_of S13 hi12) (by rw [hc12]; exact own_get f _ _ (by omega))) (hb hby d6_56) rfl ?_
      refine own_istore X4 hx (pc' := 59) (Ls' := #[.val (.ref a), .val (.long (own_acc g (j + 1))), .second, .val (.int (Int32.ofNat (7 * (j + 1)))), .val (.int (f (P + j + 1)))]) (hb hby d6_57) rfl rfl ?_
      refine own_goto X4 hx (pc' := 22) (hb hby d6_59) (by decide) (by decide) ?_
      exact ih (j + 1) _ _ _ X4 e4 N5 Z6 F8 F9 F10 F11 (by omega) K7
  refine own_lconst X0 hx (pc' := 1) (0 : Int64) (hb hby d6_0) rfl rfl ?_
  refine own_lstoreN X0 hx (pc' := 2) (Ls' := #[.val (.ref a), .val (.long (0 : Int64)), .second, .unset, .unset]) (hb hby d6_1) rfl rfl ?_
  refine own_iconst X0 hx (pc' := 3) (0 : Int32) (hb hby d6_2) rfl rfl ?_
  refine own_istoreN X0 hx (pc' := 4) (Ls' := #[.val (.ref a), .val (.long (0 : Int64)), .second, .val (.int (0 : Int32)), .unset]) (hb hby d6_3) rfl rfl ?_
  refine own_aloadN X0 hx (pc' := 5) (hb hby d6_4) rfl rfl rfl ?_
  refine own_getF X0 hx (pc' := 8) hZ hown (host := "") (Or.inl (Wd22 hw)) Via.refl e0 F_b (hb hby d6_5) rfl (fun T14 X14 e14 => ?_)
  refine own_aloadN X14 hx (pc' := 9) (hb hby d6_8) rfl rfl rfl ?_
  refine own_dup X14 hx (pc' := 10) (hb hby d6_9) rfl rfl ?_
  refine own_getF X14 hx (pc' := 13) hZ hown (host := "") (Or.inl (Wd24 hw)) Via.refl e14 F_p (hb hby d6_10) rfl (fun T15 X15 e15 => ?_)
  refine own_dupX1 X15 hx (pc' := 14) (hb hby d6_13) rfl rfl rfl ?_
  refine own_iconst X15 hx (pc' := 15) (1 : Int32) (hb hby d6_14) rfl rfl ?_
  refine own_iadd X15 hx (pc' := 16) (hb hby d6_15) rfl rfl ?_
  rw [show ((Int32.ofNat P) + (1 : Int32)) = Int32.ofNat (P + 1) from (Int32.ofNat_add _ 1).symm]
  refine own_putF X15 hx (pc' := 19) hZ (ty := .int) hown (host := "") (Or.inl (Wd24 hw)) Via.refl e15 F_p E_a (Or.inl (Wd25 hw)) (Wd14 hw) (by decide) rfl rfl (hb hby d6_16) rfl (fun T16 h16 X16 e16 W16 => ?_)
  have N17 := Fr.snoc X16 N0 g_a
  have Z18 : n0 ≤ h16.size := Nat.le_trans Z0 (Nat.le_of_eq (Wr.size W16).symm)
  have K19 : Keep h0 h16 [a] := K1.wr W16 (Or.inl (List.mem_of_getElem? (i := 0) rfl))
  have F20 := (Exa.wr W16 E_a)
  have F21 := (Fld.other W16 F_b (Or.inr (slot_ne (Or.inr (Wd23 hw)) (Or.inl (Wd25 hw)) (by decide) (t := (.array .byte)) (t' := .int) (by decide) (by decide))))
  have F22 := (Fld.same W16 F_p)
  have F23 := (V_b.other W16 (Ne.symm ne_ab))
  have hi24 : ¬ (Int32.ofNat P) < 0 ∧ (Int32.ofNat P) < (12 : Int32) := ⟨by rw [Int32.lt_iff_toInt_lt, own_on (by omega)]; show ¬ ((P : Nat) : Int) < 0; omega, by rw [Int32.lt_iff_toInt_lt, own_on (by omega), own_t32_12]; omega⟩
  have hc24 : ((Int32.ofNat P)).toNatClampNeg = P := by have q := nat_of hi24.1; rw [own_on (by omega)] at q; omega
  obtain ⟨cl25, Ar25, q25, S25, M25, H25, G25⟩ := id F23
  refine own_baload X16 hx (pc' := 20) hZ (v := (f P)) e16 Ar25 (inb_of S25 hi24) (Has.at H25 (inb_of S25 hi24) (by rw [hc24]; exact own_get f _ _ (by omega))) (hb hby d6_19) rfl ?_
  refine own_istore X16 hx (pc' := 22) (Ls' := #[.val (.ref a), .val (.long (0 : Int64)), .second, .val (.int (0 : Int32)), .val (.int (f P))]) (hb hby d6_20) rfl rfl ?_
  exact J22 (K - 1) 0 _ _ _ X16 e16 N17 Z18 F20 F21 F22 F23 (by omega) K19

def Q0 (n0 : Nat) (v : Option Value) (h : Heap) (L : List Loc) : Prop := v = some (.int 1) ∧ Fr n0 L
theorem ef_rm0 (m : MethodId) (x0 : Int64) (x1 : Int64) (x2 : Int32) (x3 : Int32) : entryFrame m #[(.long x0), (.long x1), (.int x2), (.int x3)] maxLocals = mkF m 0 #[.val (.long x0), .second, .val (.long x1), .second, .val (.int x2), .val (.int x3), .unset, .unset, .unset, .unset, .unset, .unset, .unset, .unset] [] := by first | (simp [entryFrame, mkF, argsToLocals, Value.category, maxLocals]; done) | rfl
theorem pf_6 : plainFor (⟨"com/example/mixed_likelihood/mixedlikelihood/index/InputReadNumberPinLaw", "law", "(JJII)Z"⟩ : MethodName) = true := by apply plainFor_of_name; first | (simp [plainName, overriddenIn]; done) | decide +kernel
theorem Wd0 {a0 : Array Value} {Z : State} (hw : ∀ d ∈ tables_1, d.before a0 Z = true) : (Jvm.Cond.constant "com/example/mixed_likelihood/mixedlikelihood/index/InputReadNumberPinLaw" (7 : Nat) (2147483647 : Int32)).before a0 Z = true := hw _ (List.mem_of_getElem? (i := 0) rfl)
theorem Wd1 {a0 : Array Value} {Z : State} (hw : ∀ d ∈ tables_1, d.before a0 Z = true) : (Jvm.Cond.arrayClass Jvm.ClassFile.FieldType.byte).before a0 Z = true := hw _ (List.mem_of_getElem? (i := 1) rfl)
theorem Wd5 {a0 : Array Value} {Z : State} (hw : ∀ d ∈ tables_1, d.before a0 Z = true) : (Jvm.Cond.code ({ cls := "com/example/mixed_likelihood/mixedlikelihood/index/InputReadNumberPinLaw", name := "shaped", desc := "(JJIII)B" } : Jvm.MethodName) method_4_code (9 : Nat) (Option.some Jvm.ClassFile.FieldType.byte)).before a0 Z = true := hw _ (List.mem_of_getElem? (i := 5) rfl)
theorem pd_1 : parseMethodDescriptor "(JJIII)B" = some ⟨[.long, .long, .int, .int, .int], some .byte⟩ := by decide +kernel
theorem Wd2 {a0 : Array Value} {Z : State} (hw : ∀ d ∈ tables_1, d.before a0 Z = true) : (Jvm.Cond.methodLink "com/example/mixed_likelihood/mixedlikelihood/index/InputReadNumberPinLaw" (8 : Nat) ({ cls := "com/example/mixed_likelihood/mixedlikelihood/index/InputReadNumberPinLaw", name := "shaped", desc := "(JJIII)B" } : Jvm.MethodName)).before a0 Z = true := hw _ (List.mem_of_getElem? (i := 2) rfl)
theorem Wd3 {a0 : Array Value} {Z : State} (hw : ∀ d ∈ tables_1, d.before a0 Z = true) : (Jvm.Cond.static ({ cls := "com/example/mixed_likelihood/mixedlikelihood/index/InputReadNumberPinLaw", name := "shaped", desc := "(JJIII)B" } : Jvm.MethodName)).before a0 Z = true := hw _ (List.mem_of_getElem? (i := 3) rfl)
theorem Wd12 {a0 : Array Value} {Z : State} (hw : ∀ d ∈ tables_1, d.before a0 Z = true) : (Jvm.Cond.code ({ cls := "com/example/mixed_likelihood/mixedlikelihood/index/InputReadNumberPinLaw", name := "term", desc := "(JJIII)J" } : Jvm.MethodName) method_5_code (7 : Nat) (Option.some Jvm.ClassFile.FieldType.long)).before a0 Z = true := hw _ (List.mem_of_getElem? (i := 12) rfl)
theorem pd_2 : parseMethodDescriptor "(JJIII)J" = some ⟨[.long, .long, .int, .int, .int], some .long⟩ := by decide +kernel
theorem Wd10 {a0 : Array Value} {Z : State} (hw : ∀ d ∈ tables_1, d.before a0 Z = true) : (Jvm.Cond.methodLink "com/example/mixed_likelihood/mixedlikelihood/index/InputReadNumberPinLaw" (14 : Nat) ({ cls := "com/example/mixed_likelihood/mixedlikelihood/index/InputReadNumberPinLaw", name := "term", desc := "(JJIII)J" } : Jvm.MethodName)).before a0 Z = true := hw _ (List.mem_of_getElem? (i := 10) rfl)
theorem Wd11 {a0 : Array Value} {Z : State} (hw : ∀ d ∈ tables_1, d.before a0 Z = true) : (Jvm.Cond.static ({ cls := "com/example/mixed_likelihood/mixedlikelihood/index/InputReadNumberPinLaw", name := "term", desc := "(JJIII)J" } : Jvm.MethodName)).before a0 Z = true := hw _ (List.mem_of_getElem? (i := 11) rfl)
theorem Wd13 {a0 : Array Value} {Z : State} (hw : ∀ d ∈ tables_1, d.before a0 Z = true) : (Jvm.Cond.classLink "com/example/mixed_likelihood/mixedlikelihood/index/InputReadNumberPinLaw" (18 : Nat) "com/example/mixed_likelihood/mixedlikelihood/index/IndexFormat$Input").before a0 Z = true := hw _ (List.mem_of_getElem? (i := 13) rfl)
theorem Wd15 {a0 : Array Value} {Z : State} (hw : ∀ d ∈ tables_1, d.before a0 Z = true) : (Jvm.Cond.initialized "com/example/mixed_likelihood/mixedlikelihood/index/IndexFormat$Input").before a0 Z = true := hw _ (List.mem_of_getElem? (i := 15) rfl)
theorem Wd18 {a0 : Array Value} {Z : State} (hw : ∀ d ∈ tables_1, d.before a0 Z = true) : (Jvm.Cond.code ({ cls := "com/example/mixed_likelihood/mixedlikelihood/index/IndexFormat$Input", name := "<init>", desc := "([BI)V" } : Jvm.MethodName) prog_15_method_1_code (3 : Nat) (Option.none : Option Jvm.ClassFile.FieldType)).before a0 Z = true := hw _ (List.mem_of_getElem? (i := 18) rfl)
theorem pd_3 : parseMethodDescriptor "([BI)V" = some ⟨[(.array .byte), .int], none⟩ := by decide +kernel
theorem Wd16 {a0 : Array Value} {Z : State} (hw : ∀ d ∈ tables_1, d.before a0 Z = true) : (Jvm.Cond.methodLink "com/example/mixed_likelihood/mixedlikelihood/index/InputReadNumberPinLaw" (20 : Nat) ({ cls := "com/example/mixed_likelihood/mixedlikelihood/index/IndexFormat$Input", name := "<init>", desc := "([BI)V" } : Jvm.MethodName)).before a0 Z = true := hw _ (List.mem_of_getElem? (i := 16) rfl)
theorem Wd17 {a0 : Array Value} {Z : State} (hw : ∀ d ∈ tables_1, d.before a0 Z = true) : (Jvm.Cond.instanceMethod ({ cls := "com/example/mixed_likelihood/mixedlikelihood/index/IndexFormat$Input", name := "<init>", desc := "([BI)V" } : Jvm.MethodName)).before a0 Z = true := hw _ (List.mem_of_getElem? (i := 17) rfl)
theorem Wd30 {a0 : Array Value} {Z : State} (hw : ∀ d ∈ tables_1, d.before a0 Z = true) : (Jvm.Cond.code ({ cls := "com/example/mixed_likelihood/mixedlikelihood/index/IndexFormat$Input", name := "readNumber", desc := "()J" } : Jvm.MethodName) prog_15_method_3_code (5 : Nat) (Option.some Jvm.ClassFile.FieldType.long)).before a0 Z = true := hw _ (List.mem_of_getElem? (i := 30) rfl)
theorem pd_4 : parseMethodDescriptor "()J" = some ⟨[], some .long⟩ := by decide +kernel
theorem Wd26 {a0 : Array Value} {Z : State} (hw : ∀ d ∈ tables_1, d.before a0 Z = true) : (Jvm.Cond.methodLink "com/example/mixed_likelihood/mixedlikelihood/index/InputReadNumberPinLaw" (23 : Nat) ({ cls := "com/example/mixed_likelihood/mixedlikelihood/index/IndexFormat$Input", name := "readNumber", desc := "()J" } : Jvm.MethodName)).before a0 Z = true := hw _ (List.mem_of_getElem? (i := 26) rfl)
theorem Wd28 {a0 : Array Value} {Z : State} (hw : ∀ d ∈ tables_1, d.before a0 Z = true) : (Jvm.Cond.instanceMethod ({ cls := "com/example/mixed_likelihood/mixedlikelihood/index/IndexFormat$Input", name := "readNumber", desc := "()J" } : Jvm.MethodName)).before a0 Z = true := hw _ (List.mem_of_getElem? (i := 28) rfl)
theorem Wd29 {a0 : Array Value} {Z : State} (hw : ∀ d ∈ tables_1, d.before a0 Z = true) : (Jvm.Cond.selects "com/example/mixed_likelihood/mixedlikelihood/index/IndexFormat$Input" ({ cls := "com/example/mixed_likelihood/mixedlikelihood/index/IndexFormat$Input", name := "readNumber", desc := "()J" } : Jvm.MethodName) ({ cls := "com/example/mixed_likelihood/mixedlikelihood/index/IndexFormat$Input", name := "readNumber", desc := "()J" } : Jvm.MethodName)).before a0 Z = true := hw _ (List.mem_of_getElem? (i := 29) rfl)
theorem Wd35 {a0 : Array Value} {Z : State} (hw : ∀ d ∈ tables_1, d.before a0 Z = true) : (Jvm.Cond.code ({ cls := "com/example/mixed_likelihood/mixedlikelihood/index/IndexFormat$Input", name := "position", desc := "()I" } : Jvm.MethodName) prog_15_method_2_code (1 : Nat) (Option.some Jvm.ClassFile.FieldType.int)).before a0 Z = true := hw _ (List.mem_of_getElem? (i := 35) rfl)
theorem pd_5 : parseMethodDescriptor "()I" = some ⟨[], some .int⟩ := by decide +kernel
theorem Wd31 {a0 : Array Value} {Z : State} (hw : ∀ d ∈ tables_1, d.before a0 Z = true) : (Jvm.Cond.methodLink "com/example/mixed_likelihood/mixedlikelihood/index/InputReadNumberPinLaw" (27 : Nat) ({ cls := "com/example/mixed_likelihood/mixedlikelihood/index/IndexFormat$Input", name := "position", desc := "()I" } : Jvm.MethodName)).before a0 Z = true := hw _ (List.mem_of_getElem? (i := 31) rfl)
theorem Wd33 {a0 : Array Value} {Z : State} (hw : ∀ d ∈ tables_1, d.before a0 Z = true) : (Jvm.Cond.instanceMethod ({ cls := "com/example/mixed_likelihood/mixedlikelihood/index/IndexFormat$Input", name := "position", desc := "()I" } : Jvm.MethodName)).before a0 Z = true := hw _ (List.mem_of_getElem? (i := 33) rfl)
theorem Wd34 {a0 : Array Value} {Z : State} (hw : ∀ d ∈ tables_1, d.before a0 Z = true) : (Jvm.Cond.selects "com/example/mixed_likelihood/mixedlikelihood/index/IndexFormat$Input" ({ cls := "com/example/mixed_likelihood/mixedlikelihood/index/IndexFormat$Input", name := "position", desc := "()I" } : Jvm.MethodName) ({ cls := "com/example/mixed_likelihood/mixedlikelihood/index/IndexFormat$Input", name := "position", desc := "()I" } : Jvm.MethodName)).before a0 Z = true := hw _ (List.mem_of_getElem? (i := 34) rfl)
set_option maxRecDepth 65536 in
set_option maxHeartbeats 40000000 in
theorem rm0 (l : Launch) (Z : State) (a0 : Array Value) (hw : ∀ d ∈ tables_1, d.before a0 Z = true) (ws : List Jvm.Cond) (p0 p1 : Int64) (p2 p3 : Int32) (h0 : Heap) (n0 : Nat) (Z0 : n0 ≤ h0.size)  :
    MetFree l x (head1 (Jvm.Cond.code x code maxLocals ret :: ws) room_1) (fun aa U => aa = #[(.long p0), (.long p1), (.int p2), (.int p3)] ∧ Z.Warmed39 U.vm ∧ U.heap = h0) (fun _ _ _ _ _ => True) (fun _ U o U' => ∃ v L, o = .returned v ∧ Q0 n0 v U'.heap L ∧ FrameEnd U o U' L 16 128) := by
  refine own_body pf_6 ?_
  intro p e s m below meth c s₁ hx hby hml hown hnm hlk hret hZ X0 e0
  have N0 : Fr n0 [] := Fr.nil n0
  refine own_go (f' := (mkF m 0 #[.val (.long p0), .second, .val (.long p1), .second, .val (.int p2), .val (.int p3), .unset, .unset, .unset, .unset, .unset, .unset, .unset, .unset] [])) (fun t k => castTop (ef_rm0 m p0 p1 p2 p3) k) ?_
  refine own_iload X0 hx (pc' := 2) (hb hby at_0) rfl rfl ?_
  refine own_ldcI X0 hx (pc' := 4) hZ hown (Wd0 hw) (hb hby at_2) rfl ?_
  refine own_iand X0 hx (pc' := 5) (hb hby at_4) rfl rfl ?_
  refine own_bipush X0 hx (pc' := 7) (10 : Int32) (hb hby at_5) rfl rfl ?_
  refine own_irem X0 hx (pc' := 8) (hb hby at_7) (by decide) rfl ?_
  refine own_iconst X0 hx (pc' := 9) (1 : Int32) (hb hby at_8) rfl rfl ?_
  refine own_iadd X0 hx (pc' := 10) (hb hby at_9) rfl rfl ?_
  refine own_istore X0 hx (pc' := 12) (Ls' := #[.val (.long p0), .second, .val (.long p1), .second, .val (.int p2), .val (.int p3), .val (.int (((p2 &&& (2147483647 : Int32)) % (10 : Int32)) + (1 : Int32))), .unset, .unset, .unset, .unset, .unset, .unset, .unset]) (hb hby at_10) rfl rfl ?_
  obtain ⟨K, hK1, hK2, eK⟩ : ∃ K : Nat, 1 ≤ K ∧ K ≤ 10 ∧ (((p2 &&& (2147483647 : Int32)) % (10 : Int32)) + (1 : Int32)) = Int32.ofNat K := by
    have q0 := c_mask p2 (2147483647 : Int32) 31 (by decide) (by decide)
    have q1 := (c_irem (p2 &&& (2147483647 : Int32)) (10 : Int32) 10 (by decide)).1 (by omega)
    have q2 := c_iadd ((p2 &&& (2147483647 : Int32)) % (10 : Int32)) (1 : Int32)
    have q3 := rng32 (((p2 &&& (2147483647 : Int32)) % (10 : Int32)) + (1 : Int32))
    have q4 := own_t32_1
    refine ⟨((((p2 &&& (2147483647 : Int32)) % (10 : Int32)) + (1 : Int32))).toInt.toNat, by omega, by omega, ?_⟩
    rw [← Int32.toInt_inj, own_on (by omega)]
    omega
  rw [eK]
  refine own_iload X0 hx (pc' := 14) (hb hby at_12) rfl rfl ?_
  refine own_iconst X0 hx (pc' := 15) (1 : Int32) (hb hby at_14) rfl rfl ?_
  refine own_iand X0 hx (pc' := 16) (hb hby at_15) rfl rfl ?_
  refine own_istore X0 hx (pc' := 18) (Ls' := #[.val (.long p0), .second, .val (.long p1), .second, .val (.int p2), .val (.int p3), .val (.int (Int32.ofNat K)), .val (.int (p3 &&& (1 : Int32))), .unset, .unset, .unset, .unset, .unset, .unset]) (hb hby at_16) rfl rfl ?_
  obtain ⟨P, hP1, hP2, eP⟩ : ∃ P : Nat, 0 ≤ P ∧ P ≤ 1 ∧ (p3 &&& (1 : Int32)) = Int32.ofNat P := by
    have q0 := c_mask p3 (1 : Int32) 1 (by decide) (by decide)
    refine ⟨((p3 &&& (1 : Int32))).toInt.toNat, by omega, by omega, ?_⟩
    rw [← Int32.toInt_inj, own_on (by omega)]
    omega
  rw [eP]
  refine own_bipush X0 hx (pc' := 20) (12 : Int32) (hb hby at_18) rfl rfl ?_
  refine own_newP X0 hx (pc' := 22) hZ (aty := .byte) (Wd1 hw) e0 (hb hby at_20) (by decide) 12 (by decide) (by decide) (by decide) (by decide) rfl (fun T1 h1 k1 b1 g1 X1 e1 E1 A1 => ?_)
  have ge_b1 : n0 ≤ b1 := Nat.le_trans Z0 (Nat.le_of_eq g1.symm)
  have Z2 : n0 ≤ h1.size := Nat.le_trans Z0 E1.1
  have V3a : Arv Z h1 b1 k1 .byte (12 : Int32) [] (.int (0 : Int32)) := Arv.new A1 (by decide)
  have V3b : Arv Z h1 b1 k1 .byte (12 : Int32) (List.replicate 12 (.int (0 : Int32))) (.int (0 : Int32)) := V3a.pad (pad_rep [] _ 12)
  have V3 : Arv Z h1 b1 k1 .byte (12 : Int32) [(.int (0 : Int32)), (.int (0 : Int32)), (.int (0 : Int32)), (.int (0 : Int32)), (.int (0 : Int32)), (.int (0 : Int32)), (.int (0 : Int32)), (.int (0 : Int32)), (.int (0 : Int32)), (.int (0 : Int32)), (.int (0 : Int32)), (.int (0 : Int32))] (.int (0 : Int32)) := V3b
  refine own_astore X1 hx (pc' := 24) (Ls' := #[.val (.long p0), .second, .val (.long p1), .second, .val (.int p2), .val (.int p3), .val (.int (Int32.ofNat K)), .val (.int (Int32.ofNat P)), .val (.ref b1), .unset, .unset, .unset, .unset, .unset]) (hb hby at_22) rfl rfl rfl ?_
  refine own_aload X1 hx (pc' := 26) (hb hby at_24) rfl rfl rfl ?_
  refine own_iconst X1 hx (pc' := 27) (0 : Int32) (hb hby at_26) rfl rfl ?_
  refine own_lloadN X1 hx (pc' := 28) (hb hby at_27) rfl rfl ?_
  refine own_lloadN X1 hx (pc' := 29) (hb hby at_28) rfl rfl ?_
  refine own_iconst X1 hx (pc' := 30) (0 : Int32) (hb hby at_29) rfl rfl ?_
  refine own_iload X1 hx (pc' := 32) (hb hby at_30) rfl rfl ?_
  refine own_iload X1 hx (pc' := 34) (hb hby at_32) rfl rfl ?_
  refine own_callS X1 hx (pc' := 37) hZ hown (Wd2 hw) (Wd3 hw) (Wd4 hw) (Wd5 hw) (by decide) (rm_sh l Z a0 hw [] p0 p1 (0 : Int32) (Int32.ofNat P) (Int32.ofNat K) h1 n0 Z2) e1 2 (by decide) (by decide) (by decide) (by decide) [(.long p0), (.long p1), (.int (0 : Int32)), (.int (Int32.ofNat P)), (.int (Int32.ofNat K))] [(.int (0 : Int32)), (.ref b1)] (by rw [hml]; rfl) (lenOf pd_1 rfl) rfl rfl (Nat.le_of_eq rfl) (hb hby at_34) rfl (fun v4 T4 L4 X4 hQ4 => ?_)
  obtain ⟨rfl, Nq4, e4⟩ := hQ4
  have N5 := Fr.app N0 Nq4
  show own_G p.tables e below _ T4 (mkF m 37 #[.val (.long p0), .second, .val (.long p1), .second, .val (.int p2), .val (.int p3), .val (.int (Int32.ofNat K)), .val (.int (Int32.ofNat P)), .val (.ref b1), .unset, .unset, .unset, .unset, .unset] [(.int (nar .byte (own_sh p0 p1 (0 : Int32) (Int32.ofNat P) (Int32.ofNat K)))), (.int (0 : Int32)), (.ref b1)])
  obtain ⟨cl6, Ar6, q6, S6, M6, H6, G6⟩ := id V3
  refine own_stB X4 hx (pc' := 38) hZ e4 Ar6 (inb_of S6 ⟨by decide, by decide⟩) (hb hby at_37) rfl (fun T7 h7 X7 e7 W7 => ?_)
  have N8 := Fr.snoc X7 N5 ge_b1
  have Z9 : n0 ≤ h7.size := Nat.le_trans Z2 (Nat.le_of_eq (Wr.size W7).symm)
  have F10 : Arv Z h7 b1 k1 .byte (12 : Int32) [(.int (nar .byte (nar .byte (own_sh p0 p1 (0 : Int32) (Int32.ofNat P) (Int32.ofNat K))))), (.int (0 : Int32)), (.int (0 : Int32)), (.int (0 : Int32)), (.int (0 : Int32)), (.int (0 : Int32)), (.int (0 : Int32)), (.int (0 : Int32)), (.int (0 : Int32)), (.int (0 : Int32)), (.int (0 : Int32)), (.int (0 : Int32))] (.int (0 : Int32)) := (Arv.set Ar6 q6 S6 M6 H6 G6 (fits_nar_byte _) W7 0 rfl (Nat.le_of_ble_eq_true rfl))
  refine own_aload X7 hx (pc' := 40) (hb hby at_38) rfl rfl rfl ?_
  refine own_iconst X7 hx (pc' := 41) (1 : Int32) (hb hby at_40) rfl rfl ?_
  refine own_lloadN X7 hx (pc' := 42) (hb hby at_41) rfl rfl ?_
  refine own_lloadN X7 hx (pc' := 43) (hb hby at_42) rfl rfl ?_
  refine own_iconst X7 hx (pc' := 44) (1 : Int32) (hb hby at_43) rfl rfl ?_
  refine own_iload X7 hx (pc' := 46) (hb hby at_44) rfl rfl ?_
  refine own_iload X7 hx (pc' := 48) (hb hby at_46) rfl rfl ?_
  refine own_callS X7 hx (pc' := 51) hZ hown (Wd2 hw) (Wd3 hw) (Wd4 hw) (Wd5 hw) (by decide) (rm_sh l Z a0 hw [] p0 p1 (1 : Int32) (Int32.ofNat P) (Int32.ofNat K) h7 n0 Z9) e7 2 (by decide) (by decide) (by decide) (by decide) [(.long p0), (.long p1), (.int (1 : Int32)), (.int (Int32.ofNat P)), (.int (Int32.ofNat K))] [(.int (1 : Int32)), (.ref b1)] (by rw [hml]; rfl) (lenOf pd_1 rfl) rfl rfl (Nat.le_of_eq rfl) (hb hby at_48) rfl (fun v11 T11 L11 X11 hQ11 => ?_)
  obtain ⟨rfl, Nq11, e11⟩ := hQ11
  have N12 := Fr.app N8 Nq11
  show own_G p.tables e below _ T11 (mkF m 51 #[.val (.long p0), .second, .val (.long p1), .second, .val (.int p2), .val (.int p3), .val (.int (Int32.ofNat K)), .val (.int (Int32.ofNat P)), .val (.ref b1), .unset, .unset, .unset, .unset, .unset] [(.int (nar .byte (own_sh p0 p1 (1 : Int32) (Int32.ofNat P) (Int32.ofNat K)))), (.int (1 : Int32)), (.ref b1)])
  obtain ⟨cl13, Ar13, q13, S13, M13, H13, G13⟩ := id F10
  refine own_stB X11 hx (pc' := 52) hZ e11 Ar13 (inb_of S13 ⟨by decide, by decide⟩) (hb hby at_51) rfl (fun T14 h14 X14 e14 W14 => ?_)
  have N15 := Fr.snoc X14 N12 ge_b1
  have Z16 : n0 ≤ h14.size := Nat.le_trans Z9 (Nat.le_of_eq (Wr.size W14).symm)
  have F17 : Arv Z h14 b1 k1 .byte (12 : Int32) [(.int (nar .byte (nar .byte (own_sh p0 p1 (0 : Int32) (Int32.ofNat P) (Int32.ofNat K))))), (.int (nar .byte (nar .byte (own_sh p0 p1 (1 : Int32) (Int32.ofNat P) (Int32.ofNat K))))), (.int (0 : Int32)), (.int (0 : Int32)), (.int (0 : Int32)), (.int (0 : Int32)), (.int (0 : Int32)), (.int (0 : Int32)), (.int (0 : Int32)), (.int (0 : Int32)), (.int (0 : Int32)), (.int (0 : Int32))] (.int (0 : Int32)) := (Arv.set Ar13 q13 S13 M13 H13 G13 (fits_nar_byte _) W14 1 rfl (Nat.le_of_ble_eq_true rfl))
  refine own_aload X14 hx (pc' := 54) (hb hby at_52) rfl rfl rfl ?_
  refine own_iconst X14 hx (pc' := 55) (2 : Int32) (hb hby at_54) rfl rfl ?_
  refine own_lloadN X14 hx (pc' := 56) (hb hby at_55) rfl rfl ?_
  refine own_lloadN X14 hx (pc' := 57) (hb hby at_56) rfl rfl ?_
  refine own_iconst X14 hx (pc' := 58) (2 : Int32) (hb hby at_57) rfl rfl ?_
  refine own_iload X14 hx (pc' := 60) (hb hby at_58) rfl rfl ?_
  refine own_iload X14 hx (pc' := 62) (hb hby at_60) rfl rfl ?_
  refine own_callS X14 hx (pc' := 65) hZ hown (Wd2 hw) (Wd3 hw) (Wd4 hw) (Wd5 hw) (by decide) (rm_sh l Z a0 hw [] p0 p1 (2 : Int32) (Int32.ofNat P) (Int32.ofNat K) h14 n0 Z16) e14 2 (by decide) (by decide) (by decide) (by decide) [(.long p0), (.long p1), (.int (2 : Int32)), (.int (Int32.ofNat P)), (.int (Int32.ofNat K))] [(.int (2 : Int32)), (.ref b1)] (by rw [hml]; rfl) (lenOf pd_1 rfl) rfl rfl (Nat.le_of_eq rfl) (hb hby at_62) rfl (fun v18 T18 L18 X18 hQ18 => ?_)
  obtain ⟨rfl, Nq18, e18⟩ := hQ18
  have N19 := Fr.app N15 Nq18
  show own_G p.tables e below _ T18 (mkF m 65 #[.val (.long p0), .second, .val (.long p1), .second, .val (.int p2), .val (.int p3), .val (.int (Int32.ofNat K)), .val (.int (Int32.ofNat P)), .val (.ref b1), .unset, .unset, .unset, .unset, .unset] [(.int (nar .byte (own_sh p0 p1 (2 : Int32) (Int32.ofNat P) (Int32.ofNat K)))), (.int (2 : Int32)), (.ref b1)])
  obtain ⟨cl20, Ar20, q20, S20, M20, H20, G20⟩ := id F17
  refine own_stB X18 hx (pc' := 66) hZ e18 Ar20 (inb_of S20 ⟨by decide, by decide⟩) (hb hby at_65) rfl (fun T21 h21 X21 e21 W21 => ?_)
  have N22 := Fr.snoc X21 N19 ge_b1
  have Z23 : n0 ≤ h21.size := Nat.le_trans Z16 (Nat.le_of_eq (Wr.size W21).symm)
  have F24 : Arv Z h21 b1 k1 .byte (12 : Int32) [(.int (nar .byte (nar .byte (own_sh p0 p1 (0 : Int32) (Int32.ofNat P) (Int32.ofNat K))))), (.int (nar .byte (nar .byte (own_sh p0 p1 (1 : Int32) (Int32.ofNat P) (Int32.ofNat K))))), (.int (nar .byte (nar .byte (own_sh p0 p1 (2 : Int32) (Int32.ofNat P) (Int32.ofNat K))))), (.int (0 : Int32)), (.int (0 : Int32)), (.int (0 : Int32)), (.int (0 : Int32)), (.int (0 : Int32)), (.int (0 : Int32)), (.int (0 : Int32)), (.int (0 : Int32)), (.int (0 : Int32))] (.int (0 : Int32)) := (Arv.set Ar20 q20 S20 M20 H20 G20 (fits_nar_byte _) W21 2 rfl (Nat.le_of_ble_eq_true rfl))
  refine own_aload X21 hx (pc' := 68) (hb hby at_66) rfl rfl rfl ?_
  refine own_iconst X21 hx (pc' := 69) (3 : Int32) (hb hby at_68) rfl rfl ?_
  refine own_lloadN X21 hx (pc' := 70) (hb hby at_69) rfl rfl ?_
  refine own_lloadN X21 hx (pc' := 71) (hb hby at_70) rfl rfl ?_
  refine own_iconst X21 hx (pc' := 72) (3 : Int32) (hb hby at_71) rfl rfl ?_
  refine own_iload X21 hx (pc' := 74) (hb hby at_72) rfl rfl ?_
  refine own_iload X21 hx (pc' := 76) (hb hby at_74) rfl rfl ?_
  refine own_callS X21 hx (pc' := 79) hZ hown (Wd2 hw) (Wd3 hw) (Wd4 hw) (Wd5 hw) (by decide) (rm_sh l Z a0 hw [] p0 p1 (3 : Int32) (Int32.ofNat P) (Int32.ofNat K) h21 n0 Z23) e21 2 (by decide) (by decide) (by decide) (by decide) [(.long p0), (.long p1), (.int (3 : Int32)), (.int (Int32.ofNat P)), (.int (Int32.ofNat K))] [(.int (3 : Int32)), (.ref b1)] (by rw [hml]; rfl) (lenOf pd_1 rfl) rfl rfl (Nat.le_of_eq rfl) (hb hby at_76) rfl (fun v25 T25 L25 X25 hQ25 => ?_)
  obtain ⟨rfl, Nq25, e25⟩ := hQ25
  have N26 := Fr.app N22 Nq25
  show own_G p.tables e below _ T25 (mkF m 79 #[.val (.long p0), .second, .val (.long p1), .second, .val (.int p2), .val (.int p3), .val (.int (Int32.ofNat K)), .val (.int (Int32.ofNat P)), .val (.ref b1), .unset, .unset, .unset, .unset, .unset] [(.int (nar .byte (own_sh p0 p1 (3 : Int32) (Int32.ofNat P) (Int32.ofNat K)))), (.int (3 : Int32)), (.ref b1)])
  obtain ⟨cl27, Ar27, q27, S27, M27, H27, G27⟩ := id F24
  refine own_stB X25 hx (pc' := 80) hZ e25 Ar27 (inb_of S27 ⟨by decide, by decide⟩) (hb hby at_79) rfl (fun T28 h28 X28 e28 W28 => ?_)
  have N29 := Fr.snoc X28 N26 ge_b1
  have Z30 : n0 ≤ h28.size := Nat.le_trans Z23 (Nat.le_of_eq (Wr.size W28).symm)
  have F31 : Arv Z h28 b1 k1 .byte (12 : Int32) [(.int (nar .byte (nar .byte (own_sh p0 p1 (0 : Int32) (Int32.ofNat P) (Int32.ofNat K))))), (.int (nar .byte (nar .byte (own_sh p0 p1 (1 : Int32) (Int32.ofNat P) (Int32.ofNat K))))), (.int (nar .byte (nar .byte (own_sh p0 p1 (2 : Int32) (Int32.ofNat P) (Int32.ofNat K))))), (.int (nar .byte (nar .byte (own_sh p0 p1 (3 : Int32) (Int32.ofNat P) (Int32.ofNat K))))), (.int (0 : Int32)), (.int (0 : Int32)), (.int (0 : Int32)), (.int (0 : Int32)), (.int (0 : Int32)), (.int (0 : Int32)), (.int (0 : Int32)), (.int (0 : Int32))] (.int (0 : Int32)) := (Arv.set Ar27 q27 S27 M27 H27 G27 (fits_nar_byte _) W28 3 rfl (Nat.le_of_ble_eq_true rfl))
  refine own_aload X28 hx (pc' := 82) (hb hby at_80) rfl rfl rfl ?_
  refine own_iconst X28 hx (pc' := 83) (4 : Int32) (hb hby at_82) rfl rfl ?_
  refine own_lloadN X28 hx (pc' := 84) (hb hby at_83) rfl rfl ?_
  refine own_lloadN X28 hx (pc' := 85) (hb hby at_84) rfl rfl ?_
  refine own_iconst X28 hx (pc' := 86) (4 : Int32) (hb hby at_85) rfl rfl ?_
  refine own_iload X28 hx (pc' := 88) (hb hby at_86) rfl rfl ?_
  refine own_iload X28 hx (pc' := 90) (hb hby at_88) rfl rfl ?_
  refine own_callS X28 hx (pc' := 93) hZ hown (Wd2 hw) (Wd3 hw) (Wd4 hw) (Wd5 hw) (by decide) (rm_sh l Z a0 hw [] p0 p1 (4 : Int32) (Int32.ofNat P) (Int32.ofNat K) h28 n0 Z30) e28 2 (by decide) (by decide) (by decide) (by decide) [(.long p0), (.long p1), (.int (4 : Int32)), (.int (Int32.ofNat P)), (.int (Int32.ofNat K))] [(.int (4 : Int32)), (.ref b1)] (by rw [hml]; rfl) (lenOf pd_1 rfl) rfl rfl (Nat.le_of_eq rfl) (hb hby at_90) rfl (fun v32 T32 L32 X32 hQ32 => ?_)
  obtain ⟨rfl, Nq32, e32⟩ := hQ32
  have N33 := Fr.app N29 Nq32
  show own_G p.tables e below _ T32 (mkF m 93 #[.val (.long p0), .second, .val (.long p1), .second, .val (.int p2), .val (.int p3), .val (.int (Int32.ofNat K)), .val (.int (Int32.ofNat P)), .val (.ref b1), .unset, .unset, .unset, .unset, .unset] [(.int (nar .byte (own_sh p0 p1 (4 : Int32) (Int32.ofNat P) (Int32.ofNat K)))), (.int (4 : Int32)), (.ref b1)])
  obtain ⟨cl34, Ar34, q34, S34, M34, H34, G34⟩ := id F31
  refine own_stB X32 hx (pc' := 94) hZ e32 Ar34 (inb_of S34 ⟨by decide, by decide⟩) (hb hby at_93) rfl (fun T35 h35 X35 e35 W35 => ?_)
  have N36 := Fr.snoc X35 N33 ge_b1
  have Z37 : n0 ≤ h35.size := Nat.le_trans Z30 (Nat.le_of_eq (Wr.size W35).symm)
  have F38 : Arv Z h35 b1 k1 .byte (12 : Int32) [(.int (nar .byte (nar .byte (own_sh p0 p1 (0 : Int32) (Int32.ofNat P) (Int32.ofNat K))))), (.int (nar .byte (nar .byte (own_sh p0 p1 (1 : Int32) (Int32.ofNat P) (Int32.ofNat K))))), (.int (nar .byte (nar .byte (own_sh p0 p1 (2 : Int32) (Int32.ofNat P) (Int32.ofNat K))))), (.int (nar .byte (nar .byte (own_sh p0 p1 (3 : Int32) (Int32.ofNat P) (Int32.ofNat K))))), (.int (nar .byte (nar .byte (own_sh p0 p1 (4 : Int32) (Int32.ofNat P) (Int32.ofNat K))))), (.int (0 : Int32)), (.int (0 : Int32)), (.int (0 : Int32)), (.int (0 : Int32)), (.int (0 : Int32)), (.int (0 : Int32)), (.int (0 : Int32))] (.int (0 : Int32)) := (Arv.set Ar34 q34 S34 M34 H34 G34 (fits_nar_byte _) W35 4 rfl (Nat.le_of_ble_eq_true rfl))
  refine own_aload X35 hx (pc' := 96) (hb hby at_94) rfl rfl rfl ?_
  refine own_iconst X35 hx (pc' := 97) (5 : Int32) (hb hby at_96) rfl rfl ?_
  refine own_lloadN X35 hx (pc' := 98) (hb hby at_97) rfl rfl ?_
  refine own_lloadN X35 hx (pc' := 99) (hb hby at_98) rfl rfl ?_
  refine own_iconst X35 hx (pc' := 100) (5 : Int32) (hb hby at_99) rfl rfl ?_
  refine own_iload X35 hx (pc' := 102) (hb hby at_100) rfl rfl ?_
  refine own_iload X35 hx (pc' := 104) (hb hby at_102) rfl rfl ?_
  refine own_callS X35 hx (pc' := 107) hZ hown (Wd2 hw) (Wd3 hw) (Wd4 hw) (Wd5 hw) (by decide) (rm_sh l Z a0 hw [] p0 p1 (5 : Int32) (Int32.ofNat P) (Int32.ofNat K) h35 n0 Z37) e35 2 (by decide) (by decide) (by decide) (by decide) [(.long p0), (.long p1), (.int (5 : Int32)), (.int (Int32.ofNat P)), (.int (Int32.ofNat K))] [(.int (5 : Int32)), (.ref b1)] (by rw [hml]; rfl) (lenOf pd_1 rfl) rfl rfl (Nat.le_of_eq rfl) (hb hby at_104) rfl (fun v39 T39 L39 X39 hQ39 => ?_)
  obtain ⟨rfl, Nq39, e39⟩ := hQ39
  have N40 := Fr.app N36 Nq39
  show own_G p.tables e below _ T39 (mkF m 107 #[.val (.long p0), .second, .val (.long p1), .second, .val (.int p2), .val (.int p3), .val (.int (Int32.ofNat K)), .val (.int (Int32.ofNat P)), .val (.ref b1), .unset, .unset, .unset, .unset, .unset] [(.int (nar .byte (own_sh p0 p1 (5 : Int32) (Int32.ofNat P) (Int32.ofNat K)))), (.int (5 : Int32)), (.ref b1)])
  obtain ⟨cl41, Ar41, q41, S41, M41, H41, G41⟩ := id F38
  refine own_stB X39 hx (pc' := 108) hZ e39 Ar41 (inb_of S41 ⟨by decide, by decide⟩) (hb hby at_107) rfl (fun T42 h42 X42 e42 W42 => ?_)
  have N43 := Fr.snoc X42 N40 ge_b1
  have Z44 : n0 ≤ h42.size := Nat.le_trans Z37 (Nat.le_of_eq (Wr.size W42).symm)
  have F45 : Arv Z h42 b1 k1 .byte (12 : Int32) [(.int (nar .byte (nar .byte (own_sh p0 p1 (0 : Int32) (Int32.ofNat P) (Int32.ofNat K))))), (.int (nar .byte (nar .byte (own_sh p0 p1 (1 : Int32) (Int32.ofNat P) (Int32.ofNat K))))), (.int (nar .byte (nar .byte (own_sh p0 p1 (2 : Int32) (Int32.ofNat P) (Int32.ofNat K))))), (.int (nar .byte (nar .byte (own_sh p0 p1 (3 : Int32) (Int32.ofNat P) (Int32.ofNat K))))), (.int (nar .byte (nar .byte (own_sh p0 p1 (4 : Int32) (Int32.ofNat P) (Int32.ofNat K))))), (.int (nar .byte (nar .byte (own_sh p0 p1 (5 : Int32) (Int32.ofNat P) (Int32.ofNat K))))), (.int (0 : Int32)), (.int (0 : Int32)), (.int (0 : Int32)), (.int (0 : Int32)), (.int (0 : Int32)), (.int (0 : Int32))] (.int (0 : Int32)) := (Arv.set Ar41 q41 S41 M41 H41 G41 (fits_nar_byte _) W42 5 rfl (Nat.le_of_ble_eq_true rfl))
  refine own_aload X42 hx (pc' := 110) (hb hby at_108) rfl rfl rfl ?_
  refine own_bipush X42 hx (pc' := 112) (6 : Int32) (hb hby at_110) rfl rfl ?_
  refine own_lloadN X42 hx (pc' := 113) (hb hby at_112) rfl rfl ?_
  refine own_lloadN X42 hx (pc' := 114) (hb hby at_113) rfl rfl ?_
  refine own_bipush X42 hx (pc' := 116) (6 : Int32) (hb hby at_114) rfl rfl ?_
  refine own_iload X42 hx (pc' := 118) (hb hby at_116) rfl rfl ?_
  refine own_iload X42 hx (pc' := 120) (hb hby at_118) rfl rfl ?_
  refine own_callS X42 hx (pc' := 123) hZ hown (Wd2 hw) (Wd3 hw) (Wd4 hw) (Wd5 hw) (by decide) (rm_sh l Z a0 hw [] p0 p1 (6 : Int32) (Int32.ofNat P) (Int32.ofNat K) h42 n0 Z44) e42 2 (by decide) (by decide) (by decide) (by decide) [(.long p0), (.long p1), (.int (6 : Int32)), (.int (Int32.ofNat P)), (.int (Int32.ofNat K))] [(.int (6 : Int32)), (.ref b1)] (by rw [hml]; rfl) (lenOf pd_1 rfl) rfl rfl (Nat.le_of_eq rfl) (hb hby at_120) rfl (fun v46 T46 L46 X46 hQ46 => ?_)
  obtain ⟨rfl, Nq46, e46⟩ := hQ46
  have N47 := Fr.app N43 Nq46
  show own_G p.tables e below _ T46 (mkF m 123 #[.val (.long p0), .second, .val (.long p1), .second, .val (.int p2), .val (.int p3), .val (.int (Int32.ofNat K)), .val (.int (Int32.ofNat P)), .val (.ref b1), .unset, .unset, .unset, .unset, .unset] [(.int (nar .byte (own_sh p0 p1 (6 : Int32) (Int32.ofNat P) (Int32.ofNat K)))), (.int (6 : Int32)), (.ref b1)])
  obtain ⟨cl48, Ar48, q48, S48, M48, H48, G48⟩ := id F45
  refine own_stB X46 hx (pc' := 124) hZ e46 Ar48 (inb_of S48 ⟨by decide, by decide⟩) (hb hby at_123) rfl (fun T49 h49 X49 e49 W49 => ?_)
  have N50 := Fr.snoc X49 N47 ge_b1
  have Z51 : n0 ≤ h49.size := Nat.le_trans Z44 (Nat.le_of_eq (Wr.size W49).symm)
  have F52 : Arv Z h49 b1 k1 .byte (12 : Int32) [(.int (nar .byte (nar .byte (own_sh p0 p1 (0 : Int32) (Int32.ofNat P) (Int32.ofNat K))))), (.int (nar .byte (nar .byte (own_sh p0 p1 (1 : Int32) (Int32.ofNat P) (Int32.ofNat K))))), (.int (nar .byte (nar .byte (own_sh p0 p1 (2 : Int32) (Int32.ofNat P) (Int32.ofNat K))))), (.int (nar .byte (nar .byte (own_sh p0 p1 (3 : Int32) (Int32.ofNat P) (Int32.ofNat K))))), (.int (nar .byte (nar .byte (own_sh p0 p1 (4 : Int32) (Int32.ofNat P) (Int32.ofNat K))))), (.int (nar .byte (nar .byte (own_sh p0 p1 (5 : Int32) (Int32.ofNat P) (Int32.ofNat K))))), (.int (nar .byte (nar .byte (own_sh p0 p1 (6 : Int32) (Int32.ofNat P) (Int32.ofNat K))))), (.int (0 : Int32)), (.int (0 : Int32)), (.int (0 : Int32)), (.int (0 : Int32)), (.int (0 : Int32))] (.int (0 : Int32)) := (Arv.set Ar48 q48 S48 M48 H48 G48 (fits_nar_byte _) W49 6 rfl (Nat.le_of_ble_eq_true rfl))
  refine own_aload X49 hx (pc' := 126) (hb hby at_124) rfl rfl rfl ?_
  refine own_bipush X49 hx (pc' := 128) (7 : Int32) (hb hby at_126) rfl rfl ?_
  refine own_lloadN X49 hx (pc' := 129) (hb hby at_128) rfl rfl ?_
  refine own_lloadN X49 hx (pc' := 130) (hb hby at_129) rfl rfl ?_
  refine own_bipush X49 hx (pc' := 132) (7 : Int32) (hb hby at_130) rfl rfl ?_
  refine own_iload X49 hx (pc' := 134) (hb hby at_132) rfl rfl ?_
  refine own_iload X49 hx (pc' := 136) (hb hby at_134) rfl rfl ?_
  refine own_callS X49 hx (pc' := 139) hZ hown (Wd2 hw) (Wd3 hw) (Wd4 hw) (Wd5 hw) (by decide) (rm_sh l Z a0 hw [] p0 p1 (7 : Int32) (Int32.ofNat P) (Int32.ofNat K) h49 n0 Z51) e49 2 (by decide) (by decide) (by decide) (by decide) [(.long p0), (.long p1), (.int (7 : Int32)), (.int (Int32.ofNat P)), (.int (Int32.ofNat K))] [(.int (7 : Int32)), (.ref b1)] (by rw [hml]; rfl) (lenOf pd_1 rfl) rfl rfl (Nat.le_of_eq rfl) (hb hby at_136) rfl (fun v53 T53 L53 X53 hQ53 => ?_)
  obtain ⟨rfl, Nq53, e53⟩ := hQ53
  have N54 := Fr.app N50 Nq53
  show own_G p.tables e below _ T53 (mkF m 139 #[.val (.long p0), .second, .val (.long p1), .second, .val (.int p2), .val (.int p3), .val (.int (Int32.ofNat K)), .val (.int (Int32.ofNat P)), .val (.ref b1), .unset, .unset, .unset, .unset, .unset] [(.int (nar .byte (own_sh p0 p1 (7 : Int32) (Int32.ofNat P) (Int32.ofNat K)))), (.int (7 : Int32)), (.ref b1)])
  obtain ⟨cl55, Ar55, q55, S55, M55, H55, G55⟩ := id F52
  refine own_stB X53 hx (pc' := 140) hZ e53 Ar55 (inb_of S55 ⟨by decide, by decide⟩) (hb hby at_139) rfl (fun T56 h56 X56 e56 W56 => ?_)
  have N57 := Fr.snoc X56 N54 ge_b1
  have Z58 : n0 ≤ h56.size := Nat.le_trans Z51 (Nat.le_of_eq (Wr.size W56).symm)
  have F59 : Arv Z h56 b1 k1 .byte (12 : Int32) [(.int (nar .byte (nar .byte (own_sh p0 p1 (0 : Int32) (Int32.ofNat P) (Int32.ofNat K))))), (.int (nar .byte (nar .byte (own_sh p0 p1 (1 : Int32) (Int32.ofNat P) (Int32.ofNat K))))), (.int (nar .byte (nar .byte (own_sh p0 p1 (2 : Int32) (Int32.ofNat P) (Int32.ofNat K))))), (.int (nar .byte (nar .byte (own_sh p0 p1 (3 : Int32) (Int32.ofNat P) (Int32.ofNat K))))), (.int (nar .byte (nar .byte (own_sh p0 p1 (4 : Int32) (Int32.ofNat P) (Int32.ofNat K))))), (.int (nar .byte (nar .byte (own_sh p0 p1 (5 : Int32) (Int32.ofNat P) (Int32.ofNat K))))), (.int (nar .byte (nar .byte (own_sh p0 p1 (6 : Int32) (Int32.ofNat P) (Int32.ofNat K))))), (.int (nar .byte (nar .byte (own_sh p0 p1 (7 : Int32) (Int32.ofNat P) (Int32.ofNat K))))), (.int (0 : Int32)), (.int (0 : Int32)), (.int (0 : Int32)), (.int (0 : Int32))] (.int (0 : Int32)) := (Arv.set Ar55 q55 S55 M55 H55 G55 (fits_nar_byte _) W56 7 rfl (Nat.le_of_ble_eq_true rfl))
  refine own_aload X56 hx (pc' := 142) (hb hby at_140) rfl rfl rfl ?_
  refine own_bipush X56 hx (pc' := 144) (8 : Int32) (hb hby at_142) rfl rfl ?_
  refine own_lloadN X56 hx (pc' := 145) (hb hby at_144) rfl rfl ?_
  refine own_lloadN X56 hx (pc' := 146) (hb hby at_145) rfl rfl ?_
  refine own_bipush X56 hx (pc' := 148) (8 : Int32) (hb hby at_146) rfl rfl ?_
  refine own_iload X56 hx (pc' := 150) (hb hby at_148) rfl rfl ?_
  refine own_iload X56 hx (pc' := 152) (hb hby at_150) rfl rfl ?_
  refine own_callS X56 hx (pc' := 155) hZ hown (Wd2 hw) (Wd3 hw) (Wd4 hw) (Wd5 hw) (by decide) (rm_sh l Z a0 hw [] p0 p1 (8 : Int32) (Int32.ofNat P) (Int32.ofNat K) h56 n0 Z58) e56 2 (by decide) (by decide) (by decide) (by decide) [(.long p0), (.long p1), (.int (8 : Int32)), (.int (Int32.ofNat P)), (.int (Int32.ofNat K))] [(.int (8 : Int32)), (.ref b1)] (by rw [hml]; rfl) (lenOf pd_1 rfl) rfl rfl (Nat.le_of_eq rfl) (hb hby at_152) rfl (fun v60 T60 L60 X60 hQ60 => ?_)
  obtain ⟨rfl, Nq60, e60⟩ := hQ60
  have N61 := Fr.app N57 Nq60
  show own_G p.tables e below _ T60 (mkF m 155 #[.val (.long p0), .second, .val (.long p1), .second, .val (.int p2), .val (.int p3), .val (.int (Int32.ofNat K)), .val (.int (Int32.ofNat P)), .val (.ref b1), .unset, .unset, .unset, .unset, .unset] [(.int (nar .byte (own_sh p0 p1 (8 : Int32) (Int32.ofNat P) (Int32.ofNat K)))), (.int (8 : Int32)), (.ref b1)])
  obtain ⟨cl62, Ar62, q62, S62, M62, H62, G62⟩ := id F59
  refine own_stB X60 hx (pc' := 156) hZ e60 Ar62 (inb_of S62 ⟨by decide, by decide⟩) (hb hby at_155) rfl (fun T63 h63 X63 e63 W63 => ?_)
  have N64 := Fr.snoc X63 N61 ge_b1
  have Z65 : n0 ≤ h63.size := Nat.le_trans Z58 (Nat.le_of_eq (Wr.size W63).symm)
  have F66 : Arv Z h63 b1 k1 .byte (12 : Int32) [(.int (nar .byte (nar .byte (own_sh p0 p1 (0 : Int32) (Int32.ofNat P) (Int32.ofNat K))))), (.int (nar .byte (nar .byte (own_sh p0 p1 (1 : Int32) (Int32.ofNat P) (Int32.ofNat K))))), (.int (nar .byte (nar .byte (own_sh p0 p1 (2 : Int32) (Int32.ofNat P) (Int32.ofNat K))))), (.int (nar .byte (nar .byte (own_sh p0 p1 (3 : Int32) (Int32.ofNat P) (Int32.ofNat K))))), (.int (nar .byte (nar .byte (own_sh p0 p1 (4 : Int32) (Int32.ofNat P) (Int32.ofNat K))))), (.int (nar .byte (nar .byte (own_sh p0 p1 (5 : Int32) (Int32.ofNat P) (Int32.ofNat K))))), (.int (nar .byte (nar .byte (own_sh p0 p1 (6 : Int32) (Int32.ofNat P) (Int32.ofNat K))))), (.int (nar .byte (nar .byte (own_sh p0 p1 (7 : Int32) (Int32.ofNat P) (Int32.ofNat K))))), (.int (nar .byte (nar .byte (own_sh p0 p1 (8 : Int32) (Int32.ofNat P) (Int32.ofNat K))))), (.int (0 : Int32)), (.int (0 : Int32)), (.int (0 : Int32))] (.int (0 : Int32)) := (Arv.set Ar62 q62 S62 M62 H62 G62 (fits_nar_byte _) W63 8 rfl (Nat.le_of_ble_eq_true rfl))
  refine own_aload X63 hx (pc' := 158) (hb hby at_156) rfl rfl rfl ?_
  refine own_bipush X63 hx (pc' := 160) (9 : Int32) (hb hby at_158) rfl rfl ?_
  refine own_lloadN X63 hx (pc' := 161) (hb hby at_160) rfl rfl ?_
  refine own_lloadN X63 hx (pc' := 162) (hb hby at_161) rfl rfl ?_
  refine own_bipush X63 hx (pc' := 164) (9 : Int32) (hb hby at_162) rfl rfl ?_
  refine own_iload X63 hx (pc' := 166) (hb hby at_164) rfl rfl ?_
  refine own_iload X63 hx (pc' := 168) (hb hby at_166) rfl rfl ?_
  refine own_callS X63 hx (pc' := 171) hZ hown (Wd2 hw) (Wd3 hw) (Wd4 hw) (Wd5 hw) (by decide) (rm_sh l Z a0 hw [] p0 p1 (9 : Int32) (Int32.ofNat P) (Int32.ofNat K) h63 n0 Z65) e63 2 (by decide) (by decide) (by decide) (by decide) [(.long p0), (.long p1), (.int (9 : Int32)), (.int (Int32.ofNat P)), (.int (Int32.ofNat K))] [(.int (9 : Int32)), (.ref b1)] (by rw [hml]; rfl) (lenOf pd_1 rfl) rfl rfl (Nat.le_of_eq rfl) (hb hby at_168) rfl (fun v67 T67 L67 X67 hQ67 => ?_)
  obtain ⟨rfl, Nq67, e67⟩ := hQ67
  have N68 := Fr.app N64 Nq67
  show own_G p.tables e below _ T67 (mkF m 171 #[.val (.long p0), .second, .val (.long p1), .second, .val (.int p2), .val (.int p3), .val (.int (Int32.ofNat K)), .val (.int (Int32.ofNat P)), .val (.ref b1), .unset, .unset, .unset, .unset, .unset] [(.int (nar .byte (own_sh p0 p1 (9 : Int32) (Int32.ofNat P) (Int32.ofNat K)))), (.int (9 : Int32)), (.ref b1)])
  obtain ⟨cl69, Ar69, q69, S69, M69, H69, G69⟩ := id F66
  refine own_stB X67 hx (pc' := 172) hZ e67 Ar69 (inb_of S69 ⟨by decide, by decide⟩) (hb hby at_171) rfl (fun T70 h70 X70 e70 W70 => ?_)
  have N71 := Fr.snoc X70 N68 ge_b1
  have Z72 : n0 ≤ h70.size := Nat.le_trans Z65 (Nat.le_of_eq (Wr.size W70).symm)
  have F73 : Arv Z h70 b1 k1 .byte (12 : Int32) [(.int (nar .byte (nar .byte (own_sh p0 p1 (0 : Int32) (Int32.ofNat P) (Int32.ofNat K))))), (.int (nar .byte (nar .byte (own_sh p0 p1 (1 : Int32) (Int32.ofNat P) (Int32.ofNat K))))), (.int (nar .byte (nar .byte (own_sh p0 p1 (2 : Int32) (Int32.ofNat P) (Int32.ofNat K))))), (.int (nar .byte (nar .byte (own_sh p0 p1 (3 : Int32) (Int32.ofNat P) (Int32.ofNat K))))), (.int (nar .byte (nar .byte (own_sh p0 p1 (4 : Int32) (Int32.ofNat P) (Int32.ofNat K))))), (.int (nar .byte (nar .byte (own_sh p0 p1 (5 : Int32) (Int32.ofNat P) (Int32.ofNat K))))), (.int (nar .byte (nar .byte (own_sh p0 p1 (6 : Int32) (Int32.ofNat P) (Int32.ofNat K))))), (.int (nar .byte (nar .byte (own_sh p0 p1 (7 : Int32) (Int32.ofNat P) (Int32.ofNat K))))), (.int (nar .byte (nar .byte (own_sh p0 p1 (8 : Int32) (Int32.ofNat P) (Int32.ofNat K))))), (.int (nar .byte (nar .byte (own_sh p0 p1 (9 : Int32) (Int32.ofNat P) (Int32.ofNat K))))), (.int (0 : Int32)), (.int (0 : Int32))] (.int (0 : Int32)) := (Arv.set Ar69 q69 S69 M69 H69 G69 (fits_nar_byte _) W70 9 rfl (Nat.le_of_ble_eq_true rfl))
  refine own_aload X70 hx (pc' := 174) (hb hby at_172) rfl rfl rfl ?_
  refine own_bipush X70 hx (pc' := 176) (10 : Int32) (hb hby at_174) rfl rfl ?_
  refine own_lloadN X70 hx (pc' := 177) (hb hby at_176) rfl rfl ?_
  refine own_lloadN X70 hx (pc' := 178) (hb hby at_177) rfl rfl ?_
  refine own_bipush X70 hx (pc' := 180) (10 : Int32) (hb hby at_178) rfl rfl ?_
  refine own_iload X70 hx (pc' := 182) (hb hby at_180) rfl rfl ?_
  refine own_iload X70 hx (pc' := 184) (hb hby at_182) rfl rfl ?_
  refine own_callS X70 hx (pc' := 187) hZ hown (Wd2 hw) (Wd3 hw) (Wd4 hw) (Wd5 hw) (by decide) (rm_sh l Z a0 hw [] p0 p1 (10 : Int32) (Int32.ofNat P) (Int32.ofNat K) h70 n0 Z72) e70 2 (by decide) (by decide) (by decide) (by decide) [(.long p0), (.long p1), (.int (10 : Int32)), (.int (Int32.ofNat P)), (.int (Int32.ofNat K))] [(.int (10 : Int32)), (.ref b1)] (by rw [hml]; rfl) (lenOf pd_1 rfl) rfl rfl (Nat.le_of_eq rfl) (hb hby at_184) rfl (fun v74 T74 L74 X74 hQ74 => ?_)
  obtain ⟨rfl, Nq74, e74⟩ := hQ74
  have N75 := Fr.app N71 Nq74
  show own_G p.tables e below _ T74 (mkF m 187 #[.val (.long p0), .second, .val (.long p1), .second, .val (.int p2), .val (.int p3), .val (.int (Int32.ofNat K)), .val (.int (Int32.ofNat P)), .val (.ref b1), .unset, .unset, .unset, .unset, .unset] [(.int (nar .byte (own_sh p0 p1 (10 : Int32) (Int32.ofNat P) (Int32.ofNat K)))), (.int (10 : Int32)), (.ref b1)])
  obtain ⟨cl76, Ar76, q76, S76, M76, H76, G76⟩ := id F73
  refine own_stB X74 hx (pc' := 188) hZ e74 Ar76 (inb_of S76 ⟨by decide, by decide⟩) (hb hby at_187) rfl (fun T77 h77 X77 e77 W77 => ?_)
  have N78 := Fr.snoc X77 N75 ge_b1
  have Z79 : n0 ≤ h77.size := Nat.le_trans Z72 (Nat.le_of_eq (Wr.size W77).symm)
  have F80 : Arv Z h77 b1 k1 .byte (12 : Int32) [(.int (nar .byte (nar .byte (own_sh p0 p1 (0 : Int32) (Int32.ofNat P) (Int32.ofNat K))))), (.int (nar .byte (nar .byte (own_sh p0 p1 (1 : Int32) (Int32.ofNat P) (Int32.ofNat K))))), (.int (nar .byte (nar .byte (own_sh p0 p1 (2 : Int32) (Int32.ofNat P) (Int32.ofNat K))))), (.int (nar .byte (nar .byte (own_sh p0 p1 (3 : Int32) (Int32.ofNat P) (Int32.ofNat K))))), (.int (nar .byte (nar .byte (own_sh p0 p1 (4 : Int32) (Int32.ofNat P) (Int32.ofNat K))))), (.int (nar .byte (nar .byte (own_sh p0 p1 (5 : Int32) (Int32.ofNat P) (Int32.ofNat K))))), (.int (nar .byte (nar .byte (own_sh p0 p1 (6 : Int32) (Int32.ofNat P) (Int32.ofNat K))))), (.int (nar .byte (nar .byte (own_sh p0 p1 (7 : Int32) (Int32.ofNat P) (Int32.ofNat K))))), (.int (nar .byte (nar .byte (own_sh p0 p1 (8 : Int32) (Int32.ofNat P) (Int32.ofNat K))))), (.int (nar .byte (nar .byte (own_sh p0 p1 (9 : Int32) (Int32.ofNat P) (Int32.ofNat K))))), (.int (nar .byte (nar .byte (own_sh p0 p1 (10 : Int32) (Int32.ofNat P) (Int32.ofNat K))))), (.int (0 : Int32))] (.int (0 : Int32)) := (Arv.set Ar76 q76 S76 M76 H76 G76 (fits_nar_byte _) W77 10 rfl (Nat.le_of_ble_eq_true rfl))
  refine own_aload X77 hx (pc' := 190) (hb hby at_188) rfl rfl rfl ?_
  refine own_bipush X77 hx (pc' := 192) (11 : Int32) (hb hby at_190) rfl rfl ?_
  refine own_lloadN X77 hx (pc' := 193) (hb hby at_192) rfl rfl ?_
  refine own_lloadN X77 hx (pc' := 194) (hb hby at_193) rfl rfl ?_
  refine own_bipush X77 hx (pc' := 196) (11 : Int32) (hb hby at_194) rfl rfl ?_
  refine own_iload X77 hx (pc' := 198) (hb hby at_196) rfl rfl ?_
  refine own_iload X77 hx (pc' := 200) (hb hby at_198) rfl rfl ?_
  refine own_callS X77 hx (pc' := 203) hZ hown (Wd2 hw) (Wd3 hw) (Wd4 hw) (Wd5 hw) (by decide) (rm_sh l Z a0 hw [] p0 p1 (11 : Int32) (Int32.ofNat P) (Int32.ofNat K) h77 n0 Z79) e77 2 (by decide) (by decide) (by decide) (by decide) [(.long p0), (.long p1), (.int (11 : Int32)), (.int (Int32.ofNat P)), (.int (Int32.ofNat K))] [(.int (11 : Int32)), (.ref b1)] (by rw [hml]; rfl) (lenOf pd_1 rfl) rfl rfl (Nat.le_of_eq rfl) (hb hby at_200) rfl (fun v81 T81 L81 X81 hQ81 => ?_)
  obtain ⟨rfl, Nq81, e81⟩ := hQ81
  have N82 := Fr.app N78 Nq81
  show own_G p.tables e below _ T81 (mkF m 203 #[.val (.long p0), .second, .val (.long p1), .second, .val (.int p2), .val (.int p3), .val (.int (Int32.ofNat K)), .val (.int (Int32.ofNat P)), .val (.ref b1), .unset, .unset, .unset, .unset, .unset] [(.int (nar .byte (own_sh p0 p1 (11 : Int32) (Int32.ofNat P) (Int32.ofNat K)))), (.int (11 : Int32)), (.ref b1)])
  obtain ⟨cl83, Ar83, q83, S83, M83, H83, G83⟩ := id F80
  refine own_stB X81 hx (pc' := 204) hZ e81 Ar83 (inb_of S83 ⟨by decide, by decide⟩) (hb hby at_203) rfl (fun T84 h84 X84 e84 W84 => ?_)
  have N85 := Fr.snoc X84 N82 ge_b1
  have Z86 : n0 ≤ h84.size := Nat.le_trans Z79 (Nat.le_of_eq (Wr.size W84).symm)
  have F87 : Arv Z h84 b1 k1 .byte (12 : Int32) [(.int (nar .byte (nar .byte (own_sh p0 p1 (0 : Int32) (Int32.ofNat P) (Int32.ofNat K))))), (.int (nar .byte (nar .byte (own_sh p0 p1 (1 : Int32) (Int32.ofNat P) (Int32.ofNat K))))), (.int (nar .byte (nar .byte (own_sh p0 p1 (2 : Int32) (Int32.ofNat P) (Int32.ofNat K))))), (.int (nar .byte (nar .byte (own_sh p0 p1 (3 : Int32) (Int32.ofNat P) (Int32.ofNat K))))), (.int (nar .byte (nar .byte (own_sh p0 p1 (4 : Int32) (Int32.ofNat P) (Int32.ofNat K))))), (.int (nar .byte (nar .byte (own_sh p0 p1 (5 : Int32) (Int32.ofNat P) (Int32.ofNat K))))), (.int (nar .byte (nar .byte (own_sh p0 p1 (6 : Int32) (Int32.ofNat P) (Int32.ofNat K))))), (.int (nar .byte (nar .byte (own_sh p0 p1 (7 : Int32) (Int32.ofNat P) (Int32.ofNat K))))), (.int (nar .byte (nar .byte (own_sh p0 p1 (8 : Int32) (Int32.ofNat P) (Int32.ofNat K))))), (.int (nar .byte (nar .byte (own_sh p0 p1 (9 : Int32) (Int32.ofNat P) (Int32.ofNat K))))), (.int (nar .byte (nar .byte (own_sh p0 p1 (10 : Int32) (Int32.ofNat P) (Int32.ofNat K))))), (.int (nar .byte (nar .byte (own_sh p0 p1 (11 : Int32) (Int32.ofNat P) (Int32.ofNat K)))))] (.int (0 : Int32)) := (Arv.set Ar83 q83 S83 M83 H83 G83 (fits_nar_byte _) W84 11 rfl (Nat.le_of_ble_eq_true rfl))
  refine own_lloadN X84 hx (pc' := 205) (hb hby at_204) rfl rfl ?_
  refine own_lloadN X84 hx (pc' := 206) (hb hby at_205) rfl rfl ?_
  refine own_iload X84 hx (pc' := 208) (hb hby at_206) rfl rfl ?_
  refine own_iload X84 hx (pc' := 210) (hb hby at_208) rfl rfl ?_
  refine own_iconst X84 hx (pc' := 211) (0 : Int32) (hb hby at_210) rfl rfl ?_
  refine own_callS X84 hx (pc' := 214) hZ hown (Wd10 hw) (Wd11 hw) (Wd4 hw) (Wd12 hw) (by decide) (rm_tm l Z a0 hw [] p0 p1 (Int32.ofNat P) (Int32.ofNat K) (0 : Int32) h84 n0 Z86) e84 0 (by decide) (by decide) (by decide) (by decide) [(.long p0), (.long p1), (.int (Int32.ofNat P)), (.int (Int32.ofNat K)), (.int (0 : Int32))] [] (by rw [hml]; rfl) (lenOf pd_2 rfl) rfl rfl (Nat.le_of_eq rfl) (hb hby at_211) rfl (fun v88 T88 L88 X88 hQ88 => ?_)
  obtain ⟨rfl, Nq88, e88⟩ := hQ88
  have N89 := Fr.app N85 Nq88
  show own_G p.tables e below _ T88 (mkF m 214 #[.val (.long p0), .second, .val (.long p1), .second, .val (.int p2), .val (.int p3), .val (.int (Int32.ofNat K)), .val (.int (Int32.ofNat P)), .val (.ref b1), .unset, .unset, .unset, .unset, .unset] [(.long (own_tm p0 p1 (Int32.ofNat P) (Int32.ofNat K) (0 : Int32)))])
  refine own_lloadN X88 hx (pc' := 215) (hb hby at_214) rfl rfl ?_
  refine own_lloadN X88 hx (pc' := 216) (hb hby at_215) rfl rfl ?_
  refine own_iload X88 hx (pc' := 218) (hb hby at_216) rfl rfl ?_
  refine own_iload X88 hx (pc' := 220) (hb hby at_218) rfl rfl ?_
  refine own_iconst X88 hx (pc' := 221) (1 : Int32) (hb hby at_220) rfl rfl ?_
  refine own_callS X88 hx (pc' := 224) hZ hown (Wd10 hw) (Wd11 hw) (Wd4 hw) (Wd12 hw) (by decide) (rm_tm l Z a0 hw [] p0 p1 (Int32.ofNat P) (Int32.ofNat K) (1 : Int32) h84 n0 Z86) e88 2 (by decide) (by decide) (by decide) (by decide) [(.long p0), (.long p1), (.int (Int32.ofNat P)), (.int (Int32.ofNat K)), (.int (1 : Int32))] [(.long (own_tm p0 p1 (Int32.ofNat P) (Int32.ofNat K) (0 : Int32)))] (by rw [hml]; rfl) (lenOf pd_2 rfl) rfl rfl (Nat.le_of_eq rfl) (hb hby at_221) rfl (fun v90 T90 L90 X90 hQ90 => ?_)
  obtain ⟨rfl, Nq90, e90⟩ := hQ90
  have N91 := Fr.app N89 Nq90
  show own_G p.tables e below _ T90 (mkF m 224 #[.val (.long p0), .second, .val (.long p1), .second, .val (.int p2), .val (.int p3), .val (.int (Int32.ofNat K)), .val (.int (Int32.ofNat P)), .val (.ref b1), .unset, .unset, .unset, .unset, .unset] [(.long (own_tm p0 p1 (Int32.ofNat P) (Int32.ofNat K) (1 : Int32))), (.long (own_tm p0 p1 (Int32.ofNat P) (Int32.ofNat K) (0 : Int32)))])
  refine own_lor X90 hx (pc' := 225) (hb hby at_224) rfl rfl ?_
  refine own_lloadN X90 hx (pc' := 226) (hb hby at_225) rfl rfl ?_
  refine own_lloadN X90 hx (pc' := 227) (hb hby at_226) rfl rfl ?_
  refine own_iload X90 hx (pc' := 229) (hb hby at_227) rfl rfl ?_
  refine own_iload X90 hx (pc' := 231) (hb hby at_229) rfl rfl ?_
  refine own_iconst X90 hx (pc' := 232) (2 : Int32) (hb hby at_231) rfl rfl ?_
  refine own_callS X90 hx (pc' := 235) hZ hown (Wd10 hw) (Wd11 hw) (Wd4 hw) (Wd12 hw) (by decide) (rm_tm l Z a0 hw [] p0 p1 (Int32.ofNat P) (Int32.ofNat K) (2 : Int32) h84 n0 Z86) e90 2 (by decide) (by decide) (by decide) (by decide) [(.long p0), (.long p1), (.int (Int32.ofNat P)), (.int (Int32.ofNat K)), (.int (2 : Int32))] [(.long ((own_tm p0 p1 (Int32.ofNat P) (Int32.ofNat K) (0 : Int32)) ||| (own_tm p0 p1 (Int32.ofNat P) (Int32.ofNat K) (1 : Int32))))] (by rw [hml]; rfl) (lenOf pd_2 rfl) rfl rfl (Nat.le_of_eq rfl) (hb hby at_232) rfl (fun v92 T92 L92 X92 hQ92 => ?_)
  obtain ⟨rfl, Nq92, e92⟩ := hQ92
  have N93 := Fr.app N91 Nq92
  show own_G p.tables e below _ T92 (mkF m 235 #[.val (.long p0), .second, .val (.long p1), .second, .val (.int p2), .val (.int p3), .val (.int (Int32.ofNat K)), .val (.int (Int32.ofNat P)), .val (.ref b1), .unset, .unset, .unset, .unset, .unset] [(.long (own_tm p0 p1 (Int32.ofNat P) (Int32.ofNat K) (2 : Int32))), (.long ((own_tm p0 p1 (Int32.ofNat P) (Int32.ofNat K) (0 : Int32)) ||| (own_tm p0 p1 (Int32.ofNat P) (Int32.ofNat K) (1 : Int32))))])
  refine own_lor X92 hx (pc' := 236) (hb hby at_235) rfl rfl ?_
  refine own_lloadN X92 hx (pc' := 237) (hb hby at_236) rfl rfl ?_
  refine own_lloadN X92 hx (pc' := 238) (hb hby at_237) rfl rfl ?_
  refine own_iload X92 hx (pc' := 240) (hb hby at_238) rfl rfl ?_
  refine own_iload X92 hx (pc' := 242) (hb hby at_240) rfl rfl ?_
  refine own_iconst X92 hx (pc' := 243) (3 : Int32) (hb hby at_242) rfl rfl ?_
  refine own_callS X92 hx (pc' := 246) hZ hown (Wd10 hw) (Wd11 hw) (Wd4 hw) (Wd12 hw) (by decide) (rm_tm l Z a0 hw [] p0 p1 (Int32.ofNat P) (Int32.ofNat K) (3 : Int32) h84 n0 Z86) e92 2 (by decide) (by decide) (by decide) (by decide) [(.long p0), (.long p1), (.int (Int32.ofNat P)), (.int (Int32.ofNat K)), (.int (3 : Int32))] [(.long (((own_tm p0 p1 (Int32.ofNat P) (Int32.ofNat K) (0 : Int32)) ||| (own_tm p0 p1 (Int32.ofNat P) (Int32.ofNat K) (1 : Int32))) ||| (own_tm p0 p1 (Int32.ofNat P) (Int32.ofNat K) (2 : Int32))))] (by rw [hml]; rfl) (lenOf pd_2 rfl) rfl rfl (Nat.le_of_eq rfl) (hb hby at_243) rfl (fun v94 T94 L94 X94 hQ94 => ?_)
  obtain ⟨rfl, Nq94, e94⟩ := hQ94
  have N95 := Fr.app N93 Nq94
  show own_G p.tables e below _ T94 (mkF m 246 #[.val (.long p0), .second, .val (.long p1), .second, .val (.int p2), .val (.int p3), .val (.int (Int32.ofNat K)), .val (.int (Int32.ofNat P)), .val (.ref b1), .unset, .unset, .unset, .unset, .unset] [(.long (own_tm p0 p1 (Int32.ofNat P) (Int32.ofNat K) (3 : Int32))), (.long (((own_tm p0 p1 (Int32.ofNat P) (Int32.ofNat K) (0 : Int32)) ||| (own_tm p0 p1 (Int32.ofNat P) (Int32.ofNat K) (1 : Int32))) ||| (own_tm p0 p1 (Int32.ofNat P) (Int32.ofNat K) (2 : Int32))))])
  refine own_lor X94 hx (pc' := 247) (hb hby at_246) rfl rfl ?_
  refine own_lloadN X94 hx (pc' := 248) (hb hby at_247) rfl rfl ?_
  refine own_lloadN X94 hx (pc' := 249) (hb hby at_248) rfl rfl ?_
  refine own_iload X94 hx (pc' := 251) (hb hby at_249) rfl rfl ?_
  refine own_iload X94 hx (pc' := 253) (hb hby at_251) rfl rfl ?_
  refine own_iconst X94 hx (pc' := 254) (4 : Int32) (hb hby at_253) rfl rfl ?_
  refine own_callS X94 hx (pc' := 257) hZ hown (Wd10 hw) (Wd11 hw) (Wd4 hw) (Wd12 hw) (by decide) (rm_tm l Z a0 hw [] p0 p1 (Int32.ofNat P) (Int32.ofNat K) (4 : Int32) h84 n0 Z86) e94 2 (by decide) (by decide) (by decide) (by decide) [(.long p0), (.long p1), (.int (Int32.ofNat P)), (.int (Int32.ofNat K)), (.int (4 : Int32))] [(.long ((((own_tm p0 p1 (Int32.ofNat P) (Int32.ofNat K) (0 : Int32)) ||| (own_tm p0 p1 (Int32.ofNat P) (Int32.ofNat K) (1 : Int32))) ||| (own_tm p0 p1 (Int32.ofNat P) (Int32.ofNat K) (2 : Int32))) ||| (own_tm p0 p1 (Int32.ofNat P) (Int32.ofNat K) (3 : Int32))))] (by rw [hml]; rfl) (lenOf pd_2 rfl) rfl rfl (Nat.le_of_eq rfl) (hb hby at_254) rfl (fun v96 T96 L96 X96 hQ96 => ?_)
  obtain ⟨rfl, Nq96, e96⟩ := hQ96
  have N97 := Fr.app N95 Nq96
  show own_G p.tables e below _ T96 (mkF m 257 #[.val (.long p0), .second, .val (.long p1), .second, .val (.int p2), .val (.int p3), .val (.int (Int32.ofNat K)), .val (.int (Int32.ofNat P)), .val (.ref b1), .unset, .unset, .unset, .unset, .unset] [(.long (own_tm p0 p1 (Int32.ofNat P) (Int32.ofNat K) (4 : Int32))), (.long ((((own_tm p0 p1 (Int32.ofNat P) (Int32.ofNat K) (0 : Int32)) ||| (own_tm p0 p1 (Int32.ofNat P) (Int32.ofNat K) (1 : Int32))) ||| (own_tm p0 p1 (Int32.ofNat P) (Int32.ofNat K) (2 : Int32))) ||| (own_tm p0 p1 (Int32.ofNat P) (Int32.ofNat K) (3 : Int32))))])
  refine own_lor X96 hx (pc' := 258) (hb hby at_257) rfl rfl ?_
  refine own_lloadN X96 hx (pc' := 259) (hb hby at_258) rfl rfl ?_
  refine own_lloadN X96 hx (pc' := 260) (hb hby at_259) rfl rfl ?_
  refine own_iload X96 hx (pc' := 262) (hb hby at_260) rfl rfl ?_
  refine own_iload X96 hx (pc' := 264) (hb hby at_262) rfl rfl ?_
  refine own_iconst X96 hx (pc' := 265) (5 : Int32) (hb hby at_264) rfl rfl ?_
  refine own_callS X96 hx (pc' := 268) hZ hown (Wd10 hw) (Wd11 hw) (Wd4 hw) (Wd12 hw) (by decide) (rm_tm l Z a0 hw [] p0 p1 (Int32.ofNat P) (Int32.ofNat K) (5 : Int32) h84 n0 Z86) e96 2 (by decide) (by decide) (by decide) (by decide) [(.long p0), (.long p1), (.int (Int32.ofNat P)), (.int (Int32.ofNat K)), (.int (5 : Int32))] [(.long (((((own_tm p0 p1 (Int32.ofNat P) (Int32.ofNat K) (0 : Int32)) ||| (own_tm p0 p1 (Int32.ofNat P) (Int32.ofNat K) (1 : Int32))) ||| (own_tm p0 p1 (Int32.ofNat P) (Int32.ofNat K) (2 : Int32))) ||| (own_tm p0 p1 (Int32.ofNat P) (Int32.ofNat K) (3 : Int32))) ||| (own_tm p0 p1 (Int32.ofNat P) (Int32.ofNat K) (4 : Int32))))] (by rw [hml]; rfl) (lenOf pd_2 rfl) rfl rfl (Nat.le_of_eq rfl) (hb hby at_265) rfl (fun v98 T98 L98 X98 hQ98 => ?_)
  obtain ⟨rfl, Nq98, e98⟩ := hQ98
  have N99 := Fr.app N97 Nq98
  show own_G p.tables e below _ T98 (mkF m 268 #[.val (.long p0), .second, .val (.long p1), .second, .val (.int p2), .val (.int p3), .val (.int (Int32.ofNat K)), .val (.int (Int32.ofNat P)), .val (.ref b1), .unset, .unset, .unset, .unset, .unset] [(.long (own_tm p0 p1 (Int32.ofNat P) (Int32.ofNat K) (5 : Int32))), (.long (((((own_tm p0 p1 (Int32.ofNat P) (Int32.ofNat K) (0 : Int32)) ||| (own_tm p0 p1 (Int32.ofNat P) (Int32.ofNat K) (1 : Int32))) ||| (own_tm p0 p1 (Int32.ofNat P) (Int32.ofNat K) (2 : Int32))) ||| (own_tm p0 p1 (Int32.ofNat P) (Int32.ofNat K) (3 : Int32))) ||| (own_tm p0 p1 (Int32.ofNat P) (Int32.ofNat K) (4 : Int32))))])
  refine own_lor X98 hx (pc' := 269) (hb hby at_268) rfl rfl ?_
  refine own_lloadN X98 hx (pc' := 270) (hb hby at_269) rfl rfl ?_
  refine own_lloadN X98 hx (pc' := 271) (hb hby at_270) rfl rfl ?_
  refine own_iload X98 hx (pc' := 273) (hb hby at_271) rfl rfl ?_
  refine own_iload X98 hx (pc' := 275) (hb hby at_273) rfl rfl ?_
  refine own_bipush X98 hx (pc' := 277) (6 : Int32) (hb hby at_275) rfl rfl ?_
  refine own_callS X98 hx (pc' := 280) hZ hown (Wd10 hw) (Wd11 hw) (Wd4 hw) (Wd12 hw) (by decide) (rm_tm l Z a0 hw [] p0 p1 (Int32.ofNat P) (Int32.ofNat K) (6 : Int32) h84 n0 Z86) e98 2 (by decide) (by decide) (by decide) (by decide) [(.long p0), (.long p1), (.int (Int32.ofNat P)), (.int (Int32.ofNat K)), (.int (6 : Int32))] [(.long ((((((own_tm p0 p1 (Int32.ofNat P) (Int32.ofNat K) (0 : Int32)) ||| (own_tm p0 p1 (Int32.ofNat P) (Int32.ofNat K) (1 : Int32))) ||| (own_tm p0 p1 (Int32.ofNat P) (Int32.ofNat K) (2 : Int32))) ||| (own_tm p0 p1 (Int32.ofNat P) (Int32.ofNat K) (3 : Int32))) ||| (own_tm p0 p1 (Int32.ofNat P) (Int32.ofNat K) (4 : Int32))) ||| (own_tm p0 p1 (Int32.ofNat P) (Int32.ofNat K) (5 : Int32))))] (by rw [hml]; rfl) (lenOf pd_2 rfl) rfl rfl (Nat.le_of_eq rfl) (hb hby at_277) rfl (fun v100 T100 L100 X100 hQ100 => ?_)
  obtain ⟨rfl, Nq100, e100⟩ := hQ100
  have N101 := Fr.app N99 Nq100
  show own_G p.tables e below _ T100 (mkF m 280 #[.val (.long p0), .second, .val (.long p1), .second, .val (.int p2), .val (.int p3), .val (.int (Int32.ofNat K)), .val (.int (Int32.ofNat P)), .val (.ref b1), .unset, .unset, .unset, .unset, .unset] [(.long (own_tm p0 p1 (Int32.ofNat P) (Int32.ofNat K) (6 : Int32))), (.long ((((((own_tm p0 p1 (Int32.ofNat P) (Int32.ofNat K) (0 : Int32)) ||| (own_tm p0 p1 (Int32.ofNat P) (Int32.ofNat K) (1 : Int32))) ||| (own_tm p0 p1 (Int32.ofNat P) (Int32.ofNat K) (2 : Int32))) ||| (own_tm p0 p1 (Int32.ofNat P) (Int32.ofNat K) (3 : Int32))) ||| (own_tm p0 p1 (Int32.ofNat P) (Int32.ofNat K) (4 : Int32))) ||| (own_tm p0 p1 (Int32.ofNat P) (Int32.ofNat K) (5 : Int32))))])
  refine own_lor X100 hx (pc' := 281) (hb hby at_280) rfl rfl ?_
  refine own_lloadN X100 hx (pc' := 282) (hb hby at_281) rfl rfl ?_
  refine own_lloadN X100 hx (pc' := 283) (hb hby at_282) rfl rfl ?_
  refine own_iload X100 hx (pc' := 285) (hb hby at_283) rfl rfl ?_
  refine own_iload X100 hx (pc' := 287) (hb hby at_285) rfl rfl ?_
  refine own_bipush X100 hx (pc' := 289) (7 : Int32) (hb hby at_287) rfl rfl ?_
  refine own_callS X100 hx (pc' := 292) hZ hown (Wd10 hw) (Wd11 hw) (Wd4 hw) (Wd12 hw) (by decide) (rm_tm l Z a0 hw [] p0 p1 (Int32.ofNat P) (Int32.ofNat K) (7 : Int32) h84 n0 Z86) e100 2 (by decide) (by decide) (by decide) (by decide) [(.long p0), (.long p1), (.int (Int32.ofNat P)), (.int (Int32.ofNat K)), (.int (7 : Int32))] [(.long (((((((own_tm p0 p1 (Int32.ofNat P) (Int32.ofNat K) (0 : Int32)) ||| (own_tm p0 p1 (Int32.ofNat P) (Int32.ofNat K) (1 : Int32))) ||| (own_tm p0 p1 (Int32.ofNat P) (Int32.ofNat K) (2 : Int32))) ||| (own_tm p0 p1 (Int32.ofNat P) (Int32.ofNat K) (3 : Int32))) ||| (own_tm p0 p1 (Int32.ofNat P) (Int32.ofNat K) (4 : Int32))) ||| (own_tm p0 p1 (Int32.ofNat P) (Int32.ofNat K) (5 : Int32))) ||| (own_tm p0 p1 (Int32.ofNat P) (Int32.ofNat K) (6 : Int32))))] (by rw [hml]; rfl) (lenOf pd_2 rfl) rfl rfl (Nat.le_of_eq rfl) (hb hby at_289) rfl (fun v102 T102 L102 X102 hQ102 => ?_)
  obtain ⟨rfl, Nq102, e102⟩ := hQ102
  have N103 := Fr.app N101 Nq102
  show own_G p.tables e below _ T102 (mkF m 292 #[.val (.long p0), .second, .val (.long p1), .second, .val (.int p2), .val (.int p3), .val (.int (Int32.ofNat K)), .val (.int (Int32.ofNat P)), .val (.ref b1), .unset, .unset, .unset, .unset, .unset] [(.long (own_tm p0 p1 (Int32.ofNat P) (Int32.ofNat K) (7 : Int32))), (.long (((((((own_tm p0 p1 (Int32.ofNat P) (Int32.ofNat K) (0 : Int32)) ||| (own_tm p0 p1 (Int32.ofNat P) (Int32.ofNat K) (1 : Int32))) ||| (own_tm p0 p1 (Int32.ofNat P) (Int32.ofNat K) (2 : Int32))) ||| (own_tm p0 p1 (Int32.ofNat P) (Int32.ofNat K) (3 : Int32))) ||| (own_tm p0 p1 (Int32.ofNat P) (Int32.ofNat K) (4 : Int32))) ||| (own_tm p0 p1 (Int32.ofNat P) (Int32.ofNat K) (5 : Int32))) ||| (own_tm p0 p1 (Int32.ofNat P) (Int32.ofNat K) (6 : Int32))))])
  refine own_lor X102 hx (pc' := 293) (hb hby at_292) rfl rfl ?_
  refine own_lloadN X102 hx (pc' := 294) (hb hby at_293) rfl rfl ?_
  refine own_lloadN X102 hx (pc' := 295) (hb hby at_294) rfl rfl ?_
  refine own_iload X102 hx (pc' := 297) (hb hby at_295) rfl rfl ?_
  refine own_iload X102 hx (pc' := 299) (hb hby at_297) rfl rfl ?_
  refine own_bipush X102 hx (pc' := 301) (8 : Int32) (hb hby at_299) rfl rfl ?_
  refine own_callS X102 hx (pc' := 304) hZ hown (Wd10 hw) (Wd11 hw) (Wd4 hw) (Wd12 hw) (by decide) (rm_tm l Z a0 hw [] p0 p1 (Int32.ofNat P) (Int32.ofNat K) (8 : Int32) h84 n0 Z86) e102 2 (by decide) (by decide) (by decide) (by decide) [(.long p0), (.long p1), (.int (Int32.ofNat P)), (.int (Int32.ofNat K)), (.int (8 : Int32))] [(.long ((((((((own_tm p0 p1 (Int32.ofNat P) (Int32.ofNat K) (0 : Int32)) ||| (own_tm p0 p1 (Int32.ofNat P) (Int32.ofNat K) (1 : Int32))) ||| (own_tm p0 p1 (Int32.ofNat P) (Int32.ofNat K) (2 : Int32))) ||| (own_tm p0 p1 (Int32.ofNat P) (Int32.ofNat K) (3 : Int32))) ||| (own_tm p0 p1 (Int32.ofNat P) (Int32.ofNat K) (4 : Int32))) ||| (own_tm p0 p1 (Int32.ofNat P) (Int32.ofNat K) (5 : Int32))) ||| (own_tm p0 p1 (Int32.ofNat P) (Int32.ofNat K) (6 : Int32))) ||| (own_tm p0 p1 (Int32.ofNat P) (Int32.ofNat K) (7 : Int32))))] (by rw [hml]; rfl) (lenOf pd_2 rfl) rfl rfl (Nat.le_of_eq rfl) (hb hby at_301) rfl (fun v104 T104 L104 X104 hQ104 => ?_)
  obtain ⟨rfl, Nq104, e104⟩ := hQ104
  have N105 := Fr.app N103 Nq104
  show own_G p.tables e below _ T104 (mkF m 304 #[.val (.long p0), .second, .val (.long p1), .second, .val (.int p2), .val (.int p3), .val (.int (Int32.ofNat K)), .val (.int (Int32.ofNat P)), .val (.ref b1), .unset, .unset, .unset, .unset, .unset] [(.long (own_tm p0 p1 (Int32.ofNat P) (Int32.ofNat K) (8 : Int32))), (.long ((((((((own_tm p0 p1 (Int32.ofNat P) (Int32.ofNat K) (0 : Int32)) ||| (own_tm p0 p1 (Int32.ofNat P) (Int32.ofNat K) (1 : Int32))) ||| (own_tm p0 p1 (Int32.ofNat P) (Int32.ofNat K) (2 : Int32))) ||| (own_tm p0 p1 (Int32.ofNat P) (Int32.ofNat K) (3 : Int32))) ||| (own_tm p0 p1 (Int32.ofNat P) (Int32.ofNat K) (4 : Int32))) ||| (own_tm p0 p1 (Int32.ofNat P) (Int32.ofNat K) (5 : Int32))) ||| (own_tm p0 p1 (Int32.ofNat P) (Int32.ofNat K) (6 : Int32))) ||| (own_tm p0 p1 (Int32.ofNat P) (Int32.ofNat K) (7 : Int32))))])
  refine own_lor X104 hx (pc' := 305) (hb hby at_304) rfl rfl ?_
  refine own_lloadN X104 hx (pc' := 306) (hb hby at_305) rfl rfl ?_
  refine own_lloadN X104 hx (pc' := 307) (hb hby at_306) rfl rfl ?_
  refine own_iload X104 hx (pc' := 309) (hb hby at_307) rfl rfl ?_
  refine own_iload X104 hx (pc' := 311) (hb hby at_309) rfl rfl ?_
  refine own_bipush X104 hx (pc' := 313) (9 : Int32) (hb hby at_311) rfl rfl ?_
  refine own_callS X104 hx (pc' := 316) hZ hown (Wd10 hw) (Wd11 hw) (Wd4 hw) (Wd12 hw) (by decide) (rm_tm l Z a0 hw [] p0 p1 (Int32.ofNat P) (Int32.ofNat K) (9 : Int32) h84 n0 Z86) e104 2 (by decide) (by decide) (by decide) (by decide) [(.long p0), (.long p1), (.int (Int32.ofNat P)), (.int (Int32.ofNat K)), (.int (9 : Int32))] [(.long (((((((((own_tm p0 p1 (Int32.ofNat P) (Int32.ofNat K) (0 : Int32)) ||| (own_tm p0 p1 (Int32.ofNat P) (Int32.ofNat K) (1 : Int32))) ||| (own_tm p0 p1 (Int32.ofNat P) (Int32.ofNat K) (2 : Int32))) ||| (own_tm p0 p1 (Int32.ofNat P) (Int32.ofNat K) (3 : Int32))) ||| (own_tm p0 p1 (Int32.ofNat P) (Int32.ofNat K) (4 : Int32))) ||| (own_tm p0 p1 (Int32.ofNat P) (Int32.ofNat K) (5 : Int32))) ||| (own_tm p0 p1 (Int32.ofNat P) (Int32.ofNat K) (6 : Int32))) ||| (own_tm p0 p1 (Int32.ofNat P) (Int32.ofNat K) (7 : Int32))) ||| (own_tm p0 p1 (Int32.ofNat P) (Int32.ofNat K) (8 : Int32))))] (by rw [hml]; rfl) (lenOf pd_2 rfl) rfl rfl (Nat.le_of_eq rfl) (hb hby at_313) rfl (fun v106 T106 L106 X106 hQ106 => ?_)
  obtain ⟨rfl, Nq106, e106⟩ := hQ106
  have N107 := Fr.app N105 Nq106
  show own_G p.tables e below _ T106 (mkF m 316 #[.val (.long p0), .second, .val (.long p1), .second, .val (.int p2), .val (.int p3), .val (.int (Int32.ofNat K)), .val (.int (Int32.ofNat P)), .val (.ref b1), .unset, .unset, .unset, .unset, .unset] [(.long (own_tm p0 p1 (Int32.ofNat P) (Int32.ofNat K) (9 : Int32))), (.long (((((((((own_tm p0 p1 (Int32.ofNat P) (Int32.ofNat K) (0 : Int32)) ||| (own_tm p0 p1 (Int32.ofNat P) (Int32.ofNat K) (1 : Int32))) ||| (own_tm p0 p1 (Int32.ofNat P) (Int32.ofNat K) (2 : Int32))) ||| (own_tm p0 p1 (Int32.ofNat P) (Int32.ofNat K) (3 : Int32))) ||| (own_tm p0 p1 (Int32.ofNat P) (Int32.ofNat K) (4 : Int32))) ||| (own_tm p0 p1 (Int32.ofNat P) (Int32.ofNat K) (5 : Int32))) ||| (own_tm p0 p1 (Int32.ofNat P) (Int32.ofNat K) (6 : Int32))) ||| (own_tm p0 p1 (Int32.ofNat P) (Int32.ofNat K) (7 : Int32))) ||| (own_tm p0 p1 (Int32.ofNat P) (Int32.ofNat K) (8 : Int32))))])
  refine own_lor X106 hx (pc' := 317) (hb hby at_316) rfl rfl ?_
  refine own_lstore X106 hx (pc' := 319) (Ls' := #[.val (.long p0), .second, .val (.long p1), .second, .val (.int p2), .val (.int p3), .val (.int (Int32.ofNat K)), .val (.int (Int32.ofNat P)), .val (.ref b1), .val (.long ((((((((((own_tm p0 p1 (Int32.ofNat P) (Int32.ofNat K) (0 : Int32)) ||| (own_tm p0 p1 (Int32.ofNat P) (Int32.ofNat K) (1 : Int32))) ||| (own_tm p0 p1 (Int32.ofNat P) (Int32.ofNat K) (2 : Int32))) ||| (own_tm p0 p1 (Int32.ofNat P) (Int32.ofNat K) (3 : Int32))) ||| (own_tm p0 p1 (Int32.ofNat P) (Int32.ofNat K) (4 : Int32))) ||| (own_tm p0 p1 (Int32.ofNat P) (Int32.ofNat K) (5 : Int32))) ||| (own_tm p0 p1 (Int32.ofNat P) (Int32.ofNat K) (6 : Int32))) ||| (own_tm p0 p1 (Int32.ofNat P) (Int32.ofNat K) (7 : Int32))) ||| (own_tm p0 p1 (Int32.ofNat P) (Int32.ofNat K) (8 : Int32))) ||| (own_tm p0 p1 (Int32.ofNat P) (Int32.ofNat K) (9 : Int32)))), .second, .unset, .unset, .unset]) (hb hby at_317) rfl rfl ?_
  refine own_new X106 hx (pc' := 322) hZ hown (Wd13 hw) (Wd14 hw) (Wd15 hw) e106 (hb hby at_319) (by decide) (by decide) rfl (fun T108 h108 b108 g108 X108 e108 E108 A108 D108 => ?_)
  have ne_b1_b108_109 : b1 ≠ b108 := Nat.ne_of_lt (Nat.lt_of_lt_of_le F87.lt (Nat.le_of_eq g108.symm))
  have ge_b108 : n0 ≤ b108 := Nat.le_trans Z86 (Nat.le_of_eq g108.symm)
  have Z110 : n0 ≤ h108.size := Nat.le_trans Z86 E108.1
  have F111 := (F87.ext E108)
  have F112 : Fld Z h108 b108 "com/example/mixed_likelihood/mixedlikelihood/index/IndexFormat$Input" "bytes" "[B" .null := D108 (Or.inr (Wd23 hw)) (ty := (.array .byte)) (by decide)
  have F113 : Fld Z h108 b108 "com/example/mixed_likelihood/mixedlikelihood/index/IndexFormat$Input" "position" "I" (.int (0 : Int32)) := D108 (Or.inl (Wd25 hw)) (ty := .int) (by decide)
  refine own_dup X108 hx (pc' := 323) (hb hby at_322) rfl rfl ?_
  refine own_aload X108 hx (pc' := 325) (hb hby at_323) rfl rfl rfl ?_
  refine own_iload X108 hx (pc' := 327) (hb hby at_325) rfl rfl ?_
  refine own_callI X108 hx (pc' := 330) hZ rfl hown (Wd16 hw) (Wd17 hw) (Wd18 hw) (Wd15 hw) (by decide) (rm_in l Z a0 hw [] b108 b1 (Int32.ofNat P) h108 n0 Z110 ge_b108 A108 F112 F113) e108 (b := b108) 1 (by decide) (by decide) (by decide) (by decide) [(.ref b1), (.int (Int32.ofNat P))] [(.ref b108)] (by rw [hml]; rfl) (lenOf pd_3 rfl) rfl rfl (Nat.le_of_eq rfl) (hb hby at_327) rfl (fun v114 T114 L114 X114 hQ114 => ?_)
  obtain ⟨rfl, Nq114, K114, Gb114, Gp114⟩ := hQ114
  have N115 := Fr.app N107 Nq114
  have Z116 : n0 ≤ T114.heap.size := Nat.le_trans Z110 K114.1
  have F117 := (F111.keep K114 (ninS ne_b1_b108_109 nin0))
  have F118 := (Exa.keep A108 K114)
  show own_G p.tables e below _ T114 (mkF m 330 #[.val (.long p0), .second, .val (.long p1), .second, .val (.int p2), .val (.int p3), .val (.int (Int32.ofNat K)), .val (.int (Int32.ofNat P)), .val (.ref b1), .val (.long ((((((((((own_tm p0 p1 (Int32.ofNat P) (Int32.ofNat K) (0 : Int32)) ||| (own_tm p0 p1 (Int32.ofNat P) (Int32.ofNat K) (1 : Int32))) ||| (own_tm p0 p1 (Int32.ofNat P) (Int32.ofNat K) (2 : Int32))) ||| (own_tm p0 p1 (Int32.ofNat P) (Int32.ofNat K) (3 : Int32))) ||| (own_tm p0 p1 (Int32.ofNat P) (Int32.ofNat K) (4 : Int32))) ||| (own_tm p0 p1 (Int32.ofNat P) (Int32.ofNat K) (5 : Int32))) ||| (own_tm p0 p1 (Int32.ofNat P) (Int32.ofNat K) (6 : Int32))) ||| (own_tm p0 p1 (Int32.ofNat P) (Int32.ofNat K) (7 : Int32))) ||| (own_tm p0 p1 (Int32.ofNat P) (Int32.ofNat K) (8 : Int32))) ||| (own_tm p0 p1 (Int32.ofNat P) (Int32.ofNat K) (9 : Int32)))), .second, .unset, .unset, .unset] [(.ref b108)])
  refine own_astore X114 hx (pc' := 332) (Ls' := #[.val (.long p0), .second, .val (.long p1), .second, .val (.int p2), .val (.int p3), .val (.int (Int32.ofNat K)), .val (.int (Int32.ofNat P)), .val (.ref b1), .val (.long ((((((((((own_tm p0 p1 (Int32.ofNat P) (Int32.ofNat K) (0 : Int32)) ||| (own_tm p0 p1 (Int32.ofNat P) (Int32.ofNat K) (1 : Int32))) ||| (own_tm p0 p1 (Int32.ofNat P) (Int32.ofNat K) (2 : Int32))) ||| (own_tm p0 p1 (Int32.ofNat P) (Int32.ofNat K) (3 : Int32))) ||| (own_tm p0 p1 (Int32.ofNat P) (Int32.ofNat K) (4 : Int32))) ||| (own_tm p0 p1 (Int32.ofNat P) (Int32.ofNat K) (5 : Int32))) ||| (own_tm p0 p1 (Int32.ofNat P) (Int32.ofNat K) (6 : Int32))) ||| (own_tm p0 p1 (Int32.ofNat P) (Int32.ofNat K) (7 : Int32))) ||| (own_tm p0 p1 (Int32.ofNat P) (Int32.ofNat K) (8 : Int32))) ||| (own_tm p0 p1 (Int32.ofNat P) (Int32.ofNat K) (9 : Int32)))), .second, .val (.ref b108), .unset, .unset]) (hb hby at_330) rfl rfl rfl ?_
  refine own_aload X114 hx (pc' := 334) (hb hby at_332) rfl rfl rfl ?_
  have Vf : Arv Z T114.heap b1 k1 .byte (12 : Int32) [.int (own_f p0 p1 P K 0), .int (own_f p0 p1 P K 1), .int (own_f p0 p1 P K 2), .int (own_f p0 p1 P K 3), .int (own_f p0 p1 P K 4), .int (own_f p0 p1 P K 5), .int (own_f p0 p1 P K 6), .int (own_f p0 p1 P K 7), .int (own_f p0 p1 P K 8), .int (own_f p0 p1 P K 9), .int (own_f p0 p1 P K 10), .int (own_f p0 p1 P K 11)] (.int (0 : Int32)) := F117
  refine own_callV X114 hx (pc' := 337) hZ hown (Wd26 hw) (Wd28 hw) (Wd29 hw) (Wd30 hw) (Wd15 hw) (by decide) (rm_rd l Z a0 hw [] b108 b1 k1 P K (own_f p0 p1 P K) (own_g p0 p1 P) T114.heap n0 Z116 ge_b108 hP2 ⟨hK1, hK2⟩ (fun j hj => own_fmid p0 p1 hP2 hK2 hj) (fun j hj => own_fend p0 p1 hP2 hK2 hj) F118 Gb114 Gp114 Vf) rfl F118 0 (by decide) (by decide) (by decide) (by decide) [] [] (by rw [hml]; rfl) (lenOf pd_4 rfl) rfl rfl (Nat.le_of_eq rfl) (hb hby at_334) rfl (fun v119 T119 L119 X119 hQ119 => ?_)
  obtain ⟨rfl, Nq119, K119, Gp119⟩ := hQ119
  have N120 := Fr.app N115 Nq119
  have Z121 : n0 ≤ T119.heap.size := Nat.le_trans Z116 K119.1
  have F122 := (F117.keep K119 (ninS ne_b1_b108_109 nin0))
  have F123 := (Exa.keep F118 K119)
  have hwant : own_acc (own_g p0 p1 P) K = ((((((((((own_tm p0 p1 (Int32.ofNat P) (Int32.ofNat K) (0 : Int32)) ||| (own_tm p0 p1 (Int32.ofNat P) (Int32.ofNat K) (1 : Int32))) ||| (own_tm p0 p1 (Int32.ofNat P) (Int32.ofNat K) (2 : Int32))) ||| (own_tm p0 p1 (Int32.ofNat P) (Int32.ofNat K) (3 : Int32))) ||| (own_tm p0 p1 (Int32.ofNat P) (Int32.ofNat K) (4 : Int32))) ||| (own_tm p0 p1 (Int32.ofNat P) (Int32.ofNat K) (5 : Int32))) ||| (own_tm p0 p1 (Int32.ofNat P) (Int32.ofNat K) (6 : Int32))) ||| (own_tm p0 p1 (Int32.ofNat P) (Int32.ofNat K) (7 : Int32))) ||| (own_tm p0 p1 (Int32.ofNat P) (Int32.ofNat K) (8 : Int32))) ||| (own_tm p0 p1 (Int32.ofNat P) (Int32.ofNat K) (9 : Int32))) := (own_want p0 p1 hK1 hK2).symm
  show own_G p.tables e below _ T119 (mkF m 337 #[.val (.long p0), .second, .val (.long p1), .second, .val (.int p2), .val (.int p3), .val (.int (Int32.ofNat K)), .val (.int (Int32.ofNat P)), .val (.ref b1), .val (.long ((((((((((own_tm p0 p1 (Int32.ofNat P) (Int32.ofNat K) (0 : Int32)) ||| (own_tm p0 p1 (Int32.ofNat P) (Int32.ofNat K) (1 : Int32))) ||| (own_tm p0 p1 (Int32.ofNat P) (Int32.ofNat K) (2 : Int32))) ||| (own_tm p0 p1 (Int32.ofNat P) (Int32.ofNat K) (3 : Int32))) ||| (own_tm p0 p1 (Int32.ofNat P) (Int32.ofNat K) (4 : Int32))) ||| (own_tm p0 p1 (Int32.ofNat P) (Int32.ofNat K) (5 : Int32))) ||| (own_tm p0 p1 (Int32.ofNat P) (Int32.ofNat K) (6 : Int32))) ||| (own_tm p0 p1 (Int32.ofNat P) (Int32.ofNat K) (7 : Int32))) ||| (own_tm p0 p1 (Int32.ofNat P) (Int32.ofNat K) (8 : Int32))) ||| (own_tm p0 p1 (Int32.ofNat P) (Int32.ofNat K) (9 : Int32)))), .second, .val (.ref b108), .unset, .unset] [(.long (own_acc (own_g p0 p1 P) K))])
  refine own_lstore X119 hx (pc' := 339) (Ls' := #[.val (.long p0), .second, .val (.long p1), .second, .val (.int p2), .val (.int p3), .val (.int (Int32.ofNat K)), .val (.int (Int32.ofNat P)), .val (.ref b1), .val (.long ((((((((((own_tm p0 p1 (Int32.ofNat P) (Int32.ofNat K) (0 : Int32)) ||| (own_tm p0 p1 (Int32.ofNat P) (Int32.ofNat K) (1 : Int32))) ||| (own_tm p0 p1 (Int32.ofNat P) (Int32.ofNat K) (2 : Int32))) ||| (own_tm p0 p1 (Int32.ofNat P) (Int32.ofNat K) (3 : Int32))) ||| (own_tm p0 p1 (Int32.ofNat P) (Int32.ofNat K) (4 : Int32))) ||| (own_tm p0 p1 (Int32.ofNat P) (Int32.ofNat K) (5 : Int32))) ||| (own_tm p0 p1 (Int32.ofNat P) (Int32.ofNat K) (6 : Int32))) ||| (own_tm p0 p1 (Int32.ofNat P) (Int32.ofNat K) (7 : Int32))) ||| (own_tm p0 p1 (Int32.ofNat P) (Int32.ofNat K) (8 : Int32))) ||| (own_tm p0 p1 (Int32.ofNat P) (Int32.ofNat K) (9 : Int32)))), .second, .val (.ref b108), .val (.long (own_acc (own_g p0 p1 P) K)), .second]) (hb hby at_337) rfl rfl ?_
  refine own_lload X119 hx (pc' := 341) (hb hby at_339) rfl rfl ?_
  refine own_lload X119 hx (pc' := 343) (hb hby at_341) rfl rfl ?_
  refine own_lcmp X119 hx (pc' := 344) (hb hby at_343) rfl ?_
  refine own_ifNo X119 hx (pc' := 347) (hb hby at_344) (teq ((lw_eq (own_acc (own_g p0 p1 P) K) ((((((((((own_tm p0 p1 (Int32.ofNat P) (Int32.ofNat K) (0 : Int32)) ||| (own_tm p0 p1 (Int32.ofNat P) (Int32.ofNat K) (1 : Int32))) ||| (own_tm p0 p1 (Int32.ofNat P) (Int32.ofNat K) (2 : Int32))) ||| (own_tm p0 p1 (Int32.ofNat P) (Int32.ofNat K) (3 : Int32))) ||| (own_tm p0 p1 (Int32.ofNat P) (Int32.ofNat K) (4 : Int32))) ||| (own_tm p0 p1 (Int32.ofNat P) (Int32.ofNat K) (5 : Int32))) ||| (own_tm p0 p1 (Int32.ofNat P) (Int32.ofNat K) (6 : Int32))) ||| (own_tm p0 p1 (Int32.ofNat P) (Int32.ofNat K) (7 : Int32))) ||| (own_tm p0 p1 (Int32.ofNat P) (Int32.ofNat K) (8 : Int32))) ||| (own_tm p0 p1 (Int32.ofNat P) (Int32.ofNat K) (9 : Int32)))).mpr hwant)).2 rfl ?_
  refine own_aload X119 hx (pc' := 349) (hb hby at_347) rfl rfl rfl ?_
  refine own_callV X119 hx (pc' := 352) hZ hown (Wd31 hw) (Wd33 hw) (Wd34 hw) (Wd35 hw) (Wd15 hw) (by decide) (rm_pos l Z a0 hw [] b108 (Int32.ofNat (P + K)) T119.heap n0 Z121 Gp119) rfl F123 0 (by decide) (by decide) (by decide) (by decide) [] [] (by rw [hml]; rfl) (lenOf pd_5 rfl) rfl rfl (Nat.le_of_eq rfl) (hb hby at_349) rfl (fun v124 T124 L124 X124 hQ124 => ?_)
  obtain ⟨rfl, Nq124, e124⟩ := hQ124
  have N125 := Fr.app N120 Nq124
  show own_G p.tables e below _ T124 (mkF m 352 #[.val (.long p0), .second, .val (.long p1), .second, .val (.int p2), .val (.int p3), .val (.int (Int32.ofNat K)), .val (.int (Int32.ofNat P)), .val (.ref b1), .val (.long ((((((((((own_tm p0 p1 (Int32.ofNat P) (Int32.ofNat K) (0 : Int32)) ||| (own_tm p0 p1 (Int32.ofNat P) (Int32.ofNat K) (1 : Int32))) ||| (own_tm p0 p1 (Int32.ofNat P) (Int32.ofNat K) (2 : Int32))) ||| (own_tm p0 p1 (Int32.ofNat P) (Int32.ofNat K) (3 : Int32))) ||| (own_tm p0 p1 (Int32.ofNat P) (Int32.ofNat K) (4 : Int32))) ||| (own_tm p0 p1 (Int32.ofNat P) (Int32.ofNat K) (5 : Int32))) ||| (own_tm p0 p1 (Int32.ofNat P) (Int32.ofNat K) (6 : Int32))) ||| (own_tm p0 p1 (Int32.ofNat P) (Int32.ofNat K) (7 : Int32))) ||| (own_tm p0 p1 (Int32.ofNat P) (Int32.ofNat K) (8 : Int32))) ||| (own_tm p0 p1 (Int32.ofNat P) (Int32.ofNat K) (9 : Int32)))), .second, .val (.ref b108), .val (.long (own_acc (own_g p0 p1 P) K)), .second] [(.int (Int32.ofNat (P + K)))])
  have hpk : Int32.ofNat (P + K) = (Int32.ofNat P) + (Int32.ofNat K) := Int32.ofNat_add P K
  refine own_iload X124 hx (pc' := 354) (hb hby at_352) rfl rfl ?_
  refine own_iload X124 hx (pc' := 356) (hb hby at_354) rfl rfl ?_
  refine own_iadd X124 hx (pc' := 357) (hb hby at_356) rfl rfl ?_
  refine own_icmpNo X124 hx (pc' := 360) (hb hby at_357) (teq hpk).2 rfl ?_
  refine own_iconst X124 hx (pc' := 361) (1 : Int32) (hb hby at_360) rfl rfl ?_
  refine own_goto X124 hx (pc' := 365) (hb hby at_361) (by decide) (by decide) ?_
  refine own_retN X124 hx hlk hret (by simp) (hb hby at_365) (by decide) (by decide) ?_
  exact ⟨rfl, N125⟩

set_option maxRecDepth 65536 in
set_option maxHeartbeats 40000000 in
theorem comes_1 {Post : Tables → Env → Array Value → State → Outcome → State → Prop} (hpost : ∀ tb e args s v u, (limb_1_1.after args s (.returned v) u = true ∧ limb_1_2.after args s (.returned v) u = true ∧ True) → FrameEnd s (.returned v) u (Jvm.fieldLocs frame_1_writes args s ++ Jvm.arrayLocs frame_1_arrays args s ++ Jvm.staticLocs frame_1_statics s) 16 128 → Post tb e args s (.returned v) u) :
    ArmFor flags0 classFile x code maxLocals ret World_1 tables_1 room_1 Calls_1 rest_1 Pre_1 Post := by
  intro l hfl _ _ p e ha hc hk s m args below hf hA hF happ hP
  obtain ⟨hcalls, hrest, hpre⟩ := hP
  obtain ⟨-, -, -, hnamed, -, -, -, hat⟩ := (Spec.applies_iff hf).mp happ
  obtain ⟨hg, hn⟩ := and_e (Cond.before_iff.mp (show (Jvm.Cond.and given_1 narrow_1).before args s = true from hpre))
  obtain ⟨hcnt, hg0⟩ := and_e hg
  obtain ⟨ha0, hg1⟩ := and_e hg0
  obtain ⟨ha1, hg2⟩ := and_e hg1
  obtain ⟨ha2, hg3⟩ := and_e hg2
  obtain ⟨w0, w1, w2, w3, rfl⟩ : ∃ w0 w1 w2 w3 : Value, args = #[w0, w1, w2, w3] := by
    have hs : args.size = 4 := by simpa [Cond.value, given_1] using hcnt
    obtain ⟨L⟩ := args
    match L, hs with
    | [w0, w1, w2, w3], _ => exact ⟨w0, w1, w2, w3, rfl⟩
  have hw := fun d (hd : d ∈ tables_1) => atoms_spec (ws := Jvm.Cond.code x code maxLocals ret :: tables_1) hat d (List.mem_cons_of_mem _ hd)
  have hfit : Fit s := fun {y c} hc i hi => by
    obtain ⟨ha, rfl⟩ := Array.getElem?_eq_some_iff.mp hc
    have q := List.all_eq_true.mp ((Array.all_eq_true_iff_forall_mem.mp hF) _ (Array.getElem_mem ha)) i (List.mem_range.mpr hi)
    simpa [Array.getElem?_eq_getElem hi] using q
  obtain ⟨i0, ei0⟩ := isL_v ha0
  obtain rfl : w0 = (.long i0) := Option.some.inj ei0
  obtain ⟨i1, ei1⟩ := isL_v ha1
  obtain rfl : w1 = (.long i1) := Option.some.inj ei1
  obtain ⟨i2, ei2⟩ := is_v ha2
  obtain rfl : w2 = (.int i2) := Option.some.inj ei2
  obtain ⟨i3, ei3⟩ := is_v hg3
  obtain rfl : w3 = (.int i3) := Option.some.inj ei3
  obtain ⟨n, o, h1, h2, h3, _, L, rfl, ⟨rfl, N⟩, hq⟩ := rm0 l s _ hw tables_1 i0 i1 i2 i3  s.heap s.heap.size (Nat.le_refl _)  p e ha hc hk s m _ below hf ((Spec.applies_iff_loose hf).mp happ).1 ⟨rfl, State.Warmed39.refl s, rfl⟩ trivial
  refine ⟨n, _, h1, h2, h3, hpost _ _ _ _ _ _ ⟨Cond.after_iff.mpr rfl, Cond.after_iff.mpr (eq_i res_at (Term.int_eval (1)) rfl), trivial⟩ ⟨hq.1, hq.2.1, (hq.2.2.sift fun y hy => Or.inr (N y hy)).mono (by decide) (by decide)⟩⟩
theorem main_1_1 : Claimed_1_1 := comes_1 fun _ _ _ _ _ _ h hF => ⟨h.1, hF⟩
theorem main_1_2 : Claimed_1_2 := comes_1 fun _ _ _ _ _ _ h hF => ⟨h.2.1, hF⟩
end Jvm.Pilot.@@N@@
namespace Jvm.Pilot.@@N@@
open Jvm Jvm.ClassFile Sem Op Lib Jvm.Free Jvm.Stand Jvm.Pilot.@@N@@.Jvm.D
/-! MADE BY PROGRAM (witnessworld.py) out of the Statement's table words and the real class files: 9 classes; the members and pool entries that the words name. The judged class is class 1, her method 1. -/
namespace start1
open Jvm.ClassFile
def u (s : String) : CpInfo := .utf8 (stringToUtf16 s)
/-- a pool by its gaps: so many unusable entries, then the entry; so many at the end -/
def gap : Nat → List CpInfo → List CpInfo
  | 0, r => r
  | n + 1, r => .unusable :: gap n r
def poolList (es : List (Nat × CpInfo)) (last : Nat) : List CpInfo := es.foldr (fun e r => gap e.1 (e.2 :: r)) (gap last [])
def pool (es : List (Nat × CpInfo)) (last : Nat) : Array CpInfo := ⟨poolList es last⟩
def fileOf (pool : Array CpInfo) (this : Nat) (attrs : Array Attribute := #[]) (ms : Array MethodInfo := #[]) (fl : Nat := 33) (sup : Nat := 0) (ifs : Array Nat := #[]) (fds : Array FieldInfo := #[]) : ClassFile where
  minorVersion := 0
  majorVersion := 65
  constantPool := pool
  accessFlags := fl
  thisClass := this
  superClass := sup
  interfaces := ifs
  fields := fds
  methods := ms
  attributes := attrs
def plain (name : String) (sup : Option ClassId) : Class where
  name := name
  kind := .ordinary
  loader := none
  accessFlags := 33
  super := sup
  interfaces := #[]
  cf := none
  fields := #[]
  methods := #[]
  instanceTypes := #[]
  staticTypes := #[]
  resolved := #[]
  callSites := []
  init := .initialized
  statics := none
  mirror := none

def pool0 : Array CpInfo := pool [(5, u "<init>"), (0, u "()V"), (1, .class_ 10), (1, u "java/lang/Object")] 113

def k0c0 : Code := { maxStack := 0, maxLocals := 1, code := object_method_1_code, exceptionTable := #[], attributes := #[] }
def k0m0 : Method := { name := "<init>", desc := "()V", sig := { parameters := [], returnType := none }, accessFlags := 1, code := some k0c0 }
/-- java/lang/Object -/
def k0 : Class := { plain "java/lang/Object" none with
  accessFlags := 33
  interfaces := #[]
  cf := some (fileOf pool0 8 #[] #[{ accessFlags := 1, nameIndex := 5, descriptorIndex := 6, attributes := #[] }] 33 0 #[] #[])
  fields := #[]
  methods := #[k0m0]
  instanceTypes := #[]
  staticTypes := #[]
  resolved := Array.replicate 124 none
  statics := none }

def pool1 : Array CpInfo := pool [(2, .class_ 4), (1, u "java/lang/Object"), (0, u "<init>"), (0, u "()V"), (0, .integer 2147483647), (0, .methodref 9 10), (0, .class_ 11), (0, .nameAndType 12 13), (0, u "com/example/mixed_likelihood/mixedlikelihood/index/InputReadNumberPinLaw"), (0, u "shaped"), (0, u "(JJIII)B"), (0, .methodref 9 15), (0, .nameAndType 16 17), (0, u "term"), (0, u "(JJIII)J"), (0, .class_ 19), (0, u "com/example/mixed_likelihood/mixedlikelihood/index/IndexFormat$Input"), (0, .methodref 18 21), (0, .nameAndType 5 22), (0, u "([BI)V"), (0, .methodref 18 24), (0, .nameAndType 25 26), (0, u "readNumber"), (0, u "()J"), (0, .methodref 18 28), (0, .nameAndType 29 30), (0, u "position"), (0, u "()I"), (0, .long 255), (1, .methodref 9 34), (0, .nameAndType 35 36), (0, u "raw"), (0, u "(JJI)I"), (2, u "law"), (0, u "(JJII)Z")] 9

def k1m0 : Method := { name := "<init>", desc := "()V", sig := { parameters := [], returnType := none }, accessFlags := 2, code := none }
def k1c1 : Code := { maxStack := 9, maxLocals := 14, code := code, exceptionTable := #[], attributes := #[] }
def k1m1 : Method := { name := "law", desc := "(JJII)Z", sig := { parameters := [.long, .long, .int, .int], returnType := some .boolean }, accessFlags := 9, code := some k1c1 }
def k1c2 : Code := { maxStack := 5, maxLocals := 5, code := method_3_code, exceptionTable := #[], attributes := #[] }
def k1m2 : Method := { name := "raw", desc := "(JJI)I", sig := { parameters := [.long, .long, .int], returnType := some .int }, accessFlags := 10, code := some k1c2 }
def k1c3 : Code := { maxStack := 5, maxLocals := 9, code := method_4_code, exceptionTable := #[], attributes := #[] }
def k1m3 : Method := { name := "shaped", desc := "(JJIII)B", sig := { parameters := [.long, .long, .int, .int, .int], returnType := some .byte }, accessFlags := 10, code := some k1c3 }
def k1c4 : Code := { maxStack := 6, maxLocals := 7, code := method_5_code, exceptionTable := #[], attributes := #[] }
def k1m4 : Method := { name := "term", desc := "(JJIII)J", sig := { parameters := [.long, .long, .int, .int, .int], returnType := some .long }, accessFlags := 10, code := some k1c4 }
/-- com/example/mixed_likelihood/mixedlikelihood/index/InputReadNumberPinLaw -/
def k1 : Class := { plain "com/example/mixed_likelihood/mixedlikelihood/index/InputReadNumberPinLaw" (some 0) with
  accessFlags := 49
  interfaces := #[]
  cf := some (fileOf pool1 9 #[] #[{ accessFlags := 2, nameIndex := 5, descriptorIndex := 6, attributes := #[] }, { accessFlags := 9, nameIndex := 39, descriptorIndex := 40, attributes := #[] }, { accessFlags := 10, nameIndex := 35, descriptorIndex := 36, attributes := #[] }, { accessFlags := 10, nameIndex := 12, descriptorIndex := 13, attributes := #[] }, { accessFlags := 10, nameIndex := 16, descriptorIndex := 17, attributes := #[] }] 49 2 #[] #[])
  fields := #[]
  methods := #[k1m0, k1m1, k1m2, k1m3, k1m4]
  instanceTypes := #[]
  staticTypes := #[]
  resolved := Array.replicate 50 none
  statics := none }

def pool2 : Array CpInfo := pool [(1, .methodref 2 3), (0, .class_ 4), (0, .nameAndType 5 6), (0, u "java/lang/Object"), (0, u "<init>"), (0, u "()V"), (0, .fieldref 8 9), (0, .class_ 10), (0, .nameAndType 11 12), (0, u "com/example/mixed_likelihood/mixedlikelihood/index/IndexFormat$Input"), (0, u "bytes"), (0, u "[B"), (0, .fieldref 8 14), (0, .nameAndType 15 16), (0, u "position"), (0, u "I"), (2, u "readNumber"), (0, u "()J"), (11, u "([BI)V"), (2, u "()I"), (6, .class_ 43), (0, u "com/example/mixed_likelihood/mixedlikelihood/index/IndexFormat")] 2

def k2c0 : Code := { maxStack := 2, maxLocals := 3, code := prog_15_method_1_code, exceptionTable := #[], attributes := #[] }
def k2m0 : Method := { name := "<init>", desc := "([BI)V", sig := { parameters := [(.array .byte), .int], returnType := none }, accessFlags := 0, code := some k2c0 }
def k2c1 : Code := { maxStack := 1, maxLocals := 1, code := prog_15_method_2_code, exceptionTable := #[], attributes := #[] }
def k2m1 : Method := { name := "position", desc := "()I", sig := { parameters := [], returnType := some .int }, accessFlags := 0, code := some k2c1 }
def k2c2 : Code := { maxStack := 5, maxLocals := 5, code := prog_15_method_3_code, exceptionTable := #[], attributes := #[] }
def k2m2 : Method := { name := "readNumber", desc := "()J", sig := { parameters := [], returnType := some .long }, accessFlags := 0, code := some k2c2 }
/-- com/example/mixed_likelihood/mixedlikelihood/index/IndexFormat$Input -/
def k2 : Class := { plain "com/example/mixed_likelihood/mixedlikelihood/index/IndexFormat$Input" (some 0) with
  accessFlags := 48
  interfaces := #[]
  cf := some (fileOf pool2 8 #[.nestHost 42] #[{ accessFlags := 0, nameIndex := 5, descriptorIndex := 32, attributes := #[] }, { accessFlags := 0, nameIndex := 15, descriptorIndex := 35, attributes := #[] }, { accessFlags := 0, nameIndex := 19, descriptorIndex := 20, attributes := #[] }] 48 2 #[] #[{ accessFlags := 18, nameIndex := 11, descriptorIndex := 12, attributes := #[] }, { accessFlags := 2, nameIndex := 15, descriptorIndex := 16, attributes := #[] }])
  fields := #[{ name := "bytes", type := (.array .byte), accessFlags := 18, slot := 0, constantValue := 0 }, { name := "position", type := .int, accessFlags := 2, slot := 1, constantValue := 0 }]
  methods := #[k2m0, k2m1, k2m2]
  instanceTypes := #[(.array .byte), .int]
  staticTypes := #[]
  resolved := Array.replicate 46 none
  statics := none }

def pool3 : Array CpInfo := pool [(1, u "java/lang/Cloneable"), (0, .class_ 1), (0, u "java/lang/Object"), (0, .class_ 3)] 3

/-- java/lang/Cloneable -/
def k3 : Class := { plain "java/lang/Cloneable" (some 0) with
  accessFlags := 1537
  interfaces := #[]
  cf := some (fileOf pool3 2 #[] #[] 1537 4 #[] #[])
  fields := #[]
  methods := #[]
  instanceTypes := #[]
  staticTypes := #[]
  resolved := Array.replicate 8 none
  statics := none }

def pool4 : Array CpInfo := pool [(1, u "java/io/Serializable"), (0, .class_ 1), (0, u "java/lang/Object"), (0, .class_ 3)] 3

/-- java/io/Serializable -/
def k4 : Class := { plain "java/io/Serializable" (some 0) with
  accessFlags := 1537
  interfaces := #[]
  cf := some (fileOf pool4 2 #[] #[] 1537 4 #[] #[])
  fields := #[]
  methods := #[]
  instanceTypes := #[]
  staticTypes := #[]
  resolved := Array.replicate 8 none
  statics := none }

/-- the primitive byte -/
def k5 : Class := { plain "byte" none with kind := .primitive 'B', accessFlags := 0x411 }
/-- [B -/
def k6 : Class := { plain "[B" (some 0) with kind := .array 5 .byte, interfaces := #[3, 4], accessFlags := 1041 }

/-- the primitive int -/
def k7 : Class := { plain "int" none with kind := .primitive 'I', accessFlags := 0x411 }
/-- [I -/
def k8 : Class := { plain "[I" (some 0) with kind := .array 7 .int, interfaces := #[3, 4], accessFlags := 1041 }

def heap : Heap := #[]
def classes : Array Class := #[k0, k1, k2, k3, k4, k5, k6, k7, k8]
def interned : List (Array UInt16 × Addr) := []
def slotsUsed : Nat := 0
def theMethod : MethodId := ⟨1, 1⟩
def args0 : Array Value := #[.long 5, .long 2, .int 7, .int 1]
def aboutOver (below : List Frame) : State where
  vm := { classes := classes, interned := interned.toArray }
  heap := heap
  slotsUsed := slotsUsed
  threads := #[{ frames := .invoking theMethod args0 :: below }]
def below0 : List Frame := [.native { method := ⟨0, 0⟩, args := #[] }]
def about1 : State := aboutOver below0
def p0 : Program := .bare "" "" ""
def e0 : Env := launch0.env 0 0 0
theorem w_frames : about1.frames = Frame.invoking theMethod args0 :: below0 := rfl
set_option maxRecDepth 65536 in
theorem w_args : argsFit about1.vm theMethod args0 = true := by decide +kernel
set_option maxRecDepth 65536 in
theorem w_heap : heapFits about1 = true := by decide +kernel
set_option maxRecDepth 65536 in
theorem w_runnable : about1.curStatus? = some .runnable := by decide +kernel
set_option maxRecDepth 65536 in
theorem w_alone : about1.alone = true := by decide +kernel
set_option maxRecDepth 65536 in
theorem w_named : about1.methodNamed? x = some theMethod := by decide +kernel
set_option maxRecDepth 65536 in
theorem w_hears : about1.hears theMethod below0 = true := by decide +kernel
set_option maxRecDepth 65536 in
theorem w_ripe : about1.ripe theMethod args0 below0 = true := by decide +kernel
theorem w_running : about1.status = .running := rfl
set_option maxRecDepth 65536 in
theorem w_room : about1.hasRoom e0.platform room_1 = true :=
  launch0.hasRoom_least _ room_1 (by decide +kernel) (by decide +kernel) (by decide +kernel) (by decide +kernel) (by decide +kernel) (by decide +kernel)
theorem allAtoms_all (ts : List Jvm.Cond) (a : Array Jvm.Value) (st : Jvm.State) : (allAtoms ts).before a st = ts.all (fun c => c.before a st) := by
  induction ts with
  | nil => rfl
  | cons c t ih =>
    show (Jvm.Cond.and c (allAtoms t)).before a st = _
    rw [Jvm.Cond.before_and, ih, List.all_cons]
def words1 : List Jvm.Cond := Jvm.Cond.code x code maxLocals ret :: tables_1
/-- a 'code' word, met by the world's own term for the bytes: nothing is compared byte by byte -/
theorem code_word {y : MethodName} {bytes : ByteArray} {mx : Nat} {rt : Option FieldType} {a : Array Value} {s : State} {m : MethodId} {meth : Method} {c : Code} (h1 : s.methodNamed? y = some m) (h2 : s.vm.method? m = some meth) (h3 : meth.code = some c) (h4 : c.code = bytes)
    (h5 : (c.maxLocals == mx && c.exceptionTable.isEmpty && decide (c.maxStack ≤ mostOperands) && decide (meth.sig.returnType = rt) && !meth.locks && decide (parseMethodDescriptor y.desc = some meth.sig)) = true) : (Jvm.Cond.code y bytes mx rt).before a s = true := by
  simp only [Bool.and_eq_true, beq_iff_eq, Bool.not_eq_true', decide_eq_true_eq] at h5
  obtain ⟨⟨⟨⟨⟨g1, g2⟩, g3⟩, g4⟩, g5⟩, g6⟩ := h5
  simp [Cond.before, Cond.holds, Cond.value, h1, h2, h3, h4, g1, g2, g3, g4, g5, g6]
def isCode : Jvm.Cond → Bool
  | .code _ _ _ _ => true
  | _ => false
theorem all_split {L : List Jvm.Cond} {P : Jvm.Cond → Bool} (h1 : L.all (fun c => isCode c || P c) = true) (h2 : ∀ c ∈ L.filter isCode, P c = true) : L.all P = true := by
  refine List.all_eq_true.mpr fun c hc => ?_
  have h := List.all_eq_true.mp h1 c hc
  rcases Bool.eq_false_or_eq_true (isCode c) with hi | hi
  · exact h2 c (List.mem_filter.mpr ⟨hc, hi⟩)
  · simpa [hi] using h
set_option maxRecDepth 65536 in
theorem w_c0 : (Jvm.Cond.code x code maxLocals ret).before args0 about1 = true := code_word (m := ⟨1, 1⟩) (meth := k1m1) (c := k1c1) (by decide +kernel) rfl rfl rfl (by decide +kernel)
set_option maxRecDepth 65536 in
theorem w_c1 : (Jvm.Cond.code ({ cls := "com/example/mixed_likelihood/mixedlikelihood/index/InputReadNumberPinLaw", name := "shaped", desc := "(JJIII)B" } : Jvm.MethodName) method_4_code (9 : Nat) (Option.some Jvm.ClassFile.FieldType.byte)).before args0 about1 = true := code_word (m := ⟨1, 3⟩) (meth := k1m3) (c := k1c3) (by decide +kernel) rfl rfl rfl (by decide +kernel)
set_option maxRecDepth 65536 in
theorem w_c2 : (Jvm.Cond.code ({ cls := "com/example/mixed_likelihood/mixedlikelihood/index/InputReadNumberPinLaw", name := "raw", desc := "(JJI)I" } : Jvm.MethodName) method_3_code (5 : Nat) (Option.some Jvm.ClassFile.FieldType.int)).before args0 about1 = true := code_word (m := ⟨1, 2⟩) (meth := k1m2) (c := k1c2) (by decide +kernel) rfl rfl rfl (by decide +kernel)
set_option maxRecDepth 65536 in
theorem w_c3 : (Jvm.Cond.code ({ cls := "com/example/mixed_likelihood/mixedlikelihood/index/InputReadNumberPinLaw", name := "term", desc := "(JJIII)J" } : Jvm.MethodName) method_5_code (7 : Nat) (Option.some Jvm.ClassFile.FieldType.long)).before args0 about1 = true := code_word (m := ⟨1, 4⟩) (meth := k1m4) (c := k1c4) (by decide +kernel) rfl rfl rfl (by decide +kernel)
set_option maxRecDepth 65536 in
theorem w_c4 : (Jvm.Cond.code ({ cls := "com/example/mixed_likelihood/mixedlikelihood/index/IndexFormat$Input", name := "<init>", desc := "([BI)V" } : Jvm.MethodName) prog_15_method_1_code (3 : Nat) (Option.none : Option Jvm.ClassFile.FieldType)).before args0 about1 = true := code_word (m := ⟨2, 0⟩) (meth := k2m0) (c := k2c0) (by decide +kernel) rfl rfl rfl (by decide +kernel)
set_option maxRecDepth 65536 in
theorem w_c5 : (Jvm.Cond.code ({ cls := "java/lang/Object", name := "<init>", desc := "()V" } : Jvm.MethodName) object_method_1_code (1 : Nat) (Option.none : Option Jvm.ClassFile.FieldType)).before args0 about1 = true := code_word (m := ⟨0, 0⟩) (meth := k0m0) (c := k0c0) (by decide +kernel) rfl rfl rfl (by decide +kernel)
set_option maxRecDepth 65536 in
theorem w_c6 : (Jvm.Cond.code ({ cls := "com/example/mixed_likelihood/mixedlikelihood/index/IndexFormat$Input", name := "readNumber", desc := "()J" } : Jvm.MethodName) prog_15_method_3_code (5 : Nat) (Option.some Jvm.ClassFile.FieldType.long)).before args0 about1 = true := code_word (m := ⟨2, 2⟩) (meth := k2m2) (c := k2c2) (by decide +kernel) rfl rfl rfl (by decide +kernel)
set_option maxRecDepth 65536 in
theorem w_c7 : (Jvm.Cond.code ({ cls := "com/example/mixed_likelihood/mixedlikelihood/index/IndexFormat$Input", name := "position", desc := "()I" } : Jvm.MethodName) prog_15_method_2_code (1 : Nat) (Option.some Jvm.ClassFile.FieldType.int)).before args0 about1 = true := code_word (m := ⟨2, 1⟩) (meth := k2m1) (c := k2c1) (by decide +kernel) rfl rfl rfl (by decide +kernel)
def codes1 : List Jvm.Cond := [Jvm.Cond.code x code maxLocals ret, Jvm.Cond.code ({ cls := "com/example/mixed_likelihood/mixedlikelihood/index/InputReadNumberPinLaw", name := "shaped", desc := "(JJIII)B" } : Jvm.MethodName) method_4_code (9 : Nat) (Option.some Jvm.ClassFile.FieldType.byte), Jvm.Cond.code ({ cls := "com/example/mixed_likelihood/mixedlikelihood/index/InputReadNumberPinLaw", name := "raw", desc := "(JJI)I" } : Jvm.MethodName) method_3_code (5 : Nat) (Option.some Jvm.ClassFile.FieldType.int), Jvm.Cond.code ({ cls := "com/example/mixed_likelihood/mixedlikelihood/index/InputReadNumberPinLaw", name := "term", desc := "(JJIII)J" } : Jvm.MethodName) method_5_code (7 : Nat) (Option.some Jvm.ClassFile.FieldType.long), Jvm.Cond.code ({ cls := "com/example/mixed_likelihood/mixedlikelihood/index/IndexFormat$Input", name := "<init>", desc := "([BI)V" } : Jvm.MethodName) prog_15_method_1_code (3 : Nat) (Option.none : Option Jvm.ClassFile.FieldType), Jvm.Cond.code ({ cls := "java/lang/Object", name := "<init>", desc := "()V" } : Jvm.MethodName) object_method_1_code (1 : Nat) (Option.none : Option Jvm.ClassFile.FieldType), Jvm.Cond.code ({ cls := "com/example/mixed_likelihood/mixedlikelihood/index/IndexFormat$Input", name := "readNumber", desc := "()J" } : Jvm.MethodName) prog_15_method_3_code (5 : Nat) (Option.some Jvm.ClassFile.FieldType.long), Jvm.Cond.code ({ cls := "com/example/mixed_likelihood/mixedlikelihood/index/IndexFormat$Input", name := "position", desc := "()I" } : Jvm.MethodName) prog_15_method_2_code (1 : Nat) (Option.some Jvm.ClassFile.FieldType.int)]
set_option maxRecDepth 65536 in
theorem codes_eq : words1.filter isCode = codes1 := rfl
theorem w_codes : ∀ c ∈ words1.filter isCode, c.before args0 about1 = true := by
  rw [codes_eq]
  intro c hc
  simp only [codes1, List.mem_cons, List.not_mem_nil, or_false] at hc
  rcases hc with rfl | rfl | rfl | rfl | rfl | rfl | rfl | rfl
  · exact w_c0
  · exact w_c1
  · exact w_c2
  · exact w_c3
  · exact w_c4
  · exact w_c5
  · exact w_c6
  · exact w_c7
set_option maxRecDepth 65536 in
theorem w_t1 : (words1.take 24).all (fun c => isCode c || c.before args0 about1) = true := by decide +kernel
set_option maxRecDepth 65536 in
theorem w_t2 : (words1.drop 24).all (fun c => isCode c || c.before args0 about1) = true := by decide +kernel
theorem w_tables : (allAtoms (Jvm.Cond.code x code maxLocals ret :: tables_1)).before args0 about1 = true := by
  rw [allAtoms_all]
  show words1.all (fun c => c.before args0 about1) = true
  refine all_split ?_ w_codes
  rw [← List.take_append_drop 24 words1, List.all_append, w_t1, w_t2]
  rfl
set_option maxRecDepth 65536 in
theorem w_case : (Jvm.Cond.and given_1 narrow_1).before args0 about1 = true := by decide +kernel
theorem w_applies : (headSpec (Jvm.Cond.code x code maxLocals ret :: tables_1) room_1).applies x e0.platform about1 = true :=
  (Spec.applies_iff w_frames).mpr ⟨w_running, w_runnable, w_alone, w_named, w_hears, w_ripe, w_room, w_tables⟩
theorem atStart : AtStart classFile x code maxLocals ret World_1 tables_1 room_1 Calls_1 rest_1 Pre_1 launch0 p0 e0 about1 theMethod args0 below0 :=
  ⟨lists_1, trivial, launch0.admits_env _ _ _, launch0.least_env, fairChoices_fair.cas, fairChoices_fair.clock, w_frames, w_args, w_heap, w_applies, trivial, trivial, w_case⟩
end start1
theorem witness_1 : WitnessClaimed_1 := ⟨start1.p0, start1.e0, start1.about1, start1.theMethod, start1.args0, start1.below0, start1.atStart⟩
end Jvm.Pilot.@@N@@
