import JvmDerived
import JvmDerived.Pilot.@@N@@Statement
import JvmDerived.Pilot.@@N@@Code
set_option linter.unusedVariables false
set_option linter.unusedSimpArgs false
namespace Jvm.Pilot.@@N@@
open Jvm Jvm.ClassFile Sem Op Lib Jvm.Free Jvm.Stand Jvm.LawKit Jvm.RoadKit Bundle Jvm.Pilot.@@N@@.Jvm.D
/-! own kit: the walk in program order: own_G says that from this frame on the run ends as promised -/
def own_G (tb : Tables) (e : Env) (below : List Frame) (P : Outcome → State → Prop) (T : State) (f : JFrame) : Prop :=
  ∃ s₂ o, Steps tb e below (T.setTop f) s₂ ∧ s₂.status = .running ∧ Ended s₂ below o ∧ P o s₂
def own_P (s : State) (Q : Option Value → Heap → List Loc → Prop) (C S : Nat) (o : Outcome) (U : State) : Prop :=
  ∃ v L, o = .returned v ∧ Q v U.heap L ∧ FrameEnd s o U L C S
theorem own_go {tb : Tables} {e : Env} {below : List Frame} {P : Outcome → State → Prop} {T T' : State} {f f' : JFrame} (st : ∀ target, Steps tb e below (T'.setTop f') target → Steps tb e below (T.setTop f) target) (k : own_G tb e below P T' f') : own_G tb e below P T f := by
  obtain ⟨s₂, o, h1, h2⟩ := k
  exact ⟨s₂, o, st _ h1, h2⟩
section OwnKit
variable {p : Program} {l : Launch} {e : Env} {R : Room} {s : State} {m : MethodId} {args : Array Value} {below : List Frame} {meth : Method} {c : Code} {T : State} {locs : List Loc} {cells slots : Nat} {Z : State} {a0 : Array Value} {h : Heap} {P : Outcome → State → Prop}
theorem own_body {y : MethodName} {bytes : ByteArray} {maxL : Nat} {ret : Option FieldType} {ws : List Jvm.Cond} {rm : Room} {as' : Array Value} {Q : Option Value → Heap → List Loc → Prop} {C S : Nat} (pn : plainFor y = true)
    (body : ∀ p e s m below meth c s₁, p.tables.exec = Jvm.exec → c.code = bytes → c.maxLocals = maxL → s.vm.findClass y.cls = some m.cls → meth.name = y.name → meth.locks = false → meth.sig.returnType = ret → Z.Warmed39 s.vm → Stand p l e rm s m as' below meth c s₁ [] 0 0 → s₁.heap = h →
      own_G p.tables e below (own_P s Q C S) s₁ (entryFrame m as' maxL)) :
    MetFree l y (head1 (Jvm.Cond.code y bytes maxL ret :: ws) rm) (fun a U => a = as' ∧ Z.Warmed39 U.vm ∧ U.heap = h) (fun _ _ _ _ _ => True) (fun _ U o U' => ∃ v L, o = .returned v ∧ Q v U'.heap L ∧ FrameEnd U o U' L C S) := by
  refine MetFree.of_bodySF (maxLocals := maxL) (ret := ret) (code := bytes) pn hisR ?_
  intro p e s m args below meth c s₁ Bd hml0 hP hK
  obtain ⟨rfl, hZ, hh⟩ := hP
  exact body p e s m below meth c s₁ Bd.exec Bd.bytes hml0 (findClass_of_methodNamed Bd.named) (name_of_methodNamed Bd.named Bd.method).1 (BodyLoose.notSynchronized Bd) Bd.returns hZ (Stand.of_body Bd) (by rw [← hh, Bd.state]; rfl)
theorem own_ret {v : Option Value} {f : JFrame} {Q : Option Value → Heap → List Loc → Prop} {C S : Nat} (X : Stand p l e R s m args below meth c T locs cells slots) (hlk : meth.locks = false) (hv : meth.sig.returnType = none → v = none)
    (st : ∀ fs, (∀ (f : JFrame) (acts : List Action), f.method = m → f.locked = none → f.entered = [] → (doReturn e (T.setTop f) acts v).1 = T.setFrames fs) → Steps p.tables e below (T.setTop f) (T.setFrames fs)) (hC : cells ≤ C) (hS : slots ≤ S) (hq : Q v T.heap locs) : own_G p.tables e below (own_P s Q C S) T f := by
  obtain ⟨fs, hr, hrun, hended, hW, hsame⟩ := X.leave (v := v) hv hlk
  exact ⟨_, _, st fs hr, hrun, hended, _, _, rfl, hq, ⟨_, rfl⟩, hW, hsame.mono hC hS⟩
theorem own_retN {Q : Option Value → Heap → List Loc → Prop} {C S : Nat} (X : Stand p l e R s m args below meth c T locs cells slots) (hx : p.tables.exec = Jvm.exec) (hlk : meth.locks = false) {t : FieldType} (hret : meth.sig.returnType = some t) (ht : t = .boolean ∨ t = .byte ∨ t = .char ∨ t = .short) {pc : Nat} {Ls : Array Slot} {z : Int32} {rest : List Value} (hd : decode c.code pc = .ok (.ireturn, 1)) (hC : cells ≤ C) (hS : slots ≤ S) (hq : Q (some (.int (nar t z))) T.heap locs) :
    own_G p.tables e below (own_P s Q C S) T (mkF m pc Ls (.int z :: rest)) :=
  own_ret X hlk (fun h => by rw [hret] at h; cases h) (fun fs hr => retN X hx hret ht hd hr) hC hS hq
theorem own_retI {Q : Option Value → Heap → List Loc → Prop} {C S : Nat} (X : Stand p l e R s m args below meth c T locs cells slots) (hx : p.tables.exec = Jvm.exec) (hlk : meth.locks = false) (hret : meth.sig.returnType = some .int) {pc : Nat} {Ls : Array Slot} {z : Int32} {rest : List Value} (hd : decode c.code pc = .ok (.ireturn, 1)) (hC : cells ≤ C) (hS : slots ≤ S) (hq : Q (some (.int z)) T.heap locs) :
    own_G p.tables e below (own_P s Q C S) T (mkF m pc Ls (.int z :: rest)) :=
  own_ret X hlk (fun h => by rw [hret] at h; cases h) (fun fs hr => retOut X hx hret rfl (Or.inl ⟨rfl, Or.inl rfl, z, rfl⟩) hd hr) hC hS hq
theorem own_retJ {Q : Option Value → Heap → List Loc → Prop} {C S : Nat} (X : Stand p l e R s m args below meth c T locs cells slots) (hx : p.tables.exec = Jvm.exec) (hlk : meth.locks = false) (hret : meth.sig.returnType = some .long) {pc : Nat} {Ls : Array Slot} {z : Int64} {rest : List Value} (hd : decode c.code pc = .ok (.lreturn, 1)) (hC : cells ≤ C) (hS : slots ≤ S) (hq : Q (some (.long z)) T.heap locs) :
    own_G p.tables e below (own_P s Q C S) T (mkF m pc Ls (.long z :: rest)) :=
  own_ret X hlk (fun h => by rw [hret] at h; cases h) (fun fs hr => retOut X hx hret rfl (Or.inr (Or.inl ⟨rfl, rfl, z, rfl⟩)) hd hr) hC hS hq
theorem own_retA {Q : Option Value → Heap → List Loc → Prop} {C S : Nat} (X : Stand p l e R s m args below meth c T locs cells slots) (hx : p.tables.exec = Jvm.exec) (hlk : meth.locks = false) {t : FieldType} (hret : meth.sig.returnType = some t) (ht : t.isReference = true) {pc : Nat} {Ls : Array Slot} {w : Value} {rest : List Value} (hw : w.isRef = true) (hn : narrow t w = w) (hd : decode c.code pc = .ok (.areturn, 1)) (hC : cells ≤ C) (hS : slots ≤ S) (hq : Q (some w) T.heap locs) :
    own_G p.tables e below (own_P s Q C S) T (mkF m pc Ls (w :: rest)) :=
  own_ret X hlk (fun h => by rw [hret] at h; cases h) (fun fs hr => retOut X hx hret hn (Or.inr (Or.inr (Or.inr (Or.inr ⟨rfl, ht, hw⟩)))) hd hr) hC hS hq
theorem own_retV {Q : Option Value → Heap → List Loc → Prop} {C S : Nat} (X : Stand p l e R s m args below meth c T locs cells slots) (hx : p.tables.exec = Jvm.exec) (hlk : meth.locks = false) (hret : meth.sig.returnType = none) {pc : Nat} {Ls : Array Slot} (hd : decode c.code pc = .ok (.return_, 1)) (hC : cells ≤ C) (hS : slots ≤ S) (hq : Q none T.heap locs) :
    own_G p.tables e below (own_P s Q C S) T (mkF m pc Ls []) :=
  own_ret X hlk (fun h => rfl) (fun fs hr => X.returnOut hx hret hd hr) hC hS hq
theorem own_iadd (X : Stand p l e R s m args below meth c T locs cells slots) (hx : p.tables.exec = Jvm.exec) {pc pc' : Nat} {Ls : Array Slot} {x y z : Int32} {rest : List Value} (hd : decode c.code pc = .ok (.iadd, 1)) (hz : x + y = z) (hp : pc + 1 = pc') (k : own_G p.tables e below P T (mkF m pc' Ls (.int z :: rest))) : own_G p.tables e below P T (mkF m pc Ls (.int y :: .int x :: rest)) := by
  subst hp; subst hz; exact own_go (fun t q => XS.iadd X.here hx rfl hd rfl q) k
theorem own_isub (X : Stand p l e R s m args below meth c T locs cells slots) (hx : p.tables.exec = Jvm.exec) {pc pc' : Nat} {Ls : Array Slot} {x y z : Int32} {rest : List Value} (hd : decode c.code pc = .ok (.isub, 1)) (hz : x - y = z) (hp : pc + 1 = pc') (k : own_G p.tables e below P T (mkF m pc' Ls (.int z :: rest))) : own_G p.tables e below P T (mkF m pc Ls (.int y :: .int x :: rest)) := by
  subst hp; subst hz; exact own_go (fun t q => XS.isub X.here hx rfl hd rfl q) k
theorem own_imul (X : Stand p l e R s m args below meth c T locs cells slots) (hx : p.tables.exec = Jvm.exec) {pc pc' : Nat} {Ls : Array Slot} {x y z : Int32} {rest : List Value} (hd : decode c.code pc = .ok (.imul, 1)) (hz : x * y = z) (hp : pc + 1 = pc') (k : own_G p.tables e below P T (mkF m pc' Ls (.int z :: rest))) : own_G p.tables e below P T (mkF m pc Ls (.int y :: .int x :: rest)) := by
  subst hp; subst hz; exact own_go (fun t q => XS.imul X.here hx rfl hd rfl q) k
theorem own_iand (X : Stand p l e R s m args below meth c T locs cells slots) (hx : p.tables.exec = Jvm.exec) {pc pc' : Nat} {Ls : Array Slot} {x y z : Int32} {rest : List Value} (hd : decode c.code pc = .ok (.iand, 1)) (hz : x &&& y = z) (hp : pc + 1 = pc') (k : own_G p.tables e below P T (mkF m pc' Ls (.int z :: rest))) : own_G p.tables e below P T (mkF m pc Ls (.int y :: .int x :: rest)) := by
  subst hp; subst hz; exact own_go (fun t q => XS.iand X.here hx rfl hd rfl q) k
theorem own_ior (X : Stand p l e R s m args below meth c T locs cells slots) (hx : p.tables.exec = Jvm.exec) {pc pc' : Nat} {Ls : Array Slot} {x y z : Int32} {rest : List Value} (hd : decode c.code pc = .ok (.ior, 1)) (hz : x ||| y = z) (hp : pc + 1 = pc') (k : own_G p.tables e below P T (mkF m pc' Ls (.int z :: rest))) : own_G p.tables e below P T (mkF m pc Ls (.int y :: .int x :: rest)) := by
  subst hp; subst hz; exact own_go (fun t q => XS.ior X.here hx rfl hd rfl q) k
theorem own_ixor (X : Stand p l e R s m args below meth c T locs cells slots) (hx : p.tables.exec = Jvm.exec) {pc pc' : Nat} {Ls : Array Slot} {x y z : Int32} {rest : List Value} (hd : decode c.code pc = .ok (.ixor, 1)) (hz : x ^^^ y = z) (hp : pc + 1 = pc') (k : own_G p.tables e below P T (mkF m pc' Ls (.int z :: rest))) : own_G p.tables e below P T (mkF m pc Ls (.int y :: .int x :: rest)) := by
  subst hp; subst hz; exact own_go (fun t q => XS.ixor X.here hx rfl hd rfl q) k
theorem own_ladd (X : Stand p l e R s m args below meth c T locs cells slots) (hx : p.tables.exec = Jvm.exec) {pc pc' : Nat} {Ls : Array Slot} {x y z : Int64} {rest : List Value} (hd : decode c.code pc = .ok (.ladd, 1)) (hz : x + y = z) (hp : pc + 1 = pc') (k : own_G p.tables e below P T (mkF m pc' Ls (.long z :: rest))) : own_G p.tables e below P T (mkF m pc Ls (.long y :: .long x :: rest)) := by
  subst hp; subst hz; exact own_go (fun t q => XS.ladd X.here hx rfl hd rfl q) k
theorem own_lsub (X : Stand p l e R s m args below meth c T locs cells slots) (hx : p.tables.exec = Jvm.exec) {pc pc' : Nat} {Ls : Array Slot} {x y z : Int64} {rest : List Value} (hd : decode c.code pc = .ok (.lsub, 1)) (hz : x - y = z) (hp : pc + 1 = pc') (k : own_G p.tables e below P T (mkF m pc' Ls (.long z :: rest))) : own_G p.tables e below P T (mkF m pc Ls (.long y :: .long x :: rest)) := by
  subst hp; subst hz; exact own_go (fun t q => XS.lsub X.here hx rfl hd rfl q) k
theorem own_lmul (X : Stand p l e R s m args below meth c T locs cells slots) (hx : p.tables.exec = Jvm.exec) {pc pc' : Nat} {Ls : Array Slot} {x y z : Int64} {rest : List Value} (hd : decode c.code pc = .ok (.lmul, 1)) (hz : x * y = z) (hp : pc + 1 = pc') (k : own_G p.tables e below P T (mkF m pc' Ls (.long z :: rest))) : own_G p.tables e below P T (mkF m pc Ls (.long y :: .long x :: rest)) := by
  subst hp; subst hz; exact own_go (fun t q => XS.lmul X.here hx rfl hd rfl q) k
theorem own_land (X : Stand p l e R s m args below meth c T locs cells slots) (hx : p.tables.exec = Jvm.exec) {pc pc' : Nat} {Ls : Array Slot} {x y z : Int64} {rest : List Value} (hd : decode c.code pc = .ok (.land, 1)) (hz : x &&& y = z) (hp : pc + 1 = pc') (k : own_G p.tables e below P T (mkF m pc' Ls (.long z :: rest))) : own_G p.tables e below P T (mkF m pc Ls (.long y :: .long x :: rest)) := by
  subst hp; subst hz; exact own_go (fun t q => XS.land X.here hx rfl hd rfl q) k
theorem own_lor (X : Stand p l e R s m args below meth c T locs cells slots) (hx : p.tables.exec = Jvm.exec) {pc pc' : Nat} {Ls : Array Slot} {x y z : Int64} {rest : List Value} (hd : decode c.code pc = .ok (.lor, 1)) (hz : x ||| y = z) (hp : pc + 1 = pc') (k : own_G p.tables e below P T (mkF m pc' Ls (.long z :: rest))) : own_G p.tables e below P T (mkF m pc Ls (.long y :: .long x :: rest)) := by
  subst hp; subst hz; exact own_go (fun t q => XS.lor X.here hx rfl hd rfl q) k
theorem own_lxor (X : Stand p l e R s m args below meth c T locs cells slots) (hx : p.tables.exec = Jvm.exec) {pc pc' : Nat} {Ls : Array Slot} {x y z : Int64} {rest : List Value} (hd : decode c.code pc = .ok (.lxor, 1)) (hz : x ^^^ y = z) (hp : pc + 1 = pc') (k : own_G p.tables e below P T (mkF m pc' Ls (.long z :: rest))) : own_G p.tables e below P T (mkF m pc Ls (.long y :: .long x :: rest)) := by
  subst hp; subst hz; exact own_go (fun t q => XS.lxor X.here hx rfl hd rfl q) k
theorem own_ishl (X : Stand p l e R s m args below meth c T locs cells slots) (hx : p.tables.exec = Jvm.exec) {pc pc' : Nat} {Ls : Array Slot} {x y : Int32} {rest : List Value} (hd : decode c.code pc = .ok (.ishl, 1)) (hp : pc + 1 = pc') (k : own_G p.tables e below P T (mkF m pc' Ls (.int (x <<< (y &&& 31)) :: rest))) : own_G p.tables e below P T (mkF m pc Ls (.int y :: .int x :: rest)) := by
  subst hp; exact own_go (fun t q => XS.ishl X.here hx rfl hd rfl q) k
theorem own_ishr (X : Stand p l e R s m args below meth c T locs cells slots) (hx : p.tables.exec = Jvm.exec) {pc pc' : Nat} {Ls : Array Slot} {x y : Int32} {rest : List Value} (hd : decode c.code pc = .ok (.ishr, 1)) (hp : pc + 1 = pc') (k : own_G p.tables e below P T (mkF m pc' Ls (.int (x >>> (y &&& 31)) :: rest))) : own_G p.tables e below P T (mkF m pc Ls (.int y :: .int x :: rest)) := by
  subst hp; exact own_go (fun t q => XS.ishr X.here hx rfl hd rfl q) k
theorem own_iushr (X : Stand p l e R s m args below meth c T locs cells slots) (hx : p.tables.exec = Jvm.exec) {pc pc' : Nat} {Ls : Array Slot} {x y : Int32} {rest : List Value} (hd : decode c.code pc = .ok (.iushr, 1)) (hp : pc + 1 = pc') (k : own_G p.tables e below P T (mkF m pc' Ls (.int ((x.toUInt32 >>> (y &&& 31).toUInt32).toInt32) :: rest))) : own_G p.tables e below P T (mkF m pc Ls (.int y :: .int x :: rest)) := by
  subst hp; exact own_go (fun t q => XS.iushr X.here hx rfl hd rfl q) k
theorem own_lshl (X : Stand p l e R s m args below meth c T locs cells slots) (hx : p.tables.exec = Jvm.exec) {pc pc' : Nat} {Ls : Array Slot} {x : Int64} {y : Int32} {rest : List Value} (hd : decode c.code pc = .ok (.lshl, 1)) (hp : pc + 1 = pc') (k : own_G p.tables e below P T (mkF m pc' Ls (.long (x <<< (y &&& 0x3f).toInt64) :: rest))) : own_G p.tables e below P T (mkF m pc Ls (.int y :: .long x :: rest)) := by
  subst hp; exact own_go (fun t q => XS.lshl X.here hx rfl hd rfl q) k
theorem own_lshr (X : Stand p l e R s m args below meth c T locs cells slots) (hx : p.tables.exec = Jvm.exec) {pc pc' : Nat} {Ls : Array Slot} {x : Int64} {y : Int32} {rest : List Value} (hd : decode c.code pc = .ok (.lshr, 1)) (hp : pc + 1 = pc') (k : own_G p.tables e below P T (mkF m pc' Ls (.long (x >>> (y &&& 0x3f).toInt64) :: rest))) : own_G p.tables e below P T (mkF m pc Ls (.int y :: .long x :: rest)) := by
  subst hp; exact own_go (fun t q => XS.lshr X.here hx rfl hd rfl q) k
theorem own_lushr (X : Stand p l e R s m args below meth c T locs cells slots) (hx : p.tables.exec = Jvm.exec) {pc pc' : Nat} {Ls : Array Slot} {x : Int64} {y : Int32} {rest : List Value} (hd : decode c.code pc = .ok (.lushr, 1)) (hp : pc + 1 = pc') (k : own_G p.tables e below P T (mkF m pc' Ls (.long ((x.toUInt64 >>> (y &&& 0x3f).toInt64.toUInt64).toInt64) :: rest))) : own_G p.tables e below P T (mkF m pc Ls (.int y :: .long x :: rest)) := by
  subst hp; exact own_go (fun t q => XS.lushr X.here hx rfl hd rfl q) k
theorem own_i2l (X : Stand p l e R s m args below meth c T locs cells slots) (hx : p.tables.exec = Jvm.exec) {pc pc' : Nat} {Ls : Array Slot} {x : Int32} {rest : List Value} (hd : decode c.code pc = .ok (.i2l, 1)) (hp : pc + 1 = pc') (k : own_G p.tables e below P T (mkF m pc' Ls (.long (x.toInt64) :: rest))) : own_G p.tables e below P T (mkF m pc Ls (.int x :: rest)) := by
  subst hp; exact own_go (fun t q => XS.i2l X.here hx rfl hd rfl q) k
theorem own_l2i (X : Stand p l e R s m args below meth c T locs cells slots) (hx : p.tables.exec = Jvm.exec) {pc pc' : Nat} {Ls : Array Slot} {x : Int64} {rest : List Value} (hd : decode c.code pc = .ok (.l2i, 1)) (hp : pc + 1 = pc') (k : own_G p.tables e below P T (mkF m pc' Ls (.int (x.toInt32) :: rest))) : own_G p.tables e below P T (mkF m pc Ls (.long x :: rest)) := by
  subst hp; exact own_go (fun t q => XS.l2i X.here hx rfl hd rfl q) k
theorem own_i2b (X : Stand p l e R s m args below meth c T locs cells slots) (hx : p.tables.exec = Jvm.exec) {pc pc' : Nat} {Ls : Array Slot} {x : Int32} {rest : List Value} (hd : decode c.code pc = .ok (.i2b, 1)) (hp : pc + 1 = pc') (k : own_G p.tables e below P T (mkF m pc' Ls (.int (x.toInt8.toInt32) :: rest))) : own_G p.tables e below P T (mkF m pc Ls (.int x :: rest)) := by
  subst hp; exact own_go (fun t q => XS.i2b X.here hx rfl hd rfl q) k
theorem own_i2s (X : Stand p l e R s m args below meth c T locs cells slots) (hx : p.tables.exec = Jvm.exec) {pc pc' : Nat} {Ls : Array Slot} {x : Int32} {rest : List Value} (hd : decode c.code pc = .ok (.i2s, 1)) (hp : pc + 1 = pc') (k : own_G p.tables e below P T (mkF m pc' Ls (.int (x.toInt16.toInt32) :: rest))) : own_G p.tables e below P T (mkF m pc Ls (.int x :: rest)) := by
  subst hp; exact own_go (fun t q => XS.i2s X.here hx rfl hd rfl q) k
theorem own_i2c (X : Stand p l e R s m args below meth c T locs cells slots) (hx : p.tables.exec = Jvm.exec) {pc pc' : Nat} {Ls : Array Slot} {x : Int32} {rest : List Value} (hd : decode c.code pc = .ok (.i2c, 1)) (hp : pc + 1 = pc') (k : own_G p.tables e below P T (mkF m pc' Ls (.int (x.toUInt32.toUInt16.toUInt32.toInt32) :: rest))) : own_G p.tables e below P T (mkF m pc Ls (.int x :: rest)) := by
  subst hp; exact own_go (fun t q => XS.i2c X.here hx rfl hd rfl q) k
theorem own_ineg (X : Stand p l e R s m args below meth c T locs cells slots) (hx : p.tables.exec = Jvm.exec) {pc pc' : Nat} {Ls : Array Slot} {x : Int32} {rest : List Value} (hd : decode c.code pc = .ok (.ineg, 1)) (hp : pc + 1 = pc') (k : own_G p.tables e below P T (mkF m pc' Ls (.int (-x) :: rest))) : own_G p.tables e below P T (mkF m pc Ls (.int x :: rest)) := by
  subst hp; exact own_go (fun t q => XS.ineg X.here hx rfl hd rfl q) k
theorem own_lneg (X : Stand p l e R s m args below meth c T locs cells slots) (hx : p.tables.exec = Jvm.exec) {pc pc' : Nat} {Ls : Array Slot} {x : Int64} {rest : List Value} (hd : decode c.code pc = .ok (.lneg, 1)) (hp : pc + 1 = pc') (k : own_G p.tables e below P T (mkF m pc' Ls (.long (-x) :: rest))) : own_G p.tables e below P T (mkF m pc Ls (.long x :: rest)) := by
  subst hp; exact own_go (fun t q => XS.lneg X.here hx rfl hd rfl q) k
theorem own_lcmp (X : Stand p l e R s m args below meth c T locs cells slots) (hx : p.tables.exec = Jvm.exec) {pc pc' : Nat} {Ls : Array Slot} {x y : Int64} {rest : List Value} (hd : decode c.code pc = .ok (.lcmp, 1)) (hp : pc + 1 = pc') (k : own_G p.tables e below P T (mkF m pc' Ls (.int (lcmpW x y) :: rest))) : own_G p.tables e below P T (mkF m pc Ls (.long y :: .long x :: rest)) := by
  subst hp; exact own_go (fun t q => XS.lcmp X.here hx rfl hd rfl q) k
theorem own_idiv (X : Stand p l e R s m args below meth c T locs cells slots) (hx : p.tables.exec = Jvm.exec) {pc pc' : Nat} {Ls : Array Slot} {x y z : Int32} {rest : List Value} (hd : decode c.code pc = .ok (.idiv, 1)) (hz : x / y = z) (hy : y ≠ 0) (hp : pc + 1 = pc') (k : own_G p.tables e below P T (mkF m pc' Ls (.int z :: rest))) : own_G p.tables e below P T (mkF m pc Ls (.int y :: .int x :: rest)) := by
  subst hp; subst hz; exact own_go (fun t q => XS.idiv X.here hx rfl hd rfl hy q) k
theorem own_irem (X : Stand p l e R s m args below meth c T locs cells slots) (hx : p.tables.exec = Jvm.exec) {pc pc' : Nat} {Ls : Array Slot} {x y : Int32} {rest : List Value} (hd : decode c.code pc = .ok (.irem, 1)) (hy : y ≠ 0) (hp : pc + 1 = pc') (k : own_G p.tables e below P T (mkF m pc' Ls (.int (x % y) :: rest))) : own_G p.tables e below P T (mkF m pc Ls (.int y :: .int x :: rest)) := by
  subst hp; exact own_go (fun t q => iremM X hx rfl hd rfl hy q) k
theorem own_iloadN (X : Stand p l e R s m args below meth c T locs cells slots) (hx : p.tables.exec = Jvm.exec) {pc pc' : Nat} {Ls : Array Slot} {j : Fin 4} {v : Int32} {st : List Value} (hd : decode c.code pc = .ok (.iload_n j, 1)) (hl : Ls[j.val]? = some (.val (.int v))) (hp : pc + 1 = pc') (k : own_G p.tables e below P T (mkF m pc' Ls (.int v :: st))) : own_G p.tables e below P T (mkF m pc Ls (st)) := by
  subst hp; exact own_go (fun t q => XS.iloadN X.here hx rfl hd hl q) k
theorem own_iload (X : Stand p l e R s m args below meth c T locs cells slots) (hx : p.tables.exec = Jvm.exec) {pc pc' : Nat} {Ls : Array Slot} {j : Nat} {v : Int32} {st : List Value} (hd : decode c.code pc = .ok (.iload j, 2)) (hl : Ls[j]? = some (.val (.int v))) (hp : pc + 2 = pc') (k : own_G p.tables e below P T (mkF m pc' Ls (.int v :: st))) : own_G p.tables e below P T (mkF m pc Ls (st)) := by
  subst hp; exact own_go (fun t q => XS.iload X.here hx rfl hd hl q) k
theorem own_lloadN (X : Stand p l e R s m args below meth c T locs cells slots) (hx : p.tables.exec = Jvm.exec) {pc pc' : Nat} {Ls : Array Slot} {j : Fin 4} {v : Int64} {st : List Value} (hd : decode c.code pc = .ok (.lload_n j, 1)) (hl : Ls[j.val]? = some (.val (.long v))) (hp : pc + 1 = pc') (k : own_G p.tables e below P T (mkF m pc' Ls (.long v :: st))) : own_G p.tables e below P T (mkF m pc Ls (st)) := by
  subst hp; exact own_go (fun t q => XS.lloadN X.here hx rfl hd hl q) k
theorem own_lload (X : Stand p l e R s m args below meth c T locs cells slots) (hx : p.tables.exec = Jvm.exec) {pc pc' : Nat} {Ls : Array Slot} {j : Nat} {v : Int64} {st : List Value} (hd : decode c.code pc = .ok (.lload j, 2)) (hl : Ls[j]? = some (.val (.long v))) (hp : pc + 2 = pc') (k : own_G p.tables e below P T (mkF m pc' Ls (.long v :: st))) : own_G p.tables e below P T (mkF m pc Ls (st)) := by
  subst hp; exact own_go (fun t q => XS.lload X.here hx rfl hd hl q) k
theorem own_aloadN (X : Stand p l e R s m args below meth c T locs cells slots) (hx : p.tables.exec = Jvm.exec) {pc pc' : Nat} {Ls : Array Slot} {j : Fin 4} {v : Value} {st : List Value} (hd : decode c.code pc = .ok (.aload_n j, 1)) (hl : Ls[j.val]? = some (.val v)) (hv : v.isRef = true) (hp : pc + 1 = pc') (k : own_G p.tables e below P T (mkF m pc' Ls (v :: st))) : own_G p.tables e below P T (mkF m pc Ls (st)) := by
  subst hp; exact own_go (fun t q => XS.aloadN X.here hx rfl hd hl hv q) k
theorem own_istoreN (X : Stand p l e R s m args below meth c T locs cells slots) (hx : p.tables.exec = Jvm.exec) {pc pc' : Nat} {Ls : Array Slot} {j : Fin 4} {v : Int32} {rest : List Value} {Ls' : Array Slot} (hd : decode c.code pc = .ok (.istore_n j, 1)) (hl : storeLocals Ls j.val (.int v) = some Ls') (hp : pc + 1 = pc') (k : own_G p.tables e below P T (mkF m pc' Ls' (rest))) : own_G p.tables e below P T (mkF m pc Ls (.int v :: rest)) := by
  subst hp; exact own_go (fun t q => XS.istoreN X.here hx rfl hd rfl hl q) k
theorem own_lstoreN (X : Stand p l e R s m args below meth c T locs cells slots) (hx : p.tables.exec = Jvm.exec) {pc pc' : Nat} {Ls : Array Slot} {j : Fin 4} {v : Int64} {rest : List Value} {Ls' : Array Slot} (hd : decode c.code pc = .ok (.lstore_n j, 1)) (hl : storeLocals Ls j.val (.long v) = some Ls') (hp : pc + 1 = pc') (k : own_G p.tables e below P T (mkF m pc' Ls' (rest))) : own_G p.tables e below P T (mkF m pc Ls (.long v :: rest)) := by
  subst hp; exact own_go (fun t q => XS.lstoreN X.here hx rfl hd rfl hl q) k
theorem own_astoreN (X : Stand p l e R s m args below meth c T locs cells slots) (hx : p.tables.exec = Jvm.exec) {pc pc' : Nat} {Ls : Array Slot} {j : Fin 4} {v : Value} {rest : List Value} {Ls' : Array Slot} (hd : decode c.code pc = .ok (.astore_n j, 1)) (hv : v.isRef = true) (hl : storeLocals Ls j.val v = some Ls') (hp : pc + 1 = pc') (k : own_G p.tables e below P T (mkF m pc' Ls' (rest))) : own_G p.tables e below P T (mkF m pc Ls (v :: rest)) := by
  subst hp; exact own_go (fun t q => XS.astoreN X.here hx rfl hd rfl hv hl q) k
theorem own_aload (X : Stand p l e R s m args below meth c T locs cells slots) (hx : p.tables.exec = Jvm.exec) {pc pc' : Nat} {Ls : Array Slot} {j : Nat} {v : Value} {st : List Value} (hd : decode c.code pc = .ok (.aload j, 2)) (hl : Ls[j]? = some (.val v)) (hv : v.isRef = true) (hp : pc + 2 = pc') (k : own_G p.tables e below P T (mkF m pc' Ls (v :: st))) : own_G p.tables e below P T (mkF m pc Ls (st)) := by
  subst hp; exact own_go (fun t q => XS.aload X.here hx rfl hd hl hv q) k
theorem own_istore (X : Stand p l e R s m args below meth c T locs cells slots) (hx : p.tables.exec = Jvm.exec) {pc pc' : Nat} {Ls : Array Slot} {j : Nat} {v : Int32} {rest : List Value} {Ls' : Array Slot} (hd : decode c.code pc = .ok (.istore j, 2)) (hl : storeLocals Ls j (.int v) = some Ls') (hp : pc + 2 = pc') (k : own_G p.tables e below P T (mkF m pc' Ls' (rest))) : own_G p.tables e below P T (mkF m pc Ls (.int v :: rest)) := by
  subst hp; exact own_go (fun t q => XS.istore X.here hx rfl hd rfl hl q) k
theorem own_lstore (X : Stand p l e R s m args below meth c T locs cells slots) (hx : p.tables.exec = Jvm.exec) {pc pc' : Nat} {Ls : Array Slot} {j : Nat} {v : Int64} {rest : List Value} {Ls' : Array Slot} (hd : decode c.code pc = .ok (.lstore j, 2)) (hl : storeLocals Ls j (.long v) = some Ls') (hp : pc + 2 = pc') (k : own_G p.tables e below P T (mkF m pc' Ls' (rest))) : own_G p.tables e below P T (mkF m pc Ls (.long v :: rest)) := by
  subst hp; exact own_go (fun t q => XS.lstore X.here hx rfl hd rfl hl q) k
theorem own_astore (X : Stand p l e R s m args below meth c T locs cells slots) (hx : p.tables.exec = Jvm.exec) {pc pc' : Nat} {Ls : Array Slot} {j : Nat} {v : Value} {rest : List Value} {Ls' : Array Slot} (hd : decode c.code pc = .ok (.astore j, 2)) (hv : v.isRef = true) (hl : storeLocals Ls j v = some Ls') (hp : pc + 2 = pc') (k : own_G p.tables e below P T (mkF m pc' Ls' (rest))) : own_G p.tables e below P T (mkF m pc Ls (v :: rest)) := by
  subst hp; exact own_go (fun t q => XS.astore X.here hx rfl hd rfl hv hl q) k
theorem own_iinc (X : Stand p l e R s m args below meth c T locs cells slots) (hx : p.tables.exec = Jvm.exec) {pc pc' : Nat} {Ls : Array Slot} {j : Nat} {cst : Int} {x : Int32} {st : List Value} {Ls' : Array Slot} (hd : decode c.code pc = .ok (.iinc j cst, 3)) (hl : Ls[j]? = some (.val (.int x))) (hl' : storeLocals Ls j (.int (x + Int32.ofInt cst)) = some Ls') (hp : pc + 3 = pc') (k : own_G p.tables e below P T (mkF m pc' Ls' (st))) : own_G p.tables e below P T (mkF m pc Ls (st)) := by
  subst hp; exact own_go (fun t q => XS.iinc X.here hx rfl hd hl hl' q) k
theorem own_iconst (X : Stand p l e R s m args below meth c T locs cells slots) (hx : p.tables.exec = Jvm.exec) {pc pc' : Nat} {Ls : Array Slot} {i : Int} {st : List Value} (z : Int32) (hd : decode c.code pc = .ok (.iconst i, 1)) (hz : Int32.ofInt i = z) (hp : pc + 1 = pc') (k : own_G p.tables e below P T (mkF m pc' Ls (.int z :: st))) : own_G p.tables e below P T (mkF m pc Ls (st)) := by
  subst hp; subst hz; exact own_go (fun t q => XS.iconst X.here hx rfl hd q) k
theorem own_bipush (X : Stand p l e R s m args below meth c T locs cells slots) (hx : p.tables.exec = Jvm.exec) {pc pc' : Nat} {Ls : Array Slot} {i : Int} {st : List Value} (z : Int32) (hd : decode c.code pc = .ok (.bipush i, 2)) (hz : (Int8.ofInt i).toInt32 = z) (hp : pc + 2 = pc') (k : own_G p.tables e below P T (mkF m pc' Ls (.int z :: st))) : own_G p.tables e below P T (mkF m pc Ls (st)) := by
  subst hp; subst hz; exact own_go (fun t q => XS.bipush X.here hx rfl hd q) k
theorem own_sipush (X : Stand p l e R s m args below meth c T locs cells slots) (hx : p.tables.exec = Jvm.exec) {pc pc' : Nat} {Ls : Array Slot} {i : Int} {st : List Value} (z : Int32) (hd : decode c.code pc = .ok (.sipush i, 3)) (hz : (Int16.ofInt i).toInt32 = z) (hp : pc + 3 = pc') (k : own_G p.tables e below P T (mkF m pc' Ls (.int z :: st))) : own_G p.tables e below P T (mkF m pc Ls (st)) := by
  subst hp; subst hz; exact own_go (fun t q => XS.sipush X.here hx rfl hd q) k
theorem own_lconst (X : Stand p l e R s m args below meth c T locs cells slots) (hx : p.tables.exec = Jvm.exec) {pc pc' : Nat} {Ls : Array Slot} {i : Fin 2} {st : List Value} (z : Int64) (hd : decode c.code pc = .ok (.lconst i, 1)) (hz : Int64.ofNat i = z) (hp : pc + 1 = pc') (k : own_G p.tables e below P T (mkF m pc' Ls (.long z :: st))) : own_G p.tables e below P T (mkF m pc Ls (st)) := by
  subst hp; subst hz; exact own_go (fun t q => XS.lconst X.here hx rfl hd q) k
theorem own_aconstNull (X : Stand p l e R s m args below meth c T locs cells slots) (hx : p.tables.exec = Jvm.exec) {pc pc' : Nat} {Ls : Array Slot} {st : List Value} (hd : decode c.code pc = .ok (.aconst_null, 1)) (hp : pc + 1 = pc') (k : own_G p.tables e below P T (mkF m pc' Ls (.null :: st))) : own_G p.tables e below P T (mkF m pc Ls (st)) := by
  subst hp; exact own_go (fun t q => XS.aconstNull X.here hx rfl hd q) k
theorem own_dup (X : Stand p l e R s m args below meth c T locs cells slots) (hx : p.tables.exec = Jvm.exec) {pc pc' : Nat} {Ls : Array Slot} {v : Value} {rest : List Value} (hd : decode c.code pc = .ok (.dup, 1)) (hc : v.category = 1) (hp : pc + 1 = pc') (k : own_G p.tables e below P T (mkF m pc' Ls (v :: v :: rest))) : own_G p.tables e below P T (mkF m pc Ls (v :: rest)) := by
  subst hp; exact own_go (fun t q => XS.dup X.here hx rfl hd rfl hc q) k
theorem own_pop (X : Stand p l e R s m args below meth c T locs cells slots) (hx : p.tables.exec = Jvm.exec) {pc pc' : Nat} {Ls : Array Slot} {v : Value} {rest : List Value} (hd : decode c.code pc = .ok (.pop, 1)) (hc : v.category = 1) (hp : pc + 1 = pc') (k : own_G p.tables e below P T (mkF m pc' Ls (rest))) : own_G p.tables e below P T (mkF m pc Ls (v :: rest)) := by
  subst hp; exact own_go (fun t q => XS.pop X.here hx rfl hd rfl hc q) k
theorem own_dupX1 (X : Stand p l e R s m args below meth c T locs cells slots) (hx : p.tables.exec = Jvm.exec) {pc pc' : Nat} {Ls : Array Slot} {v w : Value} {rest : List Value} (hd : decode c.code pc = .ok (.dup_x1, 1)) (hc : v.category = 1) (hc' : w.category = 1) (hp : pc + 1 = pc') (k : own_G p.tables e below P T (mkF m pc' Ls (v :: w :: v :: rest))) : own_G p.tables e below P T (mkF m pc Ls (v :: w :: rest)) := by
  subst hp; exact own_go (fun t q => XS.dupX1 X.here hx rfl hd rfl hc hc' q) k
theorem own_dup2 (X : Stand p l e R s m args below meth c T locs cells slots) (hx : p.tables.exec = Jvm.exec) {pc pc' : Nat} {Ls : Array Slot} {v w : Value} {rest : List Value} (hd : decode c.code pc = .ok (.dup2, 1)) (hc : v.category = 1) (hc' : w.category = 1) (hp : pc + 1 = pc') (k : own_G p.tables e below P T (mkF m pc' Ls (v :: w :: v :: w :: rest))) : own_G p.tables e below P T (mkF m pc Ls (v :: w :: rest)) := by
  subst hp; exact own_go (fun t q => Jvm.Free.XT.dup2 X.here hx rfl hd rfl hc hc' q) k
theorem own_goto (X : Stand p l e R s m args below meth c T locs cells slots) (hx : p.tables.exec = Jvm.exec) {pc pc' : Nat} {Ls : Array Slot} {st : List Value} {o : Int} (hd : decode c.code pc = .ok (.goto o, 3)) (ho : 0 ≤ (pc : Int) + o) (hp : ((pc : Int) + o).toNat = pc') (k : own_G p.tables e below P T (mkF m pc' Ls (st))) : own_G p.tables e below P T (mkF m pc Ls (st)) := by
  exact own_go (fun t q => XS.goto X.here hx rfl (pc0 := pc) (pc' := pc') rfl hd ho hp q) k
theorem own_ifYes (X : Stand p l e R s m args below meth c T locs cells slots) (hx : p.tables.exec = Jvm.exec) {pc pc' : Nat} {Ls : Array Slot} {cd : ClassFile.Cond} {x : Int32} {rest : List Value} {o : Int} (hd : decode c.code pc = .ok (.ifCond cd o, 3)) (hc : if_icmp.holds cd x 0 = true) (ho : 0 ≤ (pc : Int) + o) (hp : ((pc : Int) + o).toNat = pc') (k : own_G p.tables e below P T (mkF m pc' Ls (rest))) : own_G p.tables e below P T (mkF m pc Ls (.int x :: rest)) := by
  exact own_go (fun t q => XS.ifYes X.here hx rfl (pc0 := pc) (pc' := pc') rfl hd rfl ((if0 _ _).trans hc) ho hp q) k
theorem own_icmpYes (X : Stand p l e R s m args below meth c T locs cells slots) (hx : p.tables.exec = Jvm.exec) {pc pc' : Nat} {Ls : Array Slot} {cd : ClassFile.Cond} {x y : Int32} {rest : List Value} {o : Int} (hd : decode c.code pc = .ok (.if_icmp cd o, 3)) (hc : if_icmp.holds cd x y = true) (ho : 0 ≤ (pc : Int) + o) (hp : ((pc : Int) + o).toNat = pc') (k : own_G p.tables e below P T (mkF m pc' Ls (rest))) : own_G p.tables e below P T (mkF m pc Ls (.int y :: .int x :: rest)) := by
  exact own_go (fun t q => XS.icmpYes X.here hx rfl (pc0 := pc) (pc' := pc') rfl hd rfl hc ho hp q) k
theorem own_ifnullYes (X : Stand p l e R s m args below meth c T locs cells slots) (hx : p.tables.exec = Jvm.exec) {pc pc' : Nat} {Ls : Array Slot} {rest : List Value} {o : Int} (hd : decode c.code pc = .ok (.ifnull o, 3)) (ho : 0 ≤ (pc : Int) + o) (hp : ((pc : Int) + o).toNat = pc') (k : own_G p.tables e below P T (mkF m pc' Ls (rest))) : own_G p.tables e below P T (mkF m pc Ls (.null :: rest)) := by
  exact own_go (fun t q => XS.ifnullYes X.here hx rfl (pc0 := pc) (pc' := pc') rfl hd rfl ho hp q) k
theorem own_ifnonnullYes (X : Stand p l e R s m args below meth c T locs cells slots) (hx : p.tables.exec = Jvm.exec) {pc pc' : Nat} {Ls : Array Slot} {b : Addr} {rest : List Value} {o : Int} (hd : decode c.code pc = .ok (.ifnonnull o, 3)) (ho : 0 ≤ (pc : Int) + o) (hp : ((pc : Int) + o).toNat = pc') (k : own_G p.tables e below P T (mkF m pc' Ls (rest))) : own_G p.tables e below P T (mkF m pc Ls (.ref b :: rest)) := by
  exact own_go (fun t q => XS.ifnonnullYes X.here hx rfl (pc0 := pc) (pc' := pc') rfl hd rfl ho hp q) k
theorem own_ifNo (X : Stand p l e R s m args below meth c T locs cells slots) (hx : p.tables.exec = Jvm.exec) {pc pc' : Nat} {Ls : Array Slot} {cd : ClassFile.Cond} {o : Int} {x : Int32} {rest : List Value} (hd : decode c.code pc = .ok (.ifCond cd o, 3)) (hc : if_icmp.holds cd x 0 = false) (hp : pc + 3 = pc') (k : own_G p.tables e below P T (mkF m pc' Ls (rest))) : own_G p.tables e below P T (mkF m pc Ls (.int x :: rest)) := by
  subst hp; exact own_go (fun t q => XS.ifNo X.here hx rfl hd rfl ((if0 _ _).trans hc) q) k
theorem own_icmpNo (X : Stand p l e R s m args below meth c T locs cells slots) (hx : p.tables.exec = Jvm.exec) {pc pc' : Nat} {Ls : Array Slot} {cd : ClassFile.Cond} {o : Int} {x y : Int32} {rest : List Value} (hd : decode c.code pc = .ok (.if_icmp cd o, 3)) (hc : if_icmp.holds cd x y = false) (hp : pc + 3 = pc') (k : own_G p.tables e below P T (mkF m pc' Ls (rest))) : own_G p.tables e below P T (mkF m pc Ls (.int y :: .int x :: rest)) := by
  subst hp; exact own_go (fun t q => XS.icmpNo X.here hx rfl hd rfl hc q) k
theorem own_ifnullNo (X : Stand p l e R s m args below meth c T locs cells slots) (hx : p.tables.exec = Jvm.exec) {pc pc' : Nat} {Ls : Array Slot} {o : Int} {b : Addr} {rest : List Value} (hd : decode c.code pc = .ok (.ifnull o, 3)) (hp : pc + 3 = pc') (k : own_G p.tables e below P T (mkF m pc' Ls (rest))) : own_G p.tables e below P T (mkF m pc Ls (.ref b :: rest)) := by
  subst hp; exact own_go (fun t q => XS.ifnullNo X.here hx rfl hd rfl q) k
theorem own_ifnonnullNo (X : Stand p l e R s m args below meth c T locs cells slots) (hx : p.tables.exec = Jvm.exec) {pc pc' : Nat} {Ls : Array Slot} {o : Int} {rest : List Value} (hd : decode c.code pc = .ok (.ifnonnull o, 3)) (hp : pc + 3 = pc') (k : own_G p.tables e below P T (mkF m pc' Ls (rest))) : own_G p.tables e below P T (mkF m pc Ls (.null :: rest)) := by
  subst hp; exact own_go (fun t q => XS.ifnonnullNo X.here hx rfl hd rfl q) k
theorem own_acmp (X : Stand p l e R s m args below meth c T locs cells slots) (hx : p.tables.exec = Jvm.exec) {pc pc' : Nat} {Ls : Array Slot} {cd : ACond} {x y : Value} {rest : List Value} {o : Int} (same : Bool) (hd : decode c.code pc = .ok (.if_acmp cd o, 3)) (h1 : x.isRef = true) (h2 : y.isRef = true) (hq : decide (x = y) = same) (ho : 0 ≤ (pc : Int) + o) (hp : pc' = if acV cd same = true then ((pc : Int) + o).toNat else pc + 3) (k : own_G p.tables e below P T (mkF m pc' Ls rest)) : own_G p.tables e below P T (mkF m pc Ls (y :: x :: rest)) := by
  exact own_go (fun t q => Jvm.RoadKit.acmp (g := mkF m pc Ls (y :: x :: rest)) X hx rfl h1 h2 (pc0 := pc) (pc' := pc') rfl hd rfl hq ho hp q) k
theorem own_ldcI (X : Stand p l e R s m args below meth c T locs cells slots) (hx : p.tables.exec = Jvm.exec) {pc pc' : Nat} {Ls : Array Slot} (hZ : Z.Warmed39 s.vm) {own : String} {idx : Nat} {z : Int32} {st : List Value} (hown : s.vm.findClass own = some m.cls) (w : (Jvm.Cond.constant own idx z).before a0 Z = true) (hd : decode c.code pc = .ok (.ldc idx, 2)) (hp : pc + 2 = pc') (k : own_G p.tables e below P T (mkF m pc' Ls (.int z :: st))) : own_G p.tables e below P T (mkF m pc Ls st) := by
  subst hp; exact own_go (X.ldcInt hx hown (mvT hZ w) (g := mkF m pc Ls st) rfl hd) k
theorem own_ldcwI (X : Stand p l e R s m args below meth c T locs cells slots) (hx : p.tables.exec = Jvm.exec) {pc pc' : Nat} {Ls : Array Slot} (hZ : Z.Warmed39 s.vm) {own : String} {idx : Nat} {z : Int32} {st : List Value} (hown : s.vm.findClass own = some m.cls) (w : (Jvm.Cond.constant own idx z).before a0 Z = true) (hd : decode c.code pc = .ok (.ldc_w idx, 3)) (hp : pc + 3 = pc') (k : own_G p.tables e below P T (mkF m pc' Ls (.int z :: st))) : own_G p.tables e below P T (mkF m pc Ls st) := by
  subst hp; exact own_go (X.ldcwInt hx hown (mvT hZ w) (g := mkF m pc Ls st) rfl hd) k
theorem own_ldc2J (X : Stand p l e R s m args below meth c T locs cells slots) (hx : p.tables.exec = Jvm.exec) {pc pc' : Nat} {Ls : Array Slot} (hZ : Z.Warmed39 s.vm) {own : String} {idx : Nat} {z : Int64} {st : List Value} (hown : s.vm.findClass own = some m.cls) (w : (Jvm.Cond.constantLong own idx z).before a0 Z = true) (hd : decode c.code pc = .ok (.ldc2_w idx, 3)) (hp : pc + 3 = pc') (k : own_G p.tables e below P T (mkF m pc' Ls (.long z :: st))) : own_G p.tables e below P T (mkF m pc Ls st) := by
  subst hp; exact own_go (X.ldc2Long hx hown (mvT hZ w) (g := mkF m pc Ls st) rfl hd) k
theorem own_getF (X : Stand p l e R s m args below meth c T locs cells slots) (hx : p.tables.exec = Jvm.exec) {pc pc' : Nat} {Ls : Array Slot} (hZ : Z.Warmed39 s.vm) {own R0 O n d host : String} {idx : Nat} {a : Addr} {v : Value} {rest : List Value} (hown : s.vm.findClass own = some m.cls) (w : (Cond.fieldLink own idx R0 n d).before a0 Z = true ∨ (Cond.fieldLinkNest own idx R0 n d host).before a0 Z = true) (via : Via Z R0 O n d) (eT : T.heap = h) (F : Fld Z h a O n d v) (hd : decode c.code pc = .ok (.getfield idx, 3)) (hp : pc + 3 = pc') (k : ∀ T', Stand p l e R s m args below meth c T' locs cells slots → T'.heap = h → own_G p.tables e below P T' (mkF m pc' Ls (v :: rest))) : own_G p.tables e below P T (mkF m pc Ls (.ref a :: rest)) := by
  subst hp; obtain ⟨T', X', e', st⟩ := getF X hx hZ hown w via eT F (g := mkF m pc Ls (.ref a :: rest)) rfl rfl hd; exact own_go st (k T' X' e')
theorem own_getS (X : Stand p l e R s m args below meth c T locs cells slots) (hx : p.tables.exec = Jvm.exec) {pc pc' : Nat} {Ls : Array Slot} (hZ : Z.Warmed39 s.vm) {own R0 O n d host : String} {idx : Nat} {v : Value} {st : List Value} (hown : s.vm.findClass own = some m.cls) (w : (Cond.fieldLink own idx R0 n d).before a0 Z = true ∨ (Cond.fieldLinkNest own idx R0 n d host).before a0 Z = true) (via : Via Z R0 O n d) (eT : T.heap = h) (F : Sta Z h O n d v) (hd : decode c.code pc = .ok (.getstatic idx, 3)) (hp : pc + 3 = pc') (k : ∀ T', Stand p l e R s m args below meth c T' locs cells slots → T'.heap = h → own_G p.tables e below P T' (mkF m pc' Ls (v :: st))) : own_G p.tables e below P T (mkF m pc Ls st) := by
  subst hp; obtain ⟨T', X', e', stp⟩ := getS2 X hx hZ hown w via eT F (g := mkF m pc Ls st) rfl hd; exact own_go stp (k T' X' e')
theorem own_len (X : Stand p l e R s m args below meth c T locs cells slots) (hx : p.tables.exec = Jvm.exec) {pc pc' : Nat} {Ls : Array Slot} (hZ : Z.Warmed39 s.vm) {a : Addr} {cl : Cell} {ty : FieldType} {z : Int32} {rest : List Value} (eT : T.heap = h) (A : Arr Z h a cl ty) (S : cl.slots.size = z.toNatClampNeg) (M : ¬ z < 0) (hd : decode c.code pc = .ok (.arraylength, 1)) (hp : pc + 1 = pc') (k : own_G p.tables e below P T (mkF m pc' Ls (.int z :: rest))) : own_G p.tables e below P T (mkF m pc Ls (.ref a :: rest)) := by
  subst hp; exact own_go (fun t q => X.arraylength hx (by rw [eT]; exact A.1) (State.isArrayOf_alike hZ.alike A.2.1) (g := mkF m pc Ls (.ref a :: rest)) rfl rfl hd _ (by rw [len_of S M]; exact q)) k
theorem own_iaload (X : Stand p l e R s m args below meth c T locs cells slots) (hx : p.tables.exec = Jvm.exec) {pc pc' : Nat} {Ls : Array Slot} (hZ : Z.Warmed39 s.vm) {a : Addr} {cl : Cell} {j : Int32} {v : Int32} {rest : List Value} (eT : T.heap = h) (A : Arr Z h a cl .int) (hj : ¬ (j < 0 ∨ cl.slots.size ≤ j.toNatClampNeg)) (hv : cl.slots[j.toNatClampNeg]? = some (.int v)) (hd : decode c.code pc = .ok (.iaload, 1)) (hp : pc + 1 = pc') (k : own_G p.tables e below P T (mkF m pc' Ls ((.int v) :: rest))) : own_G p.tables e below P T (mkF m pc Ls (.int j :: .ref a :: rest)) := by
  subst hp; exact own_go (X.iaload hx (j := j) (v := (.int v)) (by rw [eT]; exact A.1) (State.isArrayOf_alike hZ.alike A.2.1) A.2.2 hj hv (g := mkF m pc Ls (.int j :: .ref a :: rest)) rfl rfl hd) k
theorem own_laload (X : Stand p l e R s m args below meth c T locs cells slots) (hx : p.tables.exec = Jvm.exec) {pc pc' : Nat} {Ls : Array Slot} (hZ : Z.Warmed39 s.vm) {a : Addr} {cl : Cell} {j : Int32} {v : Int64} {rest : List Value} (eT : T.heap = h) (A : Arr Z h a cl .long) (hj : ¬ (j < 0 ∨ cl.slots.size ≤ j.toNatClampNeg)) (hv : cl.slots[j.toNatClampNeg]? = some (.long v)) (hd : decode c.code pc = .ok (.laload, 1)) (hp : pc + 1 = pc') (k : own_G p.tables e below P T (mkF m pc' Ls ((.long v) :: rest))) : own_G p.tables e below P T (mkF m pc Ls (.int j :: .ref a :: rest)) := by
  subst hp; exact own_go (X.laload hx (j := j) (v := (.long v)) (by rw [eT]; exact A.1) (State.isArrayOf_alike hZ.alike A.2.1) A.2.2 hj hv (g := mkF m pc Ls (.int j :: .ref a :: rest)) rfl rfl hd) k
theorem own_baload (X : Stand p l e R s m args below meth c T locs cells slots) (hx : p.tables.exec = Jvm.exec) {pc pc' : Nat} {Ls : Array Slot} (hZ : Z.Warmed39 s.vm) {a : Addr} {cl : Cell} {j : Int32} {v : Int32} {rest : List Value} (eT : T.heap = h) (A : Arr Z h a cl .byte) (hj : ¬ (j < 0 ∨ cl.slots.size ≤ j.toNatClampNeg)) (hv : cl.slots[j.toNatClampNeg]? = some (.int v)) (hd : decode c.code pc = .ok (.baload, 1)) (hp : pc + 1 = pc') (k : own_G p.tables e below P T (mkF m pc' Ls ((.int v) :: rest))) : own_G p.tables e below P T (mkF m pc Ls (.int j :: .ref a :: rest)) := by
  subst hp; exact own_go (X.baloadBytes hx (j := j) (v := (.int v)) (by rw [eT]; exact A.1) (State.isArrayOf_alike hZ.alike A.2.1) A.2.2 hj hv (g := mkF m pc Ls (.int j :: .ref a :: rest)) rfl rfl hd) k
theorem own_caload (X : Stand p l e R s m args below meth c T locs cells slots) (hx : p.tables.exec = Jvm.exec) {pc pc' : Nat} {Ls : Array Slot} (hZ : Z.Warmed39 s.vm) {a : Addr} {cl : Cell} {j : Int32} {v : Int32} {rest : List Value} (eT : T.heap = h) (A : Arr Z h a cl .char) (hj : ¬ (j < 0 ∨ cl.slots.size ≤ j.toNatClampNeg)) (hv : cl.slots[j.toNatClampNeg]? = some (.int v)) (hd : decode c.code pc = .ok (.caload, 1)) (hp : pc + 1 = pc') (k : own_G p.tables e below P T (mkF m pc' Ls ((.int v) :: rest))) : own_G p.tables e below P T (mkF m pc Ls (.int j :: .ref a :: rest)) := by
  subst hp; exact own_go (X.caload hx (j := j) (v := (.int v)) (by rw [eT]; exact A.1) (State.isArrayOf_alike hZ.alike A.2.1) A.2.2 hj hv (g := mkF m pc Ls (.int j :: .ref a :: rest)) rfl rfl hd) k
theorem own_aaload (X : Stand p l e R s m args below meth c T locs cells slots) (hx : p.tables.exec = Jvm.exec) {pc pc' : Nat} {Ls : Array Slot} (hZ : Z.Warmed39 s.vm) {a : Addr} {cl : Cell} {ty : FieldType} {j : Int32} {v : Value} {rest : List Value} (eT : T.heap = h) (A : Arr Z h a cl ty) (hty : ty.isReference = true) (hj : ¬ (j < 0 ∨ cl.slots.size ≤ j.toNatClampNeg)) (hv : cl.slots[j.toNatClampNeg]? = some v) (hd : decode c.code pc = .ok (.aaload, 1)) (hp : pc + 1 = pc') (k : own_G p.tables e below P T (mkF m pc' Ls (v :: rest))) : own_G p.tables e below P T (mkF m pc Ls (.int j :: .ref a :: rest)) := by
  subst hp; exact own_go (X.aaload hx (j := j) (v := v) (by rw [eT]; exact A.1) (State.isArrayOf_alike hZ.alike A.2.1) hty A.2.2 hj hv (g := mkF m pc Ls (.int j :: .ref a :: rest)) rfl rfl hd) k
theorem own_stI (X : Stand p l e R s m args below meth c T locs cells slots) (hx : p.tables.exec = Jvm.exec) {pc pc' : Nat} {Ls : Array Slot} (hZ : Z.Warmed39 s.vm) {a : Addr} {cl : Cell} {j : Int32} {x : Int32} {rest : List Value} (eT : T.heap = h) (A : Arr Z h a cl .int) (hj : ¬ (j < 0 ∨ cl.slots.size ≤ j.toNatClampNeg)) (hd : decode c.code pc = .ok (.iastore, 1)) (hp : pc + 1 = pc') (k : ∀ T' h', Stand p l e R s m args below meth c T' (locs ++ [⟨a, j.toNatClampNeg⟩]) cells slots → T'.heap = h' → Wr h h' a j.toNatClampNeg (.int x) → own_G p.tables e below P T' (mkF m pc' Ls rest)) : own_G p.tables e below P T (mkF m pc Ls (.int x :: .int j :: .ref a :: rest)) := by
  subst hp; obtain ⟨T', h', X', e', W', st⟩ := stI X hx hZ eT A (j := j) hj (g := mkF m pc Ls (.int x :: .int j :: .ref a :: rest)) rfl rfl hd; exact own_go st (k T' h' X' e' W')
theorem own_stJ (X : Stand p l e R s m args below meth c T locs cells slots) (hx : p.tables.exec = Jvm.exec) {pc pc' : Nat} {Ls : Array Slot} (hZ : Z.Warmed39 s.vm) {a : Addr} {cl : Cell} {j : Int32} {x : Int64} {rest : List Value} (eT : T.heap = h) (A : Arr Z h a cl .long) (hj : ¬ (j < 0 ∨ cl.slots.size ≤ j.toNatClampNeg)) (hd : decode c.code pc = .ok (.lastore, 1)) (hp : pc + 1 = pc') (k : ∀ T' h', Stand p l e R s m args below meth c T' (locs ++ [⟨a, j.toNatClampNeg⟩]) cells slots → T'.heap = h' → Wr h h' a j.toNatClampNeg (.long x) → own_G p.tables e below P T' (mkF m pc' Ls rest)) : own_G p.tables e below P T (mkF m pc Ls (.long x :: .int j :: .ref a :: rest)) := by
  subst hp; obtain ⟨T', h', X', e', W', st⟩ := stJ X hx hZ eT A (j := j) hj (g := mkF m pc Ls (.long x :: .int j :: .ref a :: rest)) rfl rfl hd; exact own_go st (k T' h' X' e' W')
theorem own_stB (X : Stand p l e R s m args below meth c T locs cells slots) (hx : p.tables.exec = Jvm.exec) {pc pc' : Nat} {Ls : Array Slot} (hZ : Z.Warmed39 s.vm) {a : Addr} {cl : Cell} {j : Int32} {x : Int32} {rest : List Value} (eT : T.heap = h) (A : Arr Z h a cl .byte) (hj : ¬ (j < 0 ∨ cl.slots.size ≤ j.toNatClampNeg)) (hd : decode c.code pc = .ok (.bastore, 1)) (hp : pc + 1 = pc') (k : ∀ T' h', Stand p l e R s m args below meth c T' (locs ++ [⟨a, j.toNatClampNeg⟩]) cells slots → T'.heap = h' → Wr h h' a j.toNatClampNeg (.int (nar .byte x)) → own_G p.tables e below P T' (mkF m pc' Ls rest)) : own_G p.tables e below P T (mkF m pc Ls (.int x :: .int j :: .ref a :: rest)) := by
  subst hp; obtain ⟨T', h', X', e', W', st⟩ := stB X hx hZ eT A (j := j) hj (g := mkF m pc Ls (.int x :: .int j :: .ref a :: rest)) rfl rfl hd; exact own_go st (k T' h' X' e' W')
theorem own_stC (X : Stand p l e R s m args below meth c T locs cells slots) (hx : p.tables.exec = Jvm.exec) {pc pc' : Nat} {Ls : Array Slot} (hZ : Z.Warmed39 s.vm) {a : Addr} {cl : Cell} {j : Int32} {x : Int32} {rest : List Value} (eT : T.heap = h) (A : Arr Z h a cl .char) (hj : ¬ (j < 0 ∨ cl.slots.size ≤ j.toNatClampNeg)) (hd : decode c.code pc = .ok (.castore, 1)) (hp : pc + 1 = pc') (k : ∀ T' h', Stand p l e R s m args below meth c T' (locs ++ [⟨a, j.toNatClampNeg⟩]) cells slots → T'.heap = h' → Wr h h' a j.toNatClampNeg (.int (nar .char x)) → own_G p.tables e below P T' (mkF m pc' Ls rest)) : own_G p.tables e below P T (mkF m pc Ls (.int x :: .int j :: .ref a :: rest)) := by
  subst hp; obtain ⟨T', h', X', e', W', st⟩ := stC X hx hZ eT A (j := j) hj (g := mkF m pc Ls (.int x :: .int j :: .ref a :: rest)) rfl rfl hd; exact own_go st (k T' h' X' e' W')
theorem own_stR (X : Stand p l e R s m args below meth c T locs cells slots) (hx : p.tables.exec = Jvm.exec) {pc pc' : Nat} {Ls : Array Slot} (hZ : Z.Warmed39 s.vm) {a : Addr} {cl : Cell} {j : Int32} {x : Value} {ty : FieldType} {rest : List Value} (eT : T.heap = h) (A : Arr Z h a cl ty) (hj : ¬ (j < 0 ∨ cl.slots.size ≤ j.toNatClampNeg)) (hty : ty.isReference = true) (F : Sto Z h a x) (hd : decode c.code pc = .ok (.aastore, 1)) (hp : pc + 1 = pc') (k : ∀ T' h', Stand p l e R s m args below meth c T' (locs ++ [⟨a, j.toNatClampNeg⟩]) cells slots → T'.heap = h' → Wr h h' a j.toNatClampNeg x → own_G p.tables e below P T' (mkF m pc' Ls rest)) : own_G p.tables e below P T (mkF m pc Ls (x :: .int j :: .ref a :: rest)) := by
  subst hp; obtain ⟨T', h', X', e', W', st⟩ := stR X hx hZ eT A (j := j) hj hty F (g := mkF m pc Ls (x :: .int j :: .ref a :: rest)) rfl rfl hd; exact own_go st (k T' h' X' e' W')
theorem own_putF (X : Stand p l e R s m args below meth c T locs cells slots) (hx : p.tables.exec = Jvm.exec) {pc pc' : Nat} {Ls : Array Slot} (hZ : Z.Warmed39 s.vm) {own R0 O n d host C : String} {idx kk : Nat} {ty : FieldType} {a : Addr} {v old : Value} {rest : List Value} (hown : s.vm.findClass own = some m.cls) (w : (Cond.fieldLink own idx R0 n d).before a0 Z = true ∨ (Cond.fieldLinkNest own idx R0 n d host).before a0 Z = true) (via : Via Z R0 O n d) (eT : T.heap = h) (F : Fld Z h a O n d old) (E : Exa Z h a C) (L : (Cond.lays C O n d).before a0 Z = true ∨ ((Cond.laysFinal C O n d).before a0 Z = true ∧ own = O ∧ meth.name = "<init>")) (wi : (Cond.instantiable C kk).before a0 Z = true) (hty : parseFieldDescriptor d = some ty) (hn : narrow ty v = v) (hf : fits ty v = true) (hd : decode c.code pc = .ok (.putfield idx, 3)) (hp : pc + 3 = pc') (k : ∀ T' h', Stand p l e R s m args below meth c T' (locs ++ [⟨a, Jvm.RoadKit.slotOf Z O n d⟩]) cells slots → T'.heap = h' → Wr h h' a (Jvm.RoadKit.slotOf Z O n d) v → own_G p.tables e below P T' (mkF m pc' Ls rest)) : own_G p.tables e below P T (mkF m pc Ls (v :: .ref a :: rest)) := by
  subst hp; obtain ⟨T', h', X', e', W', st⟩ := putF X hx hZ hown w via eT F E L wi hty hn hf (g := mkF m pc Ls (v :: .ref a :: rest)) rfl rfl hd; exact own_go st (k T' h' X' e' W')
theorem own_putFN (X : Stand p l e R s m args below meth c T locs cells slots) (hx : p.tables.exec = Jvm.exec) {pc pc' : Nat} {Ls : Array Slot} (hZ : Z.Warmed39 s.vm) {own R0 O n d C : String} {idx kk : Nat} {ty : FieldType} {a : Addr} {v old : Value} (v' : Value) {rest : List Value} (hown : s.vm.findClass own = some m.cls) (w : (Cond.fieldLink own idx R0 n d).before a0 Z = true) (via : Via Z R0 O n d) (eT : T.heap = h) (F : Fld Z h a O n d old) (E : Exa Z h a C) (L : (Cond.lays C O n d).before a0 Z = true ∨ ((Cond.laysFinal C O n d).before a0 Z = true ∧ own = O ∧ meth.name = "<init>")) (wi : (Cond.instantiable C kk).before a0 Z = true) (hty : parseFieldDescriptor d = some ty) (hn : narrow ty v = v') (hf : fits ty v' = true) (hd : decode c.code pc = .ok (.putfield idx, 3)) (hp : pc + 3 = pc') (k : ∀ T' h', Stand p l e R s m args below meth c T' (locs ++ [⟨a, Jvm.RoadKit.slotOf Z O n d⟩]) cells slots → T'.heap = h' → Wr h h' a (Jvm.RoadKit.slotOf Z O n d) v' → own_G p.tables e below P T' (mkF m pc' Ls rest)) : own_G p.tables e below P T (mkF m pc Ls (v :: .ref a :: rest)) := by
  subst hp; obtain ⟨T', h', X', e', W', st⟩ := putFN X hx hZ hown w via eT F E L wi hty hn hf (g := mkF m pc Ls (v :: .ref a :: rest)) rfl rfl hd; exact own_go st (k T' h' X' e' W')
theorem own_new (X : Stand p l e R s m args below meth c T locs cells slots) (hx : p.tables.exec = Jvm.exec) {pc pc' : Nat} {Ls : Array Slot} (hZ : Z.Warmed39 s.vm) {own C : String} {idx n : Nat} {st : List Value} (hown : s.vm.findClass own = some m.cls) (w : (Cond.classLink own idx C).before a0 Z = true) (wi : (Cond.instantiable C n).before a0 Z = true) (wz : (Cond.initialized C).before a0 Z = true) (eT : T.heap = h) (hd : decode c.code pc = .ok (.new idx, 3)) (hc : cells + 1 ≤ R.cells) (hl : slots + n ≤ R.slots) (hp : pc + 3 = pc') (k : ∀ T' h' b, b = h.size → Stand p l e R s m args below meth c T' locs (cells + 1) (slots + n) → T'.heap = h' → Ext h h' → Exa Z h' b C → (∀ {O nm d : String} {ty : FieldType}, Laid Z a0 C O nm d → parseFieldDescriptor d = some ty → Fld Z h' b O nm d (defaultValue ty)) → own_G p.tables e below P T' (mkF m pc' Ls (.ref b :: st))) : own_G p.tables e below P T (mkF m pc Ls st) := by
  subst hp; obtain ⟨T', h', X', e', E', A', D', -, stp⟩ := newO X hx hZ hown w wi wz eT (g := mkF m pc Ls st) rfl hd hc hl; exact own_go stp (k T' h' _ rfl X' e' E' A' D')
theorem own_newP (X : Stand p l e R s m args below meth c T locs cells slots) (hx : p.tables.exec = Jvm.exec) {pc pc' : Nat} {Ls : Array Slot} (hZ : Z.Warmed39 s.vm) {aty : ArrayType} {z : Int32} {rest : List Value} (w : (Cond.arrayClass (newarray.typeOf aty)).before a0 Z = true) (eT : T.heap = h) (hd : decode c.code pc = .ok (.newarray aty, 2)) (hn : ¬ z < 0) (cap : Nat) (hcap : z.toNatClampNeg ≤ cap) (hb : cap * 8 ≤ 536870912) (hc : cells + 1 ≤ R.cells) (hl : slots + cap ≤ R.slots) (hp : pc + 2 = pc') (k : ∀ T' h' cA b, b = h.size → Stand p l e R s m args below meth c T' locs (cells + 1) (slots + cap) → T'.heap = h' → Ext h h' → Arr Z h' b (newA cA (newarray.typeOf aty) z) (newarray.typeOf aty) → own_G p.tables e below P T' (mkF m pc' Ls (.ref b :: rest))) : own_G p.tables e below P T (mkF m pc Ls (.int z :: rest)) := by
  subst hp; obtain ⟨T', h', cA, X', e', E', A', stp⟩ := newP X hx hZ w eT (g := mkF m pc Ls (.int z :: rest)) rfl hd rfl hn hcap hb hc hl; exact own_go stp (k T' h' cA _ rfl X' e' E' A')
theorem own_newR (X : Stand p l e R s m args below meth c T locs cells slots) (hx : p.tables.exec = Jvm.exec) {pc pc' : Nat} {Ls : Array Slot} (hZ : Z.Warmed39 s.vm) {own C : String} {idx : Nat} {z : Int32} {rest : List Value} (hown : s.vm.findClass own = some m.cls) (w1 : (Cond.classLink own idx C).before a0 Z = true) (w2 : (Cond.arrayOver (.object C)).before a0 Z = true) (eT : T.heap = h) (hd : decode c.code pc = .ok (.anewarray idx, 3)) (hn : ¬ z < 0) (cap : Nat) (hcap : z.toNatClampNeg ≤ cap) (hb : cap * 8 ≤ 536870912) (hc : cells + 1 ≤ R.cells) (hl : slots + cap ≤ R.slots) (hp : pc + 3 = pc') (k : ∀ T' h' cA b, b = h.size → Stand p l e R s m args below meth c T' locs (cells + 1) (slots + cap) → T'.heap = h' → Ext h h' → Arr Z h' b (newA cA (.object C) z) (.object C) → Ovr Z cA C → own_G p.tables e below P T' (mkF m pc' Ls (.ref b :: rest))) : own_G p.tables e below P T (mkF m pc Ls (.int z :: rest)) := by
  subst hp; obtain ⟨T', h', cA, X', e', E', A', O', stp⟩ := newR X hx hZ hown w1 w2 eT (g := mkF m pc Ls (.int z :: rest)) rfl hd rfl hn hcap hb hc hl; exact own_go stp (k T' h' cA _ rfl X' e' E' A' O')
theorem own_initO (X : Stand p l e R s m args below meth c T locs cells slots) (hx : p.tables.exec = Jvm.exec) {pc pc' : Nat} {Ls : Array Slot} (hZ : Z.Warmed39 s.vm) {own : String} {idx : Nat} {a : Addr} {rest : List Value} (hown : s.vm.findClass own = some m.cls) (w1 : (Cond.methodLink own idx Lib.objectInit).before a0 Z = true) (w2 : (Cond.instanceMethod Lib.objectInit).before a0 Z = true) (w3 : (Cond.code Lib.objectInit ⟨#[0xb1]⟩ 1 none).before a0 Z = true) (eT : T.heap = h) (hsz : Ls.size = c.maxLocals) (hd : decode c.code pc = .ok (.invokespecial idx, 3)) (hf : 1 ≤ R.frames) (W : Nat) (hW : 2 * 0 + (rest.map fun v => v.category).sum ≤ W) (hl : W + 12 ≤ R.locals) (hp : pc + 3 = pc') (k : ∀ T', Stand p l e R s m args below meth c T' locs cells slots → T'.heap = h → own_G p.tables e below P T' (mkF m pc' Ls rest)) : own_G p.tables e below P T (mkF m pc Ls (.ref a :: rest)) := by
  subst hp; obtain ⟨T', X', e', st⟩ := initO X hx hZ hown w1 w2 w3 eT (g := mkF m pc Ls (.ref a :: rest)) rfl hsz rfl hd hf hW hl; exact own_go st (k T' X' e')
theorem own_callS (X : Stand p l e R s m args below meth c T locs cells slots) (hx : p.tables.exec = Jvm.exec) {pc pc' : Nat} {Ls : Array Slot} (hZ : Z.Warmed39 s.vm) {own : String} {idx : Nat} {y : MethodName} {bytes : ByteArray} {maxL : Nat} {ret : Option FieldType} {rm : Room} {as' : Array Value} {Q : Option Value → Heap → List Loc → Prop} (hown : s.vm.findClass own = some m.cls) (w1 : (Cond.methodLink own idx y).before a0 Z = true) (w2 : (Cond.static y).before a0 Z = true) (w3 : (Cond.initialized y.cls).before a0 Z = true) (w4 : (Cond.code y bytes maxL ret).before a0 Z = true) (hy : y.cls ≠ "java/lang/invoke/MethodHandle" ∧ y.cls ≠ "java/lang/invoke/VarHandle") (hM : MetFree l y (head1 [Cond.code y bytes maxL ret] rm) (fun a U => a = as' ∧ Z.Warmed39 U.vm ∧ U.heap = h) (fun _ _ _ _ _ => True) (fun _ U o U' => ∃ v L, o = .returned v ∧ Q v U'.heap L ∧ FrameEnd U o U' L rm.cells rm.slots)) (eT : T.heap = h) (W : Nat) (hf : rm.frames + 1 ≤ R.frames) (hl : W + (maxL + 11) + rm.locals ≤ R.locals) (hc : cells + rm.cells ≤ R.cells) (hsl : slots + rm.slots ≤ R.slots) {st : List Value} (argsL rest : List Value) (hsz : Ls.size = c.maxLocals) (hlen : ∀ sig, parseMethodDescriptor y.desc = some sig → argsL.length = sig.parameters.length) (has : argsL.toArray = as') (hst : st = argsL.reverse ++ rest) (hW : 2 * 0 + (rest.map fun v => v.category).sum ≤ W) (hd : decode c.code pc = .ok (.invokestatic idx, 3)) (hp : pc + 3 = pc') (k : ∀ v T' L, Stand p l e R s m args below meth c T' (locs ++ L) (cells + rm.cells) (slots + rm.slots) → Q v T'.heap L → own_G p.tables e below P T' (mkF m pc' Ls (v.toList ++ rest))) : own_G p.tables e below P T (mkF m pc Ls st) := by
  subst hp
  obtain ⟨v, vm, ⟨T', L', k', n'⟩, -, X', ⟨L, hQ, l', y', z'⟩, stp⟩ := Jvm.LawKit.callS X hx (y := y) hown (mvT hZ w1) (mvT hZ w2) (mvT hZ w3) (mvT hZ w4) hy (backOf (W := W) hM hZ w4 w3 hf hl) (g := mkF m pc Ls st) rfl hsz (argsL := argsL) (rest := rest) hlen hst hW hd (fun _ _ => ⟨has, eT, hc, hsl⟩)
  dsimp only [Pt.U, Pt.locs, Pt.cells, Pt.slots] at X' l' y' z' stp hQ
  subst l' y' z'
  exact own_go stp (k v T' L X' hQ)
theorem own_callV (X : Stand p l e R s m args below meth c T locs cells slots) (hx : p.tables.exec = Jvm.exec) {pc pc' : Nat} {Ls : Array Slot} (hZ : Z.Warmed39 s.vm) {own C : String} {idx : Nat} {y : MethodName} {bytes : ByteArray} {maxL : Nat} {ret : Option FieldType} {rm : Room} {as' : Array Value} {Q : Option Value → Heap → List Loc → Prop} (hown : s.vm.findClass own = some m.cls) (w1 : (Cond.methodLink own idx y).before a0 Z = true) (w2 : (Cond.instanceMethod y).before a0 Z = true) (w3 : (Cond.selects C y y).before a0 Z = true) (w4 : (Cond.code y bytes maxL ret).before a0 Z = true) (w5 : (Cond.initialized y.cls).before a0 Z = true) (hy : y.cls ≠ "java/lang/invoke/MethodHandle" ∧ y.cls ≠ "java/lang/invoke/VarHandle") (hM : MetFree l y (head1 [Cond.code y bytes maxL ret] rm) (fun a U => a = as' ∧ Z.Warmed39 U.vm ∧ U.heap = h) (fun _ _ _ _ _ => True) (fun _ U o U' => ∃ v L, o = .returned v ∧ Q v U'.heap L ∧ FrameEnd U o U' L rm.cells rm.slots)) (eT : T.heap = h) {b : Addr} (E : Exa Z h b C) (W : Nat) (hf : rm.frames + 1 ≤ R.frames) (hl : W + (maxL + 11) + rm.locals ≤ R.locals) (hc : cells + rm.cells ≤ R.cells) (hsl : slots + rm.slots ≤ R.slots) {st : List Value} (argsL rest : List Value) (hsz : Ls.size = c.maxLocals) (hlen : ∀ sig, parseMethodDescriptor y.desc = some sig → argsL.length = sig.parameters.length) (has : (Value.ref b :: argsL).toArray = as') (hst : st = argsL.reverse ++ .ref b :: rest) (hW : 2 * 0 + (rest.map fun v => v.category).sum ≤ W) (hd : decode c.code pc = .ok (.invokevirtual idx, 3)) (hp : pc + 3 = pc') (k : ∀ v T' L, Stand p l e R s m args below meth c T' (locs ++ L) (cells + rm.cells) (slots + rm.slots) → Q v T'.heap L → own_G p.tables e below P T' (mkF m pc' Ls (v.toList ++ rest))) : own_G p.tables e below P T (mkF m pc Ls st) := by
  subst hp
  obtain ⟨cell, kc, q1, q2, q3, q4, -⟩ := E
  obtain ⟨v, vm, ⟨T', L', k', n'⟩, -, X', ⟨L, hQ, l', y', z'⟩, stp⟩ := Jvm.LawKit.callV X hx (y := y) (C := C) hown (mvT hZ w1) (mvT hZ w2) (mvT hZ w3) (mvT hZ w4) hy (backOf (W := W) hM hZ w4 w5 hf hl) (b := b) (cellB := cell) (by rw [eT]; exact q1) q4 (by rw [hZ.alike.findClass]; exact q2) (g := mkF m pc Ls st) rfl hsz (argsL := argsL) (rest := rest) hlen hst hW hd (fun _ _ => ⟨has, eT, hc, hsl⟩)
  dsimp only [Pt.U, Pt.locs, Pt.cells, Pt.slots] at X' l' y' z' stp hQ
  subst l' y' z'
  exact own_go stp (k v T' L X' hQ)
theorem own_callI (X : Stand p l e R s m args below meth c T locs cells slots) (hx : p.tables.exec = Jvm.exec) {pc pc' : Nat} {Ls : Array Slot} (hZ : Z.Warmed39 s.vm) {own : String} {idx : Nat} {y : MethodName} {bytes : ByteArray} {maxL : Nat} {rm : Room} {as' : Array Value} {Q : Option Value → Heap → List Loc → Prop} (hy1 : y.name = "<init>") (hown : s.vm.findClass own = some m.cls) (w1 : (Cond.methodLink own idx y).before a0 Z = true) (w2 : (Cond.instanceMethod y).before a0 Z = true) (w4 : (Cond.code y bytes maxL none).before a0 Z = true) (w5 : (Cond.initialized y.cls).before a0 Z = true) (hy : y.cls ≠ "java/lang/invoke/MethodHandle" ∧ y.cls ≠ "java/lang/invoke/VarHandle") (hM : MetFree l y (head1 [Cond.code y bytes maxL none] rm) (fun a U => a = as' ∧ Z.Warmed39 U.vm ∧ U.heap = h) (fun _ _ _ _ _ => True) (fun _ U o U' => ∃ v L, o = .returned v ∧ Q v U'.heap L ∧ FrameEnd U o U' L rm.cells rm.slots)) (eT : T.heap = h) {b : Addr} (W : Nat) (hf : rm.frames + 1 ≤ R.frames) (hl : W + (maxL + 11) + rm.locals ≤ R.locals) (hc : cells + rm.cells ≤ R.cells) (hsl : slots + rm.slots ≤ R.slots) {st : List Value} (argsL rest : List Value) (hsz : Ls.size = c.maxLocals) (hlen : ∀ sig, parseMethodDescriptor y.desc = some sig → argsL.length = sig.parameters.length) (has : (Value.ref b :: argsL).toArray = as') (hst : st = argsL.reverse ++ .ref b :: rest) (hW : 2 * 0 + (rest.map fun v => v.category).sum ≤ W) (hd : decode c.code pc = .ok (.invokespecial idx, 3)) (hp : pc + 3 = pc') (k : ∀ v T' L, Stand p l e R s m args below meth c T' (locs ++ L) (cells + rm.cells) (slots + rm.slots) → Q v T'.heap L → own_G p.tables e below P T' (mkF m pc' Ls (v.toList ++ rest))) : own_G p.tables e below P T (mkF m pc Ls st) := by
  subst hp
  obtain ⟨v, vm, ⟨T', L', k', n'⟩, -, X', ⟨L, hQ, l', y', z'⟩, stp⟩ := Jvm.LawKit.callI X hx (y := y) hown hy1 (mvT hZ w1) (mvT hZ w2) (mvT hZ w4) hy (backOf (W := W) hM hZ w4 w5 hf hl) (g := mkF m pc Ls st) rfl hsz (a := b) (argsL := argsL) (rest := rest) hlen hst hW hd (fun _ _ => ⟨has, eT, hc, hsl⟩)
  dsimp only [Pt.U, Pt.locs, Pt.cells, Pt.slots] at X' l' y' z' stp hQ
  subst l' y' z'
  exact own_go stp (k v T' L X' hQ)
theorem own_dupX2 (X : Stand p l e R s m args below meth c T locs cells slots) (hx : p.tables.exec = Jvm.exec) {pc pc' : Nat} {Ls : Array Slot} {x j : Int32} {a : Addr} {rest : List Value} (hd : decode c.code pc = .ok (.dup_x2, 1)) (hp : pc + 1 = pc') (k : own_G p.tables e below P T (mkF m pc' Ls (.int x :: .int j :: .ref a :: .int x :: rest))) : own_G p.tables e below P T (mkF m pc Ls (.int x :: .int j :: .ref a :: rest)) := by
  subst hp
  refine own_go (fun t q => ?_) k
  jvm_step X.here [X.here.top, hx, hd, Value.category]
  exact q
theorem own_callP (X : Stand p l e R s m args below meth c T locs cells slots) (hx : p.tables.exec = Jvm.exec) {pc pc' : Nat} {Ls : Array Slot} (hZ : Z.Warmed39 s.vm) {own C : String} {idx nn : Nat} {y : MethodName} {bytes : ByteArray} {maxL : Nat} {ret : Option FieldType} {rm : Room} {as' : Array Value} {Q : Option Value → Heap → List Loc → Prop} (hown : s.vm.findClass own = some m.cls) (w1 : (Cond.methodLink own idx y).before a0 Z = true) (w2 : (Cond.instanceMethod y).before a0 Z = true) (w3 : (Cond.privateMethod y).before a0 Z = true) (w4 : (Cond.code y bytes maxL ret).before a0 Z = true) (w5 : (Cond.initialized y.cls).before a0 Z = true) (w6 : (Cond.instantiable y.cls nn).before a0 Z = true) (hy : y.cls ≠ "java/lang/invoke/MethodHandle" ∧ y.cls ≠ "java/lang/invoke/VarHandle") (hM : MetFree l y (head1 [Cond.code y bytes maxL ret] rm) (fun a U => a = as' ∧ Z.Warmed39 U.vm ∧ U.heap = h) (fun _ _ _ _ _ => True) (fun _ U o U' => ∃ v L, o = .returned v ∧ Q v U'.heap L ∧ FrameEnd U o U' L rm.cells rm.slots)) (eT : T.heap = h) {b : Addr} (E : Exa Z h b C) (W : Nat) (hf : rm.frames + 1 ≤ R.frames) (hl : W + (maxL + 11) + rm.locals ≤ R.locals) (hc : cells + rm.cells ≤ R.cells) (hsl : slots + rm.slots ≤ R.slots) {st : List Value} (argsL rest : List Value) (hsz : Ls.size = c.maxLocals) (hlen : ∀ sig, parseMethodDescriptor y.desc = some sig → argsL.length = sig.parameters.length) (has : (Value.ref b :: argsL).toArray = as') (hst : st = argsL.reverse ++ .ref b :: rest) (hW : 2 * 0 + (rest.map fun v => v.category).sum ≤ W) (hd : decode c.code pc = .ok (.invokevirtual idx, 3)) (hp : pc + 3 = pc') (k : ∀ v T' L, Stand p l e R s m args below meth c T' (locs ++ L) (cells + rm.cells) (slots + rm.slots) → Q v T'.heap L → own_G p.tables e below P T' (mkF m pc' Ls (v.toList ++ rest))) : own_G p.tables e below P T (mkF m pc Ls st) := by
  subst hp
  obtain ⟨cell, q1, q2⟩ := E.cell
  obtain ⟨cc, kk, i1, i2, -, i4, -⟩ := Cond.instantiable_spec (mvT hZ w6 (args := args))
  have hpv := Cond.privateMethod_at (mvP hZ w3 (args := args))
  obtain ⟨v, vm, ⟨T', L', k', n'⟩, -, X', ⟨L, hQ, l', y', z'⟩, stp⟩ := X.privateBack hx (y := y) hown (mvT hZ w1) (mvT hZ w2) (Jvm.Stand.selects_self_of_private i1 i2 (Bool.or_eq_false_iff.mp i4).1 hpv (mvT hZ w2) hy) hpv (mvT hZ w4) hy (backOf (W := W) hM hZ w4 w5 hf hl) (g := mkF m pc Ls st) rfl hsz (Steps.refl _) (a := b) (cell := cell) (by rw [eT]; exact q1) q2 (argsL := argsL) (rest := rest) hlen hst hW hd (fun _ _ => ⟨has, eT, hc, hsl⟩)
  dsimp only [Pt.U, Pt.locs, Pt.cells, Pt.slots] at X' l' y' z' stp hQ
  subst l' y' z'
  exact own_go (fun t q => stp.trans q) (k v T' L X' hQ)
theorem own_fldI {u : Term} {C n d : String} {x : Addr} {z : Int32} (ht : u.eval args s none [] s = some (.ref x)) (hq : (Jvm.Cond.eq (.field u C n d) (.int z)).value args s none s [] = some true) : Fld s s.heap x C n d (.int z) :=
  Fld.start ((fld_at ht).symm.trans (Cond.eq_int (Cond.before_iff.mpr hq) rfl))
theorem own_fldR {u t : Term} {C n d : String} {x y : Addr} (ht : u.eval args s none [] s = some (.ref x)) (hu : t.eval args s none [] s = some (.ref y)) (hq : (Jvm.Cond.eq (.field u C n d) t).value args s none s [] = some true) : Fld s s.heap x C n d (.ref y) :=
  Fld.start ((fld_at ht).symm.trans (Cond.eq_refs (Cond.before_iff.mpr hq) hu rfl))
theorem own_none {u : Term} {x : Addr} {cl : Cell} (A : Arr s s.heap x cl .int) (ht : u.eval args s none [] s = some (.ref x)) (hq : (Jvm.Cond.eq (.length u) (.int 0)).value args s none s [] = some true) : Arv s s.heap x cl.cls .int (0 : Int32) [] (.int (0 : Int32)) := by
  have e1 := Cond.eq_int (Cond.before_iff.mpr hq) (n := 0) rfl
  obtain ⟨sd, SA, hev, harrAt, -⟩ := Term.length_spec e1
  have h31 := SBG.length_lt hev harrAt e1
  cases ht.symm.trans hev
  cases (Arr.fin (Vm.Alike.refl _) A).symm.trans harrAt
  have e2 := len_f ht harrAt h31
  have e3 : cl.slots.size.toInt32 = (0 : Int32) := by simpa using Option.some.inj (e2.symm.trans e1)
  have e4 : cl.slots.size = 0 := by
    have e5 := congrArg Int32.toInt e3
    rw [len_toInt h31] at e5
    have e6 : ((0 : Int32)).toInt = 0 := by decide
    omega
  exact ⟨cl, A, rfl, e4, by decide, fun k hk => by omega, fun i hi => by omega⟩
end OwnKit
section OwnFp
variable {p : Program} {l : Launch} {e : Env} {R : Room} {s : State} {m : MethodId} {args : Array Value} {below : List Frame} {meth : Method} {c : Code} {T : State} {locs : List Loc} {cells slots : Nat} {Z : State} {a0 : Array Value} {h h' : Heap} {P : Outcome → State → Prop}
theorem own_i2d (X : Stand p l e R s m args below meth c T locs cells slots) (hx : p.tables.exec = Jvm.exec) {pc pc' : Nat} {Ls : Array Slot} {x : Int32} {rest : List Value} (hd : decode c.code pc = .ok (.i2d, 1)) (hp : pc + 1 = pc') (k : own_G p.tables e below P T (mkF m pc' Ls (.double (FP.i2d x) :: rest))) : own_G p.tables e below P T (mkF m pc Ls (.int x :: rest)) := by
  subst hp; exact own_go (fun t q => XS.i2dS X.here hx rfl hd rfl rfl q) k
theorem own_dadd (X : Stand p l e R s m args below meth c T locs cells slots) (hx : p.tables.exec = Jvm.exec) {pc pc' : Nat} {Ls : Array Slot} {x y : UInt64} {rest : List Value} (hd : decode c.code pc = .ok (.dadd, 1)) (hn : Jvm.Free.Fl.NoNaN64 (FP.dadd x y)) (hp : pc + 1 = pc') (k : own_G p.tables e below P T (mkF m pc' Ls (.double (FP.dadd x y) :: rest))) : own_G p.tables e below P T (mkF m pc Ls (.double y :: .double x :: rest)) := by
  subst hp; exact own_go (fun t q => XS.daddS X.here hx rfl hd rfl hn rfl q) k
theorem own_dcmp (X : Stand p l e R s m args below meth c T locs cells slots) (hx : p.tables.exec = Jvm.exec) {pc pc' : Nat} {Ls : Array Slot} {o : CmpOp} {x y : UInt64} (v : Int32) {rest : List Value} (hd : decode c.code pc = .ok (.dcmp o, 1)) (hv : cmpValue (FP.dcmp x y) o = v) (hp : pc + 1 = pc') (k : own_G p.tables e below P T (mkF m pc' Ls (.int v :: rest))) : own_G p.tables e below P T (mkF m pc Ls (.double y :: .double x :: rest)) := by
  subst hp; exact own_go (fun t q => XS.dcmpS X.here hx rfl hd rfl hv q) k
theorem own_dconst0 (X : Stand p l e R s m args below meth c T locs cells slots) (hx : p.tables.exec = Jvm.exec) {pc pc' : Nat} {Ls : Array Slot} {st : List Value} (hd : decode c.code pc = .ok (.dconst 0, 1)) (hp : pc + 1 = pc') (k : own_G p.tables e below P T (mkF m pc' Ls (.double FP.dconst0 :: st))) : own_G p.tables e below P T (mkF m pc Ls (st)) := by
  subst hp; exact own_go (fun t q => XS.dconst0 X.here hx rfl hd rfl q) k
theorem own_dconst1 (X : Stand p l e R s m args below meth c T locs cells slots) (hx : p.tables.exec = Jvm.exec) {pc pc' : Nat} {Ls : Array Slot} {st : List Value} (hd : decode c.code pc = .ok (.dconst 1, 1)) (hp : pc + 1 = pc') (k : own_G p.tables e below P T (mkF m pc' Ls (.double FP.dconst1 :: st))) : own_G p.tables e below P T (mkF m pc Ls (st)) := by
  subst hp; exact own_go (fun t q => XS.dconst1 X.here hx rfl hd rfl q) k
theorem own_dloadN (X : Stand p l e R s m args below meth c T locs cells slots) (hx : p.tables.exec = Jvm.exec) {pc pc' : Nat} {Ls : Array Slot} {j : Fin 4} {v : UInt64} {st : List Value} (hd : decode c.code pc = .ok (.dload_n j, 1)) (hl : Ls[j.val]? = some (.val (.double v))) (hp : pc + 1 = pc') (k : own_G p.tables e below P T (mkF m pc' Ls (.double v :: st))) : own_G p.tables e below P T (mkF m pc Ls (st)) := by
  subst hp; exact own_go (fun t q => XS.dloadN X.here hx rfl hd hl q) k
theorem own_dstoreN (X : Stand p l e R s m args below meth c T locs cells slots) (hx : p.tables.exec = Jvm.exec) {pc pc' : Nat} {Ls : Array Slot} {j : Fin 4} {v : UInt64} {rest : List Value} {Ls' : Array Slot} (hd : decode c.code pc = .ok (.dstore_n j, 1)) (hl : storeLocals Ls j.val (.double v) = some Ls') (hp : pc + 1 = pc') (k : own_G p.tables e below P T (mkF m pc' Ls' (rest))) : own_G p.tables e below P T (mkF m pc Ls (.double v :: rest)) := by
  subst hp; exact own_go (fun t q => XS.dstoreN X.here hx rfl hd rfl hl q) k
theorem own_dload (X : Stand p l e R s m args below meth c T locs cells slots) (hx : p.tables.exec = Jvm.exec) {pc pc' : Nat} {Ls : Array Slot} {j : Nat} {v : UInt64} {st : List Value} (hd : decode c.code pc = .ok (.dload j, 2)) (hl : Ls[j]? = some (.val (.double v))) (hp : pc + 2 = pc') (k : own_G p.tables e below P T (mkF m pc' Ls (.double v :: st))) : own_G p.tables e below P T (mkF m pc Ls (st)) := by
  subst hp; exact own_go (fun t q => XS.dload X.here hx rfl hd hl q) k
theorem own_dstore (X : Stand p l e R s m args below meth c T locs cells slots) (hx : p.tables.exec = Jvm.exec) {pc pc' : Nat} {Ls : Array Slot} {j : Nat} {v : UInt64} {rest : List Value} {Ls' : Array Slot} (hd : decode c.code pc = .ok (.dstore j, 2)) (hl : storeLocals Ls j (.double v) = some Ls') (hp : pc + 2 = pc') (k : own_G p.tables e below P T (mkF m pc' Ls' (rest))) : own_G p.tables e below P T (mkF m pc Ls (.double v :: rest)) := by
  subst hp; exact own_go (fun t q => XS.dstore X.here hx rfl hd rfl hl q) k
theorem own_ldc2D (X : Stand p l e R s m args below meth c T locs cells slots) (hx : p.tables.exec = Jvm.exec) {pc pc' : Nat} {Ls : Array Slot} (hZ : Z.Warmed39 s.vm) {own : String} {idx : Nat} {z : UInt64} {st : List Value} (hown : s.vm.findClass own = some m.cls) (w : (Jvm.Cond.constantDouble own idx z).before a0 Z = true) (hd : decode c.code pc = .ok (.ldc2_w idx, 3)) (hp : pc + 3 = pc') (k : own_G p.tables e below P T (mkF m pc' Ls (.double z :: st))) : own_G p.tables e below P T (mkF m pc Ls st) := by
  subst hp; exact own_go (X.ldc2DoubleC hx hown (mvT hZ w) (g := mkF m pc Ls st) rfl hd) k
theorem own_daload (X : Stand p l e R s m args below meth c T locs cells slots) (hx : p.tables.exec = Jvm.exec) {pc pc' : Nat} {Ls : Array Slot} (hZ : Z.Warmed39 s.vm) {a : Addr} {cl : Cell} {j : Int32} {v : UInt64} {rest : List Value} (eT : T.heap = h) (A : Arr Z h a cl .double) (hj : ¬ (j < 0 ∨ cl.slots.size ≤ j.toNatClampNeg)) (hv : cl.slots[j.toNatClampNeg]? = some (.double v)) (hd : decode c.code pc = .ok (.daload, 1)) (hp : pc + 1 = pc') (k : own_G p.tables e below P T (mkF m pc' Ls (.double v :: rest))) : own_G p.tables e below P T (mkF m pc Ls (.int j :: .ref a :: rest)) := by
  subst hp; exact own_go (X.daload hx (j := j) (v := .double v) (by rw [eT]; exact A.1) (State.isArrayOf_alike hZ.alike A.2.1) A.2.2 hj hv (g := mkF m pc Ls (.int j :: .ref a :: rest)) rfl rfl hd) k
theorem own_stD (X : Stand p l e R s m args below meth c T locs cells slots) (hx : p.tables.exec = Jvm.exec) {pc pc' : Nat} {Ls : Array Slot} (hZ : Z.Warmed39 s.vm) {a : Addr} {cl : Cell} {j : Int32} {x : UInt64} {rest : List Value} (eT : T.heap = h) (A : Arr Z h a cl .double) (hj : ¬ (j < 0 ∨ cl.slots.size ≤ j.toNatClampNeg)) (hd : decode c.code pc = .ok (.dastore, 1)) (hp : pc + 1 = pc') (k : ∀ T' h', Stand p l e R s m args below meth c T' (locs ++ [⟨a, j.toNatClampNeg⟩]) cells slots → T'.heap = h' → Wr h h' a j.toNatClampNeg (.double x) → own_G p.tables e below P T' (mkF m pc' Ls rest)) : own_G p.tables e below P T (mkF m pc Ls (.double x :: .int j :: .ref a :: rest)) := by
  subst hp; obtain ⟨T', h', X', e', W', st⟩ := stD X hx hZ eT A (j := j) hj (g := mkF m pc Ls (.double x :: .int j :: .ref a :: rest)) rfl rfl hd; exact own_go st (k T' h' X' e' W')
theorem own_retD {Q : Option Value → Heap → List Loc → Prop} {C S : Nat} (X : Stand p l e R s m args below meth c T locs cells slots) (hx : p.tables.exec = Jvm.exec) (hlk : meth.locks = false) (hret : meth.sig.returnType = some .double) {pc : Nat} {Ls : Array Slot} {z : UInt64} {rest : List Value} (hd : decode c.code pc = .ok (.dreturn, 1)) (hC : cells ≤ C) (hS : slots ≤ S) (hq : Q (some (.double z)) T.heap locs) :
    own_G p.tables e below (own_P s Q C S) T (mkF m pc Ls (.double z :: rest)) :=
  own_ret X hlk (fun h => by rw [hret] at h; cases h) (fun fs hr => retOut X hx hret rfl (Or.inr (Or.inr (Or.inl ⟨rfl, rfl, z, rfl⟩))) hd hr) hC hS hq
/-! an array told by a function of the place -/
def own_Ar (Z : State) (h : Heap) (a : Addr) (ty : FieldType) (N : Nat) (F : Nat → Value) : Prop := ∃ c : Cell, Arr Z h a c ty ∧ c.slots.size = N ∧ ∀ i, i < N → c.slots[i]? = some (F i)
def own_upd {α : Type} (f : Nat → α) (q : Nat) (v : α) (i : Nat) : α := if i = q then v else f i
variable {a b : Addr} {ty : FieldType} {N : Nat} {F : Nat → Value} {sl : Nat} {v : Value} {ws : List Addr}
theorem own_Ar.lt (A : own_Ar Z h a ty N F) : a < h.size := by obtain ⟨c, A1, -⟩ := A; exact A1.lt
theorem own_Ar.ext (A : own_Ar Z h a ty N F) (E : Ext h h') : own_Ar Z h' a ty N F := by obtain ⟨c, A1, r⟩ := A; exact ⟨c, A1.ext E, r⟩
theorem own_Ar.other (A : own_Ar Z h b ty N F) (W : Wr h h' a sl v) (q : b ≠ a) : own_Ar Z h' b ty N F := by obtain ⟨c, A1, r⟩ := A; exact ⟨c, Arr.other W A1 q, r⟩
theorem own_Ar.keep (A : own_Ar Z h a ty N F) (K : Keep h h' ws) (q : a ∉ ws) : own_Ar Z h' a ty N F := by obtain ⟨c, A1, r⟩ := A; exact ⟨c, ⟨K.2.1 _ _ A1.1 q, A1.2⟩, r⟩
theorem own_Ar.set {G : Nat → Value} {j : Int32} {i : Nat} (A : own_Ar Z h a ty N F) (W : Wr h h' a j.toNatClampNeg v) (hj : j.toNatClampNeg = i) (hi : i < N) (hG : ∀ q, G q = if q = i then v else F q) : own_Ar Z h' a ty N G := by
  obtain ⟨c, A1, S1, H1⟩ := A
  refine ⟨c.setSlot j.toNatClampNeg v, Arr.same W A1, by rw [sz_set]; exact S1, fun q hq => ?_⟩
  rw [hG q, hj]
  by_cases e : q = i
  · subst e; rw [if_pos rfl]; simp [Cell.setSlot, S1, hi]
  · rw [if_neg e]; show (c.slots.setIfInBounds i v)[q]? = _; rw [Array.getElem?_setIfInBounds_ne (Ne.symm e)]; exact H1 q hq
theorem own_in {cl : Cell} {j : Int32} {i : Nat} (S : cl.slots.size = N) (h1 : ¬ j < 0) (h2 : j.toNatClampNeg = i) (h3 : i < N) : ¬ (j < 0 ∨ cl.slots.size ≤ j.toNatClampNeg) := by
  intro q
  rcases q with q | q
  · exact h1 q
  · omega
theorem own_Ar.fresh {k : ClassId} {z : Int32} (A : Arr Z h a (newA k ty z) ty) (hz : z.toNatClampNeg = N) (hF : ∀ i, F i = defaultValue ty) : own_Ar Z h a ty N F := by
  refine ⟨_, A, by rw [sz_new]; exact hz, fun i hi => ?_⟩
  rw [hF i]
  simp [newA, hz, hi]
end OwnFp
section OwnFf
variable {p : Program} {l : Launch} {e : Env} {R : Room} {s : State} {m : MethodId} {args : Array Value} {below : List Frame} {meth : Method} {c : Code} {T : State} {locs : List Loc} {cells slots : Nat} {Z : State} {a0 : Array Value} {h h' : Heap} {P : Outcome → State → Prop}
theorem own_l2d (X : Stand p l e R s m args below meth c T locs cells slots) (hx : p.tables.exec = Jvm.exec) {pc pc' : Nat} {Ls : Array Slot} {x : Int64} {rest : List Value} (hd : decode c.code pc = .ok (.l2d, 1)) (hp : pc + 1 = pc') (k : own_G p.tables e below P T (mkF m pc' Ls (.double (FP.l2d x) :: rest))) : own_G p.tables e below P T (mkF m pc Ls (.long x :: rest)) := by
  subst hp; exact own_go (fun t q => XS.l2dS X.here hx rfl hd rfl rfl q) k
theorem own_dmul (X : Stand p l e R s m args below meth c T locs cells slots) (hx : p.tables.exec = Jvm.exec) {pc pc' : Nat} {Ls : Array Slot} {x y : UInt64} {rest : List Value} (hd : decode c.code pc = .ok (.dmul, 1)) (hn : Jvm.Free.Fl.NoNaN64 (FP.dmul x y)) (hp : pc + 1 = pc') (k : own_G p.tables e below P T (mkF m pc' Ls (.double (FP.dmul x y) :: rest))) : own_G p.tables e below P T (mkF m pc Ls (.double y :: .double x :: rest)) := by
  subst hp; exact own_go (fun t q => XS.dmulS X.here hx rfl hd rfl hn rfl q) k
theorem own_fmul (X : Stand p l e R s m args below meth c T locs cells slots) (hx : p.tables.exec = Jvm.exec) {pc pc' : Nat} {Ls : Array Slot} {x y : UInt32} (v : UInt32) {rest : List Value} (hd : decode c.code pc = .ok (.fmul, 1)) (hn : Jvm.Free.Fl.NoNaN32 (FP.fmul x y)) (hv : FP.fmul x y = v) (hp : pc + 1 = pc') (k : own_G p.tables e below P T (mkF m pc' Ls (.float v :: rest))) : own_G p.tables e below P T (mkF m pc Ls (.float y :: .float x :: rest)) := by
  subst hp; exact own_go (fun t q => XS.fmulS X.here hx rfl hd rfl hn hv q) k
theorem own_f2d (X : Stand p l e R s m args below meth c T locs cells slots) (hx : p.tables.exec = Jvm.exec) {pc pc' : Nat} {Ls : Array Slot} {x : UInt32} {rest : List Value} (hd : decode c.code pc = .ok (.f2d, 1)) (hn : Jvm.Free.Fl.NoNaN64 (FP.f2d x)) (hp : pc + 1 = pc') (k : own_G p.tables e below P T (mkF m pc' Ls (.double (FP.f2d x) :: rest))) : own_G p.tables e below P T (mkF m pc Ls (.float x :: rest)) := by
  subst hp; exact own_go (fun t q => XS.f2dS X.here hx rfl hd rfl hn rfl q) k
theorem own_d2f (X : Stand p l e R s m args below meth c T locs cells slots) (hx : p.tables.exec = Jvm.exec) {pc pc' : Nat} {Ls : Array Slot} {x : UInt64} (v : UInt32) {rest : List Value} (hd : decode c.code pc = .ok (.d2f, 1)) (hn : Jvm.Free.Fl.NoNaN32 (FP.d2f x)) (hv : FP.d2f x = v) (hp : pc + 1 = pc') (k : own_G p.tables e below P T (mkF m pc' Ls (.float v :: rest))) : own_G p.tables e below P T (mkF m pc Ls (.double x :: rest)) := by
  subst hp; exact own_go (fun t q => XS.d2fS X.here hx rfl hd rfl hn hv q) k
theorem own_fcmp (X : Stand p l e R s m args below meth c T locs cells slots) (hx : p.tables.exec = Jvm.exec) {pc pc' : Nat} {Ls : Array Slot} {o : CmpOp} {x y : UInt32} (v : Int32) {rest : List Value} (hd : decode c.code pc = .ok (.fcmp o, 1)) (hv : cmpValue (FP.fcmp x y) o = v) (hp : pc + 1 = pc') (k : own_G p.tables e below P T (mkF m pc' Ls (.int v :: rest))) : own_G p.tables e below P T (mkF m pc Ls (.float y :: .float x :: rest)) := by
  subst hp; exact own_go (fun t q => XS.fcmpS X.here hx rfl hd rfl hv q) k
theorem own_fconst2 (X : Stand p l e R s m args below meth c T locs cells slots) (hx : p.tables.exec = Jvm.exec) {pc pc' : Nat} {Ls : Array Slot} {st : List Value} (hd : decode c.code pc = .ok (.fconst 2, 1)) (hp : pc + 1 = pc') (k : own_G p.tables e below P T (mkF m pc' Ls (.float FP.fconst2 :: st))) : own_G p.tables e below P T (mkF m pc Ls (st)) := by
  subst hp; exact own_go (fun t q => XS.fconst2 X.here hx rfl hd rfl q) k
theorem own_floadN (X : Stand p l e R s m args below meth c T locs cells slots) (hx : p.tables.exec = Jvm.exec) {pc pc' : Nat} {Ls : Array Slot} {j : Fin 4} {v : UInt32} {st : List Value} (hd : decode c.code pc = .ok (.fload_n j, 1)) (hl : Ls[j.val]? = some (.val (.float v))) (hp : pc + 1 = pc') (k : own_G p.tables e below P T (mkF m pc' Ls (.float v :: st))) : own_G p.tables e below P T (mkF m pc Ls (st)) := by
  subst hp; exact own_go (fun t q => XS.floadN X.here hx rfl hd hl q) k
theorem own_fstoreN (X : Stand p l e R s m args below meth c T locs cells slots) (hx : p.tables.exec = Jvm.exec) {pc pc' : Nat} {Ls : Array Slot} {j : Fin 4} {v : UInt32} {rest : List Value} {Ls' : Array Slot} (hd : decode c.code pc = .ok (.fstore_n j, 1)) (hl : storeLocals Ls j.val (.float v) = some Ls') (hp : pc + 1 = pc') (k : own_G p.tables e below P T (mkF m pc' Ls' (rest))) : own_G p.tables e below P T (mkF m pc Ls (.float v :: rest)) := by
  subst hp; exact own_go (fun t q => XS.fstoreN X.here hx rfl hd rfl hl q) k
theorem own_fload (X : Stand p l e R s m args below meth c T locs cells slots) (hx : p.tables.exec = Jvm.exec) {pc pc' : Nat} {Ls : Array Slot} {j : Nat} {v : UInt32} {st : List Value} (hd : decode c.code pc = .ok (.fload j, 2)) (hl : Ls[j]? = some (.val (.float v))) (hp : pc + 2 = pc') (k : own_G p.tables e below P T (mkF m pc' Ls (.float v :: st))) : own_G p.tables e below P T (mkF m pc Ls (st)) := by
  subst hp; exact own_go (fun t q => XS.fload X.here hx rfl hd hl q) k
theorem own_fstore (X : Stand p l e R s m args below meth c T locs cells slots) (hx : p.tables.exec = Jvm.exec) {pc pc' : Nat} {Ls : Array Slot} {j : Nat} {v : UInt32} {rest : List Value} {Ls' : Array Slot} (hd : decode c.code pc = .ok (.fstore j, 2)) (hl : storeLocals Ls j (.float v) = some Ls') (hp : pc + 2 = pc') (k : own_G p.tables e below P T (mkF m pc' Ls' (rest))) : own_G p.tables e below P T (mkF m pc Ls (.float v :: rest)) := by
  subst hp; exact own_go (fun t q => XS.fstore X.here hx rfl hd rfl hl q) k
theorem own_ldcF (X : Stand p l e R s m args below meth c T locs cells slots) (hx : p.tables.exec = Jvm.exec) {pc pc' : Nat} {Ls : Array Slot} (hZ : Z.Warmed39 s.vm) {own : String} {idx : Nat} {z : UInt32} {st : List Value} (hown : s.vm.findClass own = some m.cls) (w : (Jvm.Cond.constantFloat own idx z).before a0 Z = true) (hd : decode c.code pc = .ok (.ldc idx, 2)) (hp : pc + 2 = pc') (k : own_G p.tables e below P T (mkF m pc' Ls (.float z :: st))) : own_G p.tables e below P T (mkF m pc Ls st) := by
  subst hp; exact own_go (X.ldcFloatC hx hown (mvT hZ w) (g := mkF m pc Ls st) rfl hd) k
theorem own_retF {Q : Option Value → Heap → List Loc → Prop} {C S : Nat} (X : Stand p l e R s m args below meth c T locs cells slots) (hx : p.tables.exec = Jvm.exec) (hlk : meth.locks = false) (hret : meth.sig.returnType = some .float) {pc : Nat} {Ls : Array Slot} {z : UInt32} {rest : List Value} (hd : decode c.code pc = .ok (.freturn, 1)) (hC : cells ≤ C) (hS : slots ≤ S) (hq : Q (some (.float z)) T.heap locs) :
    own_G p.tables e below (own_P s Q C S) T (mkF m pc Ls (.float z :: rest)) :=
  own_ret X hlk (fun h => by rw [hret] at h; cases h) (fun fs hr => retOut X hx hret rfl (Or.inr (Or.inr (Or.inr (Or.inl ⟨rfl, rfl, z, rfl⟩)))) hd hr) hC hS hq
end OwnFf
theorem own_t32_m200 : (-200 : Int32).toInt = -200 := by decide
theorem own_t32_m130 : (-130 : Int32).toInt = -130 := by decide
theorem own_t32_m126 : (-126 : Int32).toInt = -126 := by decide
theorem own_t32_m20 : (-20 : Int32).toInt = -20 := by decide
theorem own_t32_0 : (0 : Int32).toInt = 0 := by decide
theorem own_t32_1 : (1 : Int32).toInt = 1 := by decide
theorem own_t32_2 : (2 : Int32).toInt = 2 := by decide
theorem own_t32_3 : (3 : Int32).toInt = 3 := by decide
theorem own_t32_4 : (4 : Int32).toInt = 4 := by decide
theorem own_t32_16 : (16 : Int32).toInt = 16 := by decide
theorem own_t32_60 : (60 : Int32).toInt = 60 := by decide
theorem own_t32_62 : (62 : Int32).toInt = 62 := by decide
theorem own_t32_63 : (63 : Int32).toInt = 63 := by decide
theorem own_t32_119 : (119 : Int32).toInt = 119 := by decide
theorem own_t32_126 : (126 : Int32).toInt = 126 := by decide
theorem own_t32_256 : (256 : Int32).toInt = 256 := by decide
theorem own_t32_65536 : (65536 : Int32).toInt = 65536 := by decide
theorem own_t64_0 : (0 : Int64).toInt = 0 := by decide
theorem own_on {n : Nat} (h : n < 100000) : (Int32.ofNat n).toInt = n := Int32.toInt_ofNat_of_lt (by omega)
/-! plain law: powers of two as floats, and the scaled double -/
def own_b (j : Nat) : UInt32 := UInt32.ofNat ((j + 1) * 8388608)
theorem own_bv64 : ∀ j : Fin 247, FP.Core.val64 (FP.f2d (own_b j.val)) = .fin false (2 ^ 52) ((j.val : Int) - 178) := by decide +kernel
theorem own_bmul : ∀ j : Fin 246, FP.fmul (own_b j.val) FP.fconst2 = own_b (j.val + 1) := by decide +kernel
theorem own_bcmp : ∀ j : Fin 247, cmpValue (FP.fcmp (own_b j.val) 2063597568) .g = if j.val ≤ 245 then (if j.val = 245 then (0 : Int32) else (-1 : Int32)) else (1 : Int32) := by decide +kernel
def own_one (s : Nat) : Int64 := (1 : Int64) <<< ((Int32.ofNat s) &&& 0x3f).toInt64
theorem own_v1 : ∀ s : Fin 63, FP.Core.val64 (FP.l2d (own_one s.val)) = .fin false (2 ^ 52) ((s.val : Int) - 52) := by decide +kernel
theorem own_round (sg : Bool) (A k j : Nat) (e : Int) (h1 : 2 ^ 52 ≤ A * 2 ^ k) (h2 : A * 2 ^ k < 2 ^ 53) (q1 : -1074 ≤ e - k) (q2 : e - k ≤ 971) : FP.Core.round FP.Core.b64 (.fin sg (A * 2 ^ j) (e - j)) = .fin sg (A * 2 ^ k) (e - k) := by
  refine FP.Core.roundRatio_exact FP.Core.good_b64 (by decide) ⟨h2, q1, q2, Or.inr h1⟩ ?_
  rcases Nat.le_total j k with h | h
  · obtain ⟨d, rfl⟩ : ∃ d, k = j + d := ⟨k - j, by omega⟩
    rw [show (e - (j : Int) - (e - ((j + d : Nat) : Int))).toNat = d by omega, show (e - ((j + d : Nat) : Int) - (e - (j : Int))).toNat = 0 by omega]
    rw [Nat.pow_add, Nat.pow_zero, Nat.mul_one, Nat.mul_one, Nat.mul_assoc]
  · obtain ⟨d, rfl⟩ : ∃ d, j = k + d := ⟨j - k, by omega⟩
    rw [show (e - ((k + d : Nat) : Int) - (e - (k : Int))).toNat = 0 by omega, show (e - (k : Int) - (e - ((k + d : Nat) : Int))).toNat = d by omega]
    rw [Nat.pow_add, Nat.pow_zero, Nat.mul_one, Nat.mul_one, Nat.mul_assoc]
theorem own_norm (A : Nat) (h0 : 0 < A) (h1 : A ≤ 2 ^ 31) : ∃ k : Nat, 21 ≤ k ∧ k ≤ 52 ∧ 2 ^ 52 ≤ A * 2 ^ k ∧ A * 2 ^ k < 2 ^ 53 := by
  have a := Nat.log2_self_le (n := A) (by omega)
  have b := Nat.lt_log2_self (n := A)
  have c : A.log2 ≤ 31 := by
    rcases Nat.lt_or_ge 31 A.log2 with h | h
    · have := Nat.pow_le_pow_right (n := 2) (by decide) (show 32 ≤ A.log2 by omega)
      have : (2 : Nat) ^ 31 < 2 ^ 32 := by decide
      omega
    · exact h
  refine ⟨52 - A.log2, by omega, by omega, ?_, ?_⟩
  · calc 2 ^ 52 = 2 ^ A.log2 * 2 ^ (52 - A.log2) := by rw [← Nat.pow_add]; congr 1; omega
      _ ≤ A * 2 ^ (52 - A.log2) := Nat.mul_le_mul_right _ a
  · calc A * 2 ^ (52 - A.log2) < 2 ^ (A.log2 + 1) * 2 ^ (52 - A.log2) := Nat.mul_lt_mul_of_pos_right b (Nat.two_pow_pos _)
      _ = 2 ^ 53 := by rw [← Nat.pow_add]; congr 1; omega
def own_least (a : Int32) (s : Nat) (sc : UInt64) : UInt64 := FP.dmul (FP.dmul (FP.i2d a) (FP.l2d (own_one s))) sc
theorem own_prod {x y : UInt64} {sg : Bool} {A k : Nat} {e r : Int} (hx : FP.Core.val64 x = .fin sg (A * 2 ^ k) (e - k)) (hy : FP.Core.val64 y = .fin false (2 ^ 52) (r - 52)) (h1 : 2 ^ 52 ≤ A * 2 ^ k) (h2 : A * 2 ^ k < 2 ^ 53) (q1 : -1074 ≤ e + r - k) (q2 : e + r - k ≤ 971) : FP.Core.val64 (FP.dmul x y) = .fin sg (A * 2 ^ k) (e + r - k) := by
  rw [FP.dmul_core, FP.Core.val64_dmul, hx, hy]
  show FP.Core.round FP.Core.b64 (.fin (sg != false) (A * 2 ^ k * 2 ^ 52) (e - k + (r - 52))) = _
  rw [show (sg != false) = sg by cases sg <;> rfl, show A * 2 ^ k * 2 ^ 52 = A * 2 ^ (k + 52) by rw [Nat.pow_add, Nat.mul_assoc], show e - (k : Int) + (r - 52) = e + r - ((k + 52 : Nat) : Int) by omega]
  exact own_round sg A k (k + 52) (e + r) h1 h2 q1 q2
theorem own_i2dv (a : Int32) {k : Nat} (h1 : 2 ^ 52 ≤ a.toInt.natAbs * 2 ^ k) (h2 : a.toInt.natAbs * 2 ^ k < 2 ^ 53) (hk : k ≤ 52) : FP.Core.val64 (FP.i2d a) = .fin (decide (a.toInt < 0)) (a.toInt.natAbs * 2 ^ k) (0 - k) := by
  rw [FP.i2d_core, FP.Core.val64_i2d]
  show FP.Core.round FP.Core.b64 (.fin (decide (a.toInt < 0)) a.toInt.natAbs 0) = _
  have q := own_round (decide (a.toInt < 0)) a.toInt.natAbs k 0 0 h1 h2 (by omega) (by omega)
  rw [Nat.pow_zero, Nat.mul_one, show (0 : Int) - ((0 : Nat) : Int) = 0 from rfl] at q
  exact q
theorem own_leastv (a : Int32) (s : Nat) (hs : s < 63) {sc : UInt64} {r : Int} (hsc : FP.Core.val64 sc = .fin false (2 ^ 52) (r - 52)) (hr1 : -200 ≤ r) (hr2 : r ≤ 60) {k : Nat} (h1 : 2 ^ 52 ≤ a.toInt.natAbs * 2 ^ k) (h2 : a.toInt.natAbs * 2 ^ k < 2 ^ 53) (hk : k ≤ 52) :
    FP.Core.val64 (FP.dmul (FP.i2d a) (FP.l2d (own_one s))) = .fin (decide (a.toInt < 0)) (a.toInt.natAbs * 2 ^ k) ((s : Int) - k) ∧ FP.Core.val64 (own_least a s sc) = .fin (decide (a.toInt < 0)) (a.toInt.natAbs * 2 ^ k) ((s : Int) + r - k) := by
  have e1 := own_prod (own_i2dv a h1 h2 hk) (own_v1 ⟨s, hs⟩) h1 h2 (by show -1074 ≤ (0 : Int) + (s : Int) - k; omega) (by show (0 : Int) + (s : Int) - k ≤ 971; omega)
  rw [show (0 : Int) + ((⟨s, hs⟩ : Fin 63).val : Int) = (s : Int) from Int.zero_add _] at e1
  exact ⟨e1, own_prod e1 hsc h1 h2 (by omega) (by omega)⟩
theorem own_zero_round (sg : Bool) (q : Int) : FP.Core.round FP.Core.b64 (.fin sg 0 q) = .fin sg 0 FP.Core.b64.qmin := by
  show FP.Core.roundRatio _ _ 0 1 q = _
  unfold FP.Core.roundRatio
  rw [if_pos rfl]
theorem own_zero_prod {x y : UInt64} {sg : Bool} {q : Int} {r : Int} (hx : FP.Core.val64 x = .fin sg 0 q) (hy : FP.Core.val64 y = .fin false (2 ^ 52) (r - 52)) : FP.Core.val64 (FP.dmul x y) = .fin sg 0 FP.Core.b64.qmin := by
  rw [FP.dmul_core, FP.Core.val64_dmul, hx, hy]
  show FP.Core.round FP.Core.b64 (.fin (sg != false) (0 * 2 ^ 52) (q + (r - 52))) = _
  rw [show (sg != false) = sg by cases sg <;> rfl, Nat.zero_mul]
  exact own_zero_round sg _
theorem own_least0 (s : Nat) (hs : s < 63) {sc : UInt64} {r : Int} (hsc : FP.Core.val64 sc = .fin false (2 ^ 52) (r - 52)) : FP.Core.val64 (FP.dmul (FP.i2d 0) (FP.l2d (own_one s))) = .fin false 0 FP.Core.b64.qmin ∧ FP.Core.val64 (own_least 0 s sc) = .fin false 0 FP.Core.b64.qmin := by
  have e0 : FP.Core.val64 (FP.i2d 0) = .fin false 0 FP.Core.b64.qmin := by decide +kernel
  have e1 := own_zero_prod e0 (own_v1 ⟨s, hs⟩)
  exact ⟨e1, own_zero_prod e1 hsc⟩
/-- the order of a power of two and the scaled double -/
theorem own_ord {L : UInt64} {A k C j : Nat} {E : Int} (hj : j < 247) (hL : FP.Core.val64 L = .fin false (A * 2 ^ k) (E - k)) (hC1 : A ≤ 2 ^ C) (hC2 : 2 ^ C < 2 * A) : (cmpValue (FP.dcmp (FP.f2d (own_b j)) L) .g < (0 : Int32)) ↔ (j : Int) - 126 < C + E := by
  have e1 := own_bv64 ⟨j, hj⟩
  have e2 : FP.dcmp (FP.f2d (own_b j)) L = some (compare ((2 ^ 52 * 2 ^ (((j : Int) - 178) - min ((j : Int) - 178) (E - k)).toNat : Nat) : Int) ((A * 2 ^ k * 2 ^ ((E - k) - min ((j : Int) - 178) (E - k)).toNat : Nat) : Int)) := by
    show FP.Core.order (FP.Core.val64 (FP.f2d (own_b j))) (FP.Core.val64 L) = _
    rw [show FP.Core.val64 (FP.f2d (own_b j)) = _ from e1, hL]
    rfl
  rw [e2]
  generalize hx : (((j : Int) - 178) - min ((j : Int) - 178) (E - k)).toNat = x
  generalize hy : ((E - k) - min ((j : Int) - 178) (E - k)).toNat = y
  have hxy : (52 + x : Int) - (k + y) = (j : Int) - 126 - E := by omega
  have key : (2 ^ 52 * 2 ^ x < A * 2 ^ k * 2 ^ y) ↔ (j : Int) - 126 < C + E := by
    rw [← Nat.pow_add, Nat.mul_assoc, ← Nat.pow_add]
    constructor
    · intro h
      rcases Int.lt_or_le ((j : Int) - 126) (C + E) with q | q
      · exact q
      · exfalso
        have : A * 2 ^ (k + y) ≤ 2 ^ C * 2 ^ (k + y) := Nat.mul_le_mul_right _ hC1
        rw [← Nat.pow_add] at this
        have := Nat.pow_le_pow_right (n := 2) (by decide) (show C + (k + y) ≤ 52 + x by omega)
        omega
    · intro h
      have a1 : 2 ^ C * 2 ^ (k + y) < 2 * A * 2 ^ (k + y) := Nat.mul_lt_mul_of_pos_right hC2 (Nat.two_pow_pos _)
      rw [← Nat.pow_add] at a1
      have a2 := Nat.pow_le_pow_right (n := 2) (by decide) (show 52 + x + 1 ≤ C + (k + y) by omega)
      rw [Nat.pow_succ] at a2
      have a3 : 2 * A * 2 ^ (k + y) = 2 * (A * 2 ^ (k + y)) := Nat.mul_assoc _ _ _
      omega
  generalize 2 ^ 52 * 2 ^ x = X at key ⊢
  generalize A * 2 ^ k * 2 ^ y = Y at key ⊢
  rw [← key]
  rcases Nat.lt_trichotomy X Y with h | h | h
  · have : compare (X : Int) (Y : Int) = .lt := by rw [Int.compare_eq_lt]; omega
    rw [this]; exact ⟨fun _ => h, fun _ => by decide⟩
  · have : compare (X : Int) (Y : Int) = .eq := by rw [Int.compare_eq_eq]; omega
    rw [this]; exact ⟨fun q => absurd q (by decide), fun q => by omega⟩
  · have : compare (X : Int) (Y : Int) = .gt := by rw [Int.compare_eq_gt]; omega
    rw [this]; exact ⟨fun q => absurd q (by decide), fun q => by omega⟩
theorem own_ord_neg {L : UInt64} {sg : Bool} {c : Nat} {q : Int} (hL : FP.Core.val64 L = .fin sg c q) (h : sg = true ∨ c = 0) : ¬ (cmpValue (FP.dcmp (FP.f2d (own_b 0)) L) .g < (0 : Int32)) := by
  have e1 := own_bv64 ⟨0, by decide⟩
  have e2 : FP.dcmp (FP.f2d (own_b 0)) L = some (compare (FP.Core.signed false (FP.Core.inUnits (2 ^ 52) (((0 : Nat) : Int) - 178) (min (((0 : Nat) : Int) - 178) q))) (FP.Core.signed sg (FP.Core.inUnits c q (min (((0 : Nat) : Int) - 178) q)))) := by
    show FP.Core.order (FP.Core.val64 (FP.f2d (own_b 0))) (FP.Core.val64 L) = _
    rw [show FP.Core.val64 (FP.f2d (own_b 0)) = _ from e1, hL]
    rfl
  rw [e2]
  have p1 : 0 < FP.Core.signed false (FP.Core.inUnits (2 ^ 52) (((0 : Nat) : Int) - 178) (min (((0 : Nat) : Int) - 178) q)) := by
    show (0 : Int) < ((2 ^ 52 * 2 ^ _ : Nat) : Int)
    have := Nat.mul_pos (Nat.two_pow_pos 52) (Nat.two_pow_pos ((((0 : Nat) : Int) - 178) - (min (((0 : Nat) : Int) - 178) q)).toNat)
    omega
  have p2 : FP.Core.signed sg (FP.Core.inUnits c q (min (((0 : Nat) : Int) - 178) q)) ≤ 0 := by
    rcases h with rfl | rfl
    · show -((FP.Core.inUnits c q _ : Nat) : Int) ≤ 0; omega
    · unfold FP.Core.inUnits; rw [Nat.zero_mul, FP.Core.signed_zero]; exact Int.le_refl _
  have : compare (FP.Core.signed false (FP.Core.inUnits (2 ^ 52) (((0 : Nat) : Int) - 178) (min (((0 : Nat) : Int) - 178) q))) (FP.Core.signed sg (FP.Core.inUnits c q (min (((0 : Nat) : Int) - 178) q))) = .gt := by rw [Int.compare_eq_gt]; omega
  rw [this]; decide
def own_v (L : UInt64) (j : Nat) : Int32 := cmpValue (FP.dcmp (FP.f2d (own_b j)) L) .g
def own_run (L : UInt64) : Nat → Nat → Nat
  | 0, j => j
  | k + 1, j => if own_v L j < (0 : Int32) then own_run L k (j + 1) else j
def own_u (j : Nat) : UInt32 := if j ≤ 245 then own_b j else 2139095040
theorem own_run_spec {L : UInt64} {e : Int} (h : ∀ j, j < 247 → ((own_v L j < (0 : Int32)) ↔ (j : Int) - 126 < e)) : ∀ k j, j + k = 246 → own_run L k j = if e ≤ (j : Int) - 126 then j else if 120 ≤ e then 246 else (e + 126).toNat := by
  intro k
  induction k with
  | zero =>
    intro j hj
    unfold own_run
    split
    · rfl
    · split <;> omega
  | succ k ih =>
    intro j hj
    unfold own_run
    by_cases q : own_v L j < (0 : Int32)
    · have q2 := (h j (by omega)).mp q
      rw [if_pos q, ih (j + 1) (by omega), if_neg (show ¬ e ≤ (j : Int) - 126 by omega)]
      by_cases q3 : 120 ≤ e
      · rw [if_pos q3]
        split
        · omega
        · rfl
      · rw [if_neg q3]
        split
        · omega
        · rfl
    · have q2 : ¬ (j : Int) - 126 < e := fun q3 => q ((h j (by omega)).mpr q3)
      rw [if_neg q, if_pos (by omega)]
theorem own_run_zero {L : UInt64} (h : ¬ (own_v L 0 < (0 : Int32))) : own_run L 246 0 = 0 := by
  show (if own_v L 0 < (0 : Int32) then own_run L 245 1 else 0) = 0
  rw [if_neg h]
theorem own_bnn : ∀ j : Fin 247, Jvm.Free.Fl.NoNaN64 (FP.f2d (own_b j.val)) ∧ Jvm.Free.Fl.NoNaN32 (own_b j.val) := by
  unfold Jvm.Free.Fl.NoNaN64 Jvm.Free.Fl.NoNaN32; decide +kernel
def own_pk (t : Nat) : Int64 := (1 : Int64) <<< (((Int32.ofNat t) % (62 : Int32)) &&& 0x3f).toInt64
def own_p0 (t : Nat) : UInt64 := FP.dmul 4039728865751334912 (FP.l2d (own_pk t))
def own_p1 (t : Nat) : UInt64 := FP.dmul (own_p0 t) 4886405595696988160
def own_p2 (t : Nat) : UInt64 := FP.dmul (own_p1 t) 4886405595696988160
def own_p3 (t : Nat) : UInt64 := FP.dmul (own_p2 t) 4886405595696988160
theorem own_pnn : ∀ t : Fin 246, Jvm.Free.Fl.NoNaN64 (own_p0 t.val) ∧ Jvm.Free.Fl.NoNaN64 (own_p1 t.val) ∧ Jvm.Free.Fl.NoNaN64 (own_p2 t.val) ∧ Jvm.Free.Fl.NoNaN64 (own_p3 t.val) := by
  unfold Jvm.Free.Fl.NoNaN64; decide +kernel
theorem own_pv : ∀ t : Fin 246, (t.val / 62 = 0 → FP.d2f (own_p0 t.val) = own_b t.val) ∧ (t.val / 62 = 1 → FP.d2f (own_p1 t.val) = own_b t.val) ∧ (t.val / 62 = 2 → FP.d2f (own_p2 t.val) = own_b t.val) ∧ (t.val / 62 = 3 → FP.d2f (own_p3 t.val) = own_b t.val) := by decide +kernel

theorem d1_0 : decode prog_41_method_19_code 0 = .ok (.ldc 192, 2) := by decide +kernel
theorem d1_2 : decode prog_41_method_19_code 2 = .ok (.fstore_n 2, 1) := by decide +kernel
theorem d1_3 : decode prog_41_method_19_code 3 = .ok (.fload_n 2, 1) := by decide +kernel
theorem d1_4 : decode prog_41_method_19_code 4 = .ok (.f2d, 1) := by decide +kernel
theorem d1_5 : decode prog_41_method_19_code 5 = .ok (.dload_n 0, 1) := by decide +kernel
theorem d1_6 : decode prog_41_method_19_code 6 = .ok (.dcmp .g, 1) := by decide +kernel
theorem d1_7 : decode prog_41_method_19_code 7 = .ok (.ifCond .ge 17, 3) := by decide +kernel
theorem d1_10 : decode prog_41_method_19_code 10 = .ok (.fload_n 2, 1) := by decide +kernel
theorem d1_11 : decode prog_41_method_19_code 11 = .ok (.ldc 193, 2) := by decide +kernel
theorem d1_13 : decode prog_41_method_19_code 13 = .ok (.fcmp .g, 1) := by decide +kernel
theorem d1_14 : decode prog_41_method_19_code 14 = .ok (.ifCond .gt 10, 3) := by decide +kernel
theorem d1_17 : decode prog_41_method_19_code 17 = .ok (.fload_n 2, 1) := by decide +kernel
theorem d1_18 : decode prog_41_method_19_code 18 = .ok (.fconst 2, 1) := by decide +kernel
theorem d1_19 : decode prog_41_method_19_code 19 = .ok (.fmul, 1) := by decide +kernel
theorem d1_20 : decode prog_41_method_19_code 20 = .ok (.fstore_n 2, 1) := by decide +kernel
theorem d1_21 : decode prog_41_method_19_code 21 = .ok (.goto (-18), 3) := by decide +kernel
theorem d1_24 : decode prog_41_method_19_code 24 = .ok (.fload_n 2, 1) := by decide +kernel
theorem d1_25 : decode prog_41_method_19_code 25 = .ok (.ldc 193, 2) := by decide +kernel
theorem d1_27 : decode prog_41_method_19_code 27 = .ok (.fcmp .g, 1) := by decide +kernel
theorem d1_28 : decode prog_41_method_19_code 28 = .ok (.ifCond .gt 7, 3) := by decide +kernel
theorem d1_31 : decode prog_41_method_19_code 31 = .ok (.fload_n 2, 1) := by decide +kernel
theorem d1_32 : decode prog_41_method_19_code 32 = .ok (.goto 5, 3) := by decide +kernel
theorem d1_35 : decode prog_41_method_19_code 35 = .ok (.ldc 194, 2) := by decide +kernel
theorem d1_37 : decode prog_41_method_19_code 37 = .ok (.freturn, 1) := by decide +kernel
def Qf (x : UInt32) (h0 : Heap) (n0 : Nat) (v : Option Value) (h : Heap) (L : List Loc) : Prop := v = some (.float x) ∧ Fr n0 L ∧ h = h0
theorem ef_rm_unit (m : MethodId) (x0 : UInt64) : entryFrame m #[(.double x0)] 3 = mkF m 0 #[.val (.double x0), .second, .unset] [] := by first | (simp [entryFrame, mkF, argsToLocals, Value.category, maxLocals]; done) | rfl
theorem pf_0 : plainFor (⟨"com/example/pandarus/pandarus/RangeIndex", "unit", "(D)F"⟩ : MethodName) = true := by apply plainFor_of_name; first | (simp [plainName, overriddenIn]; done) | decide +kernel
theorem Wd7 {a0 : Array Value} {Z : State} (hw : ∀ d ∈ tables_1, d.before a0 Z = true) : (Jvm.Cond.constantFloat "com/example/pandarus/pandarus/RangeIndex" (193 : Nat) (2063597568 : UInt32)).before a0 Z = true := hw _ (List.mem_of_getElem? (i := 7) rfl)
theorem Wd25 {a0 : Array Value} {Z : State} (hw : ∀ d ∈ tables_1, d.before a0 Z = true) : (Jvm.Cond.constantFloat "com/example/pandarus/pandarus/RangeIndex" (194 : Nat) (2139095040 : UInt32)).before a0 Z = true := hw _ (List.mem_of_getElem? (i := 25) rfl)
theorem Wd6 {a0 : Array Value} {Z : State} (hw : ∀ d ∈ tables_1, d.before a0 Z = true) : (Jvm.Cond.constantFloat "com/example/pandarus/pandarus/RangeIndex" (192 : Nat) (8388608 : UInt32)).before a0 Z = true := hw _ (List.mem_of_getElem? (i := 6) rfl)
set_option maxRecDepth 65536 in
set_option maxHeartbeats 40000000 in
theorem rm_unit (l : Launch) (Z : State) (a0 : Array Value) (hw : ∀ d ∈ tables_1, d.before a0 Z = true) (ws : List Jvm.Cond) (xx : UInt64) (h0 : Heap) (n0 : Nat) (Z0 : n0 ≤ h0.size)  :
    MetFree l (⟨"com/example/pandarus/pandarus/RangeIndex", "unit", "(D)F"⟩ : MethodName) (head1 (Jvm.Cond.code (⟨"com/example/pandarus/pandarus/RangeIndex", "unit", "(D)F"⟩ : MethodName) prog_41_method_19_code 3 (some .float) :: ws) ({ frames := 0, cells := 0, slots := 0, locals := 0 } : Room)) (fun aa U => aa = #[(.double xx)] ∧ Z.Warmed39 U.vm ∧ U.heap = h0) (fun _ _ _ _ _ => True) (fun _ U o U' => ∃ v L, o = .returned v ∧ Qf (own_u (own_run xx 246 0)) h0 n0 v U'.heap L ∧ FrameEnd U o U' L (({ frames := 0, cells := 0, slots := 0, locals := 0 } : Room).cells) (({ frames := 0, cells := 0, slots := 0, locals := 0 } : Room).slots)) := by
  refine own_body pf_0 ?_
  intro p e s m below meth c s₁ hx hby hml hown hnm hlk hret hZ X0 e0
  have N0 : Fr n0 [] := Fr.nil n0
  refine own_go (f' := (mkF m 0 #[.val (.double xx), .second, .unset] [])) (fun t k => castTop (ef_rm_unit m xx) k) ?_
  have J3 : ∀ (k j : Nat) (TJ : State) (locsJ : List Loc) (XJ : Stand p l e ({ frames := 0, cells := 0, slots := 0, locals := 0 } : Room) s m #[(.double xx)] below meth c TJ locsJ 0 0) (eJ : TJ.heap = h0) (NJ : Fr n0 locsJ) (hik : j + k = 246), own_G p.tables e below (own_P s (Qf (own_u (own_run xx k j)) h0 n0) 0 0) TJ (mkF m 3 #[.val (.double xx), .second, .val (.float (own_b j))] []) := by
    intro k
    induction k with
    | zero =>
      intro j TJ locsJ XJ eJ NJ hik
      obtain rfl : j = 246 := by omega
      have hnn := own_bnn ⟨246, by decide⟩
      have hcm : (0 : Int32) < (cmpValue (FP.fcmp (own_b 246) (2063597568 : UInt32)) .g) := by have q := own_bcmp ⟨246, by decide⟩; rw [show cmpValue (FP.fcmp (own_b 246) 2063597568) .g = _ from q]; decide
      by_cases hlt : (cmpValue (FP.dcmp (FP.f2d (own_b 246)) xx) .g) < (0 : Int32)
      · skip
        refine own_floadN XJ hx (pc' := 4) (hb hby d1_3) rfl rfl ?_
        refine own_f2d XJ hx (pc' := 5) (hb hby d1_4) hnn.1 rfl ?_
        refine own_dloadN XJ hx (pc' := 6) (hb hby d1_5) rfl rfl ?_
        refine own_dcmp XJ hx (pc' := 7) (cmpValue (FP.dcmp (FP.f2d (own_b 246)) xx) .g) (hb hby d1_6) rfl rfl ?_
        refine own_ifNo XJ hx (pc' := 10) (hb hby d1_7) (tlt hlt).2.1 rfl ?_
        refine own_floadN XJ hx (pc' := 11) (hb hby d1_10) rfl rfl ?_
        refine own_ldcF XJ hx (pc' := 13) hZ hown (Wd7 hw) (hb hby d1_11) rfl ?_
        refine own_fcmp XJ hx (pc' := 14) (cmpValue (FP.fcmp (own_b 246) (2063597568 : UInt32)) .g) (hb hby d1_13) rfl rfl ?_
        refine own_ifYes XJ hx (pc' := 24) (hb hby d1_14) (tlt hcm).2.2.1 (by decide) (by decide) ?_
        refine own_floadN XJ hx (pc' := 25) (hb hby d1_24) rfl rfl ?_
        refine own_ldcF XJ hx (pc' := 27) hZ hown (Wd7 hw) (hb hby d1_25) rfl ?_
        refine own_fcmp XJ hx (pc' := 28) (cmpValue (FP.fcmp (own_b 246) (2063597568 : UInt32)) .g) (hb hby d1_27) rfl rfl ?_
        refine own_ifYes XJ hx (pc' := 35) (hb hby d1_28) (tlt hcm).2.2.1 (by decide) (by decide) ?_
        refine own_ldcF XJ hx (pc' := 37) hZ hown (Wd25 hw) (hb hby d1_35) rfl ?_
        refine own_retF XJ hx hlk hret (hb hby d1_37) (by decide) (by decide) ?_
        exact ⟨rfl, NJ, eJ⟩
      · skip
        refine own_floadN XJ hx (pc' := 4) (hb hby d1_3) rfl rfl ?_
        refine own_f2d XJ hx (pc' := 5) (hb hby d1_4) hnn.1 rfl ?_
        refine own_dloadN XJ hx (pc' := 6) (hb hby d1_5) rfl rfl ?_
        refine own_dcmp XJ hx (pc' := 7) (cmpValue (FP.dcmp (FP.f2d (own_b 246)) xx) .g) (hb hby d1_6) rfl rfl ?_
        refine own_ifYes XJ hx (pc' := 24) (hb hby d1_7) (flt hlt).2.1 (by decide) (by decide) ?_
        refine own_floadN XJ hx (pc' := 25) (hb hby d1_24) rfl rfl ?_
        refine own_ldcF XJ hx (pc' := 27) hZ hown (Wd7 hw) (hb hby d1_25) rfl ?_
        refine own_fcmp XJ hx (pc' := 28) (cmpValue (FP.fcmp (own_b 246) (2063597568 : UInt32)) .g) (hb hby d1_27) rfl rfl ?_
        refine own_ifYes XJ hx (pc' := 35) (hb hby d1_28) (tlt hcm).2.2.1 (by decide) (by decide) ?_
        refine own_ldcF XJ hx (pc' := 37) hZ hown (Wd25 hw) (hb hby d1_35) rfl ?_
        refine own_retF XJ hx hlk hret (hb hby d1_37) (by decide) (by decide) ?_
        exact ⟨rfl, NJ, eJ⟩
    | succ k ih =>
      intro j TJ locsJ XJ eJ NJ hik
      have hnn := own_bnn ⟨j, by omega⟩
      have hcm : ¬ (0 : Int32) < (cmpValue (FP.fcmp (own_b j) (2063597568 : UInt32)) .g) := by have q := own_bcmp ⟨j, by omega⟩; rw [show cmpValue (FP.fcmp (own_b j) 2063597568) .g = _ from q]; rw [if_pos (show j ≤ 245 by omega)]; split <;> decide
      by_cases hlt : (cmpValue (FP.dcmp (FP.f2d (own_b j)) xx) .g) < (0 : Int32)
      · skip
        have hru : own_run xx (k + 1) j = own_run xx k (j + 1) := by show (if own_v xx j < (0 : Int32) then own_run xx k (j + 1) else j) = _; rw [if_pos (show own_v xx j < (0 : Int32) from hlt)]
        rw [hru]
        have hmu := own_bmul ⟨j, by omega⟩
        refine own_floadN XJ hx (pc' := 4) (hb hby d1_3) rfl rfl ?_
        refine own_f2d XJ hx (pc' := 5) (hb hby d1_4) hnn.1 rfl ?_
        refine own_dloadN XJ hx (pc' := 6) (hb hby d1_5) rfl rfl ?_
        refine own_dcmp XJ hx (pc' := 7) (cmpValue (FP.dcmp (FP.f2d (own_b j)) xx) .g) (hb hby d1_6) rfl rfl ?_
        refine own_ifNo XJ hx (pc' := 10) (hb hby d1_7) (tlt hlt).2.1 rfl ?_
        refine own_floadN XJ hx (pc' := 11) (hb hby d1_10) rfl rfl ?_
        refine own_ldcF XJ hx (pc' := 13) hZ hown (Wd7 hw) (hb hby d1_11) rfl ?_
        refine own_fcmp XJ hx (pc' := 14) (cmpValue (FP.fcmp (own_b j) (2063597568 : UInt32)) .g) (hb hby d1_13) rfl rfl ?_
        refine own_ifNo XJ hx (pc' := 17) (hb hby d1_14) (flt hcm).2.2.1 rfl ?_
        refine own_floadN XJ hx (pc' := 18) (hb hby d1_17) rfl rfl ?_
        refine own_fconst2 XJ hx (pc' := 19) (hb hby d1_18) rfl ?_
        refine own_fmul XJ hx (pc' := 20) (own_b (j + 1)) (hb hby d1_19) (by rw [show FP.fmul (own_b j) FP.fconst2 = _ from hmu]; exact (own_bnn ⟨j + 1, by omega⟩).2) hmu rfl ?_
        refine own_fstoreN XJ hx (pc' := 21) (Ls' := #[.val (.double xx), .second, .val (.float (own_b (j + 1)))]) (hb hby d1_20) rfl rfl ?_
        refine own_goto XJ hx (pc' := 3) (hb hby d1_21) (by decide) (by decide) ?_
        exact ih (j + 1) _ _ XJ eJ NJ (by omega)
      · skip
        have hru : own_run xx (k + 1) j = j := by show (if own_v xx j < (0 : Int32) then own_run xx k (j + 1) else j) = _; rw [if_neg (show ¬ own_v xx j < (0 : Int32) from hlt)]
        rw [hru]
        refine own_floadN XJ hx (pc' := 4) (hb hby d1_3) rfl rfl ?_
        refine own_f2d XJ hx (pc' := 5) (hb hby d1_4) hnn.1 rfl ?_
        refine own_dloadN XJ hx (pc' := 6) (hb hby d1_5) rfl rfl ?_
        refine own_dcmp XJ hx (pc' := 7) (cmpValue (FP.dcmp (FP.f2d (own_b j)) xx) .g) (hb hby d1_6) rfl rfl ?_
        refine own_ifYes XJ hx (pc' := 24) (hb hby d1_7) (flt hlt).2.1 (by decide) (by decide) ?_
        refine own_floadN XJ hx (pc' := 25) (hb hby d1_24) rfl rfl ?_
        refine own_ldcF XJ hx (pc' := 27) hZ hown (Wd7 hw) (hb hby d1_25) rfl ?_
        refine own_fcmp XJ hx (pc' := 28) (cmpValue (FP.fcmp (own_b j) (2063597568 : UInt32)) .g) (hb hby d1_27) rfl rfl ?_
        refine own_ifNo XJ hx (pc' := 31) (hb hby d1_28) (flt hcm).2.2.1 rfl ?_
        refine own_floadN XJ hx (pc' := 32) (hb hby d1_31) rfl rfl ?_
        refine own_goto XJ hx (pc' := 37) (hb hby d1_32) (by decide) (by decide) ?_
        refine own_retF XJ hx hlk hret (hb hby d1_37) (by decide) (by decide) ?_
        exact ⟨(by rw [own_u, if_pos (by omega)]), NJ, eJ⟩
  refine own_ldcF X0 hx (pc' := 2) hZ hown (Wd6 hw) (hb hby d1_0) rfl ?_
  refine own_fstoreN X0 hx (pc' := 3) (Ls' := #[.val (.double xx), .second, .val (.float (8388608 : UInt32))]) (hb hby d1_2) rfl rfl ?_
  exact J3 246 0 _ _ X0 e0 N0 (by omega)

theorem d3_0 : decode method_5_code 0 = .ok (.iload_n 0, 1) := by decide +kernel
theorem d3_1 : decode method_5_code 1 = .ok (.bipush 126, 2) := by decide +kernel
theorem d3_3 : decode method_5_code 3 = .ok (.iadd, 1) := by decide +kernel
theorem d3_4 : decode method_5_code 4 = .ok (.istore_n 1, 1) := by decide +kernel
theorem d3_5 : decode method_5_code 5 = .ok (.ldc2_w 38, 3) := by decide +kernel
theorem d3_8 : decode method_5_code 8 = .ok (.lconst 1, 1) := by decide +kernel
theorem d3_9 : decode method_5_code 9 = .ok (.iload_n 1, 1) := by decide +kernel
theorem d3_10 : decode method_5_code 10 = .ok (.bipush 62, 2) := by decide +kernel
theorem d3_12 : decode method_5_code 12 = .ok (.irem, 1) := by decide +kernel
theorem d3_13 : decode method_5_code 13 = .ok (.lshl, 1) := by decide +kernel
theorem d3_14 : decode method_5_code 14 = .ok (.l2d, 1) := by decide +kernel
theorem d3_15 : decode method_5_code 15 = .ok (.dmul, 1) := by decide +kernel
theorem d3_16 : decode method_5_code 16 = .ok (.dstore_n 2, 1) := by decide +kernel
theorem d3_17 : decode method_5_code 17 = .ok (.iload_n 1, 1) := by decide +kernel
theorem d3_18 : decode method_5_code 18 = .ok (.bipush 62, 2) := by decide +kernel
theorem d3_20 : decode method_5_code 20 = .ok (.idiv, 1) := by decide +kernel
theorem d3_21 : decode method_5_code 21 = .ok (.istore 4, 2) := by decide +kernel
theorem d3_23 : decode method_5_code 23 = .ok (.iload 4, 2) := by decide +kernel
theorem d3_25 : decode method_5_code 25 = .ok (.iconst 1, 1) := by decide +kernel
theorem d3_26 : decode method_5_code 26 = .ok (.if_icmp .lt 9, 3) := by decide +kernel
theorem d3_29 : decode method_5_code 29 = .ok (.dload_n 2, 1) := by decide +kernel
theorem d3_30 : decode method_5_code 30 = .ok (.ldc2_w 40, 3) := by decide +kernel
theorem d3_33 : decode method_5_code 33 = .ok (.dmul, 1) := by decide +kernel
theorem d3_34 : decode method_5_code 34 = .ok (.dstore_n 2, 1) := by decide +kernel
theorem d3_35 : decode method_5_code 35 = .ok (.iload 4, 2) := by decide +kernel
theorem d3_37 : decode method_5_code 37 = .ok (.iconst 2, 1) := by decide +kernel
theorem d3_38 : decode method_5_code 38 = .ok (.if_icmp .lt 9, 3) := by decide +kernel
theorem d3_41 : decode method_5_code 41 = .ok (.dload_n 2, 1) := by decide +kernel
theorem d3_42 : decode method_5_code 42 = .ok (.ldc2_w 40, 3) := by decide +kernel
theorem d3_45 : decode method_5_code 45 = .ok (.dmul, 1) := by decide +kernel
theorem d3_46 : decode method_5_code 46 = .ok (.dstore_n 2, 1) := by decide +kernel
theorem d3_47 : decode method_5_code 47 = .ok (.iload 4, 2) := by decide +kernel
theorem d3_49 : decode method_5_code 49 = .ok (.iconst 3, 1) := by decide +kernel
theorem d3_50 : decode method_5_code 50 = .ok (.if_icmp .lt 9, 3) := by decide +kernel
theorem d3_53 : decode method_5_code 53 = .ok (.dload_n 2, 1) := by decide +kernel
theorem d3_54 : decode method_5_code 54 = .ok (.ldc2_w 40, 3) := by decide +kernel
theorem d3_57 : decode method_5_code 57 = .ok (.dmul, 1) := by decide +kernel
theorem d3_58 : decode method_5_code 58 = .ok (.dstore_n 2, 1) := by decide +kernel
theorem d3_59 : decode method_5_code 59 = .ok (.dload_n 2, 1) := by decide +kernel
theorem d3_60 : decode method_5_code 60 = .ok (.d2f, 1) := by decide +kernel
theorem d3_61 : decode method_5_code 61 = .ok (.freturn, 1) := by decide +kernel
theorem ef_rm_pow2 (m : MethodId) (x0 : Int32) : entryFrame m #[(.int x0)] 5 = mkF m 0 #[.val (.int x0), .unset, .unset, .unset, .unset] [] := by first | (simp [entryFrame, mkF, argsToLocals, Value.category, maxLocals]; done) | rfl
theorem pf_1 : plainFor (⟨"com/example/pandarus/pandarus/RangeIndexUnitPinLaw", "pow2", "(I)F"⟩ : MethodName) = true := by apply plainFor_of_name; first | (simp [plainName, overriddenIn]; done) | decide +kernel
theorem own_d62' : ∀ t : Fin 246, (Int32.ofNat t.val) / (62 : Int32) = Int32.ofNat (t.val / 62) := by decide +kernel
theorem own_d62 (t : Nat) (h : t < 246) : (Int32.ofNat t) / (62 : Int32) = Int32.ofNat (t / 62) := own_d62' ⟨t, h⟩
theorem Wd17 {a0 : Array Value} {Z : State} (hw : ∀ d ∈ tables_1, d.before a0 Z = true) : (Jvm.Cond.constantDouble "com/example/pandarus/pandarus/RangeIndexUnitPinLaw" (38 : Nat) (4039728865751334912 : UInt64)).before a0 Z = true := hw _ (List.mem_of_getElem? (i := 17) rfl)
theorem Wd18 {a0 : Array Value} {Z : State} (hw : ∀ d ∈ tables_1, d.before a0 Z = true) : (Jvm.Cond.constantDouble "com/example/pandarus/pandarus/RangeIndexUnitPinLaw" (40 : Nat) (4886405595696988160 : UInt64)).before a0 Z = true := hw _ (List.mem_of_getElem? (i := 18) rfl)
set_option maxRecDepth 65536 in
set_option maxHeartbeats 40000000 in
theorem rm_pow2 (l : Launch) (Z : State) (a0 : Array Value) (hw : ∀ d ∈ tables_1, d.before a0 Z = true) (ws : List Jvm.Cond) (q0 : Int32) (t : Nat) (h0 : Heap) (n0 : Nat) (Z0 : n0 ≤ h0.size) (ht : t < 246) (hq : q0 + (126 : Int32) = Int32.ofNat t) :
    MetFree l (⟨"com/example/pandarus/pandarus/RangeIndexUnitPinLaw", "pow2", "(I)F"⟩ : MethodName) (head1 (Jvm.Cond.code (⟨"com/example/pandarus/pandarus/RangeIndexUnitPinLaw", "pow2", "(I)F"⟩ : MethodName) method_5_code 5 (some .float) :: ws) ({ frames := 0, cells := 0, slots := 0, locals := 0 } : Room)) (fun aa U => aa = #[(.int q0)] ∧ Z.Warmed39 U.vm ∧ U.heap = h0) (fun _ _ _ _ _ => True) (fun _ U o U' => ∃ v L, o = .returned v ∧ Qf (own_b t) h0 n0 v U'.heap L ∧ FrameEnd U o U' L (({ frames := 0, cells := 0, slots := 0, locals := 0 } : Room).cells) (({ frames := 0, cells := 0, slots := 0, locals := 0 } : Room).slots)) := by
  refine own_body pf_1 ?_
  intro p e s m below meth c s₁ hx hby hml hown hnm hlk hret hZ X0 e0
  have N0 : Fr n0 [] := Fr.nil n0
  refine own_go (f' := (mkF m 0 #[.val (.int q0), .unset, .unset, .unset, .unset] [])) (fun t k => castTop (ef_rm_pow2 m q0) k) ?_
  have pn := own_pnn ⟨t, ht⟩
  have pv := own_pv ⟨t, ht⟩
  have bn := own_bnn ⟨t, by omega⟩
  refine own_iloadN X0 hx (pc' := 1) (hb hby d3_0) rfl rfl ?_
  refine own_bipush X0 hx (pc' := 3) (126 : Int32) (hb hby d3_1) rfl rfl ?_
  refine own_iadd X0 hx (pc' := 4) (hb hby d3_3) rfl rfl ?_
  rw [hq]
  refine own_istoreN X0 hx (pc' := 5) (Ls' := #[.val (.int q0), .val (.int (Int32.ofNat t)), .unset, .unset, .unset]) (hb hby d3_4) rfl rfl ?_
  refine own_ldc2D X0 hx (pc' := 8) hZ hown (Wd17 hw) (hb hby d3_5) rfl ?_
  refine own_lconst X0 hx (pc' := 9) (1 : Int64) (hb hby d3_8) rfl rfl ?_
  refine own_iloadN X0 hx (pc' := 10) (hb hby d3_9) rfl rfl ?_
  refine own_bipush X0 hx (pc' := 12) (62 : Int32) (hb hby d3_10) rfl rfl ?_
  refine own_irem X0 hx (pc' := 13) (hb hby d3_12) (by decide) rfl ?_
  refine own_lshl X0 hx (pc' := 14) (hb hby d3_13) rfl ?_
  show own_G p.tables e below _ s₁ (mkF m 14 #[.val (.int q0), .val (.int (Int32.ofNat t)), .unset, .unset, .unset] [(.long (own_pk t)), (.double (4039728865751334912 : UInt64))])
  refine own_l2d X0 hx (pc' := 15) (hb hby d3_14) rfl ?_
  refine own_dmul X0 hx (pc' := 16) (hb hby d3_15) pn.1 rfl ?_
  show own_G p.tables e below _ s₁ (mkF m 16 #[.val (.int q0), .val (.int (Int32.ofNat t)), .unset, .unset, .unset] [(.double (own_p0 t))])
  refine own_dstoreN X0 hx (pc' := 17) (Ls' := #[.val (.int q0), .val (.int (Int32.ofNat t)), .val (.double (own_p0 t)), .second, .unset]) (hb hby d3_16) rfl rfl ?_
  refine own_iloadN X0 hx (pc' := 18) (hb hby d3_17) rfl rfl ?_
  refine own_bipush X0 hx (pc' := 20) (62 : Int32) (hb hby d3_18) rfl rfl ?_
  refine own_idiv X0 hx (pc' := 21) (hb hby d3_20) rfl (by decide) rfl ?_
  refine own_istore X0 hx (pc' := 23) (Ls' := #[.val (.int q0), .val (.int (Int32.ofNat t)), .val (.double (own_p0 t)), .second, .val (.int ((Int32.ofNat t) / (62 : Int32)))]) (hb hby d3_21) rfl rfl ?_
  have hd0 : (t / 62 = 0 ∧ ((Int32.ofNat t) / (62 : Int32)) = (0 : Int32)) ∨ (t / 62 = 1 ∧ ((Int32.ofNat t) / (62 : Int32)) = (1 : Int32)) ∨ (t / 62 = 2 ∧ ((Int32.ofNat t) / (62 : Int32)) = (2 : Int32)) ∨ (t / 62 = 3 ∧ ((Int32.ofNat t) / (62 : Int32)) = (3 : Int32)) := by
    have q1 : ((Int32.ofNat t) / (62 : Int32)) = Int32.ofNat (t / 62) := own_d62 t ht
    rw [q1]
    have q2 : t / 62 = 0 ∨ t / 62 = 1 ∨ t / 62 = 2 ∨ t / 62 = 3 := by omega
    rcases q2 with q | q | q | q <;> rw [q] <;> simp
  rcases hd0 with ⟨hi, hk⟩ | ⟨hi, hk⟩ | ⟨hi, hk⟩ | ⟨hi, hk⟩
  · rw [hk]
    refine own_iload X0 hx (pc' := 25) (hb hby d3_23) rfl rfl ?_
    refine own_iconst X0 hx (pc' := 26) (1 : Int32) (hb hby d3_25) rfl rfl ?_
    refine own_icmpYes X0 hx (pc' := 35) (hb hby d3_26) (tlt (by decide : (0 : Int32) < (1 : Int32))).1 (by decide) (by decide) ?_
    refine own_iload X0 hx (pc' := 37) (hb hby d3_35) rfl rfl ?_
    refine own_iconst X0 hx (pc' := 38) (2 : Int32) (hb hby d3_37) rfl rfl ?_
    refine own_icmpYes X0 hx (pc' := 47) (hb hby d3_38) (tlt (by decide : (0 : Int32) < (2 : Int32))).1 (by decide) (by decide) ?_
    refine own_iload X0 hx (pc' := 49) (hb hby d3_47) rfl rfl ?_
    refine own_iconst X0 hx (pc' := 50) (3 : Int32) (hb hby d3_49) rfl rfl ?_
    refine own_icmpYes X0 hx (pc' := 59) (hb hby d3_50) (tlt (by decide : (0 : Int32) < (3 : Int32))).1 (by decide) (by decide) ?_
    refine own_dloadN X0 hx (pc' := 60) (hb hby d3_59) rfl rfl ?_
    refine own_d2f X0 hx (pc' := 61) (own_b t) (hb hby d3_60) (by rw [show FP.d2f (own_p0 t) = own_b t from pv.1 hi]; exact bn.2) (pv.1 hi) rfl ?_
    refine own_retF X0 hx hlk hret (hb hby d3_61) (by decide) (by decide) ?_
    exact ⟨rfl, N0, e0⟩
  · rw [hk]
    refine own_iload X0 hx (pc' := 25) (hb hby d3_23) rfl rfl ?_
    refine own_iconst X0 hx (pc' := 26) (1 : Int32) (hb hby d3_25) rfl rfl ?_
    refine own_icmpNo X0 hx (pc' := 29) (hb hby d3_26) (flt (by decide : ¬ ((1 : Int32) < (1 : Int32)))).1 rfl ?_
    refine own_dloadN X0 hx (pc' := 30) (hb hby d3_29) rfl rfl ?_
    refine own_ldc2D X0 hx (pc' := 33) hZ hown (Wd18 hw) (hb hby d3_30) rfl ?_
    refine own_dmul X0 hx (pc' := 34) (hb hby d3_33) pn.2.1 rfl ?_
    show own_G p.tables e below _ s₁ (mkF m 34 #[.val (.int q0), .val (.int (Int32.ofNat t)), .val (.double (own_p0 t)), .second, .val (.int (1 : Int32))] [(.double (own_p1 t))])
    refine own_dstoreN X0 hx (pc' := 35) (Ls' := #[.val (.int q0), .val (.int (Int32.ofNat t)), .val (.double (own_p1 t)), .second, .val (.int (1 : Int32))]) (hb hby d3_34) rfl rfl ?_
    refine own_iload X0 hx (pc' := 37) (hb hby d3_35) rfl rfl ?_
    refine own_iconst X0 hx (pc' := 38) (2 : Int32) (hb hby d3_37) rfl rfl ?_
    refine own_icmpYes X0 hx (pc' := 47) (hb hby d3_38) (tlt (by decide : (1 : Int32) < (2 : Int32))).1 (by decide) (by decide) ?_
    refine own_iload X0 hx (pc' := 49) (hb hby d3_47) rfl rfl ?_
    refine own_iconst X0 hx (pc' := 50) (3 : Int32) (hb hby d3_49) rfl rfl ?_
    refine own_icmpYes X0 hx (pc' := 59) (hb hby d3_50) (tlt (by decide : (1 : Int32) < (3 : Int32))).1 (by decide) (by decide) ?_
    refine own_dloadN X0 hx (pc' := 60) (hb hby d3_59) rfl rfl ?_
    refine own_d2f X0 hx (pc' := 61) (own_b t) (hb hby d3_60) (by rw [show FP.d2f (own_p1 t) = own_b t from pv.2.1 hi]; exact bn.2) (pv.2.1 hi) rfl ?_
    refine own_retF X0 hx hlk hret (hb hby d3_61) (by decide) (by decide) ?_
    exact ⟨rfl, N0, e0⟩
  · rw [hk]
    refine own_iload X0 hx (pc' := 25) (hb hby d3_23) rfl rfl ?_
    refine own_iconst X0 hx (pc' := 26) (1 : Int32) (hb hby d3_25) rfl rfl ?_
    refine own_icmpNo X0 hx (pc' := 29) (hb hby d3_26) (flt (by decide : ¬ ((2 : Int32) < (1 : Int32)))).1 rfl ?_
    refine own_dloadN X0 hx (pc' := 30) (hb hby d3_29) rfl rfl ?_
    refine own_ldc2D X0 hx (pc' := 33) hZ hown (Wd18 hw) (hb hby d3_30) rfl ?_
    refine own_dmul X0 hx (pc' := 34) (hb hby d3_33) pn.2.1 rfl ?_
    show own_G p.tables e below _ s₁ (mkF m 34 #[.val (.int q0), .val (.int (Int32.ofNat t)), .val (.double (own_p0 t)), .second, .val (.int (2 : Int32))] [(.double (own_p1 t))])
    refine own_dstoreN X0 hx (pc' := 35) (Ls' := #[.val (.int q0), .val (.int (Int32.ofNat t)), .val (.double (own_p1 t)), .second, .val (.int (2 : Int32))]) (hb hby d3_34) rfl rfl ?_
    refine own_iload X0 hx (pc' := 37) (hb hby d3_35) rfl rfl ?_
    refine own_iconst X0 hx (pc' := 38) (2 : Int32) (hb hby d3_37) rfl rfl ?_
    refine own_icmpNo X0 hx (pc' := 41) (hb hby d3_38) (flt (by decide : ¬ ((2 : Int32) < (2 : Int32)))).1 rfl ?_
    refine own_dloadN X0 hx (pc' := 42) (hb hby d3_41) rfl rfl ?_
    refine own_ldc2D X0 hx (pc' := 45) hZ hown (Wd18 hw) (hb hby d3_42) rfl ?_
    refine own_dmul X0 hx (pc' := 46) (hb hby d3_45) pn.2.2.1 rfl ?_
    show own_G p.tables e below _ s₁ (mkF m 46 #[.val (.int q0), .val (.int (Int32.ofNat t)), .val (.double (own_p1 t)), .second, .val (.int (2 : Int32))] [(.double (own_p2 t))])
    refine own_dstoreN X0 hx (pc' := 47) (Ls' := #[.val (.int q0), .val (.int (Int32.ofNat t)), .val (.double (own_p2 t)), .second, .val (.int (2 : Int32))]) (hb hby d3_46) rfl rfl ?_
    refine own_iload X0 hx (pc' := 49) (hb hby d3_47) rfl rfl ?_
    refine own_iconst X0 hx (pc' := 50) (3 : Int32) (hb hby d3_49) rfl rfl ?_
    refine own_icmpYes X0 hx (pc' := 59) (hb hby d3_50) (tlt (by decide : (2 : Int32) < (3 : Int32))).1 (by decide) (by decide) ?_
    refine own_dloadN X0 hx (pc' := 60) (hb hby d3_59) rfl rfl ?_
    refine own_d2f X0 hx (pc' := 61) (own_b t) (hb hby d3_60) (by rw [show FP.d2f (own_p2 t) = own_b t from pv.2.2.1 hi]; exact bn.2) (pv.2.2.1 hi) rfl ?_
    refine own_retF X0 hx hlk hret (hb hby d3_61) (by decide) (by decide) ?_
    exact ⟨rfl, N0, e0⟩
  · rw [hk]
    refine own_iload X0 hx (pc' := 25) (hb hby d3_23) rfl rfl ?_
    refine own_iconst X0 hx (pc' := 26) (1 : Int32) (hb hby d3_25) rfl rfl ?_
    refine own_icmpNo X0 hx (pc' := 29) (hb hby d3_26) (flt (by decide : ¬ ((3 : Int32) < (1 : Int32)))).1 rfl ?_
    refine own_dloadN X0 hx (pc' := 30) (hb hby d3_29) rfl rfl ?_
    refine own_ldc2D X0 hx (pc' := 33) hZ hown (Wd18 hw) (hb hby d3_30) rfl ?_
    refine own_dmul X0 hx (pc' := 34) (hb hby d3_33) pn.2.1 rfl ?_
    show own_G p.tables e below _ s₁ (mkF m 34 #[.val (.int q0), .val (.int (Int32.ofNat t)), .val (.double (own_p0 t)), .second, .val (.int (3 : Int32))] [(.double (own_p1 t))])
    refine own_dstoreN X0 hx (pc' := 35) (Ls' := #[.val (.int q0), .val (.int (Int32.ofNat t)), .val (.double (own_p1 t)), .second, .val (.int (3 : Int32))]) (hb hby d3_34) rfl rfl ?_
    refine own_iload X0 hx (pc' := 37) (hb hby d3_35) rfl rfl ?_
    refine own_iconst X0 hx (pc' := 38) (2 : Int32) (hb hby d3_37) rfl rfl ?_
    refine own_icmpNo X0 hx (pc' := 41) (hb hby d3_38) (flt (by decide : ¬ ((3 : Int32) < (2 : Int32)))).1 rfl ?_
    refine own_dloadN X0 hx (pc' := 42) (hb hby d3_41) rfl rfl ?_
    refine own_ldc2D X0 hx (pc' := 45) hZ hown (Wd18 hw) (hb hby d3_42) rfl ?_
    refine own_dmul X0 hx (pc' := 46) (hb hby d3_45) pn.2.2.1 rfl ?_
    show own_G p.tables e below _ s₁ (mkF m 46 #[.val (.int q0), .val (.int (Int32.ofNat t)), .val (.double (own_p1 t)), .second, .val (.int (3 : Int32))] [(.double (own_p2 t))])
    refine own_dstoreN X0 hx (pc' := 47) (Ls' := #[.val (.int q0), .val (.int (Int32.ofNat t)), .val (.double (own_p2 t)), .second, .val (.int (3 : Int32))]) (hb hby d3_46) rfl rfl ?_
    refine own_iload X0 hx (pc' := 49) (hb hby d3_47) rfl rfl ?_
    refine own_iconst X0 hx (pc' := 50) (3 : Int32) (hb hby d3_49) rfl rfl ?_
    refine own_icmpNo X0 hx (pc' := 53) (hb hby d3_50) (flt (by decide : ¬ ((3 : Int32) < (3 : Int32)))).1 rfl ?_
    refine own_dloadN X0 hx (pc' := 54) (hb hby d3_53) rfl rfl ?_
    refine own_ldc2D X0 hx (pc' := 57) hZ hown (Wd18 hw) (hb hby d3_54) rfl ?_
    refine own_dmul X0 hx (pc' := 58) (hb hby d3_57) pn.2.2.2 rfl ?_
    show own_G p.tables e below _ s₁ (mkF m 58 #[.val (.int q0), .val (.int (Int32.ofNat t)), .val (.double (own_p2 t)), .second, .val (.int (3 : Int32))] [(.double (own_p3 t))])
    refine own_dstoreN X0 hx (pc' := 59) (Ls' := #[.val (.int q0), .val (.int (Int32.ofNat t)), .val (.double (own_p3 t)), .second, .val (.int (3 : Int32))]) (hb hby d3_58) rfl rfl ?_
    refine own_dloadN X0 hx (pc' := 60) (hb hby d3_59) rfl rfl ?_
    refine own_d2f X0 hx (pc' := 61) (own_b t) (hb hby d3_60) (by rw [show FP.d2f (own_p3 t) = own_b t from pv.2.2.2 hi]; exact bn.2) (pv.2.2.2 hi) rfl ?_
    refine own_retF X0 hx hlk hret (hb hby d3_61) (by decide) (by decide) ?_
    exact ⟨rfl, N0, e0⟩

theorem d4_0 : decode method_4_code 0 = .ok (.iconst 0, 1) := by decide +kernel
theorem d4_1 : decode method_4_code 1 = .ok (.istore_n 1, 1) := by decide +kernel
theorem d4_2 : decode method_4_code 2 = .ok (.iload_n 0, 1) := by decide +kernel
theorem d4_3 : decode method_4_code 3 = .ok (.istore_n 2, 1) := by decide +kernel
theorem d4_4 : decode method_4_code 4 = .ok (.iload_n 2, 1) := by decide +kernel
theorem d4_5 : decode method_4_code 5 = .ok (.ldc 37, 2) := by decide +kernel
theorem d4_7 : decode method_4_code 7 = .ok (.if_icmp .lt 11, 3) := by decide +kernel
theorem d4_10 : decode method_4_code 10 = .ok (.iload_n 2, 1) := by decide +kernel
theorem d4_11 : decode method_4_code 11 = .ok (.bipush 16, 2) := by decide +kernel
theorem d4_13 : decode method_4_code 13 = .ok (.iushr, 1) := by decide +kernel
theorem d4_14 : decode method_4_code 14 = .ok (.istore_n 2, 1) := by decide +kernel
theorem d4_15 : decode method_4_code 15 = .ok (.iinc 1 16, 3) := by decide +kernel
theorem d4_18 : decode method_4_code 18 = .ok (.iload_n 2, 1) := by decide +kernel
theorem d4_19 : decode method_4_code 19 = .ok (.sipush 256, 3) := by decide +kernel
theorem d4_22 : decode method_4_code 22 = .ok (.if_icmp .lt 11, 3) := by decide +kernel
theorem d4_25 : decode method_4_code 25 = .ok (.iload_n 2, 1) := by decide +kernel
theorem d4_26 : decode method_4_code 26 = .ok (.bipush 8, 2) := by decide +kernel
theorem d4_28 : decode method_4_code 28 = .ok (.iushr, 1) := by decide +kernel
theorem d4_29 : decode method_4_code 29 = .ok (.istore_n 2, 1) := by decide +kernel
theorem d4_30 : decode method_4_code 30 = .ok (.iinc 1 8, 3) := by decide +kernel
theorem d4_33 : decode method_4_code 33 = .ok (.iload_n 2, 1) := by decide +kernel
theorem d4_34 : decode method_4_code 34 = .ok (.bipush 16, 2) := by decide +kernel
theorem d4_36 : decode method_4_code 36 = .ok (.if_icmp .lt 10, 3) := by decide +kernel
theorem d4_39 : decode method_4_code 39 = .ok (.iload_n 2, 1) := by decide +kernel
theorem d4_40 : decode method_4_code 40 = .ok (.iconst 4, 1) := by decide +kernel
theorem d4_41 : decode method_4_code 41 = .ok (.iushr, 1) := by decide +kernel
theorem d4_42 : decode method_4_code 42 = .ok (.istore_n 2, 1) := by decide +kernel
theorem d4_43 : decode method_4_code 43 = .ok (.iinc 1 4, 3) := by decide +kernel
theorem d4_46 : decode method_4_code 46 = .ok (.iload_n 2, 1) := by decide +kernel
theorem d4_47 : decode method_4_code 47 = .ok (.iconst 4, 1) := by decide +kernel
theorem d4_48 : decode method_4_code 48 = .ok (.if_icmp .lt 10, 3) := by decide +kernel
theorem d4_51 : decode method_4_code 51 = .ok (.iload_n 2, 1) := by decide +kernel
theorem d4_52 : decode method_4_code 52 = .ok (.iconst 2, 1) := by decide +kernel
theorem d4_53 : decode method_4_code 53 = .ok (.iushr, 1) := by decide +kernel
theorem d4_54 : decode method_4_code 54 = .ok (.istore_n 2, 1) := by decide +kernel
theorem d4_55 : decode method_4_code 55 = .ok (.iinc 1 2, 3) := by decide +kernel
theorem d4_58 : decode method_4_code 58 = .ok (.iload_n 2, 1) := by decide +kernel
theorem d4_59 : decode method_4_code 59 = .ok (.iconst 2, 1) := by decide +kernel
theorem d4_60 : decode method_4_code 60 = .ok (.if_icmp .lt 6, 3) := by decide +kernel
theorem d4_63 : decode method_4_code 63 = .ok (.iinc 1 1, 3) := by decide +kernel
theorem d4_66 : decode method_4_code 66 = .ok (.iload_n 1, 1) := by decide +kernel
theorem d4_67 : decode method_4_code 67 = .ok (.ireturn, 1) := by decide +kernel
def Qfl (x : Int32) (h0 : Heap) (n0 : Nat) (v : Option Value) (h : Heap) (L : List Loc) : Prop := (∃ r : Nat, v = some (.int (Int32.ofNat r)) ∧ r ≤ 30 ∧ 2 ^ r ≤ x.toInt.toNat ∧ x.toInt.toNat < 2 ^ (r + 1)) ∧ Fr n0 L ∧ h = h0
theorem ef_rm_fl (m : MethodId) (x0 : Int32) : entryFrame m #[(.int x0)] 3 = mkF m 0 #[.val (.int x0), .unset, .unset] [] := by first | (simp [entryFrame, mkF, argsToLocals, Value.category, maxLocals]; done) | rfl
theorem pf_2 : plainFor (⟨"com/example/pandarus/pandarus/RangeIndexUnitPinLaw", "floorLog2", "(I)I"⟩ : MethodName) = true := by apply plainFor_of_name; first | (simp [plainName, overriddenIn]; done) | decide +kernel
theorem Wd22 {a0 : Array Value} {Z : State} (hw : ∀ d ∈ tables_1, d.before a0 Z = true) : (Jvm.Cond.constant "com/example/pandarus/pandarus/RangeIndexUnitPinLaw" (37 : Nat) (65536 : Int32)).before a0 Z = true := hw _ (List.mem_of_getElem? (i := 22) rfl)
set_option maxRecDepth 65536 in
set_option maxHeartbeats 40000000 in
theorem rm_fl (l : Launch) (Z : State) (a0 : Array Value) (hw : ∀ d ∈ tables_1, d.before a0 Z = true) (ws : List Jvm.Cond) (q0 : Int32) (h0 : Heap) (n0 : Nat) (Z0 : n0 ≤ h0.size) (hq0 : 1 ≤ q0.toInt) :
    MetFree l (⟨"com/example/pandarus/pandarus/RangeIndexUnitPinLaw", "floorLog2", "(I)I"⟩ : MethodName) (head1 (Jvm.Cond.code (⟨"com/example/pandarus/pandarus/RangeIndexUnitPinLaw", "floorLog2", "(I)I"⟩ : MethodName) method_4_code 3 (some .int) :: ws) ({ frames := 0, cells := 0, slots := 0, locals := 0 } : Room)) (fun aa U => aa = #[(.int q0)] ∧ Z.Warmed39 U.vm ∧ U.heap = h0) (fun _ _ _ _ _ => True) (fun _ U o U' => ∃ v L, o = .returned v ∧ Qfl q0 h0 n0 v U'.heap L ∧ FrameEnd U o U' L (({ frames := 0, cells := 0, slots := 0, locals := 0 } : Room).cells) (({ frames := 0, cells := 0, slots := 0, locals := 0 } : Room).slots)) := by
  refine own_body pf_2 ?_
  intro p e s m below meth c s₁ hx hby hml hown hnm hlk hret hZ X0 e0
  have N0 : Fr n0 [] := Fr.nil n0
  refine own_go (f' := (mkF m 0 #[.val (.int q0), .unset, .unset] [])) (fun t k => castTop (ef_rm_fl m q0) k) ?_
  refine own_iconst X0 hx (pc' := 1) (0 : Int32) (hb hby d4_0) rfl rfl ?_
  refine own_istoreN X0 hx (pc' := 2) (Ls' := #[.val (.int q0), .val (.int (0 : Int32)), .unset]) (hb hby d4_1) rfl rfl ?_
  refine own_iloadN X0 hx (pc' := 3) (hb hby d4_2) rfl rfl ?_
  refine own_istoreN X0 hx (pc' := 4) (Ls' := #[.val (.int q0), .val (.int (0 : Int32)), .val (.int q0)]) (hb hby d4_3) rfl rfl ?_
  refine own_iloadN X0 hx (pc' := 5) (hb hby d4_4) rfl rfl ?_
  refine own_ldcI X0 hx (pc' := 7) hZ hown (Wd22 hw) (hb hby d4_5) rfl ?_
  by_cases hc7_1 : q0 < (65536 : Int32)
  · skip
    refine own_icmpYes X0 hx (pc' := 18) (hb hby d4_7) (tlt hc7_1).1 (by decide) (by decide) ?_
    refine own_iloadN X0 hx (pc' := 19) (hb hby d4_18) rfl rfl ?_
    refine own_sipush X0 hx (pc' := 22) (256 : Int32) (hb hby d4_19) rfl rfl ?_
    by_cases hc22_2 : q0 < (256 : Int32)
    · skip
      refine own_icmpYes X0 hx (pc' := 33) (hb hby d4_22) (tlt hc22_2).1 (by decide) (by decide) ?_
      refine own_iloadN X0 hx (pc' := 34) (hb hby d4_33) rfl rfl ?_
      refine own_bipush X0 hx (pc' := 36) (16 : Int32) (hb hby d4_34) rfl rfl ?_
      by_cases hc36_3 : q0 < (16 : Int32)
      · skip
        refine own_icmpYes X0 hx (pc' := 46) (hb hby d4_36) (tlt hc36_3).1 (by decide) (by decide) ?_
        refine own_iloadN X0 hx (pc' := 47) (hb hby d4_46) rfl rfl ?_
        refine own_iconst X0 hx (pc' := 48) (4 : Int32) (hb hby d4_47) rfl rfl ?_
        by_cases hc48_4 : q0 < (4 : Int32)
        · skip
          refine own_icmpYes X0 hx (pc' := 58) (hb hby d4_48) (tlt hc48_4).1 (by decide) (by decide) ?_
          refine own_iloadN X0 hx (pc' := 59) (hb hby d4_58) rfl rfl ?_
          refine own_iconst X0 hx (pc' := 60) (2 : Int32) (hb hby d4_59) rfl rfl ?_
          by_cases hc60_5 : q0 < (2 : Int32)
          · skip
            refine own_icmpYes X0 hx (pc' := 66) (hb hby d4_60) (tlt hc60_5).1 (by decide) (by decide) ?_
            refine own_iloadN X0 hx (pc' := 67) (hb hby d4_66) rfl rfl ?_
            refine own_retI X0 hx hlk hret (hb hby d4_67) (by decide) (by decide) ?_
            have rg := rng32 q0
            have a0 := hc7_1
            have a1 := hc22_2
            have a2 := hc36_3
            have a3 := hc48_4
            have a4 := hc60_5
            simp only [Int32.lt_iff_toInt_lt, own_t32_65536, own_t32_256, own_t32_16, own_t32_4, own_t32_2] at a0 a1 a2 a3 a4
            refine ⟨⟨0, rfl, by omega, ?_, ?_⟩, N0, e0⟩
            · show 1 ≤ _; omega
            · show _ < 2; omega
          · skip
            refine own_icmpNo X0 hx (pc' := 63) (hb hby d4_60) (flt hc60_5).1 rfl ?_
            refine own_iinc X0 hx (pc' := 66) (Ls' := #[.val (.int q0), .val (.int (1 : Int32)), .val (.int q0)]) (hb hby d4_63) rfl rfl rfl ?_
            refine own_iloadN X0 hx (pc' := 67) (hb hby d4_66) rfl rfl ?_
            refine own_retI X0 hx hlk hret (hb hby d4_67) (by decide) (by decide) ?_
            have rg := rng32 q0
            have a0 := hc7_1
            have a1 := hc22_2
            have a2 := hc36_3
            have a3 := hc48_4
            have a4 := hc60_5
            simp only [Int32.lt_iff_toInt_lt, own_t32_65536, own_t32_256, own_t32_16, own_t32_4, own_t32_2] at a0 a1 a2 a3 a4
            refine ⟨⟨1, rfl, by omega, ?_, ?_⟩, N0, e0⟩
            · show 2 ≤ _; omega
            · show _ < 4; omega
        · skip
          refine own_icmpNo X0 hx (pc' := 51) (hb hby d4_48) (flt hc48_4).1 rfl ?_
          refine own_iloadN X0 hx (pc' := 52) (hb hby d4_51) rfl rfl ?_
          refine own_iconst X0 hx (pc' := 53) (2 : Int32) (hb hby d4_52) rfl rfl ?_
          refine own_iushr X0 hx (pc' := 54) (hb hby d4_53) rfl ?_
          obtain ⟨y2, hy2⟩ : ∃ y : Int32, y = ((q0.toUInt32 >>> ((2 : Int32) &&& 31).toUInt32).toInt32) := ⟨_, rfl⟩
          rw [← hy2]
          have uy2 : y2.toInt = (q0.toInt % 4294967296) / 4 := by rw [hy2]; exact c_iushr q0 (2 : Int32) 2 (by decide) (by decide)
          refine own_istoreN X0 hx (pc' := 55) (Ls' := #[.val (.int q0), .val (.int (0 : Int32)), .val (.int y2)]) (hb hby d4_54) rfl rfl ?_
          refine own_iinc X0 hx (pc' := 58) (Ls' := #[.val (.int q0), .val (.int (2 : Int32)), .val (.int y2)]) (hb hby d4_55) rfl rfl rfl ?_
          refine own_iloadN X0 hx (pc' := 59) (hb hby d4_58) rfl rfl ?_
          refine own_iconst X0 hx (pc' := 60) (2 : Int32) (hb hby d4_59) rfl rfl ?_
          by_cases hc60_6 : y2 < (2 : Int32)
          · skip
            refine own_icmpYes X0 hx (pc' := 66) (hb hby d4_60) (tlt hc60_6).1 (by decide) (by decide) ?_
            refine own_iloadN X0 hx (pc' := 67) (hb hby d4_66) rfl rfl ?_
            refine own_retI X0 hx hlk hret (hb hby d4_67) (by decide) (by decide) ?_
            have rg := rng32 q0
            have a0 := hc7_1
            have a1 := hc22_2
            have a2 := hc36_3
            have a3 := hc48_4
            have a4 := hc60_6
            simp only [Int32.lt_iff_toInt_lt, own_t32_65536, own_t32_256, own_t32_16, own_t32_4, own_t32_2] at a0 a1 a2 a3 a4
            refine ⟨⟨2, rfl, by omega, ?_, ?_⟩, N0, e0⟩
            · show 4 ≤ _; omega
            · show _ < 8; omega
          · skip
            refine own_icmpNo X0 hx (pc' := 63) (hb hby d4_60) (flt hc60_6).1 rfl ?_
            refine own_iinc X0 hx (pc' := 66) (Ls' := #[.val (.int q0), .val (.int (3 : Int32)), .val (.int y2)]) (hb hby d4_63) rfl rfl rfl ?_
            refine own_iloadN X0 hx (pc' := 67) (hb hby d4_66) rfl rfl ?_
            refine own_retI X0 hx hlk hret (hb hby d4_67) (by decide) (by decide) ?_
            have rg := rng32 q0
            have a0 := hc7_1
            have a1 := hc22_2
            have a2 := hc36_3
            have a3 := hc48_4
            have a4 := hc60_6
            simp only [Int32.lt_iff_toInt_lt, own_t32_65536, own_t32_256, own_t32_16, own_t32_4, own_t32_2] at a0 a1 a2 a3 a4
            refine ⟨⟨3, rfl, by omega, ?_, ?_⟩, N0, e0⟩
            · show 8 ≤ _; omega
            · show _ < 16; omega
      · skip
        refine own_icmpNo X0 hx (pc' := 39) (hb hby d4_36) (flt hc36_3).1 rfl ?_
        refine own_iloadN X0 hx (pc' := 40) (hb hby d4_39) rfl rfl ?_
        refine own_iconst X0 hx (pc' := 41) (4 : Int32) (hb hby d4_40) rfl rfl ?_
        refine own_iushr X0 hx (pc' := 42) (hb hby d4_41) rfl ?_
        obtain ⟨y4, hy4⟩ : ∃ y : Int32, y = ((q0.toUInt32 >>> ((4 : Int32) &&& 31).toUInt32).toInt32) := ⟨_, rfl⟩
        rw [← hy4]
        have uy4 : y4.toInt = (q0.toInt % 4294967296) / 16 := by rw [hy4]; exact c_iushr q0 (4 : Int32) 4 (by decide) (by decide)
        refine own_istoreN X0 hx (pc' := 43) (Ls' := #[.val (.int q0), .val (.int (0 : Int32)), .val (.int y4)]) (hb hby d4_42) rfl rfl ?_
        refine own_iinc X0 hx (pc' := 46) (Ls' := #[.val (.int q0), .val (.int (4 : Int32)), .val (.int y4)]) (hb hby d4_43) rfl rfl rfl ?_
        refine own_iloadN X0 hx (pc' := 47) (hb hby d4_46) rfl rfl ?_
        refine own_iconst X0 hx (pc' := 48) (4 : Int32) (hb hby d4_47) rfl rfl ?_
        by_cases hc48_7 : y4 < (4 : Int32)
        · skip
          refine own_icmpYes X0 hx (pc' := 58) (hb hby d4_48) (tlt hc48_7).1 (by decide) (by decide) ?_
          refine own_iloadN X0 hx (pc' := 59) (hb hby d4_58) rfl rfl ?_
          refine own_iconst X0 hx (pc' := 60) (2 : Int32) (hb hby d4_59) rfl rfl ?_
          by_cases hc60_8 : y4 < (2 : Int32)
          · skip
            refine own_icmpYes X0 hx (pc' := 66) (hb hby d4_60) (tlt hc60_8).1 (by decide) (by decide) ?_
            refine own_iloadN X0 hx (pc' := 67) (hb hby d4_66) rfl rfl ?_
            refine own_retI X0 hx hlk hret (hb hby d4_67) (by decide) (by decide) ?_
            have rg := rng32 q0
            have a0 := hc7_1
            have a1 := hc22_2
            have a2 := hc36_3
            have a3 := hc48_7
            have a4 := hc60_8
            simp only [Int32.lt_iff_toInt_lt, own_t32_65536, own_t32_256, own_t32_16, own_t32_4, own_t32_2] at a0 a1 a2 a3 a4
            refine ⟨⟨4, rfl, by omega, ?_, ?_⟩, N0, e0⟩
            · show 16 ≤ _; omega
            · show _ < 32; omega
          · skip
            refine own_icmpNo X0 hx (pc' := 63) (hb hby d4_60) (flt hc60_8).1 rfl ?_
            refine own_iinc X0 hx (pc' := 66) (Ls' := #[.val (.int q0), .val (.int (5 : Int32)), .val (.int y4)]) (hb hby d4_63) rfl rfl rfl ?_
            refine own_iloadN X0 hx (pc' := 67) (hb hby d4_66) rfl rfl ?_
            refine own_retI X0 hx hlk hret (hb hby d4_67) (by decide) (by decide) ?_
            have rg := rng32 q0
            have a0 := hc7_1
            have a1 := hc22_2
            have a2 := hc36_3
            have a3 := hc48_7
            have a4 := hc60_8
            simp only [Int32.lt_iff_toInt_lt, own_t32_65536, own_t32_256, own_t32_16, own_t32_4, own_t32_2] at a0 a1 a2 a3 a4
            refine ⟨⟨5, rfl, by omega, ?_, ?_⟩, N0, e0⟩
            · show 32 ≤ _; omega
            · show _ < 64; omega
        · skip
          refine own_icmpNo X0 hx (pc' := 51) (hb hby d4_48) (flt hc48_7).1 rfl ?_
          refine own_iloadN X0 hx (pc' := 52) (hb hby d4_51) rfl rfl ?_
          refine own_iconst X0 hx (pc' := 53) (2 : Int32) (hb hby d4_52) rfl rfl ?_
          refine own_iushr X0 hx (pc' := 54) (hb hby d4_53) rfl ?_
          obtain ⟨y2, hy2⟩ : ∃ y : Int32, y = ((y4.toUInt32 >>> ((2 : Int32) &&& 31).toUInt32).toInt32) := ⟨_, rfl⟩
          rw [← hy2]
          have uy2 : y2.toInt = (y4.toInt % 4294967296) / 4 := by rw [hy2]; exact c_iushr y4 (2 : Int32) 2 (by decide) (by decide)
          refine own_istoreN X0 hx (pc' := 55) (Ls' := #[.val (.int q0), .val (.int (4 : Int32)), .val (.int y2)]) (hb hby d4_54) rfl rfl ?_
          refine own_iinc X0 hx (pc' := 58) (Ls' := #[.val (.int q0), .val (.int (6 : Int32)), .val (.int y2)]) (hb hby d4_55) rfl rfl rfl ?_
          refine own_iloadN X0 hx (pc' := 59) (hb hby d4_58) rfl rfl ?_
          refine own_iconst X0 hx (pc' := 60) (2 : Int32) (hb hby d4_59) rfl rfl ?_
          by_cases hc60_9 : y2 < (2 : Int32)
          · skip
            refine own_icmpYes X0 hx (pc' := 66) (hb hby d4_60) (tlt hc60_9).1 (by decide) (by decide) ?_
            refine own_iloadN X0 hx (pc' := 67) (hb hby d4_66) rfl rfl ?_
            refine own_retI X0 hx hlk hret (hb hby d4_67) (by decide) (by decide) ?_
            have rg := rng32 q0
            have a0 := hc7_1
            have a1 := hc22_2
            have a2 := hc36_3
            have a3 := hc48_7
            have a4 := hc60_9
            simp only [Int32.lt_iff_toInt_lt, own_t32_65536, own_t32_256, own_t32_16, own_t32_4, own_t32_2] at a0 a1 a2 a3 a4
            refine ⟨⟨6, rfl, by omega, ?_, ?_⟩, N0, e0⟩
            · show 64 ≤ _; omega
            · show _ < 128; omega
          · skip
            refine own_icmpNo X0 hx (pc' := 63) (hb hby d4_60) (flt hc60_9).1 rfl ?_
            refine own_iinc X0 hx (pc' := 66) (Ls' := #[.val (.int q0), .val (.int (7 : Int32)), .val (.int y2)]) (hb hby d4_63) rfl rfl rfl ?_
            refine own_iloadN X0 hx (pc' := 67) (hb hby d4_66) rfl rfl ?_
            refine own_retI X0 hx hlk hret (hb hby d4_67) (by decide) (by decide) ?_
            have rg := rng32 q0
            have a0 := hc7_1
            have a1 := hc22_2
            have a2 := hc36_3
            have a3 := hc48_7
            have a4 := hc60_9
            simp only [Int32.lt_iff_toInt_lt, own_t32_65536, own_t32_256, own_t32_16, own_t32_4, own_t32_2] at a0 a1 a2 a3 a4
            refine ⟨⟨7, rfl, by omega, ?_, ?_⟩, N0, e0⟩
            · show 128 ≤ _; omega
            · show _ < 256; omega
    · skip
      refine own_icmpNo X0 hx (pc' := 25) (hb hby d4_22) (flt hc22_2).1 rfl ?_
      refine own_iloadN X0 hx (pc' := 26) (hb hby d4_25) rfl rfl ?_
      refine own_bipush X0 hx (pc' := 28) (8 : Int32) (hb hby d4_26) rfl rfl ?_
      refine own_iushr X0 hx (pc' := 29) (hb hby d4_28) rfl ?_
      obtain ⟨y8, hy8⟩ : ∃ y : Int32, y = ((q0.toUInt32 >>> ((8 : Int32) &&& 31).toUInt32).toInt32) := ⟨_, rfl⟩
      rw [← hy8]
      have uy8 : y8.toInt = (q0.toInt % 4294967296) / 256 := by rw [hy8]; exact c_iushr q0 (8 : Int32) 8 (by decide) (by decide)
      refine own_istoreN X0 hx (pc' := 30) (Ls' := #[.val (.int q0), .val (.int (0 : Int32)), .val (.int y8)]) (hb hby d4_29) rfl rfl ?_
      refine own_iinc X0 hx (pc' := 33) (Ls' := #[.val (.int q0), .val (.int (8 : Int32)), .val (.int y8)]) (hb hby d4_30) rfl rfl rfl ?_
      refine own_iloadN X0 hx (pc' := 34) (hb hby d4_33) rfl rfl ?_
      refine own_bipush X0 hx (pc' := 36) (16 : Int32) (hb hby d4_34) rfl rfl ?_
      by_cases hc36_10 : y8 < (16 : Int32)
      · skip
        refine own_icmpYes X0 hx (pc' := 46) (hb hby d4_36) (tlt hc36_10).1 (by decide) (by decide) ?_
        refine own_iloadN X0 hx (pc' := 47) (hb hby d4_46) rfl rfl ?_
        refine own_iconst X0 hx (pc' := 48) (4 : Int32) (hb hby d4_47) rfl rfl ?_
        by_cases hc48_11 : y8 < (4 : Int32)
        · skip
          refine own_icmpYes X0 hx (pc' := 58) (hb hby d4_48) (tlt hc48_11).1 (by decide) (by decide) ?_
          refine own_iloadN X0 hx (pc' := 59) (hb hby d4_58) rfl rfl ?_
          refine own_iconst X0 hx (pc' := 60) (2 : Int32) (hb hby d4_59) rfl rfl ?_
          by_cases hc60_12 : y8 < (2 : Int32)
          · skip
            refine own_icmpYes X0 hx (pc' := 66) (hb hby d4_60) (tlt hc60_12).1 (by decide) (by decide) ?_
            refine own_iloadN X0 hx (pc' := 67) (hb hby d4_66) rfl rfl ?_
            refine own_retI X0 hx hlk hret (hb hby d4_67) (by decide) (by decide) ?_
            have rg := rng32 q0
            have a0 := hc7_1
            have a1 := hc22_2
            have a2 := hc36_10
            have a3 := hc48_11
            have a4 := hc60_12
            simp only [Int32.lt_iff_toInt_lt, own_t32_65536, own_t32_256, own_t32_16, own_t32_4, own_t32_2] at a0 a1 a2 a3 a4
            refine ⟨⟨8, rfl, by omega, ?_, ?_⟩, N0, e0⟩
            · show 256 ≤ _; omega
            · show _ < 512; omega
          · skip
            refine own_icmpNo X0 hx (pc' := 63) (hb hby d4_60) (flt hc60_12).1 rfl ?_
            refine own_iinc X0 hx (pc' := 66) (Ls' := #[.val (.int q0), .val (.int (9 : Int32)), .val (.int y8)]) (hb hby d4_63) rfl rfl rfl ?_
            refine own_iloadN X0 hx (pc' := 67) (hb hby d4_66) rfl rfl ?_
            refine own_retI X0 hx hlk hret (hb hby d4_67) (by decide) (by decide) ?_
            have rg := rng32 q0
            have a0 := hc7_1
            have a1 := hc22_2
            have a2 := hc36_10
            have a3 := hc48_11
            have a4 := hc60_12
            simp only [Int32.lt_iff_toInt_lt, own_t32_65536, own_t32_256, own_t32_16, own_t32_4, own_t32_2] at a0 a1 a2 a3 a4
            refine ⟨⟨9, rfl, by omega, ?_, ?_⟩, N0, e0⟩
            · show 512 ≤ _; omega
            · show _ < 1024; omega
        · skip
          refine own_icmpNo X0 hx (pc' := 51) (hb hby d4_48) (flt hc48_11).1 rfl ?_
          refine own_iloadN X0 hx (pc' := 52) (hb hby d4_51) rfl rfl ?_
          refine own_iconst X0 hx (pc' := 53) (2 : Int32) (hb hby d4_52) rfl rfl ?_
          refine own_iushr X0 hx (pc' := 54) (hb hby d4_53) rfl ?_
          obtain ⟨y2, hy2⟩ : ∃ y : Int32, y = ((y8.toUInt32 >>> ((2 : Int32) &&& 31).toUInt32).toInt32) := ⟨_, rfl⟩
          rw [← hy2]
          have uy2 : y2.toInt = (y8.toInt % 4294967296) / 4 := by rw [hy2]; exact c_iushr y8 (2 : Int32) 2 (by decide) (by decide)
          refine own_istoreN X0 hx (pc' := 55) (Ls' := #[.val (.int q0), .val (.int (8 : Int32)), .val (.int y2)]) (hb hby d4_54) rfl rfl ?_
          refine own_iinc X0 hx (pc' := 58) (Ls' := #[.val (.int q0), .val (.int (10 : Int32)), .val (.int y2)]) (hb hby d4_55) rfl rfl rfl ?_
          refine own_iloadN X0 hx (pc' := 59) (hb hby d4_58) rfl rfl ?_
          refine own_iconst X0 hx (pc' := 60) (2 : Int32) (hb hby d4_59) rfl rfl ?_
          by_cases hc60_13 : y2 < (2 : Int32)
          · skip
            refine own_icmpYes X0 hx (pc' := 66) (hb hby d4_60) (tlt hc60_13).1 (by decide) (by decide) ?_
            refine own_iloadN X0 hx (pc' := 67) (hb hby d4_66) rfl rfl ?_
            refine own_retI X0 hx hlk hret (hb hby d4_67) (by decide) (by decide) ?_
            have rg := rng32 q0
            have a0 := hc7_1
            have a1 := hc22_2
            have a2 := hc36_10
            have a3 := hc48_11
            have a4 := hc60_13
            simp only [Int32.lt_iff_toInt_lt, own_t32_65536, own_t32_256, own_t32_16, own_t32_4, own_t32_2] at a0 a1 a2 a3 a4
            refine ⟨⟨10, rfl, by omega, ?_, ?_⟩, N0, e0⟩
            · show 1024 ≤ _; omega
            · show _ < 2048; omega
          · skip
            refine own_icmpNo X0 hx (pc' := 63) (hb hby d4_60) (flt hc60_13).1 rfl ?_
            refine own_iinc X0 hx (pc' := 66) (Ls' := #[.val (.int q0), .val (.int (11 : Int32)), .val (.int y2)]) (hb hby d4_63) rfl rfl rfl ?_
            refine own_iloadN X0 hx (pc' := 67) (hb hby d4_66) rfl rfl ?_
            refine own_retI X0 hx hlk hret (hb hby d4_67) (by decide) (by decide) ?_
            have rg := rng32 q0
            have a0 := hc7_1
            have a1 := hc22_2
            have a2 := hc36_10
            have a3 := hc48_11
            have a4 := hc60_13
            simp only [Int32.lt_iff_toInt_lt, own_t32_65536, own_t32_256, own_t32_16, own_t32_4, own_t32_2] at a0 a1 a2 a3 a4
            refine ⟨⟨11, rfl, by omega, ?_, ?_⟩, N0, e0⟩
            · show 2048 ≤ _; omega
            · show _ < 4096; omega
      · skip
        refine own_icmpNo X0 hx (pc' := 39) (hb hby d4_36) (flt hc36_10).1 rfl ?_
        refine own_iloadN X0 hx (pc' := 40) (hb hby d4_39) rfl rfl ?_
        refine own_iconst X0 hx (pc' := 41) (4 : Int32) (hb hby d4_40) rfl rfl ?_
        refine own_iushr X0 hx (pc' := 42) (hb hby d4_41) rfl ?_
        obtain ⟨y4, hy4⟩ : ∃ y : Int32, y = ((y8.toUInt32 >>> ((4 : Int32) &&& 31).toUInt32).toInt32) := ⟨_, rfl⟩
        rw [← hy4]
        have uy4 : y4.toInt = (y8.toInt % 4294967296) / 16 := by rw [hy4]; exact c_iushr y8 (4 : Int32) 4 (by decide) (by decide)
        refine own_istoreN X0 hx (pc' := 43) (Ls' := #[.val (.int q0), .val (.int (8 : Int32)), .val (.int y4)]) (hb hby d4_42) rfl rfl ?_
        refine own_iinc X0 hx (pc' := 46) (Ls' := #[.val (.int q0), .val (.int (12 : Int32)), .val (.int y4)]) (hb hby d4_43) rfl rfl rfl ?_
        refine own_iloadN X0 hx (pc' := 47) (hb hby d4_46) rfl rfl ?_
        refine own_iconst X0 hx (pc' := 48) (4 : Int32) (hb hby d4_47) rfl rfl ?_
        by_cases hc48_14 : y4 < (4 : Int32)
        · skip
          refine own_icmpYes X0 hx (pc' := 58) (hb hby d4_48) (tlt hc48_14).1 (by decide) (by decide) ?_
          refine own_iloadN X0 hx (pc' := 59) (hb hby d4_58) rfl rfl ?_
          refine own_iconst X0 hx (pc' := 60) (2 : Int32) (hb hby d4_59) rfl rfl ?_
          by_cases hc60_15 : y4 < (2 : Int32)
          · skip
            refine own_icmpYes X0 hx (pc' := 66) (hb hby d4_60) (tlt hc60_15).1 (by decide) (by decide) ?_
            refine own_iloadN X0 hx (pc' := 67) (hb hby d4_66) rfl rfl ?_
            refine own_retI X0 hx hlk hret (hb hby d4_67) (by decide) (by decide) ?_
            have rg := rng32 q0
            have a0 := hc7_1
            have a1 := hc22_2
            have a2 := hc36_10
            have a3 := hc48_14
            have a4 := hc60_15
            simp only [Int32.lt_iff_toInt_lt, own_t32_65536, own_t32_256, own_t32_16, own_t32_4, own_t32_2] at a0 a1 a2 a3 a4
            refine ⟨⟨12, rfl, by omega, ?_, ?_⟩, N0, e0⟩
            · show 4096 ≤ _; omega
            · show _ < 8192; omega
          · skip
            refine own_icmpNo X0 hx (pc' := 63) (hb hby d4_60) (flt hc60_15).1 rfl ?_
            refine own_iinc X0 hx (pc' := 66) (Ls' := #[.val (.int q0), .val (.int (13 : Int32)), .val (.int y4)]) (hb hby d4_63) rfl rfl rfl ?_
            refine own_iloadN X0 hx (pc' := 67) (hb hby d4_66) rfl rfl ?_
            refine own_retI X0 hx hlk hret (hb hby d4_67) (by decide) (by decide) ?_
            have rg := rng32 q0
            have a0 := hc7_1
            have a1 := hc22_2
            have a2 := hc36_10
            have a3 := hc48_14
            have a4 := hc60_15
            simp only [Int32.lt_iff_toInt_lt, own_t32_65536, own_t32_256, own_t32_16, own_t32_4, own_t32_2] at a0 a1 a2 a3 a4
            refine ⟨⟨13, rfl, by omega, ?_, ?_⟩, N0, e0⟩
            · show 8192 ≤ _; omega
            · show _ < 16384; omega
        · skip
          refine own_icmpNo X0 hx (pc' := 51) (hb hby d4_48) (flt hc48_14).1 rfl ?_
          refine own_iloadN X0 hx (pc' := 52) (hb hby d4_51) rfl rfl ?_
          refine own_iconst X0 hx (pc' := 53) (2 : Int32) (hb hby d4_52) rfl rfl ?_
          refine own_iushr X0 hx (pc' := 54) (hb hby d4_53) rfl ?_
          obtain ⟨y2, hy2⟩ : ∃ y : Int32, y = ((y4.toUInt32 >>> ((2 : Int32) &&& 31).toUInt32).toInt32) := ⟨_, rfl⟩
          rw [← hy2]
          have uy2 : y2.toInt = (y4.toInt % 4294967296) / 4 := by rw [hy2]; exact c_iushr y4 (2 : Int32) 2 (by decide) (by decide)
          refine own_istoreN X0 hx (pc' := 55) (Ls' := #[.val (.int q0), .val (.int (12 : Int32)), .val (.int y2)]) (hb hby d4_54) rfl rfl ?_
          refine own_iinc X0 hx (pc' := 58) (Ls' := #[.val (.int q0), .val (.int (14 : Int32)), .val (.int y2)]) (hb hby d4_55) rfl rfl rfl ?_
          refine own_iloadN X0 hx (pc' := 59) (hb hby d4_58) rfl rfl ?_
          refine own_iconst X0 hx (pc' := 60) (2 : Int32) (hb hby d4_59) rfl rfl ?_
          by_cases hc60_16 : y2 < (2 : Int32)
          · skip
            refine own_icmpYes X0 hx (pc' := 66) (hb hby d4_60) (tlt hc60_16).1 (by decide) (by decide) ?_
            refine own_iloadN X0 hx (pc' := 67) (hb hby d4_66) rfl rfl ?_
            refine own_retI X0 hx hlk hret (hb hby d4_67) (by decide) (by decide) ?_
            have rg := rng32 q0
            have a0 := hc7_1
            have a1 := hc22_2
            have a2 := hc36_10
            have a3 := hc48_14
            have a4 := hc60_16
            simp only [Int32.lt_iff_toInt_lt, own_t32_65536, own_t32_256, own_t32_16, own_t32_4, own_t32_2] at a0 a1 a2 a3 a4
            refine ⟨⟨14, rfl, by omega, ?_, ?_⟩, N0, e0⟩
            · show 16384 ≤ _; omega
            · show _ < 32768; omega
          · skip
            refine own_icmpNo X0 hx (pc' := 63) (hb hby d4_60) (flt hc60_16).1 rfl ?_
            refine own_iinc X0 hx (pc' := 66) (Ls' := #[.val (.int q0), .val (.int (15 : Int32)), .val (.int y2)]) (hb hby d4_63) rfl rfl rfl ?_
            refine own_iloadN X0 hx (pc' := 67) (hb hby d4_66) rfl rfl ?_
            refine own_retI X0 hx hlk hret (hb hby d4_67) (by decide) (by decide) ?_
            have rg := rng32 q0
            have a0 := hc7_1
            have a1 := hc22_2
            have a2 := hc36_10
            have a3 := hc48_14
            have a4 := hc60_16
            simp only [Int32.lt_iff_toInt_lt, own_t32_65536, own_t32_256, own_t32_16, own_t32_4, own_t32_2] at a0 a1 a2 a3 a4
            refine ⟨⟨15, rfl, by omega, ?_, ?_⟩, N0, e0⟩
            · show 32768 ≤ _; omega
            · show _ < 65536; omega
  · skip
    refine own_icmpNo X0 hx (pc' := 10) (hb hby d4_7) (flt hc7_1).1 rfl ?_
    refine own_iloadN X0 hx (pc' := 11) (hb hby d4_10) rfl rfl ?_
    refine own_bipush X0 hx (pc' := 13) (16 : Int32) (hb hby d4_11) rfl rfl ?_
    refine own_iushr X0 hx (pc' := 14) (hb hby d4_13) rfl ?_
    obtain ⟨y16, hy16⟩ : ∃ y : Int32, y = ((q0.toUInt32 >>> ((16 : Int32) &&& 31).toUInt32).toInt32) := ⟨_, rfl⟩
    rw [← hy16]
    have uy16 : y16.toInt = (q0.toInt % 4294967296) / 65536 := by rw [hy16]; exact c_iushr q0 (16 : Int32) 16 (by decide) (by decide)
    refine own_istoreN X0 hx (pc' := 15) (Ls' := #[.val (.int q0), .val (.int (0 : Int32)), .val (.int y16)]) (hb hby d4_14) rfl rfl ?_
    refine own_iinc X0 hx (pc' := 18) (Ls' := #[.val (.int q0), .val (.int (16 : Int32)), .val (.int y16)]) (hb hby d4_15) rfl rfl rfl ?_
    refine own_iloadN X0 hx (pc' := 19) (hb hby d4_18) rfl rfl ?_
    refine own_sipush X0 hx (pc' := 22) (256 : Int32) (hb hby d4_19) rfl rfl ?_
    by_cases hc22_17 : y16 < (256 : Int32)
    · skip
      refine own_icmpYes X0 hx (pc' := 33) (hb hby d4_22) (tlt hc22_17).1 (by decide) (by decide) ?_
      refine own_iloadN X0 hx (pc' := 34) (hb hby d4_33) rfl rfl ?_
      refine own_bipush X0 hx (pc' := 36) (16 : Int32) (hb hby d4_34) rfl rfl ?_
      by_cases hc36_18 : y16 < (16 : Int32)
      · skip
        refine own_icmpYes X0 hx (pc' := 46) (hb hby d4_36) (tlt hc36_18).1 (by decide) (by decide) ?_
        refine own_iloadN X0 hx (pc' := 47) (hb hby d4_46) rfl rfl ?_
        refine own_iconst X0 hx (pc' := 48) (4 : Int32) (hb hby d4_47) rfl rfl ?_
        by_cases hc48_19 : y16 < (4 : Int32)
        · skip
          refine own_icmpYes X0 hx (pc' := 58) (hb hby d4_48) (tlt hc48_19).1 (by decide) (by decide) ?_
          refine own_iloadN X0 hx (pc' := 59) (hb hby d4_58) rfl rfl ?_
          refine own_iconst X0 hx (pc' := 60) (2 : Int32) (hb hby d4_59) rfl rfl ?_
          by_cases hc60_20 : y16 < (2 : Int32)
          · skip
            refine own_icmpYes X0 hx (pc' := 66) (hb hby d4_60) (tlt hc60_20).1 (by decide) (by decide) ?_
            refine own_iloadN X0 hx (pc' := 67) (hb hby d4_66) rfl rfl ?_
            refine own_retI X0 hx hlk hret (hb hby d4_67) (by decide) (by decide) ?_
            have rg := rng32 q0
            have a0 := hc7_1
            have a1 := hc22_17
            have a2 := hc36_18
            have a3 := hc48_19
            have a4 := hc60_20
            simp only [Int32.lt_iff_toInt_lt, own_t32_65536, own_t32_256, own_t32_16, own_t32_4, own_t32_2] at a0 a1 a2 a3 a4
            refine ⟨⟨16, rfl, by omega, ?_, ?_⟩, N0, e0⟩
            · show 65536 ≤ _; omega
            · show _ < 131072; omega
          · skip
            refine own_icmpNo X0 hx (pc' := 63) (hb hby d4_60) (flt hc60_20).1 rfl ?_
            refine own_iinc X0 hx (pc' := 66) (Ls' := #[.val (.int q0), .val (.int (17 : Int32)), .val (.int y16)]) (hb hby d4_63) rfl rfl rfl ?_
            refine own_iloadN X0 hx (pc' := 67) (hb hby d4_66) rfl rfl ?_
            refine own_retI X0 hx hlk hret (hb hby d4_67) (by decide) (by decide) ?_
            have rg := rng32 q0
            have a0 := hc7_1
            have a1 := hc22_17
            have a2 := hc36_18
            have a3 := hc48_19
            have a4 := hc60_20
            simp only [Int32.lt_iff_toInt_lt, own_t32_65536, own_t32_256, own_t32_16, own_t32_4, own_t32_2] at a0 a1 a2 a3 a4
            refine ⟨⟨17, rfl, by omega, ?_, ?_⟩, N0, e0⟩
            · show 131072 ≤ _; omega
            · show _ < 262144; omega
        · skip
          refine own_icmpNo X0 hx (pc' := 51) (hb hby d4_48) (flt hc48_19).1 rfl ?_
          refine own_iloadN X0 hx (pc' := 52) (hb hby d4_51) rfl rfl ?_
          refine own_iconst X0 hx (pc' := 53) (2 : Int32) (hb hby d4_52) rfl rfl ?_
          refine own_iushr X0 hx (pc' := 54) (hb hby d4_53) rfl ?_
          obtain ⟨y2, hy2⟩ : ∃ y : Int32, y = ((y16.toUInt32 >>> ((2 : Int32) &&& 31).toUInt32).toInt32) := ⟨_, rfl⟩
          rw [← hy2]
          have uy2 : y2.toInt = (y16.toInt % 4294967296) / 4 := by rw [hy2]; exact c_iushr y16 (2 : Int32) 2 (by decide) (by decide)
          refine own_istoreN X0 hx (pc' := 55) (Ls' := #[.val (.int q0), .val (.int (16 : Int32)), .val (.int y2)]) (hb hby d4_54) rfl rfl ?_
          refine own_iinc X0 hx (pc' := 58) (Ls' := #[.val (.int q0), .val (.int (18 : Int32)), .val (.int y2)]) (hb hby d4_55) rfl rfl rfl ?_
          refine own_iloadN X0 hx (pc' := 59) (hb hby d4_58) rfl rfl ?_
          refine own_iconst X0 hx (pc' := 60) (2 : Int32) (hb hby d4_59) rfl rfl ?_
          by_cases hc60_21 : y2 < (2 : Int32)
          · skip
            refine own_icmpYes X0 hx (pc' := 66) (hb hby d4_60) (tlt hc60_21).1 (by decide) (by decide) ?_
            refine own_iloadN X0 hx (pc' := 67) (hb hby d4_66) rfl rfl ?_
            refine own_retI X0 hx hlk hret (hb hby d4_67) (by decide) (by decide) ?_
            have rg := rng32 q0
            have a0 := hc7_1
            have a1 := hc22_17
            have a2 := hc36_18
            have a3 := hc48_19
            have a4 := hc60_21
            simp only [Int32.lt_iff_toInt_lt, own_t32_65536, own_t32_256, own_t32_16, own_t32_4, own_t32_2] at a0 a1 a2 a3 a4
            refine ⟨⟨18, rfl, by omega, ?_, ?_⟩, N0, e0⟩
            · show 262144 ≤ _; omega
            · show _ < 524288; omega
          · skip
            refine own_icmpNo X0 hx (pc' := 63) (hb hby d4_60) (flt hc60_21).1 rfl ?_
            refine own_iinc X0 hx (pc' := 66) (Ls' := #[.val (.int q0), .val (.int (19 : Int32)), .val (.int y2)]) (hb hby d4_63) rfl rfl rfl ?_
            refine own_iloadN X0 hx (pc' := 67) (hb hby d4_66) rfl rfl ?_
            refine own_retI X0 hx hlk hret (hb hby d4_67) (by decide) (by decide) ?_
            have rg := rng32 q0
            have a0 := hc7_1
            have a1 := hc22_17
            have a2 := hc36_18
            have a3 := hc48_19
            have a4 := hc60_21
            simp only [Int32.lt_iff_toInt_lt, own_t32_65536, own_t32_256, own_t32_16, own_t32_4, own_t32_2] at a0 a1 a2 a3 a4
            refine ⟨⟨19, rfl, by omega, ?_, ?_⟩, N0, e0⟩
            · show 524288 ≤ _; omega
            · show _ < 1048576; omega
      · skip
        refine own_icmpNo X0 hx (pc' := 39) (hb hby d4_36) (flt hc36_18).1 rfl ?_
        refine own_iloadN X0 hx (pc' := 40) (hb hby d4_39) rfl rfl ?_
        refine own_iconst X0 hx (pc' := 41) (4 : Int32) (hb hby d4_40) rfl rfl ?_
        refine own_iushr X0 hx (pc' := 42) (hb hby d4_41) rfl ?_
        obtain ⟨y4, hy4⟩ : ∃ y : Int32, y = ((y16.toUInt32 >>> ((4 : Int32) &&& 31).toUInt32).toInt32) := ⟨_, rfl⟩
        rw [← hy4]
        have uy4 : y4.toInt = (y16.toInt % 4294967296) / 16 := by rw [hy4]; exact c_iushr y16 (4 : Int32) 4 (by decide) (by decide)
        refine own_istoreN X0 hx (pc' := 43) (Ls' := #[.val (.int q0), .val (.int (16 : Int32)), .val (.int y4)]) (hb hby d4_42) rfl rfl ?_
        refine own_iinc X0 hx (pc' := 46) (Ls' := #[.val (.int q0), .val (.int (20 : Int32)), .val (.int y4)]) (hb hby d4_43) rfl rfl rfl ?_
        refine own_iloadN X0 hx (pc' := 47) (hb hby d4_46) rfl rfl ?_
        refine own_iconst X0 hx (pc' := 48) (4 : Int32) (hb hby d4_47) rfl rfl ?_
        by_cases hc48_22 : y4 < (4 : Int32)
        · skip
          refine own_icmpYes X0 hx (pc' := 58) (hb hby d4_48) (tlt hc48_22).1 (by decide) (by decide) ?_
          refine own_iloadN X0 hx (pc' := 59) (hb hby d4_58) rfl rfl ?_
          refine own_iconst X0 hx (pc' := 60) (2 : Int32) (hb hby d4_59) rfl rfl ?_
          by_cases hc60_23 : y4 < (2 : Int32)
          · skip
            refine own_icmpYes X0 hx (pc' := 66) (hb hby d4_60) (tlt hc60_23).1 (by decide) (by decide) ?_
            refine own_iloadN X0 hx (pc' := 67) (hb hby d4_66) rfl rfl ?_
            refine own_retI X0 hx hlk hret (hb hby d4_67) (by decide) (by decide) ?_
            have rg := rng32 q0
            have a0 := hc7_1
            have a1 := hc22_17
            have a2 := hc36_18
            have a3 := hc48_22
            have a4 := hc60_23
            simp only [Int32.lt_iff_toInt_lt, own_t32_65536, own_t32_256, own_t32_16, own_t32_4, own_t32_2] at a0 a1 a2 a3 a4
            refine ⟨⟨20, rfl, by omega, ?_, ?_⟩, N0, e0⟩
            · show 1048576 ≤ _; omega
            · show _ < 2097152; omega
          · skip
            refine own_icmpNo X0 hx (pc' := 63) (hb hby d4_60) (flt hc60_23).1 rfl ?_
            refine own_iinc X0 hx (pc' := 66) (Ls' := #[.val (.int q0), .val (.int (21 : Int32)), .val (.int y4)]) (hb hby d4_63) rfl rfl rfl ?_
            refine own_iloadN X0 hx (pc' := 67) (hb hby d4_66) rfl rfl ?_
            refine own_retI X0 hx hlk hret (hb hby d4_67) (by decide) (by decide) ?_
            have rg := rng32 q0
            have a0 := hc7_1
            have a1 := hc22_17
            have a2 := hc36_18
            have a3 := hc48_22
            have a4 := hc60_23
            simp only [Int32.lt_iff_toInt_lt, own_t32_65536, own_t32_256, own_t32_16, own_t32_4, own_t32_2] at a0 a1 a2 a3 a4
            refine ⟨⟨21, rfl, by omega, ?_, ?_⟩, N0, e0⟩
            · show 2097152 ≤ _; omega
            · show _ < 4194304; omega
        · skip
          refine own_icmpNo X0 hx (pc' := 51) (hb hby d4_48) (flt hc48_22).1 rfl ?_
          refine own_iloadN X0 hx (pc' := 52) (hb hby d4_51) rfl rfl ?_
          refine own_iconst X0 hx (pc' := 53) (2 : Int32) (hb hby d4_52) rfl rfl ?_
          refine own_iushr X0 hx (pc' := 54) (hb hby d4_53) rfl ?_
          obtain ⟨y2, hy2⟩ : ∃ y : Int32, y = ((y4.toUInt32 >>> ((2 : Int32) &&& 31).toUInt32).toInt32) := ⟨_, rfl⟩
          rw [← hy2]
          have uy2 : y2.toInt = (y4.toInt % 4294967296) / 4 := by rw [hy2]; exact c_iushr y4 (2 : Int32) 2 (by decide) (by decide)
          refine own_istoreN X0 hx (pc' := 55) (Ls' := #[.val (.int q0), .val (.int (20 : Int32)), .val (.int y2)]) (hb hby d4_54) rfl rfl ?_
          refine own_iinc X0 hx (pc' := 58) (Ls' := #[.val (.int q0), .val (.int (22 : Int32)), .val (.int y2)]) (hb hby d4_55) rfl rfl rfl ?_
          refine own_iloadN X0 hx (pc' := 59) (hb hby d4_58) rfl rfl ?_
          refine own_iconst X0 hx (pc' := 60) (2 : Int32) (hb hby d4_59) rfl rfl ?_
          by_cases hc60_24 : y2 < (2 : Int32)
          · skip
            refine own_icmpYes X0 hx (pc' := 66) (hb hby d4_60) (tlt hc60_24).1 (by decide) (by decide) ?_
            refine own_iloadN X0 hx (pc' := 67) (hb hby d4_66) rfl rfl ?_
            refine own_retI X0 hx hlk hret (hb hby d4_67) (by decide) (by decide) ?_
            have rg := rng32 q0
            have a0 := hc7_1
            have a1 := hc22_17
            have a2 := hc36_18
            have a3 := hc48_22
            have a4 := hc60_24
            simp only [Int32.lt_iff_toInt_lt, own_t32_65536, own_t32_256, own_t32_16, own_t32_4, own_t32_2] at a0 a1 a2 a3 a4
            refine ⟨⟨22, rfl, by omega, ?_, ?_⟩, N0, e0⟩
            · show 4194304 ≤ _; omega
            · show _ < 8388608; omega
          · skip
            refine own_icmpNo X0 hx (pc' := 63) (hb hby d4_60) (flt hc60_24).1 rfl ?_
            refine own_iinc X0 hx (pc' := 66) (Ls' := #[.val (.int q0), .val (.int (23 : Int32)), .val (.int y2)]) (hb hby d4_63) rfl rfl rfl ?_
            refine own_iloadN X0 hx (pc' := 67) (hb hby d4_66) rfl rfl ?_
            refine own_retI X0 hx hlk hret (hb hby d4_67) (by decide) (by decide) ?_
            have rg := rng32 q0
            have a0 := hc7_1
            have a1 := hc22_17
            have a2 := hc36_18
            have a3 := hc48_22
            have a4 := hc60_24
            simp only [Int32.lt_iff_toInt_lt, own_t32_65536, own_t32_256, own_t32_16, own_t32_4, own_t32_2] at a0 a1 a2 a3 a4
            refine ⟨⟨23, rfl, by omega, ?_, ?_⟩, N0, e0⟩
            · show 8388608 ≤ _; omega
            · show _ < 16777216; omega
    · skip
      refine own_icmpNo X0 hx (pc' := 25) (hb hby d4_22) (flt hc22_17).1 rfl ?_
      refine own_iloadN X0 hx (pc' := 26) (hb hby d4_25) rfl rfl ?_
      refine own_bipush X0 hx (pc' := 28) (8 : Int32) (hb hby d4_26) rfl rfl ?_
      refine own_iushr X0 hx (pc' := 29) (hb hby d4_28) rfl ?_
      obtain ⟨y8, hy8⟩ : ∃ y : Int32, y = ((y16.toUInt32 >>> ((8 : Int32) &&& 31).toUInt32).toInt32) := ⟨_, rfl⟩
      rw [← hy8]
      have uy8 : y8.toInt = (y16.toInt % 4294967296) / 256 := by rw [hy8]; exact c_iushr y16 (8 : Int32) 8 (by decide) (by decide)
      refine own_istoreN X0 hx (pc' := 30) (Ls' := #[.val (.int q0), .val (.int (16 : Int32)), .val (.int y8)]) (hb hby d4_29) rfl rfl ?_
      refine own_iinc X0 hx (pc' := 33) (Ls' := #[.val (.int q0), .val (.int (24 : Int32)), .val (.int y8)]) (hb hby d4_30) rfl rfl rfl ?_
      refine own_iloadN X0 hx (pc' := 34) (hb hby d4_33) rfl rfl ?_
      refine own_bipush X0 hx (pc' := 36) (16 : Int32) (hb hby d4_34) rfl rfl ?_
      by_cases hc36_25 : y8 < (16 : Int32)
      · skip
        refine own_icmpYes X0 hx (pc' := 46) (hb hby d4_36) (tlt hc36_25).1 (by decide) (by decide) ?_
        refine own_iloadN X0 hx (pc' := 47) (hb hby d4_46) rfl rfl ?_
        refine own_iconst X0 hx (pc' := 48) (4 : Int32) (hb hby d4_47) rfl rfl ?_
        by_cases hc48_26 : y8 < (4 : Int32)
        · skip
          refine own_icmpYes X0 hx (pc' := 58) (hb hby d4_48) (tlt hc48_26).1 (by decide) (by decide) ?_
          refine own_iloadN X0 hx (pc' := 59) (hb hby d4_58) rfl rfl ?_
          refine own_iconst X0 hx (pc' := 60) (2 : Int32) (hb hby d4_59) rfl rfl ?_
          by_cases hc60_27 : y8 < (2 : Int32)
          · skip
            refine own_icmpYes X0 hx (pc' := 66) (hb hby d4_60) (tlt hc60_27).1 (by decide) (by decide) ?_
            refine own_iloadN X0 hx (pc' := 67) (hb hby d4_66) rfl rfl ?_
            refine own_retI X0 hx hlk hret (hb hby d4_67) (by decide) (by decide) ?_
            have rg := rng32 q0
            have a0 := hc7_1
            have a1 := hc22_17
            have a2 := hc36_25
            have a3 := hc48_26
            have a4 := hc60_27
            simp only [Int32.lt_iff_toInt_lt, own_t32_65536, own_t32_256, own_t32_16, own_t32_4, own_t32_2] at a0 a1 a2 a3 a4
            refine ⟨⟨24, rfl, by omega, ?_, ?_⟩, N0, e0⟩
            · show 16777216 ≤ _; omega
            · show _ < 33554432; omega
          · skip
            refine own_icmpNo X0 hx (pc' := 63) (hb hby d4_60) (flt hc60_27).1 rfl ?_
            refine own_iinc X0 hx (pc' := 66) (Ls' := #[.val (.int q0), .val (.int (25 : Int32)), .val (.int y8)]) (hb hby d4_63) rfl rfl rfl ?_
            refine own_iloadN X0 hx (pc' := 67) (hb hby d4_66) rfl rfl ?_
            refine own_retI X0 hx hlk hret (hb hby d4_67) (by decide) (by decide) ?_
            have rg := rng32 q0
            have a0 := hc7_1
            have a1 := hc22_17
            have a2 := hc36_25
            have a3 := hc48_26
            have a4 := hc60_27
            simp only [Int32.lt_iff_toInt_lt, own_t32_65536, own_t32_256, own_t32_16, own_t32_4, own_t32_2] at a0 a1 a2 a3 a4
            refine ⟨⟨25, rfl, by omega, ?_, ?_⟩, N0, e0⟩
            · show 33554432 ≤ _; omega
            · show _ < 67108864; omega
        · skip
          refine own_icmpNo X0 hx (pc' := 51) (hb hby d4_48) (flt hc48_26).1 rfl ?_
          refine own_iloadN X0 hx (pc' := 52) (hb hby d4_51) rfl rfl ?_
          refine own_iconst X0 hx (pc' := 53) (2 : Int32) (hb hby d4_52) rfl rfl ?_
          refine own_iushr X0 hx (pc' := 54) (hb hby d4_53) rfl ?_
          obtain ⟨y2, hy2⟩ : ∃ y : Int32, y = ((y8.toUInt32 >>> ((2 : Int32) &&& 31).toUInt32).toInt32) := ⟨_, rfl⟩
          rw [← hy2]
          have uy2 : y2.toInt = (y8.toInt % 4294967296) / 4 := by rw [hy2]; exact c_iushr y8 (2 : Int32) 2 (by decide) (by decide)
          refine own_istoreN X0 hx (pc' := 55) (Ls' := #[.val (.int q0), .val (.int (24 : Int32)), .val (.int y2)]) (hb hby d4_54) rfl rfl ?_
          refine own_iinc X0 hx (pc' := 58) (Ls' := #[.val (.int q0), .val (.int (26 : Int32)), .val (.int y2)]) (hb hby d4_55) rfl rfl rfl ?_
          refine own_iloadN X0 hx (pc' := 59) (hb hby d4_58) rfl rfl ?_
          refine own_iconst X0 hx (pc' := 60) (2 : Int32) (hb hby d4_59) rfl rfl ?_
          by_cases hc60_28 : y2 < (2 : Int32)
          · skip
            refine own_icmpYes X0 hx (pc' := 66) (hb hby d4_60) (tlt hc60_28).1 (by decide) (by decide) ?_
            refine own_iloadN X0 hx (pc' := 67) (hb hby d4_66) rfl rfl ?_
            refine own_retI X0 hx hlk hret (hb hby d4_67) (by decide) (by decide) ?_
            have rg := rng32 q0
            have a0 := hc7_1
            have a1 := hc22_17
            have a2 := hc36_25
            have a3 := hc48_26
            have a4 := hc60_28
            simp only [Int32.lt_iff_toInt_lt, own_t32_65536, own_t32_256, own_t32_16, own_t32_4, own_t32_2] at a0 a1 a2 a3 a4
            refine ⟨⟨26, rfl, by omega, ?_, ?_⟩, N0, e0⟩
            · show 67108864 ≤ _; omega
            · show _ < 134217728; omega
          · skip
            refine own_icmpNo X0 hx (pc' := 63) (hb hby d4_60) (flt hc60_28).1 rfl ?_
            refine own_iinc X0 hx (pc' := 66) (Ls' := #[.val (.int q0), .val (.int (27 : Int32)), .val (.int y2)]) (hb hby d4_63) rfl rfl rfl ?_
            refine own_iloadN X0 hx (pc' := 67) (hb hby d4_66) rfl rfl ?_
            refine own_retI X0 hx hlk hret (hb hby d4_67) (by decide) (by decide) ?_
            have rg := rng32 q0
            have a0 := hc7_1
            have a1 := hc22_17
            have a2 := hc36_25
            have a3 := hc48_26
            have a4 := hc60_28
            simp only [Int32.lt_iff_toInt_lt, own_t32_65536, own_t32_256, own_t32_16, own_t32_4, own_t32_2] at a0 a1 a2 a3 a4
            refine ⟨⟨27, rfl, by omega, ?_, ?_⟩, N0, e0⟩
            · show 134217728 ≤ _; omega
            · show _ < 268435456; omega
      · skip
        refine own_icmpNo X0 hx (pc' := 39) (hb hby d4_36) (flt hc36_25).1 rfl ?_
        refine own_iloadN X0 hx (pc' := 40) (hb hby d4_39) rfl rfl ?_
        refine own_iconst X0 hx (pc' := 41) (4 : Int32) (hb hby d4_40) rfl rfl ?_
        refine own_iushr X0 hx (pc' := 42) (hb hby d4_41) rfl ?_
        obtain ⟨y4, hy4⟩ : ∃ y : Int32, y = ((y8.toUInt32 >>> ((4 : Int32) &&& 31).toUInt32).toInt32) := ⟨_, rfl⟩
        rw [← hy4]
        have uy4 : y4.toInt = (y8.toInt % 4294967296) / 16 := by rw [hy4]; exact c_iushr y8 (4 : Int32) 4 (by decide) (by decide)
        refine own_istoreN X0 hx (pc' := 43) (Ls' := #[.val (.int q0), .val (.int (24 : Int32)), .val (.int y4)]) (hb hby d4_42) rfl rfl ?_
        refine own_iinc X0 hx (pc' := 46) (Ls' := #[.val (.int q0), .val (.int (28 : Int32)), .val (.int y4)]) (hb hby d4_43) rfl rfl rfl ?_
        refine own_iloadN X0 hx (pc' := 47) (hb hby d4_46) rfl rfl ?_
        refine own_iconst X0 hx (pc' := 48) (4 : Int32) (hb hby d4_47) rfl rfl ?_
        by_cases hc48_29 : y4 < (4 : Int32)
        · skip
          refine own_icmpYes X0 hx (pc' := 58) (hb hby d4_48) (tlt hc48_29).1 (by decide) (by decide) ?_
          refine own_iloadN X0 hx (pc' := 59) (hb hby d4_58) rfl rfl ?_
          refine own_iconst X0 hx (pc' := 60) (2 : Int32) (hb hby d4_59) rfl rfl ?_
          by_cases hc60_30 : y4 < (2 : Int32)
          · skip
            refine own_icmpYes X0 hx (pc' := 66) (hb hby d4_60) (tlt hc60_30).1 (by decide) (by decide) ?_
            refine own_iloadN X0 hx (pc' := 67) (hb hby d4_66) rfl rfl ?_
            refine own_retI X0 hx hlk hret (hb hby d4_67) (by decide) (by decide) ?_
            have rg := rng32 q0
            have a0 := hc7_1
            have a1 := hc22_17
            have a2 := hc36_25
            have a3 := hc48_29
            have a4 := hc60_30
            simp only [Int32.lt_iff_toInt_lt, own_t32_65536, own_t32_256, own_t32_16, own_t32_4, own_t32_2] at a0 a1 a2 a3 a4
            refine ⟨⟨28, rfl, by omega, ?_, ?_⟩, N0, e0⟩
            · show 268435456 ≤ _; omega
            · show _ < 536870912; omega
          · skip
            refine own_icmpNo X0 hx (pc' := 63) (hb hby d4_60) (flt hc60_30).1 rfl ?_
            refine own_iinc X0 hx (pc' := 66) (Ls' := #[.val (.int q0), .val (.int (29 : Int32)), .val (.int y4)]) (hb hby d4_63) rfl rfl rfl ?_
            refine own_iloadN X0 hx (pc' := 67) (hb hby d4_66) rfl rfl ?_
            refine own_retI X0 hx hlk hret (hb hby d4_67) (by decide) (by decide) ?_
            have rg := rng32 q0
            have a0 := hc7_1
            have a1 := hc22_17
            have a2 := hc36_25
            have a3 := hc48_29
            have a4 := hc60_30
            simp only [Int32.lt_iff_toInt_lt, own_t32_65536, own_t32_256, own_t32_16, own_t32_4, own_t32_2] at a0 a1 a2 a3 a4
            refine ⟨⟨29, rfl, by omega, ?_, ?_⟩, N0, e0⟩
            · show 536870912 ≤ _; omega
            · show _ < 1073741824; omega
        · skip
          refine own_icmpNo X0 hx (pc' := 51) (hb hby d4_48) (flt hc48_29).1 rfl ?_
          refine own_iloadN X0 hx (pc' := 52) (hb hby d4_51) rfl rfl ?_
          refine own_iconst X0 hx (pc' := 53) (2 : Int32) (hb hby d4_52) rfl rfl ?_
          refine own_iushr X0 hx (pc' := 54) (hb hby d4_53) rfl ?_
          obtain ⟨y2, hy2⟩ : ∃ y : Int32, y = ((y4.toUInt32 >>> ((2 : Int32) &&& 31).toUInt32).toInt32) := ⟨_, rfl⟩
          rw [← hy2]
          have uy2 : y2.toInt = (y4.toInt % 4294967296) / 4 := by rw [hy2]; exact c_iushr y4 (2 : Int32) 2 (by decide) (by decide)
          refine own_istoreN X0 hx (pc' := 55) (Ls' := #[.val (.int q0), .val (.int (28 : Int32)), .val (.int y2)]) (hb hby d4_54) rfl rfl ?_
          refine own_iinc X0 hx (pc' := 58) (Ls' := #[.val (.int q0), .val (.int (30 : Int32)), .val (.int y2)]) (hb hby d4_55) rfl rfl rfl ?_
          refine own_iloadN X0 hx (pc' := 59) (hb hby d4_58) rfl rfl ?_
          refine own_iconst X0 hx (pc' := 60) (2 : Int32) (hb hby d4_59) rfl rfl ?_
          by_cases hc60_31 : y2 < (2 : Int32)
          · skip
            refine own_icmpYes X0 hx (pc' := 66) (hb hby d4_60) (tlt hc60_31).1 (by decide) (by decide) ?_
            refine own_iloadN X0 hx (pc' := 67) (hb hby d4_66) rfl rfl ?_
            refine own_retI X0 hx hlk hret (hb hby d4_67) (by decide) (by decide) ?_
            have rg := rng32 q0
            have a0 := hc7_1
            have a1 := hc22_17
            have a2 := hc36_25
            have a3 := hc48_29
            have a4 := hc60_31
            simp only [Int32.lt_iff_toInt_lt, own_t32_65536, own_t32_256, own_t32_16, own_t32_4, own_t32_2] at a0 a1 a2 a3 a4
            refine ⟨⟨30, rfl, by omega, ?_, ?_⟩, N0, e0⟩
            · show 1073741824 ≤ _; omega
            · show _ < 2147483648; omega
          · skip
            refine own_icmpNo X0 hx (pc' := 63) (hb hby d4_60) (flt hc60_31).1 rfl ?_
            refine own_iinc X0 hx (pc' := 66) (Ls' := #[.val (.int q0), .val (.int (31 : Int32)), .val (.int y2)]) (hb hby d4_63) rfl rfl rfl ?_
            refine own_iloadN X0 hx (pc' := 67) (hb hby d4_66) rfl rfl ?_
            refine own_retI X0 hx hlk hret (hb hby d4_67) (by decide) (by decide) ?_
            have rg := rng32 q0
            have a0 := hc7_1
            have a1 := hc22_17
            have a2 := hc36_25
            have a3 := hc48_29
            have a4 := hc60_31
            simp only [Int32.lt_iff_toInt_lt, own_t32_65536, own_t32_256, own_t32_16, own_t32_4, own_t32_2] at a0 a1 a2 a3 a4
            refine ⟨⟨31, rfl, by omega, ?_, ?_⟩, N0, e0⟩
            · show 2147483648 ≤ _; omega
            · show _ < 4294967296; omega

theorem d2_0 : decode method_3_code 0 = .ok (.iload_n 0, 1) := by decide +kernel
theorem d2_1 : decode method_3_code 1 = .ok (.iconst 1, 1) := by decide +kernel
theorem d2_2 : decode method_3_code 2 = .ok (.if_icmp .ne 7, 3) := by decide +kernel
theorem d2_5 : decode method_3_code 5 = .ok (.iconst 0, 1) := by decide +kernel
theorem d2_6 : decode method_3_code 6 = .ok (.goto 11, 3) := by decide +kernel
theorem d2_9 : decode method_3_code 9 = .ok (.iload_n 0, 1) := by decide +kernel
theorem d2_10 : decode method_3_code 10 = .ok (.iconst 1, 1) := by decide +kernel
theorem d2_11 : decode method_3_code 11 = .ok (.isub, 1) := by decide +kernel
theorem d2_12 : decode method_3_code 12 = .ok (.invokestatic 34, 3) := by decide +kernel
theorem d2_15 : decode method_3_code 15 = .ok (.iconst 1, 1) := by decide +kernel
theorem d2_16 : decode method_3_code 16 = .ok (.iadd, 1) := by decide +kernel
theorem d2_17 : decode method_3_code 17 = .ok (.ireturn, 1) := by decide +kernel
def Qcl (x : Int32) (h0 : Heap) (n0 : Nat) (v : Option Value) (h : Heap) (L : List Loc) : Prop := (∃ C : Nat, v = some (.int (Int32.ofNat C)) ∧ C ≤ 31 ∧ x.toInt.natAbs ≤ 2 ^ C ∧ 2 ^ C < 2 * x.toInt.natAbs) ∧ Fr n0 L ∧ h = h0
theorem ef_rm_cl (m : MethodId) (x0 : Int32) : entryFrame m #[(.int x0)] 1 = mkF m 0 #[.val (.int x0)] [] := by first | (simp [entryFrame, mkF, argsToLocals, Value.category, maxLocals]; done) | rfl
theorem pf_3 : plainFor (⟨"com/example/pandarus/pandarus/RangeIndexUnitPinLaw", "ceilLog2", "(I)I"⟩ : MethodName) = true := by apply plainFor_of_name; first | (simp [plainName, overriddenIn]; done) | decide +kernel
theorem Wd21 {a0 : Array Value} {Z : State} (hw : ∀ d ∈ tables_1, d.before a0 Z = true) : (Jvm.Cond.code ({ cls := "com/example/pandarus/pandarus/RangeIndexUnitPinLaw", name := "floorLog2", desc := "(I)I" } : Jvm.MethodName) method_4_code (3 : Nat) (Option.some Jvm.ClassFile.FieldType.int)).before a0 Z = true := hw _ (List.mem_of_getElem? (i := 21) rfl)
theorem Wd12 {a0 : Array Value} {Z : State} (hw : ∀ d ∈ tables_1, d.before a0 Z = true) : (Jvm.Cond.initialized "com/example/pandarus/pandarus/RangeIndexUnitPinLaw").before a0 Z = true := hw _ (List.mem_of_getElem? (i := 12) rfl)
theorem pd_0 : parseMethodDescriptor "(I)I" = some ⟨[.int], some .int⟩ := by decide +kernel
theorem Wd19 {a0 : Array Value} {Z : State} (hw : ∀ d ∈ tables_1, d.before a0 Z = true) : (Jvm.Cond.methodLink "com/example/pandarus/pandarus/RangeIndexUnitPinLaw" (34 : Nat) ({ cls := "com/example/pandarus/pandarus/RangeIndexUnitPinLaw", name := "floorLog2", desc := "(I)I" } : Jvm.MethodName)).before a0 Z = true := hw _ (List.mem_of_getElem? (i := 19) rfl)
theorem Wd20 {a0 : Array Value} {Z : State} (hw : ∀ d ∈ tables_1, d.before a0 Z = true) : (Jvm.Cond.static ({ cls := "com/example/pandarus/pandarus/RangeIndexUnitPinLaw", name := "floorLog2", desc := "(I)I" } : Jvm.MethodName)).before a0 Z = true := hw _ (List.mem_of_getElem? (i := 20) rfl)
set_option maxRecDepth 65536 in
set_option maxHeartbeats 40000000 in
theorem rm_cl (l : Launch) (Z : State) (a0 : Array Value) (hw : ∀ d ∈ tables_1, d.before a0 Z = true) (ws : List Jvm.Cond) (q0 : Int32) (h0 : Heap) (n0 : Nat) (Z0 : n0 ≤ h0.size) (hq0 : 1 ≤ q0.toInt) :
    MetFree l (⟨"com/example/pandarus/pandarus/RangeIndexUnitPinLaw", "ceilLog2", "(I)I"⟩ : MethodName) (head1 (Jvm.Cond.code (⟨"com/example/pandarus/pandarus/RangeIndexUnitPinLaw", "ceilLog2", "(I)I"⟩ : MethodName) method_3_code 1 (some .int) :: ws) ({ frames := 1, cells := 0, slots := 0, locals := 14 } : Room)) (fun aa U => aa = #[(.int q0)] ∧ Z.Warmed39 U.vm ∧ U.heap = h0) (fun _ _ _ _ _ => True) (fun _ U o U' => ∃ v L, o = .returned v ∧ Qcl q0 h0 n0 v U'.heap L ∧ FrameEnd U o U' L (({ frames := 1, cells := 0, slots := 0, locals := 14 } : Room).cells) (({ frames := 1, cells := 0, slots := 0, locals := 14 } : Room).slots)) := by
  refine own_body pf_3 ?_
  intro p e s m below meth c s₁ hx hby hml hown hnm hlk hret hZ X0 e0
  have N0 : Fr n0 [] := Fr.nil n0
  refine own_go (f' := (mkF m 0 #[.val (.int q0)] [])) (fun t k => castTop (ef_rm_cl m q0) k) ?_
  refine own_iloadN X0 hx (pc' := 1) (hb hby d2_0) rfl rfl ?_
  refine own_iconst X0 hx (pc' := 2) (1 : Int32) (hb hby d2_1) rfl rfl ?_
  by_cases hc2_1 : q0 = (1 : Int32)
  · skip
    refine own_icmpNo X0 hx (pc' := 5) (hb hby d2_2) (teq hc2_1).2 rfl ?_
    refine own_iconst X0 hx (pc' := 6) (0 : Int32) (hb hby d2_5) rfl rfl ?_
    refine own_goto X0 hx (pc' := 17) (hb hby d2_6) (by decide) (by decide) ?_
    refine own_retI X0 hx hlk hret (hb hby d2_17) (by decide) (by decide) ?_
    refine ⟨⟨0, rfl, by decide, ?_, ?_⟩, N0, e0⟩
    · rw [hc2_1]; decide
    · rw [hc2_1]; decide
  · skip
    refine own_icmpYes X0 hx (pc' := 9) (hb hby d2_2) (feq hc2_1).2 (by decide) (by decide) ?_
    refine own_iloadN X0 hx (pc' := 10) (hb hby d2_9) rfl rfl ?_
    refine own_iconst X0 hx (pc' := 11) (1 : Int32) (hb hby d2_10) rfl rfl ?_
    refine own_isub X0 hx (pc' := 12) (hb hby d2_11) rfl rfl ?_
    have rg := rng32 q0
    have sb := c_isub q0 (1 : Int32)
    have rs := rng32 (q0 - (1 : Int32))
    have ne1 := hc2_1
    rw [← Int32.toInt_inj, own_t32_1] at ne1
    rw [own_t32_1] at sb
    have se : (q0 - (1 : Int32)).toInt = q0.toInt - 1 := by omega
    refine own_callS X0 hx (pc' := 15) hZ hown (Wd19 hw) (Wd20 hw) (Wd12 hw) (Wd21 hw) (by decide) (rm_fl l Z a0 hw [] (q0 - (1 : Int32)) h0 n0 Z0 (by omega)) e0 0 (by decide) (by decide) (by decide) (by decide) [(.int (q0 - (1 : Int32)))] [] (by rw [hml]; rfl) (lenOf pd_0 rfl) rfl rfl (Nat.le_of_eq rfl) (hb hby d2_12) rfl (fun v2 T2 L2 X2 hQ2 => ?_)
    obtain ⟨⟨r2, rfl, ra2, rb2, rc2⟩, Nq2, e2⟩ := hQ2
    have N3 := Fr.app N0 Nq2
    rw [se] at rb2 rc2
    show own_G p.tables e below _ T2 (mkF m 15 #[.val (.int q0)] [(.int (Int32.ofNat r2))])
    refine own_iconst X2 hx (pc' := 16) (1 : Int32) (hb hby d2_15) rfl rfl ?_
    refine own_iadd X2 hx (pc' := 17) (hb hby d2_16) rfl rfl ?_
    refine own_retI X2 hx hlk hret (hb hby d2_17) (by decide) (by decide) ?_
    refine ⟨⟨r2 + 1, congrArg (fun z => some (Value.int z)) (Int32.ofNat_add r2 1).symm, by omega, ?_, ?_⟩, N3, e2⟩
    · omega
    · have qq := Nat.pow_succ (n := 2) (m := r2); omega

theorem own_abs (a : Int32) (h : a ≠ 0) : 0 < a.toInt.natAbs ∧ a.toInt.natAbs ≤ 2 ^ 31 := by
  have q := rng32 a
  have q2 : a.toInt ≠ 0 := fun z => h (Int32.toInt_inj.mp z)
  omega
theorem own_safe (a : Int32) (z : Nat) (hz : z < 63) {sc : UInt64} {r : Int} (hsc : FP.Core.val64 sc = .fin false (2 ^ 52) (r - 52)) (hr1 : -200 ≤ r) (hr2 : r ≤ 60) : Jvm.Free.Fl.NoNaN64 (FP.dmul (FP.i2d a) (FP.l2d (own_one z))) ∧ Jvm.Free.Fl.NoNaN64 (own_least a z sc) := by
  by_cases h : a = 0
  · subst h
    obtain ⟨e1, e2⟩ := own_least0 z hz hsc
    exact ⟨Jvm.Free.Fl.val64_no.mpr (by rw [e1]; nofun), Jvm.Free.Fl.val64_no.mpr (by rw [e2]; nofun)⟩
  · obtain ⟨k, -, k2, k3, k4⟩ := own_norm _ (own_abs a h).1 (own_abs a h).2
    obtain ⟨e1, e2⟩ := own_leastv a z hz hsc hr1 hr2 k3 k4 k2
    exact ⟨Jvm.Free.Fl.val64_no.mpr (by rw [e1]; nofun), Jvm.Free.Fl.val64_no.mpr (by rw [e2]; nofun)⟩
theorem own_runN (a : Int32) (z : Nat) (hz : z < 63) {sc : UInt64} {r : Int} (hsc : FP.Core.val64 sc = .fin false (2 ^ 52) (r - 52)) (hr1 : -200 ≤ r) (hr2 : r ≤ 60) (ha : ¬ (0 : Int32) < a) : own_run (own_least a z sc) 246 0 = 0 := by
  apply own_run_zero
  by_cases h : a = 0
  · subst h
    exact own_ord_neg (own_least0 z hz hsc).2 (Or.inr rfl)
  · obtain ⟨k, -, k2, k3, k4⟩ := own_norm _ (own_abs a h).1 (own_abs a h).2
    refine own_ord_neg (own_leastv a z hz hsc hr1 hr2 k3 k4 k2).2 (Or.inl ?_)
    have q2 : a.toInt ≠ 0 := fun z => h (Int32.toInt_inj.mp z)
    rw [Int32.lt_iff_toInt_lt, own_t32_0] at ha
    exact decide_eq_true (by omega)
theorem own_runP (a : Int32) (z : Nat) (hz : z < 63) {sc : UInt64} {r : Int} (hsc : FP.Core.val64 sc = .fin false (2 ^ 52) (r - 52)) (hr1 : -200 ≤ r) (hr2 : r ≤ 60) (ha : (0 : Int32) < a) {C : Nat} (hC1 : a.toInt.natAbs ≤ 2 ^ C) (hC2 : 2 ^ C < 2 * a.toInt.natAbs) {ee : Int} (he : ee = (C : Int) + z + r) : own_run (own_least a z sc) 246 0 = if ee ≤ -126 then 0 else if 120 ≤ ee then 246 else (ee + 126).toNat := by
  rw [Int32.lt_iff_toInt_lt, own_t32_0] at ha
  have hn : a ≠ 0 := fun q => by rw [q, own_t32_0] at ha; omega
  obtain ⟨k, -, k2, k3, k4⟩ := own_norm _ (own_abs a hn).1 (own_abs a hn).2
  have e2 := (own_leastv a z hz hsc hr1 hr2 k3 k4 k2).2
  rw [show decide (a.toInt < 0) = false from decide_eq_false (by omega)] at e2
  refine own_run_spec (e := ee) (fun j hj => ?_) 246 0 rfl
  rw [he, Int.add_assoc]
  exact own_ord hj e2 hC1 hC2
theorem own_te (C z : Nat) (hC : C ≤ 31) (hz : z < 63) (r : Int32) (k : Int) (hr : r.toInt = k) (h1 : -200 ≤ k) (h2 : k ≤ 60) : ((Int32.ofNat C + Int32.ofNat z) + r).toInt = (C : Int) + z + k := by
  have s1 := c_iadd (Int32.ofNat C) (Int32.ofNat z)
  have s2 := c_iadd (Int32.ofNat C + Int32.ofNat z) r
  have s3 := rng32 (Int32.ofNat C + Int32.ofNat z)
  have s4 := rng32 ((Int32.ofNat C + Int32.ofNat z) + r)
  rw [own_on (by omega), own_on (by omega)] at s1
  rw [hr] at s2
  omega
theorem own_case1 {ee : Int32} {ru : Nat} (h : ru = if ee.toInt ≤ -126 then 0 else if 120 ≤ ee.toInt then 246 else (ee.toInt + 126).toNat) (h1 : (119 : Int32) < ee) : ru = 246 := by
  rw [Int32.lt_iff_toInt_lt, own_t32_119] at h1
  rw [h, if_neg (by omega), if_pos (by omega)]
theorem own_case2 {ee : Int32} {ru : Nat} (h : ru = if ee.toInt ≤ -126 then 0 else if 120 ≤ ee.toInt then 246 else (ee.toInt + 126).toNat) (h1 : ee < (-126 : Int32)) : ru = 0 := by
  rw [Int32.lt_iff_toInt_lt, own_t32_m126] at h1
  rw [h, if_pos (by omega)]
theorem own_case3 {ee : Int32} {ru : Nat} (h : ru = if ee.toInt ≤ -126 then 0 else if 120 ≤ ee.toInt then 246 else (ee.toInt + 126).toNat) (h1 : ¬ (119 : Int32) < ee) (h2 : ¬ ee < (-126 : Int32)) : ∃ t : Nat, t < 246 ∧ ru = t ∧ ee + (126 : Int32) = Int32.ofNat t := by
  rw [Int32.lt_iff_toInt_lt, own_t32_119] at h1
  rw [Int32.lt_iff_toInt_lt, own_t32_m126] at h2
  refine ⟨(ee.toInt + 126).toNat, by omega, ?_, ?_⟩
  · rw [h]
    split
    · omega
    · split
      · omega
      · rfl
  · have s1 := c_iadd ee (126 : Int32)
    have s2 := rng32 (ee + (126 : Int32))
    rw [own_t32_126] at s1
    rw [← Int32.toInt_inj, own_on (by omega)]
    omega
theorem own_sof (x : Int32) : ∃ z : Nat, z < 63 ∧ (x &&& (2147483647 : Int32)) % (63 : Int32) = Int32.ofNat z := by
  have q1 := c_mask x (2147483647 : Int32) 31 (by decide) (by decide)
  have q0 : ((2 ^ 31 : Nat) : Int) = 2147483648 := rfl
  rw [q0] at q1
  have q2 := (c_irem (x &&& (2147483647 : Int32)) (63 : Int32) 63 (by decide)).1 (by omega)
  refine ⟨((x &&& (2147483647 : Int32)) % (63 : Int32)).toInt.toNat, by omega, ?_⟩
  rw [← Int32.toInt_inj, own_on (by omega)]
  omega
theorem own_sc_m200 : FP.Core.val64 (3706462493325918208 : UInt64) = .fin false (2 ^ 52) ((-200 : Int) - 52) := by decide +kernel
theorem own_sc_m130 : FP.Core.val64 (4021714467241852928 : UInt64) = .fin false (2 ^ 52) ((-130 : Int) - 52) := by decide +kernel
theorem own_sc_m20 : FP.Core.val64 (4517110426252607488 : UInt64) = .fin false (2 ^ 52) ((-20 : Int) - 52) := by decide +kernel
theorem own_sc_60 : FP.Core.val64 (4877398396442247168 : UInt64) = .fin false (2 ^ 52) ((60 : Int) - 52) := by decide +kernel
theorem own_c1 : cmpValue (FP.fcmp (8388608 : UInt32) (8388608 : UInt32)) .l = (0 : Int32) := by decide +kernel
theorem own_c2 : cmpValue (FP.fcmp (2139095040 : UInt32) (2139095039 : UInt32)) .l = (1 : Int32) := by decide +kernel
theorem own_u0 : own_u 0 = (8388608 : UInt32) := by decide +kernel
theorem own_u246 : own_u 246 = (2139095040 : UInt32) := by decide +kernel
theorem own_ut {t : Nat} (h : t < 246) : own_u t = own_b t := by unfold own_u; rw [if_pos (by omega)]
def Q0 (n0 : Nat) (v : Option Value) (h : Heap) (L : List Loc) : Prop := v = some (.int 1) ∧ Fr n0 L
theorem ef_rm0 (m : MethodId) (x0 : Int32) (x1 : Int32) (x2 : Int32) : entryFrame m #[(.int x0), (.int x1), (.int x2)] maxLocals = mkF m 0 #[.val (.int x0), .val (.int x1), .val (.int x2), .unset, .unset, .unset, .unset, .unset, .unset, .unset, .unset, .unset] [] := by first | (simp [entryFrame, mkF, argsToLocals, Value.category, maxLocals]; done) | rfl
theorem pf_4 : plainFor (⟨"com/example/pandarus/pandarus/RangeIndexUnitPinLaw", "law", "(III)Z"⟩ : MethodName) = true := by apply plainFor_of_name; first | (simp [plainName, overriddenIn]; done) | decide +kernel
theorem Wd0 {a0 : Array Value} {Z : State} (hw : ∀ d ∈ tables_1, d.before a0 Z = true) : (Jvm.Cond.constant "com/example/pandarus/pandarus/RangeIndexUnitPinLaw" (7 : Nat) (2147483647 : Int32)).before a0 Z = true := hw _ (List.mem_of_getElem? (i := 0) rfl)
theorem Wd24 {a0 : Array Value} {Z : State} (hw : ∀ d ∈ tables_1, d.before a0 Z = true) : (Jvm.Cond.constantDouble "com/example/pandarus/pandarus/RangeIndexUnitPinLaw" (8 : Nat) (3706462493325918208 : UInt64)).before a0 Z = true := hw _ (List.mem_of_getElem? (i := 24) rfl)
theorem Wd5 {a0 : Array Value} {Z : State} (hw : ∀ d ∈ tables_1, d.before a0 Z = true) : (Jvm.Cond.code ({ cls := "com/example/pandarus/pandarus/RangeIndex", name := "unit", desc := "(D)F" } : Jvm.MethodName) prog_41_method_19_code (3 : Nat) (Option.some Jvm.ClassFile.FieldType.float)).before a0 Z = true := hw _ (List.mem_of_getElem? (i := 5) rfl)
theorem Wd4 {a0 : Array Value} {Z : State} (hw : ∀ d ∈ tables_1, d.before a0 Z = true) : (Jvm.Cond.initialized "com/example/pandarus/pandarus/RangeIndex").before a0 Z = true := hw _ (List.mem_of_getElem? (i := 4) rfl)
theorem pd_1 : parseMethodDescriptor "(D)F" = some ⟨[.double], some .float⟩ := by decide +kernel
theorem Wd2 {a0 : Array Value} {Z : State} (hw : ∀ d ∈ tables_1, d.before a0 Z = true) : (Jvm.Cond.methodLink "com/example/pandarus/pandarus/RangeIndexUnitPinLaw" (16 : Nat) ({ cls := "com/example/pandarus/pandarus/RangeIndex", name := "unit", desc := "(D)F" } : Jvm.MethodName)).before a0 Z = true := hw _ (List.mem_of_getElem? (i := 2) rfl)
theorem Wd3 {a0 : Array Value} {Z : State} (hw : ∀ d ∈ tables_1, d.before a0 Z = true) : (Jvm.Cond.static ({ cls := "com/example/pandarus/pandarus/RangeIndex", name := "unit", desc := "(D)F" } : Jvm.MethodName)).before a0 Z = true := hw _ (List.mem_of_getElem? (i := 3) rfl)
theorem Wd13 {a0 : Array Value} {Z : State} (hw : ∀ d ∈ tables_1, d.before a0 Z = true) : (Jvm.Cond.code ({ cls := "com/example/pandarus/pandarus/RangeIndexUnitPinLaw", name := "ceilLog2", desc := "(I)I" } : Jvm.MethodName) method_3_code (1 : Nat) (Option.some Jvm.ClassFile.FieldType.int)).before a0 Z = true := hw _ (List.mem_of_getElem? (i := 13) rfl)
theorem Wd10 {a0 : Array Value} {Z : State} (hw : ∀ d ∈ tables_1, d.before a0 Z = true) : (Jvm.Cond.methodLink "com/example/pandarus/pandarus/RangeIndexUnitPinLaw" (23 : Nat) ({ cls := "com/example/pandarus/pandarus/RangeIndexUnitPinLaw", name := "ceilLog2", desc := "(I)I" } : Jvm.MethodName)).before a0 Z = true := hw _ (List.mem_of_getElem? (i := 10) rfl)
theorem Wd11 {a0 : Array Value} {Z : State} (hw : ∀ d ∈ tables_1, d.before a0 Z = true) : (Jvm.Cond.static ({ cls := "com/example/pandarus/pandarus/RangeIndexUnitPinLaw", name := "ceilLog2", desc := "(I)I" } : Jvm.MethodName)).before a0 Z = true := hw _ (List.mem_of_getElem? (i := 11) rfl)
theorem Wd26 {a0 : Array Value} {Z : State} (hw : ∀ d ∈ tables_1, d.before a0 Z = true) : (Jvm.Cond.constantFloat "com/example/pandarus/pandarus/RangeIndexUnitPinLaw" (29 : Nat) (2139095039 : UInt32)).before a0 Z = true := hw _ (List.mem_of_getElem? (i := 26) rfl)
theorem Wd8 {a0 : Array Value} {Z : State} (hw : ∀ d ∈ tables_1, d.before a0 Z = true) : (Jvm.Cond.constantFloat "com/example/pandarus/pandarus/RangeIndexUnitPinLaw" (22 : Nat) (8388608 : UInt32)).before a0 Z = true := hw _ (List.mem_of_getElem? (i := 8) rfl)
theorem Wd16 {a0 : Array Value} {Z : State} (hw : ∀ d ∈ tables_1, d.before a0 Z = true) : (Jvm.Cond.code ({ cls := "com/example/pandarus/pandarus/RangeIndexUnitPinLaw", name := "pow2", desc := "(I)F" } : Jvm.MethodName) method_5_code (5 : Nat) (Option.some Jvm.ClassFile.FieldType.float)).before a0 Z = true := hw _ (List.mem_of_getElem? (i := 16) rfl)
theorem pd_2 : parseMethodDescriptor "(I)F" = some ⟨[.int], some .float⟩ := by decide +kernel
theorem Wd14 {a0 : Array Value} {Z : State} (hw : ∀ d ∈ tables_1, d.before a0 Z = true) : (Jvm.Cond.methodLink "com/example/pandarus/pandarus/RangeIndexUnitPinLaw" (30 : Nat) ({ cls := "com/example/pandarus/pandarus/RangeIndexUnitPinLaw", name := "pow2", desc := "(I)F" } : Jvm.MethodName)).before a0 Z = true := hw _ (List.mem_of_getElem? (i := 14) rfl)
theorem Wd15 {a0 : Array Value} {Z : State} (hw : ∀ d ∈ tables_1, d.before a0 Z = true) : (Jvm.Cond.static ({ cls := "com/example/pandarus/pandarus/RangeIndexUnitPinLaw", name := "pow2", desc := "(I)F" } : Jvm.MethodName)).before a0 Z = true := hw _ (List.mem_of_getElem? (i := 15) rfl)
theorem Wd23 {a0 : Array Value} {Z : State} (hw : ∀ d ∈ tables_1, d.before a0 Z = true) : (Jvm.Cond.constantDouble "com/example/pandarus/pandarus/RangeIndexUnitPinLaw" (10 : Nat) (4021714467241852928 : UInt64)).before a0 Z = true := hw _ (List.mem_of_getElem? (i := 23) rfl)
theorem Wd1 {a0 : Array Value} {Z : State} (hw : ∀ d ∈ tables_1, d.before a0 Z = true) : (Jvm.Cond.constantDouble "com/example/pandarus/pandarus/RangeIndexUnitPinLaw" (12 : Nat) (4517110426252607488 : UInt64)).before a0 Z = true := hw _ (List.mem_of_getElem? (i := 1) rfl)
theorem Wd9 {a0 : Array Value} {Z : State} (hw : ∀ d ∈ tables_1, d.before a0 Z = true) : (Jvm.Cond.constantDouble "com/example/pandarus/pandarus/RangeIndexUnitPinLaw" (14 : Nat) (4877398396442247168 : UInt64)).before a0 Z = true := hw _ (List.mem_of_getElem? (i := 9) rfl)
set_option maxRecDepth 65536 in
set_option maxHeartbeats 40000000 in
theorem rm0 (l : Launch) (Z : State) (a0 : Array Value) (hw : ∀ d ∈ tables_1, d.before a0 Z = true) (ws : List Jvm.Cond) (p0 p1 p2 : Int32) (h0 : Heap) (n0 : Nat) (Z0 : n0 ≤ h0.size)  :
    MetFree l x (head1 (Jvm.Cond.code x code maxLocals ret :: ws) room_1) (fun aa U => aa = #[(.int p0), (.int p1), (.int p2)] ∧ Z.Warmed39 U.vm ∧ U.heap = h0) (fun _ _ _ _ _ => True) (fun _ U o U' => ∃ v L, o = .returned v ∧ Q0 n0 v U'.heap L ∧ FrameEnd U o U' L 0 0) := by
  refine own_body pf_4 ?_
  intro p e s m below meth c s₁ hx hby hml hown hnm hlk hret hZ X0 e0
  have N0 : Fr n0 [] := Fr.nil n0
  refine own_go (f' := (mkF m 0 #[.val (.int p0), .val (.int p1), .val (.int p2), .unset, .unset, .unset, .unset, .unset, .unset, .unset, .unset, .unset] [])) (fun t k => castTop (ef_rm0 m p0 p1 p2) k) ?_
  refine own_iloadN X0 hx (pc' := 1) (hb hby at_0) rfl rfl ?_
  refine own_ldcI X0 hx (pc' := 3) hZ hown (Wd0 hw) (hb hby at_1) rfl ?_
  refine own_iand X0 hx (pc' := 4) (hb hby at_3) rfl rfl ?_
  refine own_bipush X0 hx (pc' := 6) (63 : Int32) (hb hby at_4) rfl rfl ?_
  refine own_irem X0 hx (pc' := 7) (hb hby at_6) (by decide) rfl ?_
  obtain ⟨zs, hzs, ezs⟩ : ∃ z : Nat, z < 63 ∧ ((p1 &&& (2147483647 : Int32)) % (63 : Int32)) = Int32.ofNat z := own_sof p1
  rw [ezs]
  refine own_istoreN X0 hx (pc' := 8) (Ls' := #[.val (.int p0), .val (.int p1), .val (.int p2), .val (.int (Int32.ofNat zs)), .unset, .unset, .unset, .unset, .unset, .unset, .unset, .unset]) (hb hby at_7) rfl rfl ?_
  refine own_iloadN X0 hx (pc' := 9) (hb hby at_8) rfl rfl ?_
  refine own_iconst X0 hx (pc' := 10) (3 : Int32) (hb hby at_9) rfl rfl ?_
  refine own_iand X0 hx (pc' := 11) (hb hby at_10) rfl rfl ?_
  refine own_istore X0 hx (pc' := 13) (Ls' := #[.val (.int p0), .val (.int p1), .val (.int p2), .val (.int (Int32.ofNat zs)), .val (.int (p2 &&& (3 : Int32))), .unset, .unset, .unset, .unset, .unset, .unset, .unset]) (hb hby at_11) rfl rfl ?_
  refine own_iload X0 hx (pc' := 15) (hb hby at_13) rfl rfl ?_
  by_cases hc15_1 : (p2 &&& (3 : Int32)) = (0 : Int32)
  · skip
    refine own_ifNo X0 hx (pc' := 18) (hb hby at_15) (teq hc15_1).2 rfl ?_
    refine own_sipush X0 hx (pc' := 21) (-200 : Int32) (hb hby at_18) rfl rfl ?_
    refine own_goto X0 hx (pc' := 49) (hb hby at_21) (by decide) (by decide) ?_
    refine own_istore X0 hx (pc' := 51) (Ls' := #[.val (.int p0), .val (.int p1), .val (.int p2), .val (.int (Int32.ofNat zs)), .val (.int (p2 &&& (3 : Int32))), .val (.int (-200 : Int32)), .unset, .unset, .unset, .unset, .unset, .unset]) (hb hby at_49) rfl rfl ?_
    refine own_iload X0 hx (pc' := 53) (hb hby at_51) rfl rfl ?_
    refine own_ifNo X0 hx (pc' := 56) (hb hby at_53) (teq hc15_1).2 rfl ?_
    refine own_ldc2D X0 hx (pc' := 59) hZ hown (Wd24 hw) (hb hby at_56) rfl ?_
    refine own_goto X0 hx (pc' := 89) (hb hby at_59) (by decide) (by decide) ?_
    refine own_dstore X0 hx (pc' := 91) (Ls' := #[.val (.int p0), .val (.int p1), .val (.int p2), .val (.int (Int32.ofNat zs)), .val (.int (p2 &&& (3 : Int32))), .val (.int (-200 : Int32)), .val (.double (3706462493325918208 : UInt64)), .second, .unset, .unset, .unset, .unset]) (hb hby at_89) rfl rfl ?_
    refine own_iloadN X0 hx (pc' := 92) (hb hby at_91) rfl rfl ?_
    refine own_i2d X0 hx (pc' := 93) (hb hby at_92) rfl ?_
    refine own_lconst X0 hx (pc' := 94) (1 : Int64) (hb hby at_93) rfl rfl ?_
    refine own_iloadN X0 hx (pc' := 95) (hb hby at_94) rfl rfl ?_
    refine own_lshl X0 hx (pc' := 96) (hb hby at_95) rfl ?_
    show own_G p.tables e below _ s₁ (mkF m 96 #[.val (.int p0), .val (.int p1), .val (.int p2), .val (.int (Int32.ofNat zs)), .val (.int (p2 &&& (3 : Int32))), .val (.int (-200 : Int32)), .val (.double (3706462493325918208 : UInt64)), .second, .unset, .unset, .unset, .unset] [(.long (own_one zs)), (.double (FP.i2d p0))])
    have sf := own_safe p0 zs hzs own_sc_m200 (by decide) (by decide)
    refine own_l2d X0 hx (pc' := 97) (hb hby at_96) rfl ?_
    refine own_dmul X0 hx (pc' := 98) (hb hby at_97) sf.1 rfl ?_
    refine own_dload X0 hx (pc' := 100) (hb hby at_98) rfl rfl ?_
    refine own_dmul X0 hx (pc' := 101) (hb hby at_100) sf.2 rfl ?_
    show own_G p.tables e below _ s₁ (mkF m 101 #[.val (.int p0), .val (.int p1), .val (.int p2), .val (.int (Int32.ofNat zs)), .val (.int (p2 &&& (3 : Int32))), .val (.int (-200 : Int32)), .val (.double (3706462493325918208 : UInt64)), .second, .unset, .unset, .unset, .unset] [(.double (own_least p0 zs (3706462493325918208 : UInt64)))])
    refine own_dstore X0 hx (pc' := 103) (Ls' := #[.val (.int p0), .val (.int p1), .val (.int p2), .val (.int (Int32.ofNat zs)), .val (.int (p2 &&& (3 : Int32))), .val (.int (-200 : Int32)), .val (.double (3706462493325918208 : UInt64)), .second, .val (.double (own_least p0 zs (3706462493325918208 : UInt64))), .second, .unset, .unset]) (hb hby at_101) rfl rfl ?_
    refine own_dload X0 hx (pc' := 105) (hb hby at_103) rfl rfl ?_
    refine own_callS X0 hx (pc' := 108) hZ hown (Wd2 hw) (Wd3 hw) (Wd4 hw) (Wd5 hw) (by decide) (rm_unit l Z a0 hw [] (own_least p0 zs (3706462493325918208 : UInt64)) h0 n0 Z0) e0 0 (by decide) (by decide) (by decide) (by decide) [(.double (own_least p0 zs (3706462493325918208 : UInt64)))] [] (by rw [hml]; rfl) (lenOf pd_1 rfl) rfl rfl (Nat.le_of_eq rfl) (hb hby at_105) rfl (fun v2 T2 L2 X2 hQ2 => ?_)
    obtain ⟨rfl, Nq2, e2⟩ := hQ2
    have N3 := Fr.app N0 Nq2
    show own_G p.tables e below _ T2 (mkF m 108 #[.val (.int p0), .val (.int p1), .val (.int p2), .val (.int (Int32.ofNat zs)), .val (.int (p2 &&& (3 : Int32))), .val (.int (-200 : Int32)), .val (.double (3706462493325918208 : UInt64)), .second, .val (.double (own_least p0 zs (3706462493325918208 : UInt64))), .second, .unset, .unset] [(.float (own_u (own_run (own_least p0 zs (3706462493325918208 : UInt64)) 246 0)))])
    by_cases hp : (0 : Int32) < p0
    · skip
      refine own_fstore X2 hx (pc' := 110) (Ls' := #[.val (.int p0), .val (.int p1), .val (.int p2), .val (.int (Int32.ofNat zs)), .val (.int (p2 &&& (3 : Int32))), .val (.int (-200 : Int32)), .val (.double (3706462493325918208 : UInt64)), .second, .val (.double (own_least p0 zs (3706462493325918208 : UInt64))), .second, .val (.float (own_u (own_run (own_least p0 zs (3706462493325918208 : UInt64)) 246 0))), .unset]) (hb hby at_108) rfl rfl ?_
      refine own_iloadN X2 hx (pc' := 111) (hb hby at_110) rfl rfl ?_
      refine own_ifYes X2 hx (pc' := 128) (hb hby at_111) (tlt hp).2.2.1 (by decide) (by decide) ?_
      refine own_iloadN X2 hx (pc' := 129) (hb hby at_128) rfl rfl ?_
      have hp1 : 1 ≤ p0.toInt := by have q := hp; rw [Int32.lt_iff_toInt_lt, own_t32_0] at q; omega
      refine own_callS X2 hx (pc' := 132) hZ hown (Wd10 hw) (Wd11 hw) (Wd12 hw) (Wd13 hw) (by decide) (rm_cl l Z a0 hw [] p0 h0 n0 Z0 hp1) e2 0 (by decide) (by decide) (by decide) (by decide) [(.int p0)] [] (by rw [hml]; rfl) (lenOf pd_0 rfl) rfl rfl (Nat.le_of_eq rfl) (hb hby at_129) rfl (fun v4 T4 L4 X4 hQ4 => ?_)
      obtain ⟨⟨C, rfl, ca, cb, cc⟩, Nq4, e4⟩ := hQ4
      have N5 := Fr.app N3 Nq4
      show own_G p.tables e below _ T4 (mkF m 132 #[.val (.int p0), .val (.int p1), .val (.int p2), .val (.int (Int32.ofNat zs)), .val (.int (p2 &&& (3 : Int32))), .val (.int (-200 : Int32)), .val (.double (3706462493325918208 : UInt64)), .second, .val (.double (own_least p0 zs (3706462493325918208 : UInt64))), .second, .val (.float (own_u (own_run (own_least p0 zs (3706462493325918208 : UInt64)) 246 0))), .unset] [(.int (Int32.ofNat C))])
      refine own_iloadN X4 hx (pc' := 133) (hb hby at_132) rfl rfl ?_
      refine own_iadd X4 hx (pc' := 134) (hb hby at_133) rfl rfl ?_
      refine own_iload X4 hx (pc' := 136) (hb hby at_134) rfl rfl ?_
      refine own_iadd X4 hx (pc' := 137) (hb hby at_136) rfl rfl ?_
      obtain ⟨ee, hee⟩ : ∃ y : Int32, y = (((Int32.ofNat C) + (Int32.ofNat zs)) + (-200 : Int32)) := ⟨_, rfl⟩
      rw [← hee]
      have te := own_te C zs ca hzs (-200 : Int32) (-200) own_t32_m200 (by decide) (by decide)
      rw [← hee] at te
      have hrun := own_runP p0 zs hzs own_sc_m200 (by decide) (by decide) hp cb cc te
      generalize own_run (own_least p0 zs (3706462493325918208 : UInt64)) 246 0 = ru at hrun ⊢
      by_cases h1 : (119 : Int32) < ee
      · rw [own_case1 hrun h1, own_u246]
        refine own_istore X4 hx (pc' := 139) (Ls' := #[.val (.int p0), .val (.int p1), .val (.int p2), .val (.int (Int32.ofNat zs)), .val (.int (p2 &&& (3 : Int32))), .val (.int (-200 : Int32)), .val (.double (3706462493325918208 : UInt64)), .second, .val (.double (own_least p0 zs (3706462493325918208 : UInt64))), .second, .val (.float (2139095040 : UInt32)), .val (.int ee)]) (hb hby at_137) rfl rfl ?_
        refine own_iload X4 hx (pc' := 141) (hb hby at_139) rfl rfl ?_
        refine own_bipush X4 hx (pc' := 143) (119 : Int32) (hb hby at_141) rfl rfl ?_
        refine own_icmpNo X4 hx (pc' := 146) (hb hby at_143) (tlt h1).2.2.2 rfl ?_
        refine own_fload X4 hx (pc' := 148) (hb hby at_146) rfl rfl ?_
        refine own_ldcF X4 hx (pc' := 150) hZ hown (Wd26 hw) (hb hby at_148) rfl ?_
        refine own_fcmp X4 hx (pc' := 151) (1 : Int32) (hb hby at_150) own_c2 rfl ?_
        refine own_ifNo X4 hx (pc' := 154) (hb hby at_151) (tlt (by decide : (0 : Int32) < (1 : Int32))).2.2.2 rfl ?_
        refine own_iconst X4 hx (pc' := 155) (1 : Int32) (hb hby at_154) rfl rfl ?_
        refine own_goto X4 hx (pc' := 159) (hb hby at_155) (by decide) (by decide) ?_
        refine own_retN X4 hx hlk hret (by simp) (hb hby at_159) (by decide) (by decide) ?_
        exact ⟨rfl, N5⟩
      · by_cases h2 : ee < (-126 : Int32)
        · rw [own_case2 hrun h2, own_u0]
          refine own_istore X4 hx (pc' := 139) (Ls' := #[.val (.int p0), .val (.int p1), .val (.int p2), .val (.int (Int32.ofNat zs)), .val (.int (p2 &&& (3 : Int32))), .val (.int (-200 : Int32)), .val (.double (3706462493325918208 : UInt64)), .second, .val (.double (own_least p0 zs (3706462493325918208 : UInt64))), .second, .val (.float (8388608 : UInt32)), .val (.int ee)]) (hb hby at_137) rfl rfl ?_
          refine own_iload X4 hx (pc' := 141) (hb hby at_139) rfl rfl ?_
          refine own_bipush X4 hx (pc' := 143) (119 : Int32) (hb hby at_141) rfl rfl ?_
          refine own_icmpYes X4 hx (pc' := 160) (hb hby at_143) (flt h1).2.2.2 (by decide) (by decide) ?_
          refine own_iload X4 hx (pc' := 162) (hb hby at_160) rfl rfl ?_
          refine own_bipush X4 hx (pc' := 164) (-126 : Int32) (hb hby at_162) rfl rfl ?_
          refine own_icmpNo X4 hx (pc' := 167) (hb hby at_164) (tlt h2).2.1 rfl ?_
          refine own_fload X4 hx (pc' := 169) (hb hby at_167) rfl rfl ?_
          refine own_ldcF X4 hx (pc' := 171) hZ hown (Wd8 hw) (hb hby at_169) rfl ?_
          refine own_fcmp X4 hx (pc' := 172) (0 : Int32) (hb hby at_171) own_c1 rfl ?_
          refine own_ifNo X4 hx (pc' := 175) (hb hby at_172) (teq rfl).2 rfl ?_
          refine own_iconst X4 hx (pc' := 176) (1 : Int32) (hb hby at_175) rfl rfl ?_
          refine own_goto X4 hx (pc' := 180) (hb hby at_176) (by decide) (by decide) ?_
          refine own_retN X4 hx hlk hret (by simp) (hb hby at_180) (by decide) (by decide) ?_
          exact ⟨rfl, N5⟩
        · obtain ⟨t, ht, hrt, hqt⟩ := own_case3 hrun h1 h2
          rw [hrt, own_ut ht]
          refine own_istore X4 hx (pc' := 139) (Ls' := #[.val (.int p0), .val (.int p1), .val (.int p2), .val (.int (Int32.ofNat zs)), .val (.int (p2 &&& (3 : Int32))), .val (.int (-200 : Int32)), .val (.double (3706462493325918208 : UInt64)), .second, .val (.double (own_least p0 zs (3706462493325918208 : UInt64))), .second, .val (.float (own_b t)), .val (.int ee)]) (hb hby at_137) rfl rfl ?_
          refine own_iload X4 hx (pc' := 141) (hb hby at_139) rfl rfl ?_
          refine own_bipush X4 hx (pc' := 143) (119 : Int32) (hb hby at_141) rfl rfl ?_
          refine own_icmpYes X4 hx (pc' := 160) (hb hby at_143) (flt h1).2.2.2 (by decide) (by decide) ?_
          refine own_iload X4 hx (pc' := 162) (hb hby at_160) rfl rfl ?_
          refine own_bipush X4 hx (pc' := 164) (-126 : Int32) (hb hby at_162) rfl rfl ?_
          refine own_icmpYes X4 hx (pc' := 181) (hb hby at_164) (flt h2).2.1 (by decide) (by decide) ?_
          refine own_fload X4 hx (pc' := 183) (hb hby at_181) rfl rfl ?_
          refine own_iload X4 hx (pc' := 185) (hb hby at_183) rfl rfl ?_
          refine own_callS X4 hx (pc' := 188) hZ hown (Wd14 hw) (Wd15 hw) (Wd12 hw) (Wd16 hw) (by decide) (rm_pow2 l Z a0 hw [] ee t h0 n0 Z0 ht hqt) e4 1 (by decide) (by decide) (by decide) (by decide) [(.int ee)] [(.float (own_b t))] (by rw [hml]; rfl) (lenOf pd_2 rfl) rfl rfl (Nat.le_of_eq rfl) (hb hby at_185) rfl (fun v6 T6 L6 X6 hQ6 => ?_)
          obtain ⟨rfl, Nq6, e6⟩ := hQ6
          have N7 := Fr.app N5 Nq6
          show own_G p.tables e below _ T6 (mkF m 188 #[.val (.int p0), .val (.int p1), .val (.int p2), .val (.int (Int32.ofNat zs)), .val (.int (p2 &&& (3 : Int32))), .val (.int (-200 : Int32)), .val (.double (3706462493325918208 : UInt64)), .second, .val (.double (own_least p0 zs (3706462493325918208 : UInt64))), .second, .val (.float (own_b t)), .val (.int ee)] [(.float (own_b t)), (.float (own_b t))])
          refine own_fcmp X6 hx (pc' := 189) (0 : Int32) (hb hby at_188) (fcmpV_self (own_bnn ⟨t, Nat.lt_succ_of_lt ht⟩).2 _) rfl ?_
          refine own_ifNo X6 hx (pc' := 192) (hb hby at_189) (teq rfl).2 rfl ?_
          refine own_iconst X6 hx (pc' := 193) (1 : Int32) (hb hby at_192) rfl rfl ?_
          refine own_goto X6 hx (pc' := 197) (hb hby at_193) (by decide) (by decide) ?_
          refine own_retN X6 hx hlk hret (by simp) (hb hby at_197) (by decide) (by decide) ?_
          exact ⟨rfl, N7⟩
    · skip
      rw [own_runN p0 zs hzs own_sc_m200 (by decide) (by decide) hp, own_u0]
      refine own_fstore X2 hx (pc' := 110) (Ls' := #[.val (.int p0), .val (.int p1), .val (.int p2), .val (.int (Int32.ofNat zs)), .val (.int (p2 &&& (3 : Int32))), .val (.int (-200 : Int32)), .val (.double (3706462493325918208 : UInt64)), .second, .val (.double (own_least p0 zs (3706462493325918208 : UInt64))), .second, .val (.float (8388608 : UInt32)), .unset]) (hb hby at_108) rfl rfl ?_
      refine own_iloadN X2 hx (pc' := 111) (hb hby at_110) rfl rfl ?_
      refine own_ifNo X2 hx (pc' := 114) (hb hby at_111) (flt hp).2.2.1 rfl ?_
      refine own_fload X2 hx (pc' := 116) (hb hby at_114) rfl rfl ?_
      refine own_ldcF X2 hx (pc' := 118) hZ hown (Wd8 hw) (hb hby at_116) rfl ?_
      refine own_fcmp X2 hx (pc' := 119) (0 : Int32) (hb hby at_118) own_c1 rfl ?_
      refine own_ifNo X2 hx (pc' := 122) (hb hby at_119) (teq rfl).2 rfl ?_
      refine own_iconst X2 hx (pc' := 123) (1 : Int32) (hb hby at_122) rfl rfl ?_
      refine own_goto X2 hx (pc' := 127) (hb hby at_123) (by decide) (by decide) ?_
      refine own_retN X2 hx hlk hret (by simp) (hb hby at_127) (by decide) (by decide) ?_
      exact ⟨rfl, N3⟩
  · skip
    refine own_ifYes X0 hx (pc' := 24) (hb hby at_15) (feq hc15_1).2 (by decide) (by decide) ?_
    refine own_iload X0 hx (pc' := 26) (hb hby at_24) rfl rfl ?_
    refine own_iconst X0 hx (pc' := 27) (1 : Int32) (hb hby at_26) rfl rfl ?_
    by_cases hc27_8 : (p2 &&& (3 : Int32)) = (1 : Int32)
    · skip
      refine own_icmpNo X0 hx (pc' := 30) (hb hby at_27) (teq hc27_8).2 rfl ?_
      refine own_sipush X0 hx (pc' := 33) (-130 : Int32) (hb hby at_30) rfl rfl ?_
      refine own_goto X0 hx (pc' := 49) (hb hby at_33) (by decide) (by decide) ?_
      refine own_istore X0 hx (pc' := 51) (Ls' := #[.val (.int p0), .val (.int p1), .val (.int p2), .val (.int (Int32.ofNat zs)), .val (.int (p2 &&& (3 : Int32))), .val (.int (-130 : Int32)), .unset, .unset, .unset, .unset, .unset, .unset]) (hb hby at_49) rfl rfl ?_
      refine own_iload X0 hx (pc' := 53) (hb hby at_51) rfl rfl ?_
      refine own_ifYes X0 hx (pc' := 62) (hb hby at_53) (feq hc15_1).2 (by decide) (by decide) ?_
      refine own_iload X0 hx (pc' := 64) (hb hby at_62) rfl rfl ?_
      refine own_iconst X0 hx (pc' := 65) (1 : Int32) (hb hby at_64) rfl rfl ?_
      refine own_icmpNo X0 hx (pc' := 68) (hb hby at_65) (teq hc27_8).2 rfl ?_
      refine own_ldc2D X0 hx (pc' := 71) hZ hown (Wd23 hw) (hb hby at_68) rfl ?_
      refine own_goto X0 hx (pc' := 89) (hb hby at_71) (by decide) (by decide) ?_
      refine own_dstore X0 hx (pc' := 91) (Ls' := #[.val (.int p0), .val (.int p1), .val (.int p2), .val (.int (Int32.ofNat zs)), .val (.int (p2 &&& (3 : Int32))), .val (.int (-130 : Int32)), .val (.double (4021714467241852928 : UInt64)), .second, .unset, .unset, .unset, .unset]) (hb hby at_89) rfl rfl ?_
      refine own_iloadN X0 hx (pc' := 92) (hb hby at_91) rfl rfl ?_
      refine own_i2d X0 hx (pc' := 93) (hb hby at_92) rfl ?_
      refine own_lconst X0 hx (pc' := 94) (1 : Int64) (hb hby at_93) rfl rfl ?_
      refine own_iloadN X0 hx (pc' := 95) (hb hby at_94) rfl rfl ?_
      refine own_lshl X0 hx (pc' := 96) (hb hby at_95) rfl ?_
      show own_G p.tables e below _ s₁ (mkF m 96 #[.val (.int p0), .val (.int p1), .val (.int p2), .val (.int (Int32.ofNat zs)), .val (.int (p2 &&& (3 : Int32))), .val (.int (-130 : Int32)), .val (.double (4021714467241852928 : UInt64)), .second, .unset, .unset, .unset, .unset] [(.long (own_one zs)), (.double (FP.i2d p0))])
      have sf := own_safe p0 zs hzs own_sc_m130 (by decide) (by decide)
      refine own_l2d X0 hx (pc' := 97) (hb hby at_96) rfl ?_
      refine own_dmul X0 hx (pc' := 98) (hb hby at_97) sf.1 rfl ?_
      refine own_dload X0 hx (pc' := 100) (hb hby at_98) rfl rfl ?_
      refine own_dmul X0 hx (pc' := 101) (hb hby at_100) sf.2 rfl ?_
      show own_G p.tables e below _ s₁ (mkF m 101 #[.val (.int p0), .val (.int p1), .val (.int p2), .val (.int (Int32.ofNat zs)), .val (.int (p2 &&& (3 : Int32))), .val (.int (-130 : Int32)), .val (.double (4021714467241852928 : UInt64)), .second, .unset, .unset, .unset, .unset] [(.double (own_least p0 zs (4021714467241852928 : UInt64)))])
      refine own_dstore X0 hx (pc' := 103) (Ls' := #[.val (.int p0), .val (.int p1), .val (.int p2), .val (.int (Int32.ofNat zs)), .val (.int (p2 &&& (3 : Int32))), .val (.int (-130 : Int32)), .val (.double (4021714467241852928 : UInt64)), .second, .val (.double (own_least p0 zs (4021714467241852928 : UInt64))), .second, .unset, .unset]) (hb hby at_101) rfl rfl ?_
      refine own_dload X0 hx (pc' := 105) (hb hby at_103) rfl rfl ?_
      refine own_callS X0 hx (pc' := 108) hZ hown (Wd2 hw) (Wd3 hw) (Wd4 hw) (Wd5 hw) (by decide) (rm_unit l Z a0 hw [] (own_least p0 zs (4021714467241852928 : UInt64)) h0 n0 Z0) e0 0 (by decide) (by decide) (by decide) (by decide) [(.double (own_least p0 zs (4021714467241852928 : UInt64)))] [] (by rw [hml]; rfl) (lenOf pd_1 rfl) rfl rfl (Nat.le_of_eq rfl) (hb hby at_105) rfl (fun v9 T9 L9 X9 hQ9 => ?_)
      obtain ⟨rfl, Nq9, e9⟩ := hQ9
      have N10 := Fr.app N0 Nq9
      show own_G p.tables e below _ T9 (mkF m 108 #[.val (.int p0), .val (.int p1), .val (.int p2), .val (.int (Int32.ofNat zs)), .val (.int (p2 &&& (3 : Int32))), .val (.int (-130 : Int32)), .val (.double (4021714467241852928 : UInt64)), .second, .val (.double (own_least p0 zs (4021714467241852928 : UInt64))), .second, .unset, .unset] [(.float (own_u (own_run (own_least p0 zs (4021714467241852928 : UInt64)) 246 0)))])
      by_cases hp : (0 : Int32) < p0
      · skip
        refine own_fstore X9 hx (pc' := 110) (Ls' := #[.val (.int p0), .val (.int p1), .val (.int p2), .val (.int (Int32.ofNat zs)), .val (.int (p2 &&& (3 : Int32))), .val (.int (-130 : Int32)), .val (.double (4021714467241852928 : UInt64)), .second, .val (.double (own_least p0 zs (4021714467241852928 : UInt64))), .second, .val (.float (own_u (own_run (own_least p0 zs (4021714467241852928 : UInt64)) 246 0))), .unset]) (hb hby at_108) rfl rfl ?_
        refine own_iloadN X9 hx (pc' := 111) (hb hby at_110) rfl rfl ?_
        refine own_ifYes X9 hx (pc' := 128) (hb hby at_111) (tlt hp).2.2.1 (by decide) (by decide) ?_
        refine own_iloadN X9 hx (pc' := 129) (hb hby at_128) rfl rfl ?_
        have hp1 : 1 ≤ p0.toInt := by have q := hp; rw [Int32.lt_iff_toInt_lt, own_t32_0] at q; omega
        refine own_callS X9 hx (pc' := 132) hZ hown (Wd10 hw) (Wd11 hw) (Wd12 hw) (Wd13 hw) (by decide) (rm_cl l Z a0 hw [] p0 h0 n0 Z0 hp1) e9 0 (by decide) (by decide) (by decide) (by decide) [(.int p0)] [] (by rw [hml]; rfl) (lenOf pd_0 rfl) rfl rfl (Nat.le_of_eq rfl) (hb hby at_129) rfl (fun v11 T11 L11 X11 hQ11 => ?_)
        obtain ⟨⟨C, rfl, ca, cb, cc⟩, Nq11, e11⟩ := hQ11
        have N12 := Fr.app N10 Nq11
        show own_G p.tables e below _ T11 (mkF m 132 #[.val (.int p0), .val (.int p1), .val (.int p2), .val (.int (Int32.ofNat zs)), .val (.int (p2 &&& (3 : Int32))), .val (.int (-130 : Int32)), .val (.double (4021714467241852928 : UInt64)), .second, .val (.double (own_least p0 zs (4021714467241852928 : UInt64))), .second, .val (.float (own_u (own_run (own_least p0 zs (4021714467241852928 : UInt64)) 246 0))), .unset] [(.int (Int32.ofNat C))])
        refine own_iloadN X11 hx (pc' := 133) (hb hby at_132) rfl rfl ?_
        refine own_iadd X11 hx (pc' := 134) (hb hby at_133) rfl rfl ?_
        refine own_iload X11 hx (pc' := 136) (hb hby at_134) rfl rfl ?_
        refine own_iadd X11 hx (pc' := 137) (hb hby at_136) rfl rfl ?_
        obtain ⟨ee, hee⟩ : ∃ y : Int32, y = (((Int32.ofNat C) + (Int32.ofNat zs)) + (-130 : Int32)) := ⟨_, rfl⟩
        rw [← hee]
        have te := own_te C zs ca hzs (-130 : Int32) (-130) own_t32_m130 (by decide) (by decide)
        rw [← hee] at te
        have hrun := own_runP p0 zs hzs own_sc_m130 (by decide) (by decide) hp cb cc te
        generalize own_run (own_least p0 zs (4021714467241852928 : UInt64)) 246 0 = ru at hrun ⊢
        by_cases h1 : (119 : Int32) < ee
        · rw [own_case1 hrun h1, own_u246]
          refine own_istore X11 hx (pc' := 139) (Ls' := #[.val (.int p0), .val (.int p1), .val (.int p2), .val (.int (Int32.ofNat zs)), .val (.int (p2 &&& (3 : Int32))), .val (.int (-130 : Int32)), .val (.double (4021714467241852928 : UInt64)), .second, .val (.double (own_least p0 zs (4021714467241852928 : UInt64))), .second, .val (.float (2139095040 : UInt32)), .val (.int ee)]) (hb hby at_137) rfl rfl ?_
          refine own_iload X11 hx (pc' := 141) (hb hby at_139) rfl rfl ?_
          refine own_bipush X11 hx (pc' := 143) (119 : Int32) (hb hby at_141) rfl rfl ?_
          refine own_icmpNo X11 hx (pc' := 146) (hb hby at_143) (tlt h1).2.2.2 rfl ?_
          refine own_fload X11 hx (pc' := 148) (hb hby at_146) rfl rfl ?_
          refine own_ldcF X11 hx (pc' := 150) hZ hown (Wd26 hw) (hb hby at_148) rfl ?_
          refine own_fcmp X11 hx (pc' := 151) (1 : Int32) (hb hby at_150) own_c2 rfl ?_
          refine own_ifNo X11 hx (pc' := 154) (hb hby at_151) (tlt (by decide : (0 : Int32) < (1 : Int32))).2.2.2 rfl ?_
          refine own_iconst X11 hx (pc' := 155) (1 : Int32) (hb hby at_154) rfl rfl ?_
          refine own_goto X11 hx (pc' := 159) (hb hby at_155) (by decide) (by decide) ?_
          refine own_retN X11 hx hlk hret (by simp) (hb hby at_159) (by decide) (by decide) ?_
          exact ⟨rfl, N12⟩
        · by_cases h2 : ee < (-126 : Int32)
          · rw [own_case2 hrun h2, own_u0]
            refine own_istore X11 hx (pc' := 139) (Ls' := #[.val (.int p0), .val (.int p1), .val (.int p2), .val (.int (Int32.ofNat zs)), .val (.int (p2 &&& (3 : Int32))), .val (.int (-130 : Int32)), .val (.double (4021714467241852928 : UInt64)), .second, .val (.double (own_least p0 zs (4021714467241852928 : UInt64))), .second, .val (.float (8388608 : UInt32)), .val (.int ee)]) (hb hby at_137) rfl rfl ?_
            refine own_iload X11 hx (pc' := 141) (hb hby at_139) rfl rfl ?_
            refine own_bipush X11 hx (pc' := 143) (119 : Int32) (hb hby at_141) rfl rfl ?_
            refine own_icmpYes X11 hx (pc' := 160) (hb hby at_143) (flt h1).2.2.2 (by decide) (by decide) ?_
            refine own_iload X11 hx (pc' := 162) (hb hby at_160) rfl rfl ?_
            refine own_bipush X11 hx (pc' := 164) (-126 : Int32) (hb hby at_162) rfl rfl ?_
            refine own_icmpNo X11 hx (pc' := 167) (hb hby at_164) (tlt h2).2.1 rfl ?_
            refine own_fload X11 hx (pc' := 169) (hb hby at_167) rfl rfl ?_
            refine own_ldcF X11 hx (pc' := 171) hZ hown (Wd8 hw) (hb hby at_169) rfl ?_
            refine own_fcmp X11 hx (pc' := 172) (0 : Int32) (hb hby at_171) own_c1 rfl ?_
            refine own_ifNo X11 hx (pc' := 175) (hb hby at_172) (teq rfl).2 rfl ?_
            refine own_iconst X11 hx (pc' := 176) (1 : Int32) (hb hby at_175) rfl rfl ?_
            refine own_goto X11 hx (pc' := 180) (hb hby at_176) (by decide) (by decide) ?_
            refine own_retN X11 hx hlk hret (by simp) (hb hby at_180) (by decide) (by decide) ?_
            exact ⟨rfl, N12⟩
          · obtain ⟨t, ht, hrt, hqt⟩ := own_case3 hrun h1 h2
            rw [hrt, own_ut ht]
            refine own_istore X11 hx (pc' := 139) (Ls' := #[.val (.int p0), .val (.int p1), .val (.int p2), .val (.int (Int32.ofNat zs)), .val (.int (p2 &&& (3 : Int32))), .val (.int (-130 : Int32)), .val (.double (4021714467241852928 : UInt64)), .second, .val (.double (own_least p0 zs (4021714467241852928 : UInt64))), .second, .val (.float (own_b t)), .val (.int ee)]) (hb hby at_137) rfl rfl ?_
            refine own_iload X11 hx (pc' := 141) (hb hby at_139) rfl rfl ?_
            refine own_bipush X11 hx (pc' := 143) (119 : Int32) (hb hby at_141) rfl rfl ?_
            refine own_icmpYes X11 hx (pc' := 160) (hb hby at_143) (flt h1).2.2.2 (by decide) (by decide) ?_
            refine own_iload X11 hx (pc' := 162) (hb hby at_160) rfl rfl ?_
            refine own_bipush X11 hx (pc' := 164) (-126 : Int32) (hb hby at_162) rfl rfl ?_
            refine own_icmpYes X11 hx (pc' := 181) (hb hby at_164) (flt h2).2.1 (by decide) (by decide) ?_
            refine own_fload X11 hx (pc' := 183) (hb hby at_181) rfl rfl ?_
            refine own_iload X11 hx (pc' := 185) (hb hby at_183) rfl rfl ?_
            refine own_callS X11 hx (pc' := 188) hZ hown (Wd14 hw) (Wd15 hw) (Wd12 hw) (Wd16 hw) (by decide) (rm_pow2 l Z a0 hw [] ee t h0 n0 Z0 ht hqt) e11 1 (by decide) (by decide) (by decide) (by decide) [(.int ee)] [(.float (own_b t))] (by rw [hml]; rfl) (lenOf pd_2 rfl) rfl rfl (Nat.le_of_eq rfl) (hb hby at_185) rfl (fun v13 T13 L13 X13 hQ13 => ?_)
            obtain ⟨rfl, Nq13, e13⟩ := hQ13
            have N14 := Fr.app N12 Nq13
            show own_G p.tables e below _ T13 (mkF m 188 #[.val (.int p0), .val (.int p1), .val (.int p2), .val (.int (Int32.ofNat zs)), .val (.int (p2 &&& (3 : Int32))), .val (.int (-130 : Int32)), .val (.double (4021714467241852928 : UInt64)), .second, .val (.double (own_least p0 zs (4021714467241852928 : UInt64))), .second, .val (.float (own_b t)), .val (.int ee)] [(.float (own_b t)), (.float (own_b t))])
            refine own_fcmp X13 hx (pc' := 189) (0 : Int32) (hb hby at_188) (fcmpV_self (own_bnn ⟨t, Nat.lt_succ_of_lt ht⟩).2 _) rfl ?_
            refine own_ifNo X13 hx (pc' := 192) (hb hby at_189) (teq rfl).2 rfl ?_
            refine own_iconst X13 hx (pc' := 193) (1 : Int32) (hb hby at_192) rfl rfl ?_
            refine own_goto X13 hx (pc' := 197) (hb hby at_193) (by decide) (by decide) ?_
            refine own_retN X13 hx hlk hret (by simp) (hb hby at_197) (by decide) (by decide) ?_
            exact ⟨rfl, N14⟩
      · skip
        rw [own_runN p0 zs hzs own_sc_m130 (by decide) (by decide) hp, own_u0]
        refine own_fstore X9 hx (pc' := 110) (Ls' := #[.val (.int p0), .val (.int p1), .val (.int p2), .val (.int (Int32.ofNat zs)), .val (.int (p2 &&& (3 : Int32))), .val (.int (-130 : Int32)), .val (.double (4021714467241852928 : UInt64)), .second, .val (.double (own_least p0 zs (4021714467241852928 : UInt64))), .second, .val (.float (8388608 : UInt32)), .unset]) (hb hby at_108) rfl rfl ?_
        refine own_iloadN X9 hx (pc' := 111) (hb hby at_110) rfl rfl ?_
        refine own_ifNo X9 hx (pc' := 114) (hb hby at_111) (flt hp).2.2.1 rfl ?_
        refine own_fload X9 hx (pc' := 116) (hb hby at_114) rfl rfl ?_
        refine own_ldcF X9 hx (pc' := 118) hZ hown (Wd8 hw) (hb hby at_116) rfl ?_
        refine own_fcmp X9 hx (pc' := 119) (0 : Int32) (hb hby at_118) own_c1 rfl ?_
        refine own_ifNo X9 hx (pc' := 122) (hb hby at_119) (teq rfl).2 rfl ?_
        refine own_iconst X9 hx (pc' := 123) (1 : Int32) (hb hby at_122) rfl rfl ?_
        refine own_goto X9 hx (pc' := 127) (hb hby at_123) (by decide) (by decide) ?_
        refine own_retN X9 hx hlk hret (by simp) (hb hby at_127) (by decide) (by decide) ?_
        exact ⟨rfl, N10⟩
    · skip
      refine own_icmpYes X0 hx (pc' := 36) (hb hby at_27) (feq hc27_8).2 (by decide) (by decide) ?_
      refine own_iload X0 hx (pc' := 38) (hb hby at_36) rfl rfl ?_
      refine own_iconst X0 hx (pc' := 39) (2 : Int32) (hb hby at_38) rfl rfl ?_
      by_cases hc39_15 : (p2 &&& (3 : Int32)) = (2 : Int32)
      · skip
        refine own_icmpNo X0 hx (pc' := 42) (hb hby at_39) (teq hc39_15).2 rfl ?_
        refine own_bipush X0 hx (pc' := 44) (-20 : Int32) (hb hby at_42) rfl rfl ?_
        refine own_goto X0 hx (pc' := 49) (hb hby at_44) (by decide) (by decide) ?_
        refine own_istore X0 hx (pc' := 51) (Ls' := #[.val (.int p0), .val (.int p1), .val (.int p2), .val (.int (Int32.ofNat zs)), .val (.int (p2 &&& (3 : Int32))), .val (.int (-20 : Int32)), .unset, .unset, .unset, .unset, .unset, .unset]) (hb hby at_49) rfl rfl ?_
        refine own_iload X0 hx (pc' := 53) (hb hby at_51) rfl rfl ?_
        refine own_ifYes X0 hx (pc' := 62) (hb hby at_53) (feq hc15_1).2 (by decide) (by decide) ?_
        refine own_iload X0 hx (pc' := 64) (hb hby at_62) rfl rfl ?_
        refine own_iconst X0 hx (pc' := 65) (1 : Int32) (hb hby at_64) rfl rfl ?_
        refine own_icmpYes X0 hx (pc' := 74) (hb hby at_65) (feq hc27_8).2 (by decide) (by decide) ?_
        refine own_iload X0 hx (pc' := 76) (hb hby at_74) rfl rfl ?_
        refine own_iconst X0 hx (pc' := 77) (2 : Int32) (hb hby at_76) rfl rfl ?_
        refine own_icmpNo X0 hx (pc' := 80) (hb hby at_77) (teq hc39_15).2 rfl ?_
        refine own_ldc2D X0 hx (pc' := 83) hZ hown (Wd1 hw) (hb hby at_80) rfl ?_
        refine own_goto X0 hx (pc' := 89) (hb hby at_83) (by decide) (by decide) ?_
        refine own_dstore X0 hx (pc' := 91) (Ls' := #[.val (.int p0), .val (.int p1), .val (.int p2), .val (.int (Int32.ofNat zs)), .val (.int (p2 &&& (3 : Int32))), .val (.int (-20 : Int32)), .val (.double (4517110426252607488 : UInt64)), .second, .unset, .unset, .unset, .unset]) (hb hby at_89) rfl rfl ?_
        refine own_iloadN X0 hx (pc' := 92) (hb hby at_91) rfl rfl ?_
        refine own_i2d X0 hx (pc' := 93) (hb hby at_92) rfl ?_
        refine own_lconst X0 hx (pc' := 94) (1 : Int64) (hb hby at_93) rfl rfl ?_
        refine own_iloadN X0 hx (pc' := 95) (hb hby at_94) rfl rfl ?_
        refine own_lshl X0 hx (pc' := 96) (hb hby at_95) rfl ?_
        show own_G p.tables e below _ s₁ (mkF m 96 #[.val (.int p0), .val (.int p1), .val (.int p2), .val (.int (Int32.ofNat zs)), .val (.int (p2 &&& (3 : Int32))), .val (.int (-20 : Int32)), .val (.double (4517110426252607488 : UInt64)), .second, .unset, .unset, .unset, .unset] [(.long (own_one zs)), (.double (FP.i2d p0))])
        have sf := own_safe p0 zs hzs own_sc_m20 (by decide) (by decide)
        refine own_l2d X0 hx (pc' := 97) (hb hby at_96) rfl ?_
        refine own_dmul X0 hx (pc' := 98) (hb hby at_97) sf.1 rfl ?_
        refine own_dload X0 hx (pc' := 100) (hb hby at_98) rfl rfl ?_
        refine own_dmul X0 hx (pc' := 101) (hb hby at_100) sf.2 rfl ?_
        show own_G p.tables e below _ s₁ (mkF m 101 #[.val (.int p0), .val (.int p1), .val (.int p2), .val (.int (Int32.ofNat zs)), .val (.int (p2 &&& (3 : Int32))), .val (.int (-20 : Int32)), .val (.double (4517110426252607488 : UInt64)), .second, .unset, .unset, .unset, .unset] [(.double (own_least p0 zs (4517110426252607488 : UInt64)))])
        refine own_dstore X0 hx (pc' := 103) (Ls' := #[.val (.int p0), .val (.int p1), .val (.int p2), .val (.int (Int32.ofNat zs)), .val (.int (p2 &&& (3 : Int32))), .val (.int (-20 : Int32)), .val (.double (4517110426252607488 : UInt64)), .second, .val (.double (own_least p0 zs (4517110426252607488 : UInt64))), .second, .unset, .unset]) (hb hby at_101) rfl rfl ?_
        refine own_dload X0 hx (pc' := 105) (hb hby at_103) rfl rfl ?_
        refine own_callS X0 hx (pc' := 108) hZ hown (Wd2 hw) (Wd3 hw) (Wd4 hw) (Wd5 hw) (by decide) (rm_unit l Z a0 hw [] (own_least p0 zs (4517110426252607488 : UInt64)) h0 n0 Z0) e0 0 (by decide) (by decide) (by decide) (by decide) [(.double (own_least p0 zs (4517110426252607488 : UInt64)))] [] (by rw [hml]; rfl) (lenOf pd_1 rfl) rfl rfl (Nat.le_of_eq rfl) (hb hby at_105) rfl (fun v16 T16 L16 X16 hQ16 => ?_)
        obtain ⟨rfl, Nq16, e16⟩ := hQ16
        have N17 := Fr.app N0 Nq16
        show own_G p.tables e below _ T16 (mkF m 108 #[.val (.int p0), .val (.int p1), .val (.int p2), .val (.int (Int32.ofNat zs)), .val (.int (p2 &&& (3 : Int32))), .val (.int (-20 : Int32)), .val (.double (4517110426252607488 : UInt64)), .second, .val (.double (own_least p0 zs (4517110426252607488 : UInt64))), .second, .unset, .unset] [(.float (own_u (own_run (own_least p0 zs (4517110426252607488 : UInt64)) 246 0)))])
        by_cases hp : (0 : Int32) < p0
        · skip
          refine own_fstore X16 hx (pc' := 110) (Ls' := #[.val (.int p0), .val (.int p1), .val (.int p2), .val (.int (Int32.ofNat zs)), .val (.int (p2 &&& (3 : Int32))), .val (.int (-20 : Int32)), .val (.double (4517110426252607488 : UInt64)), .second, .val (.double (own_least p0 zs (4517110426252607488 : UInt64))), .second, .val (.float (own_u (own_run (own_least p0 zs (4517110426252607488 : UInt64)) 246 0))), .unset]) (hb hby at_108) rfl rfl ?_
          refine own_iloadN X16 hx (pc' := 111) (hb hby at_110) rfl rfl ?_
          refine own_ifYes X16 hx (pc' := 128) (hb hby at_111) (tlt hp).2.2.1 (by decide) (by decide) ?_
          refine own_iloadN X16 hx (pc' := 129) (hb hby at_128) rfl rfl ?_
          have hp1 : 1 ≤ p0.toInt := by have q := hp; rw [Int32.lt_iff_toInt_lt, own_t32_0] at q; omega
          refine own_callS X16 hx (pc' := 132) hZ hown (Wd10 hw) (Wd11 hw) (Wd12 hw) (Wd13 hw) (by decide) (rm_cl l Z a0 hw [] p0 h0 n0 Z0 hp1) e16 0 (by decide) (by decide) (by decide) (by decide) [(.int p0)] [] (by rw [hml]; rfl) (lenOf pd_0 rfl) rfl rfl (Nat.le_of_eq rfl) (hb hby at_129) rfl (fun v18 T18 L18 X18 hQ18 => ?_)
          obtain ⟨⟨C, rfl, ca, cb, cc⟩, Nq18, e18⟩ := hQ18
          have N19 := Fr.app N17 Nq18
          show own_G p.tables e below _ T18 (mkF m 132 #[.val (.int p0), .val (.int p1), .val (.int p2), .val (.int (Int32.ofNat zs)), .val (.int (p2 &&& (3 : Int32))), .val (.int (-20 : Int32)), .val (.double (4517110426252607488 : UInt64)), .second, .val (.double (own_least p0 zs (4517110426252607488 : UInt64))), .second, .val (.float (own_u (own_run (own_least p0 zs (4517110426252607488 : UInt64)) 246 0))), .unset] [(.int (Int32.ofNat C))])
          refine own_iloadN X18 hx (pc' := 133) (hb hby at_132) rfl rfl ?_
          refine own_iadd X18 hx (pc' := 134) (hb hby at_133) rfl rfl ?_
          refine own_iload X18 hx (pc' := 136) (hb hby at_134) rfl rfl ?_
          refine own_iadd X18 hx (pc' := 137) (hb hby at_136) rfl rfl ?_
          obtain ⟨ee, hee⟩ : ∃ y : Int32, y = (((Int32.ofNat C) + (Int32.ofNat zs)) + (-20 : Int32)) := ⟨_, rfl⟩
          rw [← hee]
          have te := own_te C zs ca hzs (-20 : Int32) (-20) own_t32_m20 (by decide) (by decide)
          rw [← hee] at te
          have hrun := own_runP p0 zs hzs own_sc_m20 (by decide) (by decide) hp cb cc te
          generalize own_run (own_least p0 zs (4517110426252607488 : UInt64)) 246 0 = ru at hrun ⊢
          by_cases h1 : (119 : Int32) < ee
          · rw [own_case1 hrun h1, own_u246]
            refine own_istore X18 hx (pc' := 139) (Ls' := #[.val (.int p0), .val (.int p1), .val (.int p2), .val (.int (Int32.ofNat zs)), .val (.int (p2 &&& (3 : Int32))), .val (.int (-20 : Int32)), .val (.double (4517110426252607488 : UInt64)), .second, .val (.double (own_least p0 zs (4517110426252607488 : UInt64))), .second, .val (.float (2139095040 : UInt32)), .val (.int ee)]) (hb hby at_137) rfl rfl ?_
            refine own_iload X18 hx (pc' := 141) (hb hby at_139) rfl rfl ?_
            refine own_bipush X18 hx (pc' := 143) (119 : Int32) (hb hby at_141) rfl rfl ?_
            refine own_icmpNo X18 hx (pc' := 146) (hb hby at_143) (tlt h1).2.2.2 rfl ?_
            refine own_fload X18 hx (pc' := 148) (hb hby at_146) rfl rfl ?_
            refine own_ldcF X18 hx (pc' := 150) hZ hown (Wd26 hw) (hb hby at_148) rfl ?_
            refine own_fcmp X18 hx (pc' := 151) (1 : Int32) (hb hby at_150) own_c2 rfl ?_
            refine own_ifNo X18 hx (pc' := 154) (hb hby at_151) (tlt (by decide : (0 : Int32) < (1 : Int32))).2.2.2 rfl ?_
            refine own_iconst X18 hx (pc' := 155) (1 : Int32) (hb hby at_154) rfl rfl ?_
            refine own_goto X18 hx (pc' := 159) (hb hby at_155) (by decide) (by decide) ?_
            refine own_retN X18 hx hlk hret (by simp) (hb hby at_159) (by decide) (by decide) ?_
            exact ⟨rfl, N19⟩
          · by_cases h2 : ee < (-126 : Int32)
            · rw [own_case2 hrun h2, own_u0]
              refine own_istore X18 hx (pc' := 139) (Ls' := #[.val (.int p0), .val (.int p1), .val (.int p2), .val (.int (Int32.ofNat zs)), .val (.int (p2 &&& (3 : Int32))), .val (.int (-20 : Int32)), .val (.double (4517110426252607488 : UInt64)), .second, .val (.double (own_least p0 zs (4517110426252607488 : UInt64))), .second, .val (.float (8388608 : UInt32)), .val (.int ee)]) (hb hby at_137) rfl rfl ?_
              refine own_iload X18 hx (pc' := 141) (hb hby at_139) rfl rfl ?_
              refine own_bipush X18 hx (pc' := 143) (119 : Int32) (hb hby at_141) rfl rfl ?_
              refine own_icmpYes X18 hx (pc' := 160) (hb hby at_143) (flt h1).2.2.2 (by decide) (by decide) ?_
              refine own_iload X18 hx (pc' := 162) (hb hby at_160) rfl rfl ?_
              refine own_bipush X18 hx (pc' := 164) (-126 : Int32) (hb hby at_162) rfl rfl ?_
              refine own_icmpNo X18 hx (pc' := 167) (hb hby at_164) (tlt h2).2.1 rfl ?_
              refine own_fload X18 hx (pc' := 169) (hb hby at_167) rfl rfl ?_
              refine own_ldcF X18 hx (pc' := 171) hZ hown (Wd8 hw) (hb hby at_169) rfl ?_
              refine own_fcmp X18 hx (pc' := 172) (0 : Int32) (hb hby at_171) own_c1 rfl ?_
              refine own_ifNo X18 hx (pc' := 175) (hb hby at_172) (teq rfl).2 rfl ?_
              refine own_iconst X18 hx (pc' := 176) (1 : Int32) (hb hby at_175) rfl rfl ?_
              refine own_goto X18 hx (pc' := 180) (hb hby at_176) (by decide) (by decide) ?_
              refine own_retN X18 hx hlk hret (by simp) (hb hby at_180) (by decide) (by decide) ?_
              exact ⟨rfl, N19⟩
            · obtain ⟨t, ht, hrt, hqt⟩ := own_case3 hrun h1 h2
              rw [hrt, own_ut ht]
              refine own_istore X18 hx (pc' := 139) (Ls' := #[.val (.int p0), .val (.int p1), .val (.int p2), .val (.int (Int32.ofNat zs)), .val (.int (p2 &&& (3 : Int32))), .val (.int (-20 : Int32)), .val (.double (4517110426252607488 : UInt64)), .second, .val (.double (own_least p0 zs (4517110426252607488 : UInt64))), .second, .val (.float (own_b t)), .val (.int ee)]) (hb hby at_137) rfl rfl ?_
              refine own_iload X18 hx (pc' := 141) (hb hby at_139) rfl rfl ?_
              refine own_bipush X18 hx (pc' := 143) (119 : Int32) (hb hby at_141) rfl rfl ?_
              refine own_icmpYes X18 hx (pc' := 160) (hb hby at_143) (flt h1).2.2.2 (by decide) (by decide) ?_
              refine own_iload X18 hx (pc' := 162) (hb hby at_160) rfl rfl ?_
              refine own_bipush X18 hx (pc' := 164) (-126 : Int32) (hb hby at_162) rfl rfl ?_
              refine own_icmpYes X18 hx (pc' := 181) (hb hby at_164) (flt h2).2.1 (by decide) (by decide) ?_
              refine own_fload X18 hx (pc' := 183) (hb hby at_181) rfl rfl ?_
              refine own_iload X18 hx (pc' := 185) (hb hby at_183) rfl rfl ?_
              refine own_callS X18 hx (pc' := 188) hZ hown (Wd14 hw) (Wd15 hw) (Wd12 hw) (Wd16 hw) (by decide) (rm_pow2 l Z a0 hw [] ee t h0 n0 Z0 ht hqt) e18 1 (by decide) (by decide) (by decide) (by decide) [(.int ee)] [(.float (own_b t))] (by rw [hml]; rfl) (lenOf pd_2 rfl) rfl rfl (Nat.le_of_eq rfl) (hb hby at_185) rfl (fun v20 T20 L20 X20 hQ20 => ?_)
              obtain ⟨rfl, Nq20, e20⟩ := hQ20
              have N21 := Fr.app N19 Nq20
              show own_G p.tables e below _ T20 (mkF m 188 #[.val (.int p0), .val (.int p1), .val (.int p2), .val (.int (Int32.ofNat zs)), .val (.int (p2 &&& (3 : Int32))), .val (.int (-20 : Int32)), .val (.double (4517110426252607488 : UInt64)), .second, .val (.double (own_least p0 zs (4517110426252607488 : UInt64))), .second, .val (.float (own_b t)), .val (.int ee)] [(.float (own_b t)), (.float (own_b t))])
              refine own_fcmp X20 hx (pc' := 189) (0 : Int32) (hb hby at_188) (fcmpV_self (own_bnn ⟨t, Nat.lt_succ_of_lt ht⟩).2 _) rfl ?_
              refine own_ifNo X20 hx (pc' := 192) (hb hby at_189) (teq rfl).2 rfl ?_
              refine own_iconst X20 hx (pc' := 193) (1 : Int32) (hb hby at_192) rfl rfl ?_
              refine own_goto X20 hx (pc' := 197) (hb hby at_193) (by decide) (by decide) ?_
              refine own_retN X20 hx hlk hret (by simp) (hb hby at_197) (by decide) (by decide) ?_
              exact ⟨rfl, N21⟩
        · skip
          rw [own_runN p0 zs hzs own_sc_m20 (by decide) (by decide) hp, own_u0]
          refine own_fstore X16 hx (pc' := 110) (Ls' := #[.val (.int p0), .val (.int p1), .val (.int p2), .val (.int (Int32.ofNat zs)), .val (.int (p2 &&& (3 : Int32))), .val (.int (-20 : Int32)), .val (.double (4517110426252607488 : UInt64)), .second, .val (.double (own_least p0 zs (4517110426252607488 : UInt64))), .second, .val (.float (8388608 : UInt32)), .unset]) (hb hby at_108) rfl rfl ?_
          refine own_iloadN X16 hx (pc' := 111) (hb hby at_110) rfl rfl ?_
          refine own_ifNo X16 hx (pc' := 114) (hb hby at_111) (flt hp).2.2.1 rfl ?_
          refine own_fload X16 hx (pc' := 116) (hb hby at_114) rfl rfl ?_
          refine own_ldcF X16 hx (pc' := 118) hZ hown (Wd8 hw) (hb hby at_116) rfl ?_
          refine own_fcmp X16 hx (pc' := 119) (0 : Int32) (hb hby at_118) own_c1 rfl ?_
          refine own_ifNo X16 hx (pc' := 122) (hb hby at_119) (teq rfl).2 rfl ?_
          refine own_iconst X16 hx (pc' := 123) (1 : Int32) (hb hby at_122) rfl rfl ?_
          refine own_goto X16 hx (pc' := 127) (hb hby at_123) (by decide) (by decide) ?_
          refine own_retN X16 hx hlk hret (by simp) (hb hby at_127) (by decide) (by decide) ?_
          exact ⟨rfl, N17⟩
      · skip
        refine own_icmpYes X0 hx (pc' := 47) (hb hby at_39) (feq hc39_15).2 (by decide) (by decide) ?_
        refine own_bipush X0 hx (pc' := 49) (60 : Int32) (hb hby at_47) rfl rfl ?_
        refine own_istore X0 hx (pc' := 51) (Ls' := #[.val (.int p0), .val (.int p1), .val (.int p2), .val (.int (Int32.ofNat zs)), .val (.int (p2 &&& (3 : Int32))), .val (.int (60 : Int32)), .unset, .unset, .unset, .unset, .unset, .unset]) (hb hby at_49) rfl rfl ?_
        refine own_iload X0 hx (pc' := 53) (hb hby at_51) rfl rfl ?_
        refine own_ifYes X0 hx (pc' := 62) (hb hby at_53) (feq hc15_1).2 (by decide) (by decide) ?_
        refine own_iload X0 hx (pc' := 64) (hb hby at_62) rfl rfl ?_
        refine own_iconst X0 hx (pc' := 65) (1 : Int32) (hb hby at_64) rfl rfl ?_
        refine own_icmpYes X0 hx (pc' := 74) (hb hby at_65) (feq hc27_8).2 (by decide) (by decide) ?_
        refine own_iload X0 hx (pc' := 76) (hb hby at_74) rfl rfl ?_
        refine own_iconst X0 hx (pc' := 77) (2 : Int32) (hb hby at_76) rfl rfl ?_
        refine own_icmpYes X0 hx (pc' := 86) (hb hby at_77) (feq hc39_15).2 (by decide) (by decide) ?_
        refine own_ldc2D X0 hx (pc' := 89) hZ hown (Wd9 hw) (hb hby at_86) rfl ?_
        refine own_dstore X0 hx (pc' := 91) (Ls' := #[.val (.int p0), .val (.int p1), .val (.int p2), .val (.int (Int32.ofNat zs)), .val (.int (p2 &&& (3 : Int32))), .val (.int (60 : Int32)), .val (.double (4877398396442247168 : UInt64)), .second, .unset, .unset, .unset, .unset]) (hb hby at_89) rfl rfl ?_
        refine own_iloadN X0 hx (pc' := 92) (hb hby at_91) rfl rfl ?_
        refine own_i2d X0 hx (pc' := 93) (hb hby at_92) rfl ?_
        refine own_lconst X0 hx (pc' := 94) (1 : Int64) (hb hby at_93) rfl rfl ?_
        refine own_iloadN X0 hx (pc' := 95) (hb hby at_94) rfl rfl ?_
        refine own_lshl X0 hx (pc' := 96) (hb hby at_95) rfl ?_
        show own_G p.tables e below _ s₁ (mkF m 96 #[.val (.int p0), .val (.int p1), .val (.int p2), .val (.int (Int32.ofNat zs)), .val (.int (p2 &&& (3 : Int32))), .val (.int (60 : Int32)), .val (.double (4877398396442247168 : UInt64)), .second, .unset, .unset, .unset, .unset] [(.long (own_one zs)), (.double (FP.i2d p0))])
        have sf := own_safe p0 zs hzs own_sc_60 (by decide) (by decide)
        refine own_l2d X0 hx (pc' := 97) (hb hby at_96) rfl ?_
        refine own_dmul X0 hx (pc' := 98) (hb hby at_97) sf.1 rfl ?_
        refine own_dload X0 hx (pc' := 100) (hb hby at_98) rfl rfl ?_
        refine own_dmul X0 hx (pc' := 101) (hb hby at_100) sf.2 rfl ?_
        show own_G p.tables e below _ s₁ (mkF m 101 #[.val (.int p0), .val (.int p1), .val (.int p2), .val (.int (Int32.ofNat zs)), .val (.int (p2 &&& (3 : Int32))), .val (.int (60 : Int32)), .val (.double (4877398396442247168 : UInt64)), .second, .unset, .unset, .unset, .unset] [(.double (own_least p0 zs (4877398396442247168 : UInt64)))])
        refine own_dstore X0 hx (pc' := 103) (Ls' := #[.val (.int p0), .val (.int p1), .val (.int p2), .val (.int (Int32.ofNat zs)), .val (.int (p2 &&& (3 : Int32))), .val (.int (60 : Int32)), .val (.double (4877398396442247168 : UInt64)), .second, .val (.double (own_least p0 zs (4877398396442247168 : UInt64))), .second, .unset, .unset]) (hb hby at_101) rfl rfl ?_
        refine own_dload X0 hx (pc' := 105) (hb hby at_103) rfl rfl ?_
        refine own_callS X0 hx (pc' := 108) hZ hown (Wd2 hw) (Wd3 hw) (Wd4 hw) (Wd5 hw) (by decide) (rm_unit l Z a0 hw [] (own_least p0 zs (4877398396442247168 : UInt64)) h0 n0 Z0) e0 0 (by decide) (by decide) (by decide) (by decide) [(.double (own_least p0 zs (4877398396442247168 : UInt64)))] [] (by rw [hml]; rfl) (lenOf pd_1 rfl) rfl rfl (Nat.le_of_eq rfl) (hb hby at_105) rfl (fun v22 T22 L22 X22 hQ22 => ?_)
        obtain ⟨rfl, Nq22, e22⟩ := hQ22
        have N23 := Fr.app N0 Nq22
        show own_G p.tables e below _ T22 (mkF m 108 #[.val (.int p0), .val (.int p1), .val (.int p2), .val (.int (Int32.ofNat zs)), .val (.int (p2 &&& (3 : Int32))), .val (.int (60 : Int32)), .val (.double (4877398396442247168 : UInt64)), .second, .val (.double (own_least p0 zs (4877398396442247168 : UInt64))), .second, .unset, .unset] [(.float (own_u (own_run (own_least p0 zs (4877398396442247168 : UInt64)) 246 0)))])
        by_cases hp : (0 : Int32) < p0
        · skip
          refine own_fstore X22 hx (pc' := 110) (Ls' := #[.val (.int p0), .val (.int p1), .val (.int p2), .val (.int (Int32.ofNat zs)), .val (.int (p2 &&& (3 : Int32))), .val (.int (60 : Int32)), .val (.double (4877398396442247168 : UInt64)), .second, .val (.double (own_least p0 zs (4877398396442247168 : UInt64))), .second, .val (.float (own_u (own_run (own_least p0 zs (4877398396442247168 : UInt64)) 246 0))), .unset]) (hb hby at_108) rfl rfl ?_
          refine own_iloadN X22 hx (pc' := 111) (hb hby at_110) rfl rfl ?_
          refine own_ifYes X22 hx (pc' := 128) (hb hby at_111) (tlt hp).2.2.1 (by decide) (by decide) ?_
          refine own_iloadN X22 hx (pc' := 129) (hb hby at_128) rfl rfl ?_
          have hp1 : 1 ≤ p0.toInt := by have q := hp; rw [Int32.lt_iff_toInt_lt, own_t32_0] at q; omega
          refine own_callS X22 hx (pc' := 132) hZ hown (Wd10 hw) (Wd11 hw) (Wd12 hw) (Wd13 hw) (by decide) (rm_cl l Z a0 hw [] p0 h0 n0 Z0 hp1) e22 0 (by decide) (by decide) (by decide) (by decide) [(.int p0)] [] (by rw [hml]; rfl) (lenOf pd_0 rfl) rfl rfl (Nat.le_of_eq rfl) (hb hby at_129) rfl (fun v24 T24 L24 X24 hQ24 => ?_)
          obtain ⟨⟨C, rfl, ca, cb, cc⟩, Nq24, e24⟩ := hQ24
          have N25 := Fr.app N23 Nq24
          show own_G p.tables e below _ T24 (mkF m 132 #[.val (.int p0), .val (.int p1), .val (.int p2), .val (.int (Int32.ofNat zs)), .val (.int (p2 &&& (3 : Int32))), .val (.int (60 : Int32)), .val (.double (4877398396442247168 : UInt64)), .second, .val (.double (own_least p0 zs (4877398396442247168 : UInt64))), .second, .val (.float (own_u (own_run (own_least p0 zs (4877398396442247168 : UInt64)) 246 0))), .unset] [(.int (Int32.ofNat C))])
          refine own_iloadN X24 hx (pc' := 133) (hb hby at_132) rfl rfl ?_
          refine own_iadd X24 hx (pc' := 134) (hb hby at_133) rfl rfl ?_
          refine own_iload X24 hx (pc' := 136) (hb hby at_134) rfl rfl ?_
          refine own_iadd X24 hx (pc' := 137) (hb hby at_136) rfl rfl ?_
          obtain ⟨ee, hee⟩ : ∃ y : Int32, y = (((Int32.ofNat C) + (Int32.ofNat zs)) + (60 : Int32)) := ⟨_, rfl⟩
          rw [← hee]
          have te := own_te C zs ca hzs (60 : Int32) (60) own_t32_60 (by decide) (by decide)
          rw [← hee] at te
          have hrun := own_runP p0 zs hzs own_sc_60 (by decide) (by decide) hp cb cc te
          generalize own_run (own_least p0 zs (4877398396442247168 : UInt64)) 246 0 = ru at hrun ⊢
          by_cases h1 : (119 : Int32) < ee
          · rw [own_case1 hrun h1, own_u246]
            refine own_istore X24 hx (pc' := 139) (Ls' := #[.val (.int p0), .val (.int p1), .val (.int p2), .val (.int (Int32.ofNat zs)), .val (.int (p2 &&& (3 : Int32))), .val (.int (60 : Int32)), .val (.double (4877398396442247168 : UInt64)), .second, .val (.double (own_least p0 zs (4877398396442247168 : UInt64))), .second, .val (.float (2139095040 : UInt32)), .val (.int ee)]) (hb hby at_137) rfl rfl ?_
            refine own_iload X24 hx (pc' := 141) (hb hby at_139) rfl rfl ?_
            refine own_bipush X24 hx (pc' := 143) (119 : Int32) (hb hby at_141) rfl rfl ?_
            refine own_icmpNo X24 hx (pc' := 146) (hb hby at_143) (tlt h1).2.2.2 rfl ?_
            refine own_fload X24 hx (pc' := 148) (hb hby at_146) rfl rfl ?_
            refine own_ldcF X24 hx (pc' := 150) hZ hown (Wd26 hw) (hb hby at_148) rfl ?_
            refine own_fcmp X24 hx (pc' := 151) (1 : Int32) (hb hby at_150) own_c2 rfl ?_
            refine own_ifNo X24 hx (pc' := 154) (hb hby at_151) (tlt (by decide : (0 : Int32) < (1 : Int32))).2.2.2 rfl ?_
            refine own_iconst X24 hx (pc' := 155) (1 : Int32) (hb hby at_154) rfl rfl ?_
            refine own_goto X24 hx (pc' := 159) (hb hby at_155) (by decide) (by decide) ?_
            refine own_retN X24 hx hlk hret (by simp) (hb hby at_159) (by decide) (by decide) ?_
            exact ⟨rfl, N25⟩
          · by_cases h2 : ee < (-126 : Int32)
            · rw [own_case2 hrun h2, own_u0]
              refine own_istore X24 hx (pc' := 139) (Ls' := #[.val (.int p0), .val (.int p1), .val (.int p2), .val (.int (Int32.ofNat zs)), .val (.int (p2 &&& (3 : Int32))), .val (.int (60 : Int32)), .val (.double (4877398396442247168 : UInt64)), .second, .val (.double (own_least p0 zs (4877398396442247168 : UInt64))), .second, .val (.float (8388608 : UInt32)), .val (.int ee)]) (hb hby at_137) rfl rfl ?_
              refine own_iload X24 hx (pc' := 141) (hb hby at_139) rfl rfl ?_
              refine own_bipush X24 hx (pc' := 143) (119 : Int32) (hb hby at_141) rfl rfl ?_
              refine own_icmpYes X24 hx (pc' := 160) (hb hby at_143) (flt h1).2.2.2 (by decide) (by decide) ?_
              refine own_iload X24 hx (pc' := 162) (hb hby at_160) rfl rfl ?_
              refine own_bipush X24 hx (pc' := 164) (-126 : Int32) (hb hby at_162) rfl rfl ?_
              refine own_icmpNo X24 hx (pc' := 167) (hb hby at_164) (tlt h2).2.1 rfl ?_
              refine own_fload X24 hx (pc' := 169) (hb hby at_167) rfl rfl ?_
              refine own_ldcF X24 hx (pc' := 171) hZ hown (Wd8 hw) (hb hby at_169) rfl ?_
              refine own_fcmp X24 hx (pc' := 172) (0 : Int32) (hb hby at_171) own_c1 rfl ?_
              refine own_ifNo X24 hx (pc' := 175) (hb hby at_172) (teq rfl).2 rfl ?_
              refine own_iconst X24 hx (pc' := 176) (1 : Int32) (hb hby at_175) rfl rfl ?_
              refine own_goto X24 hx (pc' := 180) (hb hby at_176) (by decide) (by decide) ?_
              refine own_retN X24 hx hlk hret (by simp) (hb hby at_180) (by decide) (by decide) ?_
              exact ⟨rfl, N25⟩
            · obtain ⟨t, ht, hrt, hqt⟩ := own_case3 hrun h1 h2
              rw [hrt, own_ut ht]
              refine own_istore X24 hx (pc' := 139) (Ls' := #[.val (.int p0), .val (.int p1), .val (.int p2), .val (.int (Int32.ofNat zs)), .val (.int (p2 &&& (3 : Int32))), .val (.int (60 : Int32)), .val (.double (4877398396442247168 : UInt64)), .second, .val (.double (own_least p0 zs (4877398396442247168 : UInt64))), .second, .val (.float (own_b t)), .val (.int ee)]) (hb hby at_137) rfl rfl ?_
              refine own_iload X24 hx (pc' := 141) (hb hby at_139) rfl rfl ?_
              refine own_bipush X24 hx (pc' := 143) (119 : Int32) (hb hby at_141) rfl rfl ?_
              refine own_icmpYes X24 hx (pc' := 160) (hb hby at_143) (flt h1).2.2.2 (by decide) (by decide) ?_
              refine own_iload X24 hx (pc' := 162) (hb hby at_160) rfl rfl ?_
              refine own_bipush X24 hx (pc' := 164) (-126 : Int32) (hb hby at_162) rfl rfl ?_
              refine own_icmpYes X24 hx (pc' := 181) (hb hby at_164) (flt h2).2.1 (by decide) (by decide) ?_
              refine own_fload X24 hx (pc' := 183) (hb hby at_181) rfl rfl ?_
              refine own_iload X24 hx (pc' := 185) (hb hby at_183) rfl rfl ?_
              refine own_callS X24 hx (pc' := 188) hZ hown (Wd14 hw) (Wd15 hw) (Wd12 hw) (Wd16 hw) (by decide) (rm_pow2 l Z a0 hw [] ee t h0 n0 Z0 ht hqt) e24 1 (by decide) (by decide) (by decide) (by decide) [(.int ee)] [(.float (own_b t))] (by rw [hml]; rfl) (lenOf pd_2 rfl) rfl rfl (Nat.le_of_eq rfl) (hb hby at_185) rfl (fun v26 T26 L26 X26 hQ26 => ?_)
              obtain ⟨rfl, Nq26, e26⟩ := hQ26
              have N27 := Fr.app N25 Nq26
              show own_G p.tables e below _ T26 (mkF m 188 #[.val (.int p0), .val (.int p1), .val (.int p2), .val (.int (Int32.ofNat zs)), .val (.int (p2 &&& (3 : Int32))), .val (.int (60 : Int32)), .val (.double (4877398396442247168 : UInt64)), .second, .val (.double (own_least p0 zs (4877398396442247168 : UInt64))), .second, .val (.float (own_b t)), .val (.int ee)] [(.float (own_b t)), (.float (own_b t))])
              refine own_fcmp X26 hx (pc' := 189) (0 : Int32) (hb hby at_188) (fcmpV_self (own_bnn ⟨t, Nat.lt_succ_of_lt ht⟩).2 _) rfl ?_
              refine own_ifNo X26 hx (pc' := 192) (hb hby at_189) (teq rfl).2 rfl ?_
              refine own_iconst X26 hx (pc' := 193) (1 : Int32) (hb hby at_192) rfl rfl ?_
              refine own_goto X26 hx (pc' := 197) (hb hby at_193) (by decide) (by decide) ?_
              refine own_retN X26 hx hlk hret (by simp) (hb hby at_197) (by decide) (by decide) ?_
              exact ⟨rfl, N27⟩
        · skip
          rw [own_runN p0 zs hzs own_sc_60 (by decide) (by decide) hp, own_u0]
          refine own_fstore X22 hx (pc' := 110) (Ls' := #[.val (.int p0), .val (.int p1), .val (.int p2), .val (.int (Int32.ofNat zs)), .val (.int (p2 &&& (3 : Int32))), .val (.int (60 : Int32)), .val (.double (4877398396442247168 : UInt64)), .second, .val (.double (own_least p0 zs (4877398396442247168 : UInt64))), .second, .val (.float (8388608 : UInt32)), .unset]) (hb hby at_108) rfl rfl ?_
          refine own_iloadN X22 hx (pc' := 111) (hb hby at_110) rfl rfl ?_
          refine own_ifNo X22 hx (pc' := 114) (hb hby at_111) (flt hp).2.2.1 rfl ?_
          refine own_fload X22 hx (pc' := 116) (hb hby at_114) rfl rfl ?_
          refine own_ldcF X22 hx (pc' := 118) hZ hown (Wd8 hw) (hb hby at_116) rfl ?_
          refine own_fcmp X22 hx (pc' := 119) (0 : Int32) (hb hby at_118) own_c1 rfl ?_
          refine own_ifNo X22 hx (pc' := 122) (hb hby at_119) (teq rfl).2 rfl ?_
          refine own_iconst X22 hx (pc' := 123) (1 : Int32) (hb hby at_122) rfl rfl ?_
          refine own_goto X22 hx (pc' := 127) (hb hby at_123) (by decide) (by decide) ?_
          refine own_retN X22 hx hlk hret (by simp) (hb hby at_127) (by decide) (by decide) ?_
          exact ⟨rfl, N23⟩

set_option maxRecDepth 65536 in
set_option maxHeartbeats 40000000 in
theorem comes_1 {Post : Tables → Env → Array Value → State → Outcome → State → Prop} (hpost : ∀ tb e args s v u, (limb_1_1.after args s (.returned v) u = true ∧ limb_1_2.after args s (.returned v) u = true ∧ True) → FrameEnd s (.returned v) u (Jvm.fieldLocs frame_1_writes args s ++ Jvm.arrayLocs frame_1_arrays args s ++ Jvm.staticLocs frame_1_statics s) 0 0 → Post tb e args s (.returned v) u) :
    ArmFor flags0 classFile x code maxLocals ret World_1 tables_1 room_1 Calls_1 rest_1 Pre_1 Post := by
  intro l hfl _ _ p e ha hc hk s m args below hf hA hF happ hP
  obtain ⟨hcalls, hrest, hpre⟩ := hP
  obtain ⟨-, -, -, hnamed, -, -, -, hat⟩ := (Spec.applies_iff hf).mp happ
  obtain ⟨hg, hn⟩ := and_e (Cond.before_iff.mp (show (Jvm.Cond.and given_1 narrow_1).before args s = true from hpre))
  obtain ⟨hcnt, hg0⟩ := and_e hg
  obtain ⟨ha0, hg1⟩ := and_e hg0
  obtain ⟨ha1, hg2⟩ := and_e hg1
  obtain ⟨w0, w1, w2, rfl⟩ : ∃ w0 w1 w2 : Value, args = #[w0, w1, w2] := by
    have hs : args.size = 3 := by simpa [Cond.value, given_1] using hcnt
    obtain ⟨L⟩ := args
    match L, hs with
    | [w0, w1, w2], _ => exact ⟨w0, w1, w2, rfl⟩
  have hw := fun d (hd : d ∈ tables_1) => atoms_spec (ws := Jvm.Cond.code x code maxLocals ret :: tables_1) hat d (List.mem_cons_of_mem _ hd)
  have hfit : Fit s := fun {y c} hc i hi => by
    obtain ⟨ha, rfl⟩ := Array.getElem?_eq_some_iff.mp hc
    have q := List.all_eq_true.mp ((Array.all_eq_true_iff_forall_mem.mp hF) _ (Array.getElem_mem ha)) i (List.mem_range.mpr hi)
    simpa [Array.getElem?_eq_getElem hi] using q
  obtain ⟨i0, ei0⟩ := is_v ha0
  obtain rfl : w0 = (.int i0) := Option.some.inj ei0
  obtain ⟨i1, ei1⟩ := is_v ha1
  obtain rfl : w1 = (.int i1) := Option.some.inj ei1
  obtain ⟨i2, ei2⟩ := is_v hg2
  obtain rfl : w2 = (.int i2) := Option.some.inj ei2
  obtain ⟨n, o, h1, h2, h3, _, L, rfl, ⟨rfl, N⟩, hq⟩ := rm0 l s _ hw tables_1 i0 i1 i2  s.heap s.heap.size (Nat.le_refl _)  p e ha hc hk s m _ below hf ((Spec.applies_iff_loose hf).mp happ).1 ⟨rfl, State.Warmed39.refl s, rfl⟩ trivial
  refine ⟨n, _, h1, h2, h3, hpost _ _ _ _ _ _ ⟨Cond.after_iff.mpr rfl, Cond.after_iff.mpr (eq_i res_at (Term.int_eval (1)) rfl), trivial⟩ ⟨hq.1, hq.2.1, (hq.2.2.sift fun y hy => Or.inr (N y hy)).mono (by decide) (by decide)⟩⟩
theorem main_1_1 : Claimed_1_1 := comes_1 fun _ _ _ _ _ _ h hF => ⟨h.1, hF⟩
theorem main_1_2 : Claimed_1_2 := comes_1 fun _ _ _ _ _ _ h hF => ⟨h.2.1, hF⟩
end Jvm.Pilot.@@N@@
namespace Jvm.Pilot.@@N@@
open Jvm Jvm.ClassFile Sem Op Lib Jvm.Free Jvm.Stand Jvm.Pilot.@@N@@.Jvm.D
/-! MADE BY PROGRAM (witnessworld.py) out of the Statement's table words and the real class files: 9 classes; the members and pool entries that the words name. The judged class is class 1, her method 1. -/
namespace start1
open Jvm.ClassFile
def u (s : String) : CpInfo := .utf8 (stringToUtf16 s)
/-- a pool by its gaps: so many unusable entries, then the entry; so many at the end -/
def gap : Nat → List CpInfo → List CpInfo
  | 0, r => r
  | n + 1, r => .unusable :: gap n r
def poolList (es : List (Nat × CpInfo)) (last : Nat) : List CpInfo := es.foldr (fun e r => gap e.1 (e.2 :: r)) (gap last [])
def pool (es : List (Nat × CpInfo)) (last : Nat) : Array CpInfo := ⟨poolList es last⟩
def fileOf (pool : Array CpInfo) (this : Nat) (attrs : Array Attribute := #[]) (ms : Array MethodInfo := #[]) (fl : Nat := 33) (sup : Nat := 0) (ifs : Array Nat := #[]) (fds : Array FieldInfo := #[]) : ClassFile where
  minorVersion := 0
  majorVersion := 65
  constantPool := pool
  accessFlags := fl
  thisClass := this
  superClass := sup
  interfaces := ifs
  fields := fds
  methods := ms
  attributes := attrs
def plain (name : String) (sup : Option ClassId) : Class where
  name := name
  kind := .ordinary
  loader := none
  accessFlags := 33
  super := sup
  interfaces := #[]
  cf := none
  fields := #[]
  methods := #[]
  instanceTypes := #[]
  staticTypes := #[]
  resolved := #[]
  callSites := []
  init := .initialized
  statics := none
  mirror := none

def pool0 : Array CpInfo := pool [(5, u "<init>"), (0, u "()V"), (1, .class_ 10), (1, u "java/lang/Object")] 113

def k0m0 : Method := { name := "<init>", desc := "()V", sig := { parameters := [], returnType := none }, accessFlags := 1, code := none }
/-- java/lang/Object -/
def k0 : Class := { plain "java/lang/Object" none with
  accessFlags := 33
  interfaces := #[]
  cf := some (fileOf pool0 8 #[] #[{ accessFlags := 1, nameIndex := 5, descriptorIndex := 6, attributes := #[] }] 33 0 #[] #[])
  fields := #[]
  methods := #[k0m0]
  instanceTypes := #[]
  staticTypes := #[]
  resolved := Array.replicate 124 none
  statics := none }

def pool1 : Array CpInfo := pool [(2, .class_ 4), (1, u "java/lang/Object"), (0, u "<init>"), (0, u "()V"), (0, .integer 2147483647), (0, .double 3706462493325918208), (1, .double 4021714467241852928), (1, .double 4517110426252607488), (1, .double 4877398396442247168), (1, .methodref 17 18), (0, .class_ 19), (0, .nameAndType 20 21), (0, u "com/example/pandarus/pandarus/RangeIndex"), (0, u "unit"), (0, u "(D)F"), (0, .float 8388608), (0, .methodref 24 25), (0, .class_ 26), (0, .nameAndType 27 28), (0, u "com/example/pandarus/pandarus/RangeIndexUnitPinLaw"), (0, u "ceilLog2"), (0, u "(I)I"), (0, .float 2139095039), (0, .methodref 24 31), (0, .nameAndType 32 33), (0, u "pow2"), (0, u "(I)F"), (0, .methodref 24 35), (0, .nameAndType 36 28), (0, u "floorLog2"), (0, .integer 65536), (0, .double 4039728865751334912), (1, .double 4886405595696988160), (3, u "law"), (0, u "(III)Z")] 3

def k1m0 : Method := { name := "<init>", desc := "()V", sig := { parameters := [], returnType := none }, accessFlags := 1, code := none }
def k1c1 : Code := { maxStack := 5, maxLocals := 12, code := code, exceptionTable := #[], attributes := #[] }
def k1m1 : Method := { name := "law", desc := "(III)Z", sig := { parameters := [.int, .int, .int], returnType := some .boolean }, accessFlags := 9, code := some k1c1 }
def k1c2 : Code := { maxStack := 2, maxLocals := 1, code := method_3_code, exceptionTable := #[], attributes := #[] }
def k1m2 : Method := { name := "ceilLog2", desc := "(I)I", sig := { parameters := [.int], returnType := some .int }, accessFlags := 10, code := some k1c2 }
def k1c3 : Code := { maxStack := 2, maxLocals := 3, code := method_4_code, exceptionTable := #[], attributes := #[] }
def k1m3 : Method := { name := "floorLog2", desc := "(I)I", sig := { parameters := [.int], returnType := some .int }, accessFlags := 10, code := some k1c3 }
def k1c4 : Code := { maxStack := 6, maxLocals := 5, code := method_5_code, exceptionTable := #[], attributes := #[] }
def k1m4 : Method := { name := "pow2", desc := "(I)F", sig := { parameters := [.int], returnType := some .float }, accessFlags := 10, code := some k1c4 }
/-- com/example/pandarus/pandarus/RangeIndexUnitPinLaw -/
def k1 : Class := { plain "com/example/pandarus/pandarus/RangeIndexUnitPinLaw" (some 0) with
  accessFlags := 49
  interfaces := #[]
  cf := some (fileOf pool1 24 #[] #[{ accessFlags := 1, nameIndex := 5, descriptorIndex := 6, attributes := #[] }, { accessFlags := 9, nameIndex := 44, descriptorIndex := 45, attributes := #[] }, { accessFlags := 10, nameIndex := 27, descriptorIndex := 28, attributes := #[] }, { accessFlags := 10, nameIndex := 36, descriptorIndex := 28, attributes := #[] }, { accessFlags := 10, nameIndex := 32, descriptorIndex := 33, attributes := #[] }] 49 2 #[] #[])
  fields := #[]
  methods := #[k1m0, k1m1, k1m2, k1m3, k1m4]
  instanceTypes := #[]
  staticTypes := #[]
  resolved := Array.replicate 49 none
  statics := none }

def pool2 : Array CpInfo := pool [(1, .class_ 2), (0, u "com/example/pandarus/pandarus/RangeIndex"), (2, .class_ 6), (0, u "com/example/pandarus/pandarus/RangeIndex$Plan"), (8, .class_ 17), (1, u "java/lang/Object"), (1, .class_ 20), (0, u "com/example/pandarus/pandarus/RangeIndex$Part"), (2, u "chunks"), (0, u "[Lcom/example/pandarus/pandarus/RangeIndex$Part;"), (2, u "order"), (0, u "Lcom/example/pandarus/pandarus/Ranked$Order;"), (2, u "plan"), (0, u "Lcom/example/pandarus/pandarus/RangeIndex$Plan;"), (20, u "size"), (0, u "I"), (2, u "count"), (8, .class_ 67), (0, u "com/example/pandarus/pandarus/RangeIndex$Figures"), (3, u "NO_AXES"), (0, u "[Lcom/example/pandarus/pandarus/Axis;"), (12, .class_ 87), (1, u "com/example/pandarus/pandarus/RangeIndex$Figure"), (104, .float 8388608), (0, .float 2063597568), (0, .float 2139095040), (2, u "CHUNK"), (2, u "MOST"), (1, u "GROW"), (1, u "SPARSEST"), (1, u "MOST_UNITS"), (1, u "BLOCK"), (1, u "PASSED"), (1, u "NONE"), (15, u "unit"), (0, u "(D)F"), (4, .class_ 235), (0, u "com/example/pandarus/pandarus/RangeIndex$Builder"), (0, .class_ 237), (0, u "com/example/pandarus/pandarus/RangeIndex$Candidate"), (0, .class_ 239), (0, u "com/example/pandarus/pandarus/RangeIndex$Sides"), (0, .class_ 241), (0, u "com/example/pandarus/pandarus/RangeIndex$Columns"), (0, .class_ 243), (0, u "com/example/pandarus/pandarus/RangeIndex$Reading"), (0, .class_ 245), (0, u "com/example/pandarus/pandarus/RangeIndex$Point"), (0, .class_ 247), (0, u "com/example/pandarus/pandarus/RangeIndex$Weights"), (0, .class_ 249), (0, u "com/example/pandarus/pandarus/RangeIndex$Bounds")] 28

def k2c0 : Code := { maxStack := 4, maxLocals := 3, code := prog_41_method_19_code, exceptionTable := #[], attributes := #[] }
def k2m0 : Method := { name := "unit", desc := "(D)F", sig := { parameters := [.double], returnType := some .float }, accessFlags := 8, code := some k2c0 }
/-- com/example/pandarus/pandarus/RangeIndex -/
def k2 : Class := { plain "com/example/pandarus/pandarus/RangeIndex" (some 0) with
  accessFlags := 32
  interfaces := #[]
  cf := some (fileOf pool2 1 #[.nestMembers #[234, 236, 238, 240, 66, 19, 242, 244, 85, 246, 5, 248]] #[{ accessFlags := 8, nameIndex := 228, descriptorIndex := 229, attributes := #[] }] 32 15 #[] #[{ accessFlags := 24, nameIndex := 197, descriptorIndex := 54, attributes := #[] }, { accessFlags := 24, nameIndex := 200, descriptorIndex := 54, attributes := #[] }, { accessFlags := 24, nameIndex := 202, descriptorIndex := 54, attributes := #[] }, { accessFlags := 24, nameIndex := 204, descriptorIndex := 54, attributes := #[] }, { accessFlags := 24, nameIndex := 206, descriptorIndex := 54, attributes := #[] }, { accessFlags := 24, nameIndex := 208, descriptorIndex := 54, attributes := #[] }, { accessFlags := 24, nameIndex := 210, descriptorIndex := 54, attributes := #[] }, { accessFlags := 26, nameIndex := 71, descriptorIndex := 72, attributes := #[] }, { accessFlags := 26, nameIndex := 212, descriptorIndex := 54, attributes := #[] }, { accessFlags := 18, nameIndex := 27, descriptorIndex := 28, attributes := #[] }, { accessFlags := 18, nameIndex := 31, descriptorIndex := 32, attributes := #[] }, { accessFlags := 2, nameIndex := 23, descriptorIndex := 24, attributes := #[] }, { accessFlags := 2, nameIndex := 57, descriptorIndex := 54, attributes := #[] }, { accessFlags := 2, nameIndex := 53, descriptorIndex := 54, attributes := #[] }])
  fields := #[{ name := "CHUNK", type := .int, accessFlags := 24, slot := 0, constantValue := 0 }, { name := "MOST", type := .int, accessFlags := 24, slot := 1, constantValue := 0 }, { name := "GROW", type := .int, accessFlags := 24, slot := 2, constantValue := 0 }, { name := "SPARSEST", type := .int, accessFlags := 24, slot := 3, constantValue := 0 }, { name := "MOST_UNITS", type := .int, accessFlags := 24, slot := 4, constantValue := 0 }, { name := "BLOCK", type := .int, accessFlags := 24, slot := 5, constantValue := 0 }, { name := "PASSED", type := .int, accessFlags := 24, slot := 6, constantValue := 0 }, { name := "NO_AXES", type := (.array (.object "com/example/pandarus/pandarus/Axis")), accessFlags := 26, slot := 7, constantValue := 0 }, { name := "NONE", type := .int, accessFlags := 26, slot := 8, constantValue := 0 }, { name := "order", type := (.object "com/example/pandarus/pandarus/Ranked$Order"), accessFlags := 18, slot := 0, constantValue := 0 }, { name := "plan", type := (.object "com/example/pandarus/pandarus/RangeIndex$Plan"), accessFlags := 18, slot := 1, constantValue := 0 }, { name := "chunks", type := (.array (.object "com/example/pandarus/pandarus/RangeIndex$Part")), accessFlags := 2, slot := 2, constantValue := 0 }, { name := "count", type := .int, accessFlags := 2, slot := 3, constantValue := 0 }, { name := "size", type := .int, accessFlags := 2, slot := 4, constantValue := 0 }]
  methods := #[k2m0]
  instanceTypes := #[(.object "com/example/pandarus/pandarus/Ranked$Order"), (.object "com/example/pandarus/pandarus/RangeIndex$Plan"), (.array (.object "com/example/pandarus/pandarus/RangeIndex$Part")), .int, .int]
  staticTypes := #[.int, .int, .int, .int, .int, .int, .int, (.array (.object "com/example/pandarus/pandarus/Axis")), .int]
  resolved := Array.replicate 278 none
  statics := none }

def pool3 : Array CpInfo := pool [(1, u "java/lang/Cloneable"), (0, .class_ 1), (0, u "java/lang/Object"), (0, .class_ 3)] 3

/-- java/lang/Cloneable -/
def k3 : Class := { plain "java/lang/Cloneable" (some 0) with
  accessFlags := 1537
  interfaces := #[]
  cf := some (fileOf pool3 2 #[] #[] 1537 4 #[] #[])
  fields := #[]
  methods := #[]
  instanceTypes := #[]
  staticTypes := #[]
  resolved := Array.replicate 8 none
  statics := none }

def pool4 : Array CpInfo := pool [(1, u "java/io/Serializable"), (0, .class_ 1), (0, u "java/lang/Object"), (0, .class_ 3)] 3

/-- java/io/Serializable -/
def k4 : Class := { plain "java/io/Serializable" (some 0) with
  accessFlags := 1537
  interfaces := #[]
  cf := some (fileOf pool4 2 #[] #[] 1537 4 #[] #[])
  fields := #[]
  methods := #[]
  instanceTypes := #[]
  staticTypes := #[]
  resolved := Array.replicate 8 none
  statics := none }

/-- the primitive byte -/
def k5 : Class := { plain "byte" none with kind := .primitive 'B', accessFlags := 0x411 }
/-- [B -/
def k6 : Class := { plain "[B" (some 0) with kind := .array 5 .byte, interfaces := #[3, 4], accessFlags := 1041 }

/-- the primitive int -/
def k7 : Class := { plain "int" none with kind := .primitive 'I', accessFlags := 0x411 }
/-- [I -/
def k8 : Class := { plain "[I" (some 0) with kind := .array 7 .int, interfaces := #[3, 4], accessFlags := 1041 }

def heap : Heap := #[]
def classes : Array Class := #[k0, k1, k2, k3, k4, k5, k6, k7, k8]
def interned : List (Array UInt16 × Addr) := []
def slotsUsed : Nat := 0
def theMethod : MethodId := ⟨1, 1⟩
def args0 : Array Value := #[.int 5, .int 3, .int 2]
def aboutOver (below : List Frame) : State where
  vm := { classes := classes, interned := interned.toArray }
  heap := heap
  slotsUsed := slotsUsed
  threads := #[{ frames := .invoking theMethod args0 :: below }]
def below0 : List Frame := [.native { method := ⟨0, 0⟩, args := #[] }]
def about1 : State := aboutOver below0
def p0 : Program := .bare "" "" ""
def e0 : Env := launch0.env 0 0 0
theorem w_frames : about1.frames = Frame.invoking theMethod args0 :: below0 := rfl
set_option maxRecDepth 65536 in
theorem w_args : argsFit about1.vm theMethod args0 = true := by decide +kernel
set_option maxRecDepth 65536 in
theorem w_heap : heapFits about1 = true := by decide +kernel
set_option maxRecDepth 65536 in
theorem w_runnable : about1.curStatus? = some .runnable := by decide +kernel
set_option maxRecDepth 65536 in
theorem w_alone : about1.alone = true := by decide +kernel
set_option maxRecDepth 65536 in
theorem w_named : about1.methodNamed? x = some theMethod := by decide +kernel
set_option maxRecDepth 65536 in
theorem w_hears : about1.hears theMethod below0 = true := by decide +kernel
set_option maxRecDepth 65536 in
theorem w_ripe : about1.ripe theMethod args0 below0 = true := by decide +kernel
theorem w_running : about1.status = .running := rfl
set_option maxRecDepth 65536 in
theorem w_room : about1.hasRoom e0.platform room_1 = true :=
  launch0.hasRoom_least _ room_1 (by decide +kernel) (by decide +kernel) (by decide +kernel) (by decide +kernel) (by decide +kernel) (by decide +kernel)
theorem allAtoms_all (ts : List Jvm.Cond) (a : Array Jvm.Value) (st : Jvm.State) : (allAtoms ts).before a st = ts.all (fun c => c.before a st) := by
  induction ts with
  | nil => rfl
  | cons c t ih =>
    show (Jvm.Cond.and c (allAtoms t)).before a st = _
    rw [Jvm.Cond.before_and, ih, List.all_cons]
def words1 : List Jvm.Cond := Jvm.Cond.code x code maxLocals ret :: tables_1
/-- a 'code' word, met by the world's own term for the bytes: nothing is compared byte by byte -/
theorem code_word {y : MethodName} {bytes : ByteArray} {mx : Nat} {rt : Option FieldType} {a : Array Value} {s : State} {m : MethodId} {meth : Method} {c : Code} (h1 : s.methodNamed? y = some m) (h2 : s.vm.method? m = some meth) (h3 : meth.code = some c) (h4 : c.code = bytes)
    (h5 : (c.maxLocals == mx && c.exceptionTable.isEmpty && decide (c.maxStack ≤ mostOperands) && decide (meth.sig.returnType = rt) && !meth.locks && decide (parseMethodDescriptor y.desc = some meth.sig)) = true) : (Jvm.Cond.code y bytes mx rt).before a s = true := by
  simp only [Bool.and_eq_true, beq_iff_eq, Bool.not_eq_true', decide_eq_true_eq] at h5
  obtain ⟨⟨⟨⟨⟨g1, g2⟩, g3⟩, g4⟩, g5⟩, g6⟩ := h5
  simp [Cond.before, Cond.holds, Cond.value, h1, h2, h3, h4, g1, g2, g3, g4, g5, g6]
def isCode : Jvm.Cond → Bool
  | .code _ _ _ _ => true
  | _ => false
theorem all_split {L : List Jvm.Cond} {P : Jvm.Cond → Bool} (h1 : L.all (fun c => isCode c || P c) = true) (h2 : ∀ c ∈ L.filter isCode, P c = true) : L.all P = true := by
  refine List.all_eq_true.mpr fun c hc => ?_
  have h := List.all_eq_true.mp h1 c hc
  rcases Bool.eq_false_or_eq_true (isCode c) with hi | hi
  · exact h2 c (List.mem_filter.mpr ⟨hc, hi⟩)
  · simpa [hi] using h
set_option maxRecDepth 65536 in
theorem w_c0 : (Jvm.Cond.code x code maxLocals ret).before args0 about1 = true := code_word (m := ⟨1, 1⟩) (meth := k1m1) (c := k1c1) (by decide +kernel) rfl rfl rfl (by decide +kernel)
set_option maxRecDepth 65536 in
theorem w_c1 : (Jvm.Cond.code ({ cls := "com/example/pandarus/pandarus/RangeIndex", name := "unit", desc := "(D)F" } : Jvm.MethodName) prog_41_method_19_code (3 : Nat) (Option.some Jvm.ClassFile.FieldType.float)).before args0 about1 = true := code_word (m := ⟨2, 0⟩) (meth := k2m0) (c := k2c0) (by decide +kernel) rfl rfl rfl (by decide +kernel)
set_option maxRecDepth 65536 in
theorem w_c2 : (Jvm.Cond.code ({ cls := "com/example/pandarus/pandarus/RangeIndexUnitPinLaw", name := "ceilLog2", desc := "(I)I" } : Jvm.MethodName) method_3_code (1 : Nat) (Option.some Jvm.ClassFile.FieldType.int)).before args0 about1 = true := code_word (m := ⟨1, 2⟩) (meth := k1m2) (c := k1c2) (by decide +kernel) rfl rfl rfl (by decide +kernel)
set_option maxRecDepth 65536 in
theorem w_c3 : (Jvm.Cond.code ({ cls := "com/example/pandarus/pandarus/RangeIndexUnitPinLaw", name := "pow2", desc := "(I)F" } : Jvm.MethodName) method_5_code (5 : Nat) (Option.some Jvm.ClassFile.FieldType.float)).before args0 about1 = true := code_word (m := ⟨1, 4⟩) (meth := k1m4) (c := k1c4) (by decide +kernel) rfl rfl rfl (by decide +kernel)
set_option maxRecDepth 65536 in
theorem w_c4 : (Jvm.Cond.code ({ cls := "com/example/pandarus/pandarus/RangeIndexUnitPinLaw", name := "floorLog2", desc := "(I)I" } : Jvm.MethodName) method_4_code (3 : Nat) (Option.some Jvm.ClassFile.FieldType.int)).before args0 about1 = true := code_word (m := ⟨1, 3⟩) (meth := k1m3) (c := k1c3) (by decide +kernel) rfl rfl rfl (by decide +kernel)
def codes1 : List Jvm.Cond := [Jvm.Cond.code x code maxLocals ret, Jvm.Cond.code ({ cls := "com/example/pandarus/pandarus/RangeIndex", name := "unit", desc := "(D)F" } : Jvm.MethodName) prog_41_method_19_code (3 : Nat) (Option.some Jvm.ClassFile.FieldType.float), Jvm.Cond.code ({ cls := "com/example/pandarus/pandarus/RangeIndexUnitPinLaw", name := "ceilLog2", desc := "(I)I" } : Jvm.MethodName) method_3_code (1 : Nat) (Option.some Jvm.ClassFile.FieldType.int), Jvm.Cond.code ({ cls := "com/example/pandarus/pandarus/RangeIndexUnitPinLaw", name := "pow2", desc := "(I)F" } : Jvm.MethodName) method_5_code (5 : Nat) (Option.some Jvm.ClassFile.FieldType.float), Jvm.Cond.code ({ cls := "com/example/pandarus/pandarus/RangeIndexUnitPinLaw", name := "floorLog2", desc := "(I)I" } : Jvm.MethodName) method_4_code (3 : Nat) (Option.some Jvm.ClassFile.FieldType.int)]
set_option maxRecDepth 65536 in
theorem codes_eq : words1.filter isCode = codes1 := rfl
theorem w_codes : ∀ c ∈ words1.filter isCode, c.before args0 about1 = true := by
  rw [codes_eq]
  intro c hc
  simp only [codes1, List.mem_cons, List.not_mem_nil, or_false] at hc
  rcases hc with rfl | rfl | rfl | rfl | rfl
  · exact w_c0
  · exact w_c1
  · exact w_c2
  · exact w_c3
  · exact w_c4
set_option maxRecDepth 65536 in
theorem w_t1 : (words1.take 24).all (fun c => isCode c || c.before args0 about1) = true := by decide +kernel
set_option maxRecDepth 65536 in
theorem w_t2 : (words1.drop 24).all (fun c => isCode c || c.before args0 about1) = true := by decide +kernel
theorem w_tables : (allAtoms (Jvm.Cond.code x code maxLocals ret :: tables_1)).before args0 about1 = true := by
  rw [allAtoms_all]
  show words1.all (fun c => c.before args0 about1) = true
  refine all_split ?_ w_codes
  rw [← List.take_append_drop 24 words1, List.all_append, w_t1, w_t2]
  rfl
set_option maxRecDepth 65536 in
theorem w_case : (Jvm.Cond.and given_1 narrow_1).before args0 about1 = true := by decide +kernel
theorem w_applies : (headSpec (Jvm.Cond.code x code maxLocals ret :: tables_1) room_1).applies x e0.platform about1 = true :=
  (Spec.applies_iff w_frames).mpr ⟨w_running, w_runnable, w_alone, w_named, w_hears, w_ripe, w_room, w_tables⟩
theorem atStart : AtStart classFile x code maxLocals ret World_1 tables_1 room_1 Calls_1 rest_1 Pre_1 launch0 p0 e0 about1 theMethod args0 below0 :=
  ⟨lists_1, trivial, launch0.admits_env _ _ _, launch0.least_env, fairChoices_fair.cas, fairChoices_fair.clock, w_frames, w_args, w_heap, w_applies, trivial, trivial, w_case⟩
end start1
theorem witness_1 : WitnessClaimed_1 := ⟨start1.p0, start1.e0, start1.about1, start1.theMethod, start1.args0, start1.below0, start1.atStart⟩
end Jvm.Pilot.@@N@@
