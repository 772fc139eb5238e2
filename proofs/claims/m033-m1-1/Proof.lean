import JvmDerived
import JvmDerived.Pilot.@@N@@Statement
import JvmDerived.Pilot.@@N@@Code
set_option linter.unusedVariables false
set_option linter.unusedSimpArgs false
namespace Jvm.Pilot.@@N@@
open Jvm Jvm.ClassFile Sem Op Lib Jvm.Free Jvm.Stand Jvm.LawKit Jvm.RoadKit Bundle Jvm.Pilot.@@N@@.Jvm.D
/-! own kit: the walk in program order: own_G says that from this frame on the run ends as promised -/
def own_G (tb : Tables) (e : Env) (below : List Frame) (P : Outcome → State → Prop) (T : State) (f : JFrame) : Prop :=
  ∃ s₂ o, Steps tb e below (T.setTop f) s₂ ∧ s₂.status = .running ∧ Ended s₂ below o ∧ P o s₂
def own_P (s : State) (Q : Option Value → Heap → List Loc → Prop) (C S : Nat) (o : Outcome) (U : State) : Prop :=
  ∃ v L, o = .returned v ∧ Q v U.heap L ∧ FrameEnd s o U L C S
theorem own_go {tb : Tables} {e : Env} {below : List Frame} {P : Outcome → State → Prop} {T T' : State} {f f' : JFrame} (st : ∀ target, Steps tb e below (T'.setTop f') target → Steps tb e below (T.setTop f) target) (k : own_G tb e below P T' f') : own_G tb e below P T f := by
  obtain ⟨s₂, o, h1, h2⟩ := k
  exact ⟨s₂, o, st _ h1, h2⟩
section OwnKit
variable {p : Program} {l : Launch} {e : Env} {R : Room} {s : State} {m : MethodId} {args : Array Value} {below : List Frame} {meth : Method} {c : Code} {T : State} {locs : List Loc} {cells slots : Nat} {Z : State} {a0 : Array Value} {h : Heap} {P : Outcome → State → Prop}
theorem own_body {y : MethodName} {bytes : ByteArray} {maxL : Nat} {ret : Option FieldType} {ws : List Jvm.Cond} {rm : Room} {as' : Array Value} {Q : Option Value → Heap → List Loc → Prop} {C S : Nat} (pn : plainFor y = true)
    (body : ∀ p e s m below meth c s₁, p.tables.exec = Jvm.exec → c.code = bytes → c.maxLocals = maxL → s.vm.findClass y.cls = some m.cls → meth.name = y.name → meth.locks = false → meth.sig.returnType = ret → Z.Warmed39 s.vm → Stand p l e rm s m as' below meth c s₁ [] 0 0 → s₁.heap = h →
      own_G p.tables e below (own_P s Q C S) s₁ (entryFrame m as' maxL)) :
    MetFree l y (head1 (Jvm.Cond.code y bytes maxL ret :: ws) rm) (fun a U => a = as' ∧ Z.Warmed39 U.vm ∧ U.heap = h) (fun _ _ _ _ _ => True) (fun _ U o U' => ∃ v L, o = .returned v ∧ Q v U'.heap L ∧ FrameEnd U o U' L C S) := by
  refine MetFree.of_bodySF (maxLocals := maxL) (ret := ret) (code := bytes) pn hisR ?_
  intro p e s m args below meth c s₁ Bd hml0 hP hK
  obtain ⟨rfl, hZ, hh⟩ := hP
  exact body p e s m below meth c s₁ Bd.exec Bd.bytes hml0 (findClass_of_methodNamed Bd.named) (name_of_methodNamed Bd.named Bd.method).1 (BodyLoose.notSynchronized Bd) Bd.returns hZ (Stand.of_body Bd) (by rw [← hh, Bd.state]; rfl)
theorem own_ret {v : Option Value} {f : JFrame} {Q : Option Value → Heap → List Loc → Prop} {C S : Nat} (X : Stand p l e R s m args below meth c T locs cells slots) (hlk : meth.locks = false) (hv : meth.sig.returnType = none → v = none)
    (st : ∀ fs, (∀ (f : JFrame) (acts : List Action), f.method = m → f.locked = none → f.entered = [] → (doReturn e (T.setTop f) acts v).1 = T.setFrames fs) → Steps p.tables e below (T.setTop f) (T.setFrames fs)) (hC : cells ≤ C) (hS : slots ≤ S) (hq : Q v T.heap locs) : own_G p.tables e below (own_P s Q C S) T f := by
  obtain ⟨fs, hr, hrun, hended, hW, hsame⟩ := X.leave (v := v) hv hlk
  exact ⟨_, _, st fs hr, hrun, hended, _, _, rfl, hq, ⟨_, rfl⟩, hW, hsame.mono hC hS⟩
theorem own_retN {Q : Option Value → Heap → List Loc → Prop} {C S : Nat} (X : Stand p l e R s m args below meth c T locs cells slots) (hx : p.tables.exec = Jvm.exec) (hlk : meth.locks = false) {t : FieldType} (hret : meth.sig.returnType = some t) (ht : t = .boolean ∨ t = .byte ∨ t = .char ∨ t = .short) {pc : Nat} {Ls : Array Slot} {z : Int32} {rest : List Value} (hd : decode c.code pc = .ok (.ireturn, 1)) (hC : cells ≤ C) (hS : slots ≤ S) (hq : Q (some (.int (nar t z))) T.heap locs) :
    own_G p.tables e below (own_P s Q C S) T (mkF m pc Ls (.int z :: rest)) :=
  own_ret X hlk (fun h => by rw [hret] at h; cases h) (fun fs hr => retN X hx hret ht hd hr) hC hS hq
theorem own_retI {Q : Option Value → Heap → List Loc → Prop} {C S : Nat} (X : Stand p l e R s m args below meth c T locs cells slots) (hx : p.tables.exec = Jvm.exec) (hlk : meth.locks = false) (hret : meth.sig.returnType = some .int) {pc : Nat} {Ls : Array Slot} {z : Int32} {rest : List Value} (hd : decode c.code pc = .ok (.ireturn, 1)) (hC : cells ≤ C) (hS : slots ≤ S) (hq : Q (some (.int z)) T.heap locs) :
    own_G p.tables e below (own_P s Q C S) T (mkF m pc Ls (.int z :: rest)) :=
  own_ret X hlk (fun h => by rw [hret] at h; cases h) (fun fs hr => retOut X hx hret rfl (Or.inl ⟨rfl, Or.inl rfl, z, rfl⟩) hd hr) hC hS hq
theorem own_retJ {Q : Option Value → Heap → List Loc → Prop} {C S : Nat} (X : Stand p l e R s m args below meth c T locs cells slots) (hx : p.tables.exec = Jvm.exec) (hlk : meth.locks = false) (hret : meth.sig.returnType = some .long) {pc : Nat} {Ls : Array Slot} {z : Int64} {rest : List Value} (hd : decode c.code pc = .ok (.lreturn, 1)) (hC : cells ≤ C) (hS : slots ≤ S) (hq : Q (some (.long z)) T.heap locs) :
    own_G p.tables e below (own_P s Q C S) T (mkF m pc Ls (.long z :: rest)) :=
  own_ret X hlk (fun h => by rw [hret] at h; cases h) (fun fs hr => retOut X hx hret rfl (Or.inr (Or.inl ⟨rfl, rfl, z, rfl⟩)) hd hr) hC hS hq
theorem own_retA {Q : Option Value → Heap → List Loc → Prop} {C S : Nat} (X : Stand p l e R s m args below meth c T locs cells slots) (hx : p.tables.exec = Jvm.exec) (hlk : meth.locks = false) {t : FieldType} (hret : meth.sig.returnType = some t) (ht : t.isReference = true) {pc : Nat} {Ls : Array Slot} {w : Value} {rest : List Value} (hw : w.isRef = true) (hn : narrow t w = w) (hd : decode c.code pc = .ok (.areturn, 1)) (hC : cells ≤ C) (hS : slots ≤ S) (hq : Q (some w) T.heap locs) :
    own_G p.tables e below (own_P s Q C S) T (mkF m pc Ls (w :: rest)) :=
  own_ret X hlk (fun h => by rw [hret] at h; cases h) (fun fs hr => retOut X hx hret hn (Or.inr (Or.inr (Or.inr (Or.inr ⟨rfl, ht, hw⟩)))) hd hr) hC hS hq
theorem own_retV {Q : Option Value → Heap → List Loc → Prop} {C S : Nat} (X : Stand p l e R s m args below meth c T locs cells slots) (hx : p.tables.exec = Jvm.exec) (hlk : meth.locks = false) (hret : meth.sig.returnType = none) {pc : Nat} {Ls : Array Slot} (hd : decode c.code pc = .ok (.return_, 1)) (hC : cells ≤ C) (hS : slots ≤ S) (hq : Q none T.heap locs) :
    own_G p.tables e below (own_P s Q C S) T (mkF m pc Ls []) :=
  own_ret X hlk (fun h => rfl) (fun fs hr => X.returnOut hx hret hd hr) hC hS hq
theorem own_iadd (X : Stand p l e R s m args below meth c T locs cells slots) (hx : p.tables.exec = Jvm.exec) {pc pc' : Nat} {Ls : Array Slot} {x y z : Int32} {rest : List Value} (hd : decode c.code pc = .ok (.iadd, 1)) (hz : x + y = z) (hp : pc + 1 = pc') (k : own_G p.tables e below P T (mkF m pc' Ls (.int z :: rest))) : own_G p.tables e below P T (mkF m pc Ls (.int y :: .int x :: rest)) := by
  subst hp; subst hz; exact own_go (fun t q => XS.iadd X.here hx rfl hd rfl q) k
theorem own_isub (X : Stand p l e R s m args below meth c T locs cells slots) (hx : p.tables.exec = Jvm.exec) {pc pc' : Nat} {Ls : Array Slot} {x y z : Int32} {rest : List Value} (hd : decode c.code pc = .ok (.isub, 1)) (hz : x - y = z) (hp : pc + 1 = pc') (k : own_G p.tables e below P T (mkF m pc' Ls (.int z :: rest))) : own_G p.tables e below P T (mkF m pc Ls (.int y :: .int x :: rest)) := by
  subst hp; subst hz; exact own_go (fun t q => XS.isub X.here hx rfl hd rfl q) k
theorem own_imul (X : Stand p l e R s m args below meth c T locs cells slots) (hx : p.tables.exec = Jvm.exec) {pc pc' : Nat} {Ls : Array Slot} {x y z : Int32} {rest : List Value} (hd : decode c.code pc = .ok (.imul, 1)) (hz : x * y = z) (hp : pc + 1 = pc') (k : own_G p.tables e below P T (mkF m pc' Ls (.int z :: rest))) : own_G p.tables e below P T (mkF m pc Ls (.int y :: .int x :: rest)) := by
  subst hp; subst hz; exact own_go (fun t q => XS.imul X.here hx rfl hd rfl q) k
theorem own_iand (X : Stand p l e R s m args below meth c T locs cells slots) (hx : p.tables.exec = Jvm.exec) {pc pc' : Nat} {Ls : Array Slot} {x y z : Int32} {rest : List Value} (hd : decode c.code pc = .ok (.iand, 1)) (hz : x &&& y = z) (hp : pc + 1 = pc') (k : own_G p.tables e below P T (mkF m pc' Ls (.int z :: rest))) : own_G p.tables e below P T (mkF m pc Ls (.int y :: .int x :: rest)) := by
  subst hp; subst hz; exact own_go (fun t q => XS.iand X.here hx rfl hd rfl q) k
theorem own_ior (X : Stand p l e R s m args below meth c T locs cells slots) (hx : p.tables.exec = Jvm.exec) {pc pc' : Nat} {Ls : Array Slot} {x y z : Int32} {rest : List Value} (hd : decode c.code pc = .ok (.ior, 1)) (hz : x ||| y = z) (hp : pc + 1 = pc') (k : own_G p.tables e below P T (mkF m pc' Ls (.int z :: rest))) : own_G p.tables e below P T (mkF m pc Ls (.int y :: .int x :: rest)) := by
  subst hp; subst hz; exact own_go (fun t q => XS.ior X.here hx rfl hd rfl q) k
theorem own_ixor (X : Stand p l e R s m args below meth c T locs cells slots) (hx : p.tables.exec = Jvm.exec) {pc pc' : Nat} {Ls : Array Slot} {x y z : Int32} {rest : List Value} (hd : decode c.code pc = .ok (.ixor, 1)) (hz : x ^^^ y = z) (hp : pc + 1 = pc') (k : own_G p.tables e below P T (mkF m pc' Ls (.int z :: rest))) : own_G p.tables e below P T (mkF m pc Ls (.int y :: .int x :: rest)) := by
  subst hp; subst hz; exact own_go (fun t q => XS.ixor X.here hx rfl hd rfl q) k
theorem own_ladd (X : Stand p l e R s m args below meth c T locs cells slots) (hx : p.tables.exec = Jvm.exec) {pc pc' : Nat} {Ls : Array Slot} {x y z : Int64} {rest : List Value} (hd : decode c.code pc = .ok (.ladd, 1)) (hz : x + y = z) (hp : pc + 1 = pc') (k : own_G p.tables e below P T (mkF m pc' Ls (.long z :: rest))) : own_G p.tables e below P T (mkF m pc Ls (.long y :: .long x :: rest)) := by
  subst hp; subst hz; exact own_go (fun t q => XS.ladd X.here hx rfl hd rfl q) k
theorem own_lsub (X : Stand p l e R s m args below meth c T locs cells slots) (hx : p.tables.exec = Jvm.exec) {pc pc' : Nat} {Ls : Array Slot} {x y z : Int64} {rest : List Value} (hd : decode c.code pc = .ok (.lsub, 1)) (hz : x - y = z) (hp : pc + 1 = pc') (k : own_G p.tables e below P T (mkF m pc' Ls (.long z :: rest))) : own_G p.tables e below P T (mkF m pc Ls (.long y :: .long x :: rest)) := by
  subst hp; subst hz; exact own_go (fun t q => XS.lsub X.here hx rfl hd rfl q) k
theorem own_lmul (X : Stand p l e R s m args below meth c T locs cells slots) (hx : p.tables.exec = Jvm.exec) {pc pc' : Nat} {Ls : Array Slot} {x y z : Int64} {rest : List Value} (hd : decode c.code pc = .ok (.lmul, 1)) (hz : x * y = z) (hp : pc + 1 = pc') (k : own_G p.tables e below P T (mkF m pc' Ls (.long z :: rest))) : own_G p.tables e below P T (mkF m pc Ls (.long y :: .long x :: rest)) := by
  subst hp; subst hz; exact own_go (fun t q => XS.lmul X.here hx rfl hd rfl q) k
theorem own_land (X : Stand p l e R s m args below meth c T locs cells slots) (hx : p.tables.exec = Jvm.exec) {pc pc' : Nat} {Ls : Array Slot} {x y z : Int64} {rest : List Value} (hd : decode c.code pc = .ok (.land, 1)) (hz : x &&& y = z) (hp : pc + 1 = pc') (k : own_G p.tables e below P T (mkF m pc' Ls (.long z :: rest))) : own_G p.tables e below P T (mkF m pc Ls (.long y :: .long x :: rest)) := by
  subst hp; subst hz; exact own_go (fun t q => XS.land X.here hx rfl hd rfl q) k
theorem own_lor (X : Stand p l e R s m args below meth c T locs cells slots) (hx : p.tables.exec = Jvm.exec) {pc pc' : Nat} {Ls : Array Slot} {x y z : Int64} {rest : List Value} (hd : decode c.code pc = .ok (.lor, 1)) (hz : x ||| y = z) (hp : pc + 1 = pc') (k : own_G p.tables e below P T (mkF m pc' Ls (.long z :: rest))) : own_G p.tables e below P T (mkF m pc Ls (.long y :: .long x :: rest)) := by
  subst hp; subst hz; exact own_go (fun t q => XS.lor X.here hx rfl hd rfl q) k
theorem own_lxor (X : Stand p l e R s m args below meth c T locs cells slots) (hx : p.tables.exec = Jvm.exec) {pc pc' : Nat} {Ls : Array Slot} {x y z : Int64} {rest : List Value} (hd : decode c.code pc = .ok (.lxor, 1)) (hz : x ^^^ y = z) (hp : pc + 1 = pc') (k : own_G p.tables e below P T (mkF m pc' Ls (.long z :: rest))) : own_G p.tables e below P T (mkF m pc Ls (.long y :: .long x :: rest)) := by
  subst hp; subst hz; exact own_go (fun t q => XS.lxor X.here hx rfl hd rfl q) k
theorem own_ishl (X : Stand p l e R s m args below meth c T locs cells slots) (hx : p.tables.exec = Jvm.exec) {pc pc' : Nat} {Ls : Array Slot} {x y : Int32} {rest : List Value} (hd : decode c.code pc = .ok (.ishl, 1)) (hp : pc + 1 = pc') (k : own_G p.tables e below P T (mkF m pc' Ls (.int (x <<< (y &&& 31)) :: rest))) : own_G p.tables e below P T (mkF m pc Ls (.int y :: .int x :: rest)) := by
  subst hp; exact own_go (fun t q => XS.ishl X.here hx rfl hd rfl q) k
theorem own_ishr (X : Stand p l e R s m args below meth c T locs cells slots) (hx : p.tables.exec = Jvm.exec) {pc pc' : Nat} {Ls : Array Slot} {x y : Int32} {rest : List Value} (hd : decode c.code pc = .ok (.ishr, 1)) (hp : pc + 1 = pc') (k : own_G p.tables e below P T (mkF m pc' Ls (.int (x >>> (y &&& 31)) :: rest))) : own_G p.tables e below P T (mkF m pc Ls (.int y :: .int x :: rest)) := by
  subst hp; exact own_go (fun t q => XS.ishr X.here hx rfl hd rfl q) k
theorem own_iushr (X : Stand p l e R s m args below meth c T locs cells slots) (hx : p.tables.exec = Jvm.exec) {pc pc' : Nat} {Ls : Array Slot} {x y : Int32} {rest : List Value} (hd : decode c.code pc = .ok (.iushr, 1)) (hp : pc + 1 = pc') (k : own_G p.tables e below P T (mkF m pc' Ls (.int ((x.toUInt32 >>> (y &&& 31).toUInt32).toInt32) :: rest))) : own_G p.tables e below P T (mkF m pc Ls (.int y :: .int x :: rest)) := by
  subst hp; exact own_go (fun t q => XS.iushr X.here hx rfl hd rfl q) k
theorem own_lshl (X : Stand p l e R s m args below meth c T locs cells slots) (hx : p.tables.exec = Jvm.exec) {pc pc' : Nat} {Ls : Array Slot} {x : Int64} {y : Int32} {rest : List Value} (hd : decode c.code pc = .ok (.lshl, 1)) (hp : pc + 1 = pc') (k : own_G p.tables e below P T (mkF m pc' Ls (.long (x <<< (y &&& 0x3f).toInt64) :: rest))) : own_G p.tables e below P T (mkF m pc Ls (.int y :: .long x :: rest)) := by
  subst hp; exact own_go (fun t q => XS.lshl X.here hx rfl hd rfl q) k
theorem own_lshr (X : Stand p l e R s m args below meth c T locs cells slots) (hx : p.tables.exec = Jvm.exec) {pc pc' : Nat} {Ls : Array Slot} {x : Int64} {y : Int32} {rest : List Value} (hd : decode c.code pc = .ok (.lshr, 1)) (hp : pc + 1 = pc') (k : own_G p.tables e below P T (mkF m pc' Ls (.long (x >>> (y &&& 0x3f).toInt64) :: rest))) : own_G p.tables e below P T (mkF m pc Ls (.int y :: .long x :: rest)) := by
  subst hp; exact own_go (fun t q => XS.lshr X.here hx rfl hd rfl q) k
theorem own_lushr (X : Stand p l e R s m args below meth c T locs cells slots) (hx : p.tables.exec = Jvm.exec) {pc pc' : Nat} {Ls : Array Slot} {x : Int64} {y : Int32} {rest : List Value} (hd : decode c.code pc = .ok (.lushr, 1)) (hp : pc + 1 = pc') (k : own_G p.tables e below P T (mkF m pc' Ls (.long ((x.toUInt64 >>> (y &&& 0x3f).toInt64.toUInt64).toInt64) :: rest))) : own_G p.tables e below P T (mkF m pc Ls (.int y :: .long x :: rest)) := by
  subst hp; exact own_go (fun t q => XS.lushr X.here hx rfl hd rfl q) k
theorem own_i2l (X : Stand p l e R s m args below meth c T locs cells slots) (hx : p.tables.exec = Jvm.exec) {pc pc' : Nat} {Ls : Array Slot} {x : Int32} {rest : List Value} (hd : decode c.code pc = .ok (.i2l, 1)) (hp : pc + 1 = pc') (k : own_G p.tables e below P T (mkF m pc' Ls (.long (x.toInt64) :: rest))) : own_G p.tables e below P T (mkF m pc Ls (.int x :: rest)) := by
  subst hp; exact own_go (fun t q => XS.i2l X.here hx rfl hd rfl q) k
theorem own_l2i (X : Stand p l e R s m args below meth c T locs cells slots) (hx : p.tables.exec = Jvm.exec) {pc pc' : Nat} {Ls : Array Slot} {x : Int64} {rest : List Value} (hd : decode c.code pc = .ok (.l2i, 1)) (hp : pc + 1 = pc') (k : own_G p.tables e below P T (mkF m pc' Ls (.int (x.toInt32) :: rest))) : own_G p.tables e below P T (mkF m pc Ls (.long x :: rest)) := by
  subst hp; exact own_go (fun t q => XS.l2i X.here hx rfl hd rfl q) k
theorem own_i2b (X : Stand p l e R s m args below meth c T locs cells slots) (hx : p.tables.exec = Jvm.exec) {pc pc' : Nat} {Ls : Array Slot} {x : Int32} {rest : List Value} (hd : decode c.code pc = .ok (.i2b, 1)) (hp : pc + 1 = pc') (k : own_G p.tables e below P T (mkF m pc' Ls (.int (x.toInt8.toInt32) :: rest))) : own_G p.tables e below P T (mkF m pc Ls (.int x :: rest)) := by
  subst hp; exact own_go (fun t q => XS.i2b X.here hx rfl hd rfl q) k
theorem own_i2s (X : Stand p l e R s m args below meth c T locs cells slots) (hx : p.tables.exec = Jvm.exec) {pc pc' : Nat} {Ls : Array Slot} {x : Int32} {rest : List Value} (hd : decode c.code pc = .ok (.i2s, 1)) (hp : pc + 1 = pc') (k : own_G p.tables e below P T (mkF m pc' Ls (.int (x.toInt16.toInt32) :: rest))) : own_G p.tables e below P T (mkF m pc Ls (.int x :: rest)) := by
  subst hp; exact own_go (fun t q => XS.i2s X.here hx rfl hd rfl q) k
theorem own_i2c (X : Stand p l e R s m args below meth c T locs cells slots) (hx : p.tables.exec = Jvm.exec) {pc pc' : Nat} {Ls : Array Slot} {x : Int32} {rest : List Value} (hd : decode c.code pc = .ok (.i2c, 1)) (hp : pc + 1 = pc') (k : own_G p.tables e below P T (mkF m pc' Ls (.int (x.toUInt32.toUInt16.toUInt32.toInt32) :: rest))) : own_G p.tables e below P T (mkF m pc Ls (.int x :: rest)) := by
  subst hp; exact own_go (fun t q => XS.i2c X.here hx rfl hd rfl q) k
theorem own_ineg (X : Stand p l e R s m args below meth c T locs cells slots) (hx : p.tables.exec = Jvm.exec) {pc pc' : Nat} {Ls : Array Slot} {x : Int32} {rest : List Value} (hd : decode c.code pc = .ok (.ineg, 1)) (hp : pc + 1 = pc') (k : own_G p.tables e below P T (mkF m pc' Ls (.int (-x) :: rest))) : own_G p.tables e below P T (mkF m pc Ls (.int x :: rest)) := by
  subst hp; exact own_go (fun t q => XS.ineg X.here hx rfl hd rfl q) k
theorem own_lneg (X : Stand p l e R s m args below meth c T locs cells slots) (hx : p.tables.exec = Jvm.exec) {pc pc' : Nat} {Ls : Array Slot} {x : Int64} {rest : List Value} (hd : decode c.code pc = .ok (.lneg, 1)) (hp : pc + 1 = pc') (k : own_G p.tables e below P T (mkF m pc' Ls (.long (-x) :: rest))) : own_G p.tables e below P T (mkF m pc Ls (.long x :: rest)) := by
  subst hp; exact own_go (fun t q => XS.lneg X.here hx rfl hd rfl q) k
theorem own_lcmp (X : Stand p l e R s m args below meth c T locs cells slots) (hx : p.tables.exec = Jvm.exec) {pc pc' : Nat} {Ls : Array Slot} {x y : Int64} {rest : List Value} (hd : decode c.code pc = .ok (.lcmp, 1)) (hp : pc + 1 = pc') (k : own_G p.tables e below P T (mkF m pc' Ls (.int (lcmpW x y) :: rest))) : own_G p.tables e below P T (mkF m pc Ls (.long y :: .long x :: rest)) := by
  subst hp; exact own_go (fun t q => XS.lcmp X.here hx rfl hd rfl q) k
theorem own_idiv (X : Stand p l e R s m args below meth c T locs cells slots) (hx : p.tables.exec = Jvm.exec) {pc pc' : Nat} {Ls : Array Slot} {x y z : Int32} {rest : List Value} (hd : decode c.code pc = .ok (.idiv, 1)) (hz : x / y = z) (hy : y ≠ 0) (hp : pc + 1 = pc') (k : own_G p.tables e below P T (mkF m pc' Ls (.int z :: rest))) : own_G p.tables e below P T (mkF m pc Ls (.int y :: .int x :: rest)) := by
  subst hp; subst hz; exact own_go (fun t q => XS.idiv X.here hx rfl hd rfl hy q) k
theorem own_irem (X : Stand p l e R s m args below meth c T locs cells slots) (hx : p.tables.exec = Jvm.exec) {pc pc' : Nat} {Ls : Array Slot} {x y : Int32} {rest : List Value} (hd : decode c.code pc = .ok (.irem, 1)) (hy : y ≠ 0) (hp : pc + 1 = pc') (k : own_G p.tables e below P T (mkF m pc' Ls (.int (x % y) :: rest))) : own_G p.tables e below P T (mkF m pc Ls (.int y :: .int x :: rest)) := by
  subst hp; exact own_go (fun t q => iremM X hx rfl hd rfl hy q) k
theorem own_iloadN (X : Stand p l e R s m args below meth c T locs cells slots) (hx : p.tables.exec = Jvm.exec) {pc pc' : Nat} {Ls : Array Slot} {j : Fin 4} {v : Int32} {st : List Value} (hd : decode c.code pc = .ok (.iload_n j, 1)) (hl : Ls[j.val]? = some (.val (.int v))) (hp : pc + 1 = pc') (k : own_G p.tables e below P T (mkF m pc' Ls (.int v :: st))) : own_G p.tables e below P T (mkF m pc Ls (st)) := by
  subst hp; exact own_go (fun t q => XS.iloadN X.here hx rfl hd hl q) k
theorem own_iload (X : Stand p l e R s m args below meth c T locs cells slots) (hx : p.tables.exec = Jvm.exec) {pc pc' : Nat} {Ls : Array Slot} {j : Nat} {v : Int32} {st : List Value} (hd : decode c.code pc = .ok (.iload j, 2)) (hl : Ls[j]? = some (.val (.int v))) (hp : pc + 2 = pc') (k : own_G p.tables e below P T (mkF m pc' Ls (.int v :: st))) : own_G p.tables e below P T (mkF m pc Ls (st)) := by
  subst hp; exact own_go (fun t q => XS.iload X.here hx rfl hd hl q) k
theorem own_lloadN (X : Stand p l e R s m args below meth c T locs cells slots) (hx : p.tables.exec = Jvm.exec) {pc pc' : Nat} {Ls : Array Slot} {j : Fin 4} {v : Int64} {st : List Value} (hd : decode c.code pc = .ok (.lload_n j, 1)) (hl : Ls[j.val]? = some (.val (.long v))) (hp : pc + 1 = pc') (k : own_G p.tables e below P T (mkF m pc' Ls (.long v :: st))) : own_G p.tables e below P T (mkF m pc Ls (st)) := by
  subst hp; exact own_go (fun t q => XS.lloadN X.here hx rfl hd hl q) k
theorem own_lload (X : Stand p l e R s m args below meth c T locs cells slots) (hx : p.tables.exec = Jvm.exec) {pc pc' : Nat} {Ls : Array Slot} {j : Nat} {v : Int64} {st : List Value} (hd : decode c.code pc = .ok (.lload j, 2)) (hl : Ls[j]? = some (.val (.long v))) (hp : pc + 2 = pc') (k : own_G p.tables e below P T (mkF m pc' Ls (.long v :: st))) : own_G p.tables e below P T (mkF m pc Ls (st)) := by
  subst hp; exact own_go (fun t q => XS.lload X.here hx rfl hd hl q) k
theorem own_aloadN (X : Stand p l e R s m args below meth c T locs cells slots) (hx : p.tables.exec = Jvm.exec) {pc pc' : Nat} {Ls : Array Slot} {j : Fin 4} {v : Value} {st : List Value} (hd : decode c.code pc = .ok (.aload_n j, 1)) (hl : Ls[j.val]? = some (.val v)) (hv : v.isRef = true) (hp : pc + 1 = pc') (k : own_G p.tables e below P T (mkF m pc' Ls (v :: st))) : own_G p.tables e below P T (mkF m pc Ls (st)) := by
  subst hp; exact own_go (fun t q => XS.aloadN X.here hx rfl hd hl hv q) k
theorem own_istoreN (X : Stand p l e R s m args below meth c T locs cells slots) (hx : p.tables.exec = Jvm.exec) {pc pc' : Nat} {Ls : Array Slot} {j : Fin 4} {v : Int32} {rest : List Value} {Ls' : Array Slot} (hd : decode c.code pc = .ok (.istore_n j, 1)) (hl : storeLocals Ls j.val (.int v) = some Ls') (hp : pc + 1 = pc') (k : own_G p.tables e below P T (mkF m pc' Ls' (rest))) : own_G p.tables e below P T (mkF m pc Ls (.int v :: rest)) := by
  subst hp; exact own_go (fun t q => XS.istoreN X.here hx rfl hd rfl hl q) k
theorem own_lstoreN (X : Stand p l e R s m args below meth c T locs cells slots) (hx : p.tables.exec = Jvm.exec) {pc pc' : Nat} {Ls : Array Slot} {j : Fin 4} {v : Int64} {rest : List Value} {Ls' : Array Slot} (hd : decode c.code pc = .ok (.lstore_n j, 1)) (hl : storeLocals Ls j.val (.long v) = some Ls') (hp : pc + 1 = pc') (k : own_G p.tables e below P T (mkF m pc' Ls' (rest))) : own_G p.tables e below P T (mkF m pc Ls (.long v :: rest)) := by
  subst hp; exact own_go (fun t q => XS.lstoreN X.here hx rfl hd rfl hl q) k
theorem own_astoreN (X : Stand p l e R s m args below meth c T locs cells slots) (hx : p.tables.exec = Jvm.exec) {pc pc' : Nat} {Ls : Array Slot} {j : Fin 4} {v : Value} {rest : List Value} {Ls' : Array Slot} (hd : decode c.code pc = .ok (.astore_n j, 1)) (hv : v.isRef = true) (hl : storeLocals Ls j.val v = some Ls') (hp : pc + 1 = pc') (k : own_G p.tables e below P T (mkF m pc' Ls' (rest))) : own_G p.tables e below P T (mkF m pc Ls (v :: rest)) := by
  subst hp; exact own_go (fun t q => XS.astoreN X.here hx rfl hd rfl hv hl q) k
theorem own_aload (X : Stand p l e R s m args below meth c T locs cells slots) (hx : p.tables.exec = Jvm.exec) {pc pc' : Nat} {Ls : Array Slot} {j : Nat} {v : Value} {st : List Value} (hd : decode c.code pc = .ok (.aload j, 2)) (hl : Ls[j]? = some (.val v)) (hv : v.isRef = true) (hp : pc + 2 = pc') (k : own_G p.tables e below P T (mkF m pc' Ls (v :: st))) : own_G p.tables e below P T (mkF m pc Ls (st)) := by
  subst hp; exact own_go (fun t q => XS.aload X.here hx rfl hd hl hv q) k
theorem own_istore (X : Stand p l e R s m args below meth c T locs cells slots) (hx : p.tables.exec = Jvm.exec) {pc pc' : Nat} {Ls : Array Slot} {j : Nat} {v : Int32} {rest : List Value} {Ls' : Array Slot} (hd : decode c.code pc = .ok (.istore j, 2)) (hl : storeLocals Ls j (.int v) = some Ls') (hp : pc + 2 = pc') (k : own_G p.tables e below P T (mkF m pc' Ls' (rest))) : own_G p.tables e below P T (mkF m pc Ls (.int v :: rest)) := by
  subst hp; exact own_go (fun t q => XS.istore X.here hx rfl hd rfl hl q) k
theorem own_lstore (X : Stand p l e R s m args below meth c T locs cells slots) (hx : p.tables.exec = Jvm.exec) {pc pc' : Nat} {Ls : Array Slot} {j : Nat} {v : Int64} {rest : List Value} {Ls' : Array Slot} (hd : decode c.code pc = .ok (.lstore j, 2)) (hl : storeLocals Ls j (.long v) = some Ls') (hp : pc + 2 = pc') (k : own_G p.tables e below P T (mkF m pc' Ls' (rest))) : own_G p.tables e below P T (mkF m pc Ls (.long v :: rest)) := by
  subst hp; exact own_go (fun t q => XS.lstore X.here hx rfl hd rfl hl q) k
theorem own_astore (X : Stand p l e R s m args below meth c T locs cells slots) (hx : p.tables.exec = Jvm.exec) {pc pc' : Nat} {Ls : Array Slot} {j : Nat} {v : Value} {rest : List Value} {Ls' : Array Slot} (hd : decode c.code pc = .ok (.astore j, 2)) (hv : v.isRef = true) (hl : storeLocals Ls j v = some Ls') (hp : pc + 2 = pc') (k : own_G p.tables e below P T (mkF m pc' Ls' (rest))) : own_G p.tables e below P T (mkF m pc Ls (v :: rest)) := by
  subst hp; exact own_go (fun t q => XS.astore X.here hx rfl hd rfl hv hl q) k
theorem own_iinc (X : Stand p l e R s m args below meth c T locs cells slots) (hx : p.tables.exec = Jvm.exec) {pc pc' : Nat} {Ls : Array Slot} {j : Nat} {cst : Int} {x : Int32} {st : List Value} {Ls' : Array Slot} (hd : decode c.code pc = .ok (.iinc j cst, 3)) (hl : Ls[j]? = some (.val (.int x))) (hl' : storeLocals Ls j (.int (x + Int32.ofInt cst)) = some Ls') (hp : pc + 3 = pc') (k : own_G p.tables e below P T (mkF m pc' Ls' (st))) : own_G p.tables e below P T (mkF m pc Ls (st)) := by
  subst hp; exact own_go (fun t q => XS.iinc X.here hx rfl hd hl hl' q) k
theorem own_iconst (X : Stand p l e R s m args below meth c T locs cells slots) (hx : p.tables.exec = Jvm.exec) {pc pc' : Nat} {Ls : Array Slot} {i : Int} {st : List Value} (z : Int32) (hd : decode c.code pc = .ok (.iconst i, 1)) (hz : Int32.ofInt i = z) (hp : pc + 1 = pc') (k : own_G p.tables e below P T (mkF m pc' Ls (.int z :: st))) : own_G p.tables e below P T (mkF m pc Ls (st)) := by
  subst hp; subst hz; exact own_go (fun t q => XS.iconst X.here hx rfl hd q) k
theorem own_bipush (X : Stand p l e R s m args below meth c T locs cells slots) (hx : p.tables.exec = Jvm.exec) {pc pc' : Nat} {Ls : Array Slot} {i : Int} {st : List Value} (z : Int32) (hd : decode c.code pc = .ok (.bipush i, 2)) (hz : (Int8.ofInt i).toInt32 = z) (hp : pc + 2 = pc') (k : own_G p.tables e below P T (mkF m pc' Ls (.int z :: st))) : own_G p.tables e below P T (mkF m pc Ls (st)) := by
  subst hp; subst hz; exact own_go (fun t q => XS.bipush X.here hx rfl hd q) k
theorem own_sipush (X : Stand p l e R s m args below meth c T locs cells slots) (hx : p.tables.exec = Jvm.exec) {pc pc' : Nat} {Ls : Array Slot} {i : Int} {st : List Value} (z : Int32) (hd : decode c.code pc = .ok (.sipush i, 3)) (hz : (Int16.ofInt i).toInt32 = z) (hp : pc + 3 = pc') (k : own_G p.tables e below P T (mkF m pc' Ls (.int z :: st))) : own_G p.tables e below P T (mkF m pc Ls (st)) := by
  subst hp; subst hz; exact own_go (fun t q => XS.sipush X.here hx rfl hd q) k
theorem own_lconst (X : Stand p l e R s m args below meth c T locs cells slots) (hx : p.tables.exec = Jvm.exec) {pc pc' : Nat} {Ls : Array Slot} {i : Fin 2} {st : List Value} (z : Int64) (hd : decode c.code pc = .ok (.lconst i, 1)) (hz : Int64.ofNat i = z) (hp : pc + 1 = pc') (k : own_G p.tables e below P T (mkF m pc' Ls (.long z :: st))) : own_G p.tables e below P T (mkF m pc Ls (st)) := by
  subst hp; subst hz; exact own_go (fun t q => XS.lconst X.here hx rfl hd q) k
theorem own_aconstNull (X : Stand p l e R s m args below meth c T locs cells slots) (hx : p.tables.exec = Jvm.exec) {pc pc' : Nat} {Ls : Array Slot} {st : List Value} (hd : decode c.code pc = .ok (.aconst_null, 1)) (hp : pc + 1 = pc') (k : own_G p.tables e below P T (mkF m pc' Ls (.null :: st))) : own_G p.tables e below P T (mkF m pc Ls (st)) := by
  subst hp; exact own_go (fun t q => XS.aconstNull X.here hx rfl hd q) k
theorem own_dup (X : Stand p l e R s m args below meth c T locs cells slots) (hx : p.tables.exec = Jvm.exec) {pc pc' : Nat} {Ls : Array Slot} {v : Value} {rest : List Value} (hd : decode c.code pc = .ok (.dup, 1)) (hc : v.category = 1) (hp : pc + 1 = pc') (k : own_G p.tables e below P T (mkF m pc' Ls (v :: v :: rest))) : own_G p.tables e below P T (mkF m pc Ls (v :: rest)) := by
  subst hp; exact own_go (fun t q => XS.dup X.here hx rfl hd rfl hc q) k
theorem own_pop (X : Stand p l e R s m args below meth c T locs cells slots) (hx : p.tables.exec = Jvm.exec) {pc pc' : Nat} {Ls : Array Slot} {v : Value} {rest : List Value} (hd : decode c.code pc = .ok (.pop, 1)) (hc : v.category = 1) (hp : pc + 1 = pc') (k : own_G p.tables e below P T (mkF m pc' Ls (rest))) : own_G p.tables e below P T (mkF m pc Ls (v :: rest)) := by
  subst hp; exact own_go (fun t q => XS.pop X.here hx rfl hd rfl hc q) k
theorem own_dupX1 (X : Stand p l e R s m args below meth c T locs cells slots) (hx : p.tables.exec = Jvm.exec) {pc pc' : Nat} {Ls : Array Slot} {v w : Value} {rest : List Value} (hd : decode c.code pc = .ok (.dup_x1, 1)) (hc : v.category = 1) (hc' : w.category = 1) (hp : pc + 1 = pc') (k : own_G p.tables e below P T (mkF m pc' Ls (v :: w :: v :: rest))) : own_G p.tables e below P T (mkF m pc Ls (v :: w :: rest)) := by
  subst hp; exact own_go (fun t q => XS.dupX1 X.here hx rfl hd rfl hc hc' q) k
theorem own_dup2 (X : Stand p l e R s m args below meth c T locs cells slots) (hx : p.tables.exec = Jvm.exec) {pc pc' : Nat} {Ls : Array Slot} {v w : Value} {rest : List Value} (hd : decode c.code pc = .ok (.dup2, 1)) (hc : v.category = 1) (hc' : w.category = 1) (hp : pc + 1 = pc') (k : own_G p.tables e below P T (mkF m pc' Ls (v :: w :: v :: w :: rest))) : own_G p.tables e below P T (mkF m pc Ls (v :: w :: rest)) := by
  subst hp; exact own_go (fun t q => Jvm.Free.XT.dup2 X.here hx rfl hd rfl hc hc' q) k
theorem own_goto (X : Stand p l e R s m args below meth c T locs cells slots) (hx : p.tables.exec = Jvm.exec) {pc pc' : Nat} {Ls : Array Slot} {st : List Value} {o : Int} (hd : decode c.code pc = .ok (.goto o, 3)) (ho : 0 ≤ (pc : Int) + o) (hp : ((pc : Int) + o).toNat = pc') (k : own_G p.tables e below P T (mkF m pc' Ls (st))) : own_G p.tables e below P T (mkF m pc Ls (st)) := by
  exact own_go (fun t q => XS.goto X.here hx rfl (pc0 := pc) (pc' := pc') rfl hd ho hp q) k
theorem own_ifYes (X : Stand p l e R s m args below meth c T locs cells slots) (hx : p.tables.exec = Jvm.exec) {pc pc' : Nat} {Ls : Array Slot} {cd : ClassFile.Cond} {x : Int32} {rest : List Value} {o : Int} (hd : decode c.code pc = .ok (.ifCond cd o, 3)) (hc : if_icmp.holds cd x 0 = true) (ho : 0 ≤ (pc : Int) + o) (hp : ((pc : Int) + o).toNat = pc') (k : own_G p.tables e below P T (mkF m pc' Ls (rest))) : own_G p.tables e below P T (mkF m pc Ls (.int x :: rest)) := by
  exact own_go (fun t q => XS.ifYes X.here hx rfl (pc0 := pc) (pc' := pc') rfl hd rfl ((if0 _ _).trans hc) ho hp q) k
theorem own_icmpYes (X : Stand p l e R s m args below meth c T locs cells slots) (hx : p.tables.exec = Jvm.exec) {pc pc' : Nat} {Ls : Array Slot} {cd : ClassFile.Cond} {x y : Int32} {rest : List Value} {o : Int} (hd : decode c.code pc = .ok (.if_icmp cd o, 3)) (hc : if_icmp.holds cd x y = true) (ho : 0 ≤ (pc : Int) + o) (hp : ((pc : Int) + o).toNat = pc') (k : own_G p.tables e below P T (mkF m pc' Ls (rest))) : own_G p.tables e below P T (mkF m pc Ls (.int y :: .int x :: rest)) := by
  exact own_go (fun t q => XS.icmpYes X.here hx rfl (pc0 := pc) (pc' := pc') rfl hd rfl hc ho hp q) k
theorem own_ifnullYes (X : Stand p l e R s m args below meth c T locs cells slots) (hx : p.tables.exec = Jvm.exec) {pc pc' : Nat} {Ls : Array Slot} {rest : List Value} {o : Int} (hd : decode c.code pc = .ok (.ifnull o, 3)) (ho : 0 ≤ (pc : Int) + o) (hp : ((pc : Int) + o).toNat = pc') (k : own_G p.tables e below P T (mkF m pc' Ls (rest))) : own_G p.tables e below P T (mkF m pc Ls (.null :: rest)) := by
  exact own_go (fun t q => XS.ifnullYes X.here hx rfl (pc0 := pc) (pc' := pc') rfl hd rfl ho hp q) k
theorem own_ifnonnullYes (X : Stand p l e R s m args below meth c T locs cells slots) (hx : p.tables.exec = Jvm.exec) {pc pc' : Nat} {Ls : Array Slot} {b : Addr} {rest : List Value} {o : Int} (hd : decode c.code pc = .ok (.ifnonnull o, 3)) (ho : 0 ≤ (pc : Int) + o) (hp : ((pc : Int) + o).toNat = pc') (k : own_G p.tables e below P T (mkF m pc' Ls (rest))) : own_G p.tables e below P T (mkF m pc Ls (.ref b :: rest)) := by
  exact own_go (fun t q => XS.ifnonnullYes X.here hx rfl (pc0 := pc) (pc' := pc') rfl hd rfl ho hp q) k
theorem own_ifNo (X : Stand p l e R s m args below meth c T locs cells slots) (hx : p.tables.exec = Jvm.exec) {pc pc' : Nat} {Ls : Array Slot} {cd : ClassFile.Cond} {o : Int} {x : Int32} {rest : List Value} (hd : decode c.code pc = .ok (.ifCond cd o, 3)) (hc : if_icmp.holds cd x 0 = false) (hp : pc + 3 = pc') (k : own_G p.tables e below P T (mkF m pc' Ls (rest))) : own_G p.tables e below P T (mkF m pc Ls (.int x :: rest)) := by
  subst hp; exact own_go (fun t q => XS.ifNo X.here hx rfl hd rfl ((if0 _ _).trans hc) q) k
theorem own_icmpNo (X : Stand p l e R s m args below meth c T locs cells slots) (hx : p.tables.exec = Jvm.exec) {pc pc' : Nat} {Ls : Array Slot} {cd : ClassFile.Cond} {o : Int} {x y : Int32} {rest : List Value} (hd : decode c.code pc = .ok (.if_icmp cd o, 3)) (hc : if_icmp.holds cd x y = false) (hp : pc + 3 = pc') (k : own_G p.tables e below P T (mkF m pc' Ls (rest))) : own_G p.tables e below P T (mkF m pc Ls (.int y :: .int x :: rest)) := by
  subst hp; exact own_go (fun t q => XS.icmpNo X.here hx rfl hd rfl hc q) k
theorem own_ifnullNo (X : Stand p l e R s m args below meth c T locs cells slots) (hx : p.tables.exec = Jvm.exec) {pc pc' : Nat} {Ls : Array Slot} {o : Int} {b : Addr} {rest : List Value} (hd : decode c.code pc = .ok (.ifnull o, 3)) (hp : pc + 3 = pc') (k : own_G p.tables e below P T (mkF m pc' Ls (rest))) : own_G p.tables e below P T (mkF m pc Ls (.ref b :: rest)) := by
  subst hp; exact own_go (fun t q => XS.ifnullNo X.here hx rfl hd rfl q) k
theorem own_ifnonnullNo (X : Stand p l e R s m args below meth c T locs cells slots) (hx : p.tables.exec = Jvm.exec) {pc pc' : Nat} {Ls : Array Slot} {o : Int} {rest : List Value} (hd : decode c.code pc = .ok (.ifnonnull o, 3)) (hp : pc + 3 = pc') (k : own_G p.tables e below P T (mkF m pc' Ls (rest))) : own_G p.tables e below P T (mkF m pc Ls (.null :: rest)) := by
  subst hp; exact own_go (fun t q => XS.ifnonnullNo X.here hx rfl hd rfl q) k
theorem own_acmp (X : Stand p l e R s m args below meth c T locs cells slots) (hx : p.tables.exec = Jvm.exec) {pc pc' : Nat} {Ls : Array Slot} {cd : ACond} {x y : Value} {rest : List Value} {o : Int} (same : Bool) (hd : decode c.code pc = .ok (.if_acmp cd o, 3)) (h1 : x.isRef = true) (h2 : y.isRef = true) (hq : decide (x = y) = same) (ho : 0 ≤ (pc : Int) + o) (hp : pc' = if acV cd same = true then ((pc : Int) + o).toNat else pc + 3) (k : own_G p.tables e below P T (mkF m pc' Ls rest)) : own_G p.tables e below P T (mkF m pc Ls (y :: x :: rest)) := by
  exact own_go (fun t q => Jvm.RoadKit.acmp (g := mkF m pc Ls (y :: x :: rest)) X hx rfl h1 h2 (pc0 := pc) (pc' := pc') rfl hd rfl hq ho hp q) k
theorem own_ldcI (X : Stand p l e R s m args below meth c T locs cells slots) (hx : p.tables.exec = Jvm.exec) {pc pc' : Nat} {Ls : Array Slot} (hZ : Z.Warmed39 s.vm) {own : String} {idx : Nat} {z : Int32} {st : List Value} (hown : s.vm.findClass own = some m.cls) (w : (Jvm.Cond.constant own idx z).before a0 Z = true) (hd : decode c.code pc = .ok (.ldc idx, 2)) (hp : pc + 2 = pc') (k : own_G p.tables e below P T (mkF m pc' Ls (.int z :: st))) : own_G p.tables e below P T (mkF m pc Ls st) := by
  subst hp; exact own_go (X.ldcInt hx hown (mvT hZ w) (g := mkF m pc Ls st) rfl hd) k
theorem own_ldcwI (X : Stand p l e R s m args below meth c T locs cells slots) (hx : p.tables.exec = Jvm.exec) {pc pc' : Nat} {Ls : Array Slot} (hZ : Z.Warmed39 s.vm) {own : String} {idx : Nat} {z : Int32} {st : List Value} (hown : s.vm.findClass own = some m.cls) (w : (Jvm.Cond.constant own idx z).before a0 Z = true) (hd : decode c.code pc = .ok (.ldc_w idx, 3)) (hp : pc + 3 = pc') (k : own_G p.tables e below P T (mkF m pc' Ls (.int z :: st))) : own_G p.tables e below P T (mkF m pc Ls st) := by
  subst hp; exact own_go (X.ldcwInt hx hown (mvT hZ w) (g := mkF m pc Ls st) rfl hd) k
theorem own_ldc2J (X : Stand p l e R s m args below meth c T locs cells slots) (hx : p.tables.exec = Jvm.exec) {pc pc' : Nat} {Ls : Array Slot} (hZ : Z.Warmed39 s.vm) {own : String} {idx : Nat} {z : Int64} {st : List Value} (hown : s.vm.findClass own = some m.cls) (w : (Jvm.Cond.constantLong own idx z).before a0 Z = true) (hd : decode c.code pc = .ok (.ldc2_w idx, 3)) (hp : pc + 3 = pc') (k : own_G p.tables e below P T (mkF m pc' Ls (.long z :: st))) : own_G p.tables e below P T (mkF m pc Ls st) := by
  subst hp; exact own_go (X.ldc2Long hx hown (mvT hZ w) (g := mkF m pc Ls st) rfl hd) k
theorem own_getF (X : Stand p l e R s m args below meth c T locs cells slots) (hx : p.tables.exec = Jvm.exec) {pc pc' : Nat} {Ls : Array Slot} (hZ : Z.Warmed39 s.vm) {own R0 O n d host : String} {idx : Nat} {a : Addr} {v : Value} {rest : List Value} (hown : s.vm.findClass own = some m.cls) (w : (Cond.fieldLink own idx R0 n d).before a0 Z = true ∨ (Cond.fieldLinkNest own idx R0 n d host).before a0 Z = true) (via : Via Z R0 O n d) (eT : T.heap = h) (F : Fld Z h a O n d v) (hd : decode c.code pc = .ok (.getfield idx, 3)) (hp : pc + 3 = pc') (k : ∀ T', Stand p l e R s m args below meth c T' locs cells slots → T'.heap = h → own_G p.tables e below P T' (mkF m pc' Ls (v :: rest))) : own_G p.tables e below P T (mkF m pc Ls (.ref a :: rest)) := by
  subst hp; obtain ⟨T', X', e', st⟩ := getF X hx hZ hown w via eT F (g := mkF m pc Ls (.ref a :: rest)) rfl rfl hd; exact own_go st (k T' X' e')
theorem own_getS (X : Stand p l e R s m args below meth c T locs cells slots) (hx : p.tables.exec = Jvm.exec) {pc pc' : Nat} {Ls : Array Slot} (hZ : Z.Warmed39 s.vm) {own R0 O n d host : String} {idx : Nat} {v : Value} {st : List Value} (hown : s.vm.findClass own = some m.cls) (w : (Cond.fieldLink own idx R0 n d).before a0 Z = true ∨ (Cond.fieldLinkNest own idx R0 n d host).before a0 Z = true) (via : Via Z R0 O n d) (eT : T.heap = h) (F : Sta Z h O n d v) (hd : decode c.code pc = .ok (.getstatic idx, 3)) (hp : pc + 3 = pc') (k : ∀ T', Stand p l e R s m args below meth c T' locs cells slots → T'.heap = h → own_G p.tables e below P T' (mkF m pc' Ls (v :: st))) : own_G p.tables e below P T (mkF m pc Ls st) := by
  subst hp; obtain ⟨T', X', e', stp⟩ := getS2 X hx hZ hown w via eT F (g := mkF m pc Ls st) rfl hd; exact own_go stp (k T' X' e')
theorem own_len (X : Stand p l e R s m args below meth c T locs cells slots) (hx : p.tables.exec = Jvm.exec) {pc pc' : Nat} {Ls : Array Slot} (hZ : Z.Warmed39 s.vm) {a : Addr} {cl : Cell} {ty : FieldType} {z : Int32} {rest : List Value} (eT : T.heap = h) (A : Arr Z h a cl ty) (S : cl.slots.size = z.toNatClampNeg) (M : ¬ z < 0) (hd : decode c.code pc = .ok (.arraylength, 1)) (hp : pc + 1 = pc') (k : own_G p.tables e below P T (mkF m pc' Ls (.int z :: rest))) : own_G p.tables e below P T (mkF m pc Ls (.ref a :: rest)) := by
  subst hp; exact own_go (fun t q => X.arraylength hx (by rw [eT]; exact A.1) (State.isArrayOf_alike hZ.alike A.2.1) (g := mkF m pc Ls (.ref a :: rest)) rfl rfl hd _ (by rw [len_of S M]; exact q)) k
theorem own_iaload (X : Stand p l e R s m args below meth c T locs cells slots) (hx : p.tables.exec = Jvm.exec) {pc pc' : Nat} {Ls : Array Slot} (hZ : Z.Warmed39 s.vm) {a : Addr} {cl : Cell} {j : Int32} {v : Int32} {rest : List Value} (eT : T.heap = h) (A : Arr Z h a cl .int) (hj : ¬ (j < 0 ∨ cl.slots.size ≤ j.toNatClampNeg)) (hv : cl.slots[j.toNatClampNeg]? = some (.int v)) (hd : decode c.code pc = .ok (.iaload, 1)) (hp : pc + 1 = pc') (k : own_G p.tables e below P T (mkF m pc' Ls ((.int v) :: rest))) : own_G p.tables e below P T (mkF m pc Ls (.int j :: .ref a :: rest)) := by
  subst hp; exact own_go (X.iaload hx (j := j) (v := (.int v)) (by rw [eT]; exact A.1) (State.isArrayOf_alike hZ.alike A.2.1) A.2.2 hj hv (g := mkF m pc Ls (.int j :: .ref a :: rest)) rfl rfl hd) k
theorem own_laload (X : Stand p l e R s m args below meth c T locs cells slots) (hx : p.tables.exec = Jvm.exec) {pc pc' : Nat} {Ls : Array Slot} (hZ : Z.Warmed39 s.vm) {a : Addr} {cl : Cell} {j : Int32} {v : Int64} {rest : List Value} (eT : T.heap = h) (A : Arr Z h a cl .long) (hj : ¬ (j < 0 ∨ cl.slots.size ≤ j.toNatClampNeg)) (hv : cl.slots[j.toNatClampNeg]? = some (.long v)) (hd : decode c.code pc = .ok (.laload, 1)) (hp : pc + 1 = pc') (k : own_G p.tables e below P T (mkF m pc' Ls ((.long v) :: rest))) : own_G p.tables e below P T (mkF m pc Ls (.int j :: .ref a :: rest)) := by
  subst hp; exact own_go (X.laload hx (j := j) (v := (.long v)) (by rw [eT]; exact A.1) (State.isArrayOf_alike hZ.alike A.2.1) A.2.2 hj hv (g := mkF m pc Ls (.int j :: .ref a :: rest)) rfl rfl hd) k
theorem own_baload (X : Stand p l e R s m args below meth c T locs cells slots) (hx : p.tables.exec = Jvm.exec) {pc pc' : Nat} {Ls : Array Slot} (hZ : Z.Warmed39 s.vm) {a : Addr} {cl : Cell} {j : Int32} {v : Int32} {rest : List Value} (eT : T.heap = h) (A : Arr Z h a cl .byte) (hj : ¬ (j < 0 ∨ cl.slots.size ≤ j.toNatClampNeg)) (hv : cl.slots[j.toNatClampNeg]? = some (.int v)) (hd : decode c.code pc = .ok (.baload, 1)) (hp : pc + 1 = pc') (k : own_G p.tables e below P T (mkF m pc' Ls ((.int v) :: rest))) : own_G p.tables e below P T (mkF m pc Ls (.int j :: .ref a :: rest)) := by
  subst hp; exact own_go (X.baloadBytes hx (j := j) (v := (.int v)) (by rw [eT]; exact A.1) (State.isArrayOf_alike hZ.alike A.2.1) A.2.2 hj hv (g := mkF m pc Ls (.int j :: .ref a :: rest)) rfl rfl hd) k
theorem own_caload (X : Stand p l e R s m args below meth c T locs cells slots) (hx : p.tables.exec = Jvm.exec) {pc pc' : Nat} {Ls : Array Slot} (hZ : Z.Warmed39 s.vm) {a : Addr} {cl : Cell} {j : Int32} {v : Int32} {rest : List Value} (eT : T.heap = h) (A : Arr Z h a cl .char) (hj : ¬ (j < 0 ∨ cl.slots.size ≤ j.toNatClampNeg)) (hv : cl.slots[j.toNatClampNeg]? = some (.int v)) (hd : decode c.code pc = .ok (.caload, 1)) (hp : pc + 1 = pc') (k : own_G p.tables e below P T (mkF m pc' Ls ((.int v) :: rest))) : own_G p.tables e below P T (mkF m pc Ls (.int j :: .ref a :: rest)) := by
  subst hp; exact own_go (X.caload hx (j := j) (v := (.int v)) (by rw [eT]; exact A.1) (State.isArrayOf_alike hZ.alike A.2.1) A.2.2 hj hv (g := mkF m pc Ls (.int j :: .ref a :: rest)) rfl rfl hd) k
theorem own_aaload (X : Stand p l e R s m args below meth c T locs cells slots) (hx : p.tables.exec = Jvm.exec) {pc pc' : Nat} {Ls : Array Slot} (hZ : Z.Warmed39 s.vm) {a : Addr} {cl : Cell} {ty : FieldType} {j : Int32} {v : Value} {rest : List Value} (eT : T.heap = h) (A : Arr Z h a cl ty) (hty : ty.isReference = true) (hj : ¬ (j < 0 ∨ cl.slots.size ≤ j.toNatClampNeg)) (hv : cl.slots[j.toNatClampNeg]? = some v) (hd : decode c.code pc = .ok (.aaload, 1)) (hp : pc + 1 = pc') (k : own_G p.tables e below P T (mkF m pc' Ls (v :: rest))) : own_G p.tables e below P T (mkF m pc Ls (.int j :: .ref a :: rest)) := by
  subst hp; exact own_go (X.aaload hx (j := j) (v := v) (by rw [eT]; exact A.1) (State.isArrayOf_alike hZ.alike A.2.1) hty A.2.2 hj hv (g := mkF m pc Ls (.int j :: .ref a :: rest)) rfl rfl hd) k
theorem own_stI (X : Stand p l e R s m args below meth c T locs cells slots) (hx : p.tables.exec = Jvm.exec) {pc pc' : Nat} {Ls : Array Slot} (hZ : Z.Warmed39 s.vm) {a : Addr} {cl : Cell} {j : Int32} {x : Int32} {rest : List Value} (eT : T.heap = h) (A : Arr Z h a cl .int) (hj : ¬ (j < 0 ∨ cl.slots.size ≤ j.toNatClampNeg)) (hd : decode c.code pc = .ok (.iastore, 1)) (hp : pc + 1 = pc') (k : ∀ T' h', Stand p l e R s m args below meth c T' (locs ++ [⟨a, j.toNatClampNeg⟩]) cells slots → T'.heap = h' → Wr h h' a j.toNatClampNeg (.int x) → own_G p.tables e below P T' (mkF m pc' Ls rest)) : own_G p.tables e below P T (mkF m pc Ls (.int x :: .int j :: .ref a :: rest)) := by
  subst hp; obtain ⟨T', h', X', e', W', st⟩ := stI X hx hZ eT A (j := j) hj (g := mkF m pc Ls (.int x :: .int j :: .ref a :: rest)) rfl rfl hd; exact own_go st (k T' h' X' e' W')
theorem own_stJ (X : Stand p l e R s m args below meth c T locs cells slots) (hx : p.tables.exec = Jvm.exec) {pc pc' : Nat} {Ls : Array Slot} (hZ : Z.Warmed39 s.vm) {a : Addr} {cl : Cell} {j : Int32} {x : Int64} {rest : List Value} (eT : T.heap = h) (A : Arr Z h a cl .long) (hj : ¬ (j < 0 ∨ cl.slots.size ≤ j.toNatClampNeg)) (hd : decode c.code pc = .ok (.lastore, 1)) (hp : pc + 1 = pc') (k : ∀ T' h', Stand p l e R s m args below meth c T' (locs ++ [⟨a, j.toNatClampNeg⟩]) cells slots → T'.heap = h' → Wr h h' a j.toNatClampNeg (.long x) → own_G p.tables e below P T' (mkF m pc' Ls rest)) : own_G p.tables e below P T (mkF m pc Ls (.long x :: .int j :: .ref a :: rest)) := by
  subst hp; obtain ⟨T', h', X', e', W', st⟩ := stJ X hx hZ eT A (j := j) hj (g := mkF m pc Ls (.long x :: .int j :: .ref a :: rest)) rfl rfl hd; exact own_go st (k T' h' X' e' W')
theorem own_stB (X : Stand p l e R s m args below meth c T locs cells slots) (hx : p.tables.exec = Jvm.exec) {pc pc' : Nat} {Ls : Array Slot} (hZ : Z.Warmed39 s.vm) {a : Addr} {cl : Cell} {j : Int32} {x : Int32} {rest : List Value} (eT : T.heap = h) (A : Arr Z h a cl .byte) (hj : ¬ (j < 0 ∨ cl.slots.size ≤ j.toNatClampNeg)) (hd : decode c.code pc = .ok (.bastore, 1)) (hp : pc + 1 = pc') (k : ∀ T' h', Stand p l e R s m args below meth c T' (locs ++ [⟨a, j.toNatClampNeg⟩]) cells slots → T'.heap = h' → Wr h h' a j.toNatClampNeg (.int (nar .byte x)) → own_G p.tables e below P T' (mkF m pc' Ls rest)) : own_G p.tables e below P T (mkF m pc Ls (.int x :: .int j :: .ref a :: rest)) := by
  subst hp; obtain ⟨T', h', X', e', W', st⟩ := stB X hx hZ eT A (j := j) hj (g := mkF m pc Ls (.int x :: .int j :: .ref a :: rest)) rfl rfl hd; exact own_go st (k T' h' X' e' W')
theorem own_stC (X : Stand p l e R s m args below meth c T locs cells slots) (hx : p.tables.exec = Jvm.exec) {pc pc' : Nat} {Ls : Array Slot} (hZ : Z.Warmed39 s.vm) {a : Addr} {cl : Cell} {j : Int32} {x : Int32} {rest : List Value} (eT : T.heap = h) (A : Arr Z h a cl .char) (hj : ¬ (j < 0 ∨ cl.slots.size ≤ j.toNatClampNeg)) (hd : decode c.code pc = .ok (.castore, 1)) (hp : pc + 1 = pc') (k : ∀ T' h', Stand p l e R s m args below meth c T' (locs ++ [⟨a, j.toNatClampNeg⟩]) cells slots → T'.heap = h' → Wr h h' a j.toNatClampNeg (.int (nar .char x)) → own_G p.tables e below P T' (mkF m pc' Ls rest)) : own_G p.tables e below P T (mkF m pc Ls (.int x :: .int j :: .ref a :: rest)) := by
  subst hp; obtain ⟨T', h', X', e', W', st⟩ := stC X hx hZ eT A (j := j) hj (g := mkF m pc Ls (.int x :: .int j :: .ref a :: rest)) rfl rfl hd; exact own_go st (k T' h' X' e' W')
theorem own_stR (X : Stand p l e R s m args below meth c T locs cells slots) (hx : p.tables.exec = Jvm.exec) {pc pc' : Nat} {Ls : Array Slot} (hZ : Z.Warmed39 s.vm) {a : Addr} {cl : Cell} {j : Int32} {x : Value} {ty : FieldType} {rest : List Value} (eT : T.heap = h) (A : Arr Z h a cl ty) (hj : ¬ (j < 0 ∨ cl.slots.size ≤ j.toNatClampNeg)) (hty : ty.isReference = true) (F : Sto Z h a x) (hd : decode c.code pc = .ok (.aastore, 1)) (hp : pc + 1 = pc') (k : ∀ T' h', Stand p l e R s m args below meth c T' (locs ++ [⟨a, j.toNatClampNeg⟩]) cells slots → T'.heap = h' → Wr h h' a j.toNatClampNeg x → own_G p.tables e below P T' (mkF m pc' Ls rest)) : own_G p.tables e below P T (mkF m pc Ls (x :: .int j :: .ref a :: rest)) := by
  subst hp; obtain ⟨T', h', X', e', W', st⟩ := stR X hx hZ eT A (j := j) hj hty F (g := mkF m pc Ls (x :: .int j :: .ref a :: rest)) rfl rfl hd; exact own_go st (k T' h' X' e' W')
theorem own_putF (X : Stand p l e R s m args below meth c T locs cells slots) (hx : p.tables.exec = Jvm.exec) {pc pc' : Nat} {Ls : Array Slot} (hZ : Z.Warmed39 s.vm) {own R0 O n d host C : String} {idx kk : Nat} {ty : FieldType} {a : Addr} {v old : Value} {rest : List Value} (hown : s.vm.findClass own = some m.cls) (w : (Cond.fieldLink own idx R0 n d).before a0 Z = true ∨ (Cond.fieldLinkNest own idx R0 n d host).before a0 Z = true) (via : Via Z R0 O n d) (eT : T.heap = h) (F : Fld Z h a O n d old) (E : Exa Z h a C) (L : (Cond.lays C O n d).before a0 Z = true ∨ ((Cond.laysFinal C O n d).before a0 Z = true ∧ own = O ∧ meth.name = "<init>")) (wi : (Cond.instantiable C kk).before a0 Z = true) (hty : parseFieldDescriptor d = some ty) (hn : narrow ty v = v) (hf : fits ty v = true) (hd : decode c.code pc = .ok (.putfield idx, 3)) (hp : pc + 3 = pc') (k : ∀ T' h', Stand p l e R s m args below meth c T' (locs ++ [⟨a, Jvm.RoadKit.slotOf Z O n d⟩]) cells slots → T'.heap = h' → Wr h h' a (Jvm.RoadKit.slotOf Z O n d) v → own_G p.tables e below P T' (mkF m pc' Ls rest)) : own_G p.tables e below P T (mkF m pc Ls (v :: .ref a :: rest)) := by
  subst hp; obtain ⟨T', h', X', e', W', st⟩ := putF X hx hZ hown w via eT F E L wi hty hn hf (g := mkF m pc Ls (v :: .ref a :: rest)) rfl rfl hd; exact own_go st (k T' h' X' e' W')
theorem own_putFN (X : Stand p l e R s m args below meth c T locs cells slots) (hx : p.tables.exec = Jvm.exec) {pc pc' : Nat} {Ls : Array Slot} (hZ : Z.Warmed39 s.vm) {own R0 O n d C : String} {idx kk : Nat} {ty : FieldType} {a : Addr} {v old : Value} (v' : Value) {rest : List Value} (hown : s.vm.findClass own = some m.cls) (w : (Cond.fieldLink own idx R0 n d).before a0 Z = true) (via : Via Z R0 O n d) (eT : T.heap = h) (F : Fld Z h a O n d old) (E : Exa Z h a C) (L : (Cond.lays C O n d).before a0 Z = true ∨ ((Cond.laysFinal C O n d).before a0 Z = true ∧ own = O ∧ meth.name = "<init>")) (wi : (Cond.instantiable C kk).before a0 Z = true) (hty : parseFieldDescriptor d = some ty) (hn : narrow ty v = v') (hf : fits ty v' = true) (hd : decode c.code pc = .ok (.putfield idx, 3)) (hp : pc + 3 = pc') (k : ∀ T' h', Stand p l e R s m args below meth c T' (locs ++ [⟨a, Jvm.RoadKit.slotOf Z O n d⟩]) cells slots → T'.heap = h' → Wr h h' a (Jvm.RoadKit.slotOf Z O n d) v' → own_G p.tables e below P T' (mkF m pc' Ls rest)) : own_G p.tables e below P T (mkF m pc Ls (v :: .ref a :: rest)) := by
  subst hp; obtain ⟨T', h', X', e', W', st⟩ := putFN X hx hZ hown w via eT F E L wi hty hn hf (g := mkF m pc Ls (v :: .ref a :: rest)) rfl rfl hd; exact own_go st (k T' h' X' e' W')
theorem own_new (X : Stand p l e R s m args below meth c T locs cells slots) (hx : p.tables.exec = Jvm.exec) {pc pc' : Nat} {Ls : Array Slot} (hZ : Z.Warmed39 s.vm) {own C : String} {idx n : Nat} {st : List Value} (hown : s.vm.findClass own = some m.cls) (w : (Cond.classLink own idx C).before a0 Z = true) (wi : (Cond.instantiable C n).before a0 Z = true) (wz : (Cond.initialized C).before a0 Z = true) (eT : T.heap = h) (hd : decode c.code pc = .ok (.new idx, 3)) (hc : cells + 1 ≤ R.cells) (hl : slots + n ≤ R.slots) (hp : pc + 3 = pc') (k : ∀ T' h' b, b = h.size → Stand p l e R s m args below meth c T' locs (cells + 1) (slots + n) → T'.heap = h' → Ext h h' → Exa Z h' b C → (∀ {O nm d : String} {ty : FieldType}, Laid Z a0 C O nm d → parseFieldDescriptor d = some ty → Fld Z h' b O nm d (defaultValue ty)) → own_G p.tables e below P T' (mkF m pc' Ls (.ref b :: st))) : own_G p.tables e below P T (mkF m pc Ls st) := by
  subst hp; obtain ⟨T', h', X', e', E', A', D', -, stp⟩ := newO X hx hZ hown w wi wz eT (g := mkF m pc Ls st) rfl hd hc hl; exact own_go stp (k T' h' _ rfl X' e' E' A' D')
theorem own_newP (X : Stand p l e R s m args below meth c T locs cells slots) (hx : p.tables.exec = Jvm.exec) {pc pc' : Nat} {Ls : Array Slot} (hZ : Z.Warmed39 s.vm) {aty : ArrayType} {z : Int32} {rest : List Value} (w : (Cond.arrayClass (newarray.typeOf aty)).before a0 Z = true) (eT : T.heap = h) (hd : decode c.code pc = .ok (.newarray aty, 2)) (hn : ¬ z < 0) (cap : Nat) (hcap : z.toNatClampNeg ≤ cap) (hb : cap * 8 ≤ 536870912) (hc : cells + 1 ≤ R.cells) (hl : slots + cap ≤ R.slots) (hp : pc + 2 = pc') (k : ∀ T' h' cA b, b = h.size → Stand p l e R s m args below meth c T' locs (cells + 1) (slots + cap) → T'.heap = h' → Ext h h' → Arr Z h' b (newA cA (newarray.typeOf aty) z) (newarray.typeOf aty) → own_G p.tables e below P T' (mkF m pc' Ls (.ref b :: rest))) : own_G p.tables e below P T (mkF m pc Ls (.int z :: rest)) := by
  subst hp; obtain ⟨T', h', cA, X', e', E', A', stp⟩ := newP X hx hZ w eT (g := mkF m pc Ls (.int z :: rest)) rfl hd rfl hn hcap hb hc hl; exact own_go stp (k T' h' cA _ rfl X' e' E' A')
theorem own_newR (X : Stand p l e R s m args below meth c T locs cells slots) (hx : p.tables.exec = Jvm.exec) {pc pc' : Nat} {Ls : Array Slot} (hZ : Z.Warmed39 s.vm) {own C : String} {idx : Nat} {z : Int32} {rest : List Value} (hown : s.vm.findClass own = some m.cls) (w1 : (Cond.classLink own idx C).before a0 Z = true) (w2 : (Cond.arrayOver (.object C)).before a0 Z = true) (eT : T.heap = h) (hd : decode c.code pc = .ok (.anewarray idx, 3)) (hn : ¬ z < 0) (cap : Nat) (hcap : z.toNatClampNeg ≤ cap) (hb : cap * 8 ≤ 536870912) (hc : cells + 1 ≤ R.cells) (hl : slots + cap ≤ R.slots) (hp : pc + 3 = pc') (k : ∀ T' h' cA b, b = h.size → Stand p l e R s m args below meth c T' locs (cells + 1) (slots + cap) → T'.heap = h' → Ext h h' → Arr Z h' b (newA cA (.object C) z) (.object C) → Ovr Z cA C → own_G p.tables e below P T' (mkF m pc' Ls (.ref b :: rest))) : own_G p.tables e below P T (mkF m pc Ls (.int z :: rest)) := by
  subst hp; obtain ⟨T', h', cA, X', e', E', A', O', stp⟩ := newR X hx hZ hown w1 w2 eT (g := mkF m pc Ls (.int z :: rest)) rfl hd rfl hn hcap hb hc hl; exact own_go stp (k T' h' cA _ rfl X' e' E' A' O')
theorem own_initO (X : Stand p l e R s m args below meth c T locs cells slots) (hx : p.tables.exec = Jvm.exec) {pc pc' : Nat} {Ls : Array Slot} (hZ : Z.Warmed39 s.vm) {own : String} {idx : Nat} {a : Addr} {rest : List Value} (hown : s.vm.findClass own = some m.cls) (w1 : (Cond.methodLink own idx Lib.objectInit).before a0 Z = true) (w2 : (Cond.instanceMethod Lib.objectInit).before a0 Z = true) (w3 : (Cond.code Lib.objectInit ⟨#[0xb1]⟩ 1 none).before a0 Z = true) (eT : T.heap = h) (hsz : Ls.size = c.maxLocals) (hd : decode c.code pc = .ok (.invokespecial idx, 3)) (hf : 1 ≤ R.frames) (W : Nat) (hW : 2 * 0 + (rest.map fun v => v.category).sum ≤ W) (hl : W + 12 ≤ R.locals) (hp : pc + 3 = pc') (k : ∀ T', Stand p l e R s m args below meth c T' locs cells slots → T'.heap = h → own_G p.tables e below P T' (mkF m pc' Ls rest)) : own_G p.tables e below P T (mkF m pc Ls (.ref a :: rest)) := by
  subst hp; obtain ⟨T', X', e', st⟩ := initO X hx hZ hown w1 w2 w3 eT (g := mkF m pc Ls (.ref a :: rest)) rfl hsz rfl hd hf hW hl; exact own_go st (k T' X' e')
theorem own_callS (X : Stand p l e R s m args below meth c T locs cells slots) (hx : p.tables.exec = Jvm.exec) {pc pc' : Nat} {Ls : Array Slot} (hZ : Z.Warmed39 s.vm) {own : String} {idx : Nat} {y : MethodName} {bytes : ByteArray} {maxL : Nat} {ret : Option FieldType} {rm : Room} {as' : Array Value} {Q : Option Value → Heap → List Loc → Prop} (hown : s.vm.findClass own = some m.cls) (w1 : (Cond.methodLink own idx y).before a0 Z = true) (w2 : (Cond.static y).before a0 Z = true) (w3 : (Cond.initialized y.cls).before a0 Z = true) (w4 : (Cond.code y bytes maxL ret).before a0 Z = true) (hy : y.cls ≠ "java/lang/invoke/MethodHandle" ∧ y.cls ≠ "java/lang/invoke/VarHandle") (hM : MetFree l y (head1 [Cond.code y bytes maxL ret] rm) (fun a U => a = as' ∧ Z.Warmed39 U.vm ∧ U.heap = h) (fun _ _ _ _ _ => True) (fun _ U o U' => ∃ v L, o = .returned v ∧ Q v U'.heap L ∧ FrameEnd U o U' L rm.cells rm.slots)) (eT : T.heap = h) (W : Nat) (hf : rm.frames + 1 ≤ R.frames) (hl : W + (maxL + 11) + rm.locals ≤ R.locals) (hc : cells + rm.cells ≤ R.cells) (hsl : slots + rm.slots ≤ R.slots) {st : List Value} (argsL rest : List Value) (hsz : Ls.size = c.maxLocals) (hlen : ∀ sig, parseMethodDescriptor y.desc = some sig → argsL.length = sig.parameters.length) (has : argsL.toArray = as') (hst : st = argsL.reverse ++ rest) (hW : 2 * 0 + (rest.map fun v => v.category).sum ≤ W) (hd : decode c.code pc = .ok (.invokestatic idx, 3)) (hp : pc + 3 = pc') (k : ∀ v T' L, Stand p l e R s m args below meth c T' (locs ++ L) (cells + rm.cells) (slots + rm.slots) → Q v T'.heap L → own_G p.tables e below P T' (mkF m pc' Ls (v.toList ++ rest))) : own_G p.tables e below P T (mkF m pc Ls st) := by
  subst hp
  obtain ⟨v, vm, ⟨T', L', k', n'⟩, -, X', ⟨L, hQ, l', y', z'⟩, stp⟩ := Jvm.LawKit.callS X hx (y := y) hown (mvT hZ w1) (mvT hZ w2) (mvT hZ w3) (mvT hZ w4) hy (backOf (W := W) hM hZ w4 w3 hf hl) (g := mkF m pc Ls st) rfl hsz (argsL := argsL) (rest := rest) hlen hst hW hd (fun _ _ => ⟨has, eT, hc, hsl⟩)
  dsimp only [Pt.U, Pt.locs, Pt.cells, Pt.slots] at X' l' y' z' stp hQ
  subst l' y' z'
  exact own_go stp (k v T' L X' hQ)
theorem own_callV (X : Stand p l e R s m args below meth c T locs cells slots) (hx : p.tables.exec = Jvm.exec) {pc pc' : Nat} {Ls : Array Slot} (hZ : Z.Warmed39 s.vm) {own C : String} {idx : Nat} {y : MethodName} {bytes : ByteArray} {maxL : Nat} {ret : Option FieldType} {rm : Room} {as' : Array Value} {Q : Option Value → Heap → List Loc → Prop} (hown : s.vm.findClass own = some m.cls) (w1 : (Cond.methodLink own idx y).before a0 Z = true) (w2 : (Cond.instanceMethod y).before a0 Z = true) (w3 : (Cond.selects C y y).before a0 Z = true) (w4 : (Cond.code y bytes maxL ret).before a0 Z = true) (w5 : (Cond.initialized y.cls).before a0 Z = true) (hy : y.cls ≠ "java/lang/invoke/MethodHandle" ∧ y.cls ≠ "java/lang/invoke/VarHandle") (hM : MetFree l y (head1 [Cond.code y bytes maxL ret] rm) (fun a U => a = as' ∧ Z.Warmed39 U.vm ∧ U.heap = h) (fun _ _ _ _ _ => True) (fun _ U o U' => ∃ v L, o = .returned v ∧ Q v U'.heap L ∧ FrameEnd U o U' L rm.cells rm.slots)) (eT : T.heap = h) {b : Addr} (E : Exa Z h b C) (W : Nat) (hf : rm.frames + 1 ≤ R.frames) (hl : W + (maxL + 11) + rm.locals ≤ R.locals) (hc : cells + rm.cells ≤ R.cells) (hsl : slots + rm.slots ≤ R.slots) {st : List Value} (argsL rest : List Value) (hsz : Ls.size = c.maxLocals) (hlen : ∀ sig, parseMethodDescriptor y.desc = some sig → argsL.length = sig.parameters.length) (has : (Value.ref b :: argsL).toArray = as') (hst : st = argsL.reverse ++ .ref b :: rest) (hW : 2 * 0 + (rest.map fun v => v.category).sum ≤ W) (hd : decode c.code pc = .ok (.invokevirtual idx, 3)) (hp : pc + 3 = pc') (k : ∀ v T' L, Stand p l e R s m args below meth c T' (locs ++ L) (cells + rm.cells) (slots + rm.slots) → Q v T'.heap L → own_G p.tables e below P T' (mkF m pc' Ls (v.toList ++ rest))) : own_G p.tables e below P T (mkF m pc Ls st) := by
  subst hp
  obtain ⟨cell, kc, q1, q2, q3, q4, -⟩ := E
  obtain ⟨v, vm, ⟨T', L', k', n'⟩, -, X', ⟨L, hQ, l', y', z'⟩, stp⟩ := Jvm.LawKit.callV X hx (y := y) (C := C) hown (mvT hZ w1) (mvT hZ w2) (mvT hZ w3) (mvT hZ w4) hy (backOf (W := W) hM hZ w4 w5 hf hl) (b := b) (cellB := cell) (by rw [eT]; exact q1) q4 (by rw [hZ.alike.findClass]; exact q2) (g := mkF m pc Ls st) rfl hsz (argsL := argsL) (rest := rest) hlen hst hW hd (fun _ _ => ⟨has, eT, hc, hsl⟩)
  dsimp only [Pt.U, Pt.locs, Pt.cells, Pt.slots] at X' l' y' z' stp hQ
  subst l' y' z'
  exact own_go stp (k v T' L X' hQ)
theorem own_callI (X : Stand p l e R s m args below meth c T locs cells slots) (hx : p.tables.exec = Jvm.exec) {pc pc' : Nat} {Ls : Array Slot} (hZ : Z.Warmed39 s.vm) {own : String} {idx : Nat} {y : MethodName} {bytes : ByteArray} {maxL : Nat} {rm : Room} {as' : Array Value} {Q : Option Value → Heap → List Loc → Prop} (hy1 : y.name = "<init>") (hown : s.vm.findClass own = some m.cls) (w1 : (Cond.methodLink own idx y).before a0 Z = true) (w2 : (Cond.instanceMethod y).before a0 Z = true) (w4 : (Cond.code y bytes maxL none).before a0 Z = true) (w5 : (Cond.initialized y.cls).before a0 Z = true) (hy : y.cls ≠ "java/lang/invoke/MethodHandle" ∧ y.cls ≠ "java/lang/invoke/VarHandle") (hM : MetFree l y (head1 [Cond.code y bytes maxL none] rm) (fun a U => a = as' ∧ Z.Warmed39 U.vm ∧ U.heap = h) (fun _ _ _ _ _ => True) (fun _ U o U' => ∃ v L, o = .returned v ∧ Q v U'.heap L ∧ FrameEnd U o U' L rm.cells rm.slots)) (eT : T.heap = h) {b : Addr} (W : Nat) (hf : rm.frames + 1 ≤ R.frames) (hl : W + (maxL + 11) + rm.locals ≤ R.locals) (hc : cells + rm.cells ≤ R.cells) (hsl : slots + rm.slots ≤ R.slots) {st : List Value} (argsL rest : List Value) (hsz : Ls.size = c.maxLocals) (hlen : ∀ sig, parseMethodDescriptor y.desc = some sig → argsL.length = sig.parameters.length) (has : (Value.ref b :: argsL).toArray = as') (hst : st = argsL.reverse ++ .ref b :: rest) (hW : 2 * 0 + (rest.map fun v => v.category).sum ≤ W) (hd : decode c.code pc = .ok (.invokespecial idx, 3)) (hp : pc + 3 = pc') (k : ∀ v T' L, Stand p l e R s m args below meth c T' (locs ++ L) (cells + rm.cells) (slots + rm.slots) → Q v T'.heap L → own_G p.tables e below P T' (mkF m pc' Ls (v.toList ++ rest))) : own_G p.tables e below P T (mkF m pc Ls st) := by
  subst hp
  obtain ⟨v, vm, ⟨T', L', k', n'⟩, -, X', ⟨L, hQ, l', y', z'⟩, stp⟩ := Jvm.LawKit.callI X hx (y := y) hown hy1 (mvT hZ w1) (mvT hZ w2) (mvT hZ w4) hy (backOf (W := W) hM hZ w4 w5 hf hl) (g := mkF m pc Ls st) rfl hsz (a := b) (argsL := argsL) (rest := rest) hlen hst hW hd (fun _ _ => ⟨has, eT, hc, hsl⟩)
  dsimp only [Pt.U, Pt.locs, Pt.cells, Pt.slots] at X' l' y' z' stp hQ
  subst l' y' z'
  exact own_go stp (k v T' L X' hQ)
theorem own_fldI {u : Term} {C n d : String} {x : Addr} {z : Int32} (ht : u.eval args s none [] s = some (.ref x)) (hq : (Jvm.Cond.eq (.field u C n d) (.int z)).value args s none s [] = some true) : Fld s s.heap x C n d (.int z) :=
  Fld.start ((fld_at ht).symm.trans (Cond.eq_int (Cond.before_iff.mpr hq) rfl))
theorem own_fldR {u t : Term} {C n d : String} {x y : Addr} (ht : u.eval args s none [] s = some (.ref x)) (hu : t.eval args s none [] s = some (.ref y)) (hq : (Jvm.Cond.eq (.field u C n d) t).value args s none s [] = some true) : Fld s s.heap x C n d (.ref y) :=
  Fld.start ((fld_at ht).symm.trans (Cond.eq_refs (Cond.before_iff.mpr hq) hu rfl))
theorem own_none {u : Term} {x : Addr} {cl : Cell} (A : Arr s s.heap x cl .int) (ht : u.eval args s none [] s = some (.ref x)) (hq : (Jvm.Cond.eq (.length u) (.int 0)).value args s none s [] = some true) : Arv s s.heap x cl.cls .int (0 : Int32) [] (.int (0 : Int32)) := by
  have e1 := Cond.eq_int (Cond.before_iff.mpr hq) (n := 0) rfl
  obtain ⟨sd, SA, hev, harrAt, -⟩ := Term.length_spec e1
  have h31 := SBG.length_lt hev harrAt e1
  cases ht.symm.trans hev
  cases (Arr.fin (Vm.Alike.refl _) A).symm.trans harrAt
  have e2 := len_f ht harrAt h31
  have e3 : cl.slots.size.toInt32 = (0 : Int32) := by simpa using Option.some.inj (e2.symm.trans e1)
  have e4 : cl.slots.size = 0 := by
    have e5 := congrArg Int32.toInt e3
    rw [len_toInt h31] at e5
    have e6 : ((0 : Int32)).toInt = 0 := by decide
    omega
  exact ⟨cl, A, rfl, e4, by decide, fun k hk => by omega, fun i hi => by omega⟩
end OwnKit
def own_max (x y : Int32) : Int32 := if x < y then y else x
def own_w (c d : Int32) : Int32 := if d = 0 then (if c < 0 then 1 else 0) else (if 0 < c then 0 else 1)
def own_arc (a b c d : Int32) : Int32 := if a < 0 then (if b < 0 then own_w c d else 0) else (if b < 0 then 1 else own_w c d)
theorem own_arc01 (a b c d : Int32) : own_arc a b c d = 0 ∨ own_arc a b c d = 1 := by
  unfold own_arc own_w
  repeat' split
  all_goals first | exact Or.inl rfl | exact Or.inr rfl
theorem d4_0 : decode jdk_29_method_65_code 0 = .ok (.iload_n 0, 1) := by decide +kernel
theorem d4_1 : decode jdk_29_method_65_code 1 = .ok (.iload_n 1, 1) := by decide +kernel
theorem d4_2 : decode jdk_29_method_65_code 2 = .ok (.if_icmp .lt 7, 3) := by decide +kernel
theorem d4_5 : decode jdk_29_method_65_code 5 = .ok (.iload_n 0, 1) := by decide +kernel
theorem d4_6 : decode jdk_29_method_65_code 6 = .ok (.goto 4, 3) := by decide +kernel
theorem d4_9 : decode jdk_29_method_65_code 9 = .ok (.iload_n 1, 1) := by decide +kernel
theorem d4_10 : decode jdk_29_method_65_code 10 = .ok (.ireturn, 1) := by decide +kernel
def Qmax (x y : Int32) (h0 : Heap) (n0 : Nat) (v : Option Value) (h : Heap) (L : List Loc) : Prop := v = some (.int (own_max x y)) ∧ Fr n0 L ∧ h = h0
theorem ef_rmMax (m : MethodId) (x0 : Int32) (x1 : Int32) : entryFrame m #[(.int x0), (.int x1)] 2 = mkF m 0 #[.val (.int x0), .val (.int x1)] [] := by first | (simp [entryFrame, mkF, argsToLocals, Value.category, maxLocals]; done) | rfl
theorem pf_0 : plainFor (⟨"java/lang/Math", "max", "(II)I"⟩ : MethodName) = true := by decide +kernel
set_option maxRecDepth 65536 in
set_option maxHeartbeats 40000000 in
theorem rmMax (l : Launch) (Z : State) (a0 : Array Value) (hw : ∀ d ∈ tables_1, d.before a0 Z = true) (ws : List Jvm.Cond) (q0 q1 : Int32) (h0 : Heap) (n0 : Nat) (Z0 : n0 ≤ h0.size)  :
    MetFree l (⟨"java/lang/Math", "max", "(II)I"⟩ : MethodName) (head1 (Jvm.Cond.code (⟨"java/lang/Math", "max", "(II)I"⟩ : MethodName) jdk_29_method_65_code 2 (some .int) :: ws) ({ frames := 0, cells := 0, slots := 0, locals := 0 } : Room)) (fun aa U => aa = #[(.int q0), (.int q1)] ∧ Z.Warmed39 U.vm ∧ U.heap = h0) (fun _ _ _ _ _ => True) (fun _ U o U' => ∃ v L, o = .returned v ∧ Qmax q0 q1 h0 n0 v U'.heap L ∧ FrameEnd U o U' L (({ frames := 0, cells := 0, slots := 0, locals := 0 } : Room).cells) (({ frames := 0, cells := 0, slots := 0, locals := 0 } : Room).slots)) := by
  refine own_body pf_0 ?_
  intro p e s m below meth c s₁ hx hby hml hown hnm hlk hret hZ X0 e0
  have N0 : Fr n0 [] := Fr.nil n0
  refine own_go (f' := (mkF m 0 #[.val (.int q0), .val (.int q1)] [])) (fun t k => castTop (ef_rmMax m q0 q1) k) ?_
  refine own_iloadN X0 hx (pc' := 1) (hb hby d4_0) rfl rfl ?_
  refine own_iloadN X0 hx (pc' := 2) (hb hby d4_1) rfl rfl ?_
  by_cases hc2_1 : q0 < q1
  · skip
    refine own_icmpYes X0 hx (pc' := 9) (hb hby d4_2) (tlt hc2_1).1 (by decide) (by decide) ?_
    refine own_iloadN X0 hx (pc' := 10) (hb hby d4_9) rfl rfl ?_
    refine own_retI X0 hx hlk hret (hb hby d4_10) (by decide) (by decide) ?_
    exact ⟨by simp [own_max, hc2_1], N0, e0⟩
  · skip
    refine own_icmpNo X0 hx (pc' := 5) (hb hby d4_2) (flt hc2_1).1 rfl ?_
    refine own_iloadN X0 hx (pc' := 6) (hb hby d4_5) rfl rfl ?_
    refine own_goto X0 hx (pc' := 10) (hb hby d4_6) (by decide) (by decide) ?_
    refine own_retI X0 hx hlk hret (hb hby d4_10) (by decide) (by decide) ?_
    exact ⟨by simp [own_max, hc2_1], N0, e0⟩

theorem own_t32_0 : (0 : Int32).toInt = 0 := by decide
theorem own_t32_1 : (1 : Int32).toInt = 1 := by decide
theorem own_t32_m2147483648 : (-2147483648 : Int32).toInt = -2147483648 := by decide
theorem d2_0 : decode method_2_code 0 = .ok (.iload_n 0, 1) := by decide +kernel
theorem d2_1 : decode method_2_code 1 = .ok (.iconst 1, 1) := by decide +kernel
theorem d2_2 : decode method_2_code 2 = .ok (.iushr, 1) := by decide +kernel
theorem d2_3 : decode method_2_code 3 = .ok (.ldc 9, 2) := by decide +kernel
theorem d2_5 : decode method_2_code 5 = .ok (.ior, 1) := by decide +kernel
theorem d2_6 : decode method_2_code 6 = .ok (.ireturn, 1) := by decide +kernel
def Qneg (h0 : Heap) (n0 : Nat) (v : Option Value) (h : Heap) (L : List Loc) : Prop := (∃ z : Int32, v = some (.int z) ∧ z.toInt < 0) ∧ Fr n0 L ∧ h = h0
theorem ef_rmNeg (m : MethodId) (x0 : Int32) : entryFrame m #[(.int x0)] 1 = mkF m 0 #[.val (.int x0)] [] := by first | (simp [entryFrame, mkF, argsToLocals, Value.category, maxLocals]; done) | rfl
theorem pf_1 : plainFor (⟨"com/example/rootcast/rootcast/ring/CircleInArcPinLaw", "neg", "(I)I"⟩ : MethodName) = true := by apply plainFor_of_name; first | (simp [plainName, overriddenIn]; done) | decide +kernel
theorem W7 {a0 : Array Value} {Z : State} (hw : ∀ d ∈ tables_1, d.before a0 Z = true) : (Jvm.Cond.constant "com/example/rootcast/rootcast/ring/CircleInArcPinLaw" (9 : Nat) (-2147483648 : Int32)).before a0 Z = true := hw _ (List.mem_of_getElem? (i := 7) rfl)
set_option maxRecDepth 65536 in
set_option maxHeartbeats 40000000 in
theorem rmNeg (l : Launch) (Z : State) (a0 : Array Value) (hw : ∀ d ∈ tables_1, d.before a0 Z = true) (ws : List Jvm.Cond) (q0 : Int32) (h0 : Heap) (n0 : Nat) (Z0 : n0 ≤ h0.size)  :
    MetFree l (⟨"com/example/rootcast/rootcast/ring/CircleInArcPinLaw", "neg", "(I)I"⟩ : MethodName) (head1 (Jvm.Cond.code (⟨"com/example/rootcast/rootcast/ring/CircleInArcPinLaw", "neg", "(I)I"⟩ : MethodName) method_2_code 1 (some .int) :: ws) ({ frames := 0, cells := 0, slots := 0, locals := 0 } : Room)) (fun aa U => aa = #[(.int q0)] ∧ Z.Warmed39 U.vm ∧ U.heap = h0) (fun _ _ _ _ _ => True) (fun _ U o U' => ∃ v L, o = .returned v ∧ Qneg h0 n0 v U'.heap L ∧ FrameEnd U o U' L (({ frames := 0, cells := 0, slots := 0, locals := 0 } : Room).cells) (({ frames := 0, cells := 0, slots := 0, locals := 0 } : Room).slots)) := by
  refine own_body pf_1 ?_
  intro p e s m below meth c s₁ hx hby hml hown hnm hlk hret hZ X0 e0
  have N0 : Fr n0 [] := Fr.nil n0
  refine own_go (f' := (mkF m 0 #[.val (.int q0)] [])) (fun t k => castTop (ef_rmNeg m q0) k) ?_
  refine own_iloadN X0 hx (pc' := 1) (hb hby d2_0) rfl rfl ?_
  refine own_iconst X0 hx (pc' := 2) (1 : Int32) (hb hby d2_1) rfl rfl ?_
  refine own_iushr X0 hx (pc' := 3) (hb hby d2_2) rfl ?_
  refine own_ldcI X0 hx (pc' := 5) hZ hown (W7 hw) (hb hby d2_3) rfl ?_
  refine own_ior X0 hx (pc' := 6) (hb hby d2_5) rfl rfl ?_
  refine own_retI X0 hx hlk hret (hb hby d2_6) (by decide) (by decide) ?_
  refine ⟨⟨_, rfl, ?_⟩, N0, e0⟩
  exact (c_orS _ _).2.2 (by decide)

theorem d3_0 : decode method_3_code 0 = .ok (.iconst 1, 1) := by decide +kernel
theorem d3_1 : decode method_3_code 1 = .ok (.iload_n 0, 1) := by decide +kernel
theorem d3_2 : decode method_3_code 2 = .ok (.iconst 1, 1) := by decide +kernel
theorem d3_3 : decode method_3_code 3 = .ok (.iushr, 1) := by decide +kernel
theorem d3_4 : decode method_3_code 4 = .ok (.invokestatic 10, 3) := by decide +kernel
theorem d3_7 : decode method_3_code 7 = .ok (.ireturn, 1) := by decide +kernel
def Qpos (h0 : Heap) (n0 : Nat) (v : Option Value) (h : Heap) (L : List Loc) : Prop := (∃ z : Int32, v = some (.int z) ∧ 0 < z.toInt) ∧ Fr n0 L ∧ h = h0
theorem ef_rmPos (m : MethodId) (x0 : Int32) : entryFrame m #[(.int x0)] 1 = mkF m 0 #[.val (.int x0)] [] := by first | (simp [entryFrame, mkF, argsToLocals, Value.category, maxLocals]; done) | rfl
theorem pf_2 : plainFor (⟨"com/example/rootcast/rootcast/ring/CircleInArcPinLaw", "pos", "(I)I"⟩ : MethodName) = true := by apply plainFor_of_name; first | (simp [plainName, overriddenIn]; done) | decide +kernel
theorem W14 {a0 : Array Value} {Z : State} (hw : ∀ d ∈ tables_1, d.before a0 Z = true) : (Jvm.Cond.code ({ cls := "java/lang/Math", name := "max", desc := "(II)I" } : Jvm.MethodName) jdk_29_method_65_code (2 : Nat) (Option.some Jvm.ClassFile.FieldType.int)).before a0 Z = true := hw _ (List.mem_of_getElem? (i := 14) rfl)
theorem W13 {a0 : Array Value} {Z : State} (hw : ∀ d ∈ tables_1, d.before a0 Z = true) : (Jvm.Cond.initialized "java/lang/Math").before a0 Z = true := hw _ (List.mem_of_getElem? (i := 13) rfl)
theorem pd_0 : parseMethodDescriptor "(II)I" = some ⟨[.int, .int], some .int⟩ := by decide +kernel
theorem W11 {a0 : Array Value} {Z : State} (hw : ∀ d ∈ tables_1, d.before a0 Z = true) : (Jvm.Cond.methodLink "com/example/rootcast/rootcast/ring/CircleInArcPinLaw" (10 : Nat) ({ cls := "java/lang/Math", name := "max", desc := "(II)I" } : Jvm.MethodName)).before a0 Z = true := hw _ (List.mem_of_getElem? (i := 11) rfl)
theorem W12 {a0 : Array Value} {Z : State} (hw : ∀ d ∈ tables_1, d.before a0 Z = true) : (Jvm.Cond.static ({ cls := "java/lang/Math", name := "max", desc := "(II)I" } : Jvm.MethodName)).before a0 Z = true := hw _ (List.mem_of_getElem? (i := 12) rfl)
set_option maxRecDepth 65536 in
set_option maxHeartbeats 40000000 in
theorem rmPos (l : Launch) (Z : State) (a0 : Array Value) (hw : ∀ d ∈ tables_1, d.before a0 Z = true) (ws : List Jvm.Cond) (q0 : Int32) (h0 : Heap) (n0 : Nat) (Z0 : n0 ≤ h0.size)  :
    MetFree l (⟨"com/example/rootcast/rootcast/ring/CircleInArcPinLaw", "pos", "(I)I"⟩ : MethodName) (head1 (Jvm.Cond.code (⟨"com/example/rootcast/rootcast/ring/CircleInArcPinLaw", "pos", "(I)I"⟩ : MethodName) method_3_code 1 (some .int) :: ws) ({ frames := 1, cells := 0, slots := 0, locals := 16 } : Room)) (fun aa U => aa = #[(.int q0)] ∧ Z.Warmed39 U.vm ∧ U.heap = h0) (fun _ _ _ _ _ => True) (fun _ U o U' => ∃ v L, o = .returned v ∧ Qpos h0 n0 v U'.heap L ∧ FrameEnd U o U' L (({ frames := 1, cells := 0, slots := 0, locals := 16 } : Room).cells) (({ frames := 1, cells := 0, slots := 0, locals := 16 } : Room).slots)) := by
  refine own_body pf_2 ?_
  intro p e s m below meth c s₁ hx hby hml hown hnm hlk hret hZ X0 e0
  have N0 : Fr n0 [] := Fr.nil n0
  refine own_go (f' := (mkF m 0 #[.val (.int q0)] [])) (fun t k => castTop (ef_rmPos m q0) k) ?_
  refine own_iconst X0 hx (pc' := 1) (1 : Int32) (hb hby d3_0) rfl rfl ?_
  refine own_iloadN X0 hx (pc' := 2) (hb hby d3_1) rfl rfl ?_
  refine own_iconst X0 hx (pc' := 3) (1 : Int32) (hb hby d3_2) rfl rfl ?_
  refine own_iushr X0 hx (pc' := 4) (hb hby d3_3) rfl ?_
  refine own_callS X0 hx (pc' := 7) hZ hown (W11 hw) (W12 hw) (W13 hw) (W14 hw) (by decide) (rmMax l Z a0 hw [] (1 : Int32) ((q0.toUInt32 >>> ((1 : Int32) &&& 31).toUInt32).toInt32) h0 n0 Z0) e0 0 (by decide) (by decide) (by decide) (by decide) [(.int (1 : Int32)), (.int ((q0.toUInt32 >>> ((1 : Int32) &&& 31).toUInt32).toInt32))] [] (by rw [hml]; rfl) (lenOf pd_0 rfl) rfl rfl (Nat.le_of_eq rfl) (hb hby d3_4) rfl (fun v1 T1 L1 X1 hQ1 => ?_)
  obtain ⟨rfl, Nq1, e1⟩ := hQ1
  have N2 := Fr.app N0 Nq1
  show own_G p.tables e below _ T1 (mkF m 7 #[.val (.int q0)] [(.int (own_max (1 : Int32) ((q0.toUInt32 >>> ((1 : Int32) &&& 31).toUInt32).toInt32)))])
  refine own_retI X1 hx hlk hret (hb hby d3_7) (by decide) (by decide) ?_
  refine ⟨⟨_, rfl, ?_⟩, N2, e1⟩
  unfold own_max
  split
  · rename_i hq; rw [Int32.lt_iff_toInt_lt] at hq; exact Int.lt_trans (by decide) hq
  · decide

theorem d1_0 : decode method_4_code 0 = .ok (.iload_n 0, 1) := by decide +kernel
theorem d1_1 : decode method_4_code 1 = .ok (.iload_n 1, 1) := by decide +kernel
theorem d1_2 : decode method_4_code 2 = .ok (.if_icmp .ge 8, 3) := by decide +kernel
theorem d1_5 : decode method_4_code 5 = .ok (.iload_n 2, 1) := by decide +kernel
theorem d1_6 : decode method_4_code 6 = .ok (.invokestatic 16, 3) := by decide +kernel
theorem d1_9 : decode method_4_code 9 = .ok (.ireturn, 1) := by decide +kernel
theorem d1_10 : decode method_4_code 10 = .ok (.iload_n 0, 1) := by decide +kernel
theorem d1_11 : decode method_4_code 11 = .ok (.iload_n 1, 1) := by decide +kernel
theorem d1_12 : decode method_4_code 12 = .ok (.if_icmp .ne 5, 3) := by decide +kernel
theorem d1_15 : decode method_4_code 15 = .ok (.iconst 0, 1) := by decide +kernel
theorem d1_16 : decode method_4_code 16 = .ok (.ireturn, 1) := by decide +kernel
theorem d1_17 : decode method_4_code 17 = .ok (.iload_n 2, 1) := by decide +kernel
theorem d1_18 : decode method_4_code 18 = .ok (.invokestatic 22, 3) := by decide +kernel
theorem d1_21 : decode method_4_code 21 = .ok (.ireturn, 1) := by decide +kernel
def Qcmp (a b : Int32) (h0 : Heap) (n0 : Nat) (v : Option Value) (h : Heap) (L : List Loc) : Prop := (∃ z : Int32, v = some (.int z) ∧ (z.toInt < 0 ↔ a.toInt < b.toInt) ∧ (0 < z.toInt ↔ b.toInt < a.toInt)) ∧ Fr n0 L ∧ h = h0
theorem ef_rmCmp (m : MethodId) (x0 : Int32) (x1 : Int32) (x2 : Int32) : entryFrame m #[(.int x0), (.int x1), (.int x2)] 3 = mkF m 0 #[.val (.int x0), .val (.int x1), .val (.int x2)] [] := by first | (simp [entryFrame, mkF, argsToLocals, Value.category, maxLocals]; done) | rfl
theorem pf_3 : plainFor (⟨"com/example/rootcast/rootcast/ring/CircleInArcPinLaw", "cmp", "(III)I"⟩ : MethodName) = true := by apply plainFor_of_name; first | (simp [plainName, overriddenIn]; done) | decide +kernel
theorem W6 {a0 : Array Value} {Z : State} (hw : ∀ d ∈ tables_1, d.before a0 Z = true) : (Jvm.Cond.code ({ cls := "com/example/rootcast/rootcast/ring/CircleInArcPinLaw", name := "neg", desc := "(I)I" } : Jvm.MethodName) method_2_code (1 : Nat) (Option.some Jvm.ClassFile.FieldType.int)).before a0 Z = true := hw _ (List.mem_of_getElem? (i := 6) rfl)
theorem W2 {a0 : Array Value} {Z : State} (hw : ∀ d ∈ tables_1, d.before a0 Z = true) : (Jvm.Cond.initialized "com/example/rootcast/rootcast/ring/CircleInArcPinLaw").before a0 Z = true := hw _ (List.mem_of_getElem? (i := 2) rfl)
theorem pd_1 : parseMethodDescriptor "(I)I" = some ⟨[.int], some .int⟩ := by decide +kernel
theorem W4 {a0 : Array Value} {Z : State} (hw : ∀ d ∈ tables_1, d.before a0 Z = true) : (Jvm.Cond.methodLink "com/example/rootcast/rootcast/ring/CircleInArcPinLaw" (16 : Nat) ({ cls := "com/example/rootcast/rootcast/ring/CircleInArcPinLaw", name := "neg", desc := "(I)I" } : Jvm.MethodName)).before a0 Z = true := hw _ (List.mem_of_getElem? (i := 4) rfl)
theorem W5 {a0 : Array Value} {Z : State} (hw : ∀ d ∈ tables_1, d.before a0 Z = true) : (Jvm.Cond.static ({ cls := "com/example/rootcast/rootcast/ring/CircleInArcPinLaw", name := "neg", desc := "(I)I" } : Jvm.MethodName)).before a0 Z = true := hw _ (List.mem_of_getElem? (i := 5) rfl)
theorem W10 {a0 : Array Value} {Z : State} (hw : ∀ d ∈ tables_1, d.before a0 Z = true) : (Jvm.Cond.code ({ cls := "com/example/rootcast/rootcast/ring/CircleInArcPinLaw", name := "pos", desc := "(I)I" } : Jvm.MethodName) method_3_code (1 : Nat) (Option.some Jvm.ClassFile.FieldType.int)).before a0 Z = true := hw _ (List.mem_of_getElem? (i := 10) rfl)
theorem W8 {a0 : Array Value} {Z : State} (hw : ∀ d ∈ tables_1, d.before a0 Z = true) : (Jvm.Cond.methodLink "com/example/rootcast/rootcast/ring/CircleInArcPinLaw" (22 : Nat) ({ cls := "com/example/rootcast/rootcast/ring/CircleInArcPinLaw", name := "pos", desc := "(I)I" } : Jvm.MethodName)).before a0 Z = true := hw _ (List.mem_of_getElem? (i := 8) rfl)
theorem W9 {a0 : Array Value} {Z : State} (hw : ∀ d ∈ tables_1, d.before a0 Z = true) : (Jvm.Cond.static ({ cls := "com/example/rootcast/rootcast/ring/CircleInArcPinLaw", name := "pos", desc := "(I)I" } : Jvm.MethodName)).before a0 Z = true := hw _ (List.mem_of_getElem? (i := 9) rfl)
set_option maxRecDepth 65536 in
set_option maxHeartbeats 40000000 in
theorem rmCmp (l : Launch) (Z : State) (a0 : Array Value) (hw : ∀ d ∈ tables_1, d.before a0 Z = true) (ws : List Jvm.Cond) (q0 q1 q2 : Int32) (h0 : Heap) (n0 : Nat) (Z0 : n0 ≤ h0.size)  :
    MetFree l (⟨"com/example/rootcast/rootcast/ring/CircleInArcPinLaw", "cmp", "(III)I"⟩ : MethodName) (head1 (Jvm.Cond.code (⟨"com/example/rootcast/rootcast/ring/CircleInArcPinLaw", "cmp", "(III)I"⟩ : MethodName) method_4_code 3 (some .int) :: ws) ({ frames := 2, cells := 0, slots := 0, locals := 28 } : Room)) (fun aa U => aa = #[(.int q0), (.int q1), (.int q2)] ∧ Z.Warmed39 U.vm ∧ U.heap = h0) (fun _ _ _ _ _ => True) (fun _ U o U' => ∃ v L, o = .returned v ∧ Qcmp q0 q1 h0 n0 v U'.heap L ∧ FrameEnd U o U' L (({ frames := 2, cells := 0, slots := 0, locals := 28 } : Room).cells) (({ frames := 2, cells := 0, slots := 0, locals := 28 } : Room).slots)) := by
  refine own_body pf_3 ?_
  intro p e s m below meth c s₁ hx hby hml hown hnm hlk hret hZ X0 e0
  have N0 : Fr n0 [] := Fr.nil n0
  refine own_go (f' := (mkF m 0 #[.val (.int q0), .val (.int q1), .val (.int q2)] [])) (fun t k => castTop (ef_rmCmp m q0 q1 q2) k) ?_
  refine own_iloadN X0 hx (pc' := 1) (hb hby d1_0) rfl rfl ?_
  refine own_iloadN X0 hx (pc' := 2) (hb hby d1_1) rfl rfl ?_
  by_cases hc2_1 : q0 < q1
  · skip
    refine own_icmpNo X0 hx (pc' := 5) (hb hby d1_2) (tlt hc2_1).2.1 rfl ?_
    refine own_iloadN X0 hx (pc' := 6) (hb hby d1_5) rfl rfl ?_
    refine own_callS X0 hx (pc' := 9) hZ hown (W4 hw) (W5 hw) (W2 hw) (W6 hw) (by decide) (rmNeg l Z a0 hw [] q2 h0 n0 Z0) e0 0 (by decide) (by decide) (by decide) (by decide) [(.int q2)] [] (by rw [hml]; rfl) (lenOf pd_1 rfl) rfl rfl (Nat.le_of_eq rfl) (hb hby d1_6) rfl (fun v2 T2 L2 X2 hQ2 => ?_)
    obtain ⟨⟨z2, rfl, hz2⟩, Nq2, e2⟩ := hQ2
    have N3 := Fr.app N0 Nq2
    show own_G p.tables e below _ T2 (mkF m 9 #[.val (.int q0), .val (.int q1), .val (.int q2)] [(.int z2)])
    refine own_retI X2 hx hlk hret (hb hby d1_9) (by decide) (by decide) ?_
    refine ⟨⟨_, rfl, ?_⟩, N3, e2⟩
    have a0 := hc2_1
    have a1 := hz2
    simp only [Int32.lt_iff_toInt_lt, ← Int32.toInt_inj, own_t32_0, own_t32_1, own_t32_m2147483648] at a0 a1
    constructor <;> constructor <;> intro q <;> omega
  · skip
    refine own_icmpYes X0 hx (pc' := 10) (hb hby d1_2) (flt hc2_1).2.1 (by decide) (by decide) ?_
    refine own_iloadN X0 hx (pc' := 11) (hb hby d1_10) rfl rfl ?_
    refine own_iloadN X0 hx (pc' := 12) (hb hby d1_11) rfl rfl ?_
    by_cases hc12_4 : q0 = q1
    · skip
      refine own_icmpNo X0 hx (pc' := 15) (hb hby d1_12) (teq hc12_4).2 rfl ?_
      refine own_iconst X0 hx (pc' := 16) (0 : Int32) (hb hby d1_15) rfl rfl ?_
      refine own_retI X0 hx hlk hret (hb hby d1_16) (by decide) (by decide) ?_
      refine ⟨⟨_, rfl, ?_⟩, N0, e0⟩
      have a0 := hc2_1
      have a1 := hc12_4
      simp only [Int32.lt_iff_toInt_lt, ← Int32.toInt_inj, own_t32_0, own_t32_1, own_t32_m2147483648] at a0 a1
      rw [own_t32_0]
      constructor <;> constructor <;> intro q <;> omega
    · skip
      refine own_icmpYes X0 hx (pc' := 17) (hb hby d1_12) (feq hc12_4).2 (by decide) (by decide) ?_
      refine own_iloadN X0 hx (pc' := 18) (hb hby d1_17) rfl rfl ?_
      refine own_callS X0 hx (pc' := 21) hZ hown (W8 hw) (W9 hw) (W2 hw) (W10 hw) (by decide) (rmPos l Z a0 hw [] q2 h0 n0 Z0) e0 0 (by decide) (by decide) (by decide) (by decide) [(.int q2)] [] (by rw [hml]; rfl) (lenOf pd_1 rfl) rfl rfl (Nat.le_of_eq rfl) (hb hby d1_18) rfl (fun v5 T5 L5 X5 hQ5 => ?_)
      obtain ⟨⟨z5, rfl, hz5⟩, Nq5, e5⟩ := hQ5
      have N6 := Fr.app N0 Nq5
      show own_G p.tables e below _ T5 (mkF m 21 #[.val (.int q0), .val (.int q1), .val (.int q2)] [(.int z5)])
      refine own_retI X5 hx hlk hret (hb hby d1_21) (by decide) (by decide) ?_
      refine ⟨⟨_, rfl, ?_⟩, N6, e5⟩
      have a0 := hc2_1
      have a1 := hc12_4
      have a2 := hz5
      simp only [Int32.lt_iff_toInt_lt, ← Int32.toInt_inj, own_t32_0, own_t32_1, own_t32_m2147483648] at a0 a1 a2
      constructor <;> constructor <;> intro q <;> omega

theorem d5_0 : decode prog_80_method_7_code 0 = .ok (.iload_n 3, 1) := by decide +kernel
theorem d5_1 : decode prog_80_method_7_code 1 = .ok (.ifCond .eq 15, 3) := by decide +kernel
theorem d5_4 : decode prog_80_method_7_code 4 = .ok (.iload_n 2, 1) := by decide +kernel
theorem d5_5 : decode prog_80_method_7_code 5 = .ok (.ifCond .gt 7, 3) := by decide +kernel
theorem d5_8 : decode prog_80_method_7_code 8 = .ok (.iconst 1, 1) := by decide +kernel
theorem d5_9 : decode prog_80_method_7_code 9 = .ok (.goto 16, 3) := by decide +kernel
theorem d5_12 : decode prog_80_method_7_code 12 = .ok (.iconst 0, 1) := by decide +kernel
theorem d5_13 : decode prog_80_method_7_code 13 = .ok (.goto 12, 3) := by decide +kernel
theorem d5_16 : decode prog_80_method_7_code 16 = .ok (.iload_n 2, 1) := by decide +kernel
theorem d5_17 : decode prog_80_method_7_code 17 = .ok (.ifCond .ge 7, 3) := by decide +kernel
theorem d5_20 : decode prog_80_method_7_code 20 = .ok (.iconst 1, 1) := by decide +kernel
theorem d5_21 : decode prog_80_method_7_code 21 = .ok (.goto 4, 3) := by decide +kernel
theorem d5_24 : decode prog_80_method_7_code 24 = .ok (.iconst 0, 1) := by decide +kernel
theorem d5_25 : decode prog_80_method_7_code 25 = .ok (.istore 4, 2) := by decide +kernel
theorem d5_27 : decode prog_80_method_7_code 27 = .ok (.iload_n 0, 1) := by decide +kernel
theorem d5_28 : decode prog_80_method_7_code 28 = .ok (.ifCond .ge 20, 3) := by decide +kernel
theorem d5_31 : decode prog_80_method_7_code 31 = .ok (.iload_n 1, 1) := by decide +kernel
theorem d5_32 : decode prog_80_method_7_code 32 = .ok (.ifCond .ge 12, 3) := by decide +kernel
theorem d5_35 : decode prog_80_method_7_code 35 = .ok (.iload 4, 2) := by decide +kernel
theorem d5_37 : decode prog_80_method_7_code 37 = .ok (.ifCond .eq 7, 3) := by decide +kernel
theorem d5_40 : decode prog_80_method_7_code 40 = .ok (.iconst 1, 1) := by decide +kernel
theorem d5_41 : decode prog_80_method_7_code 41 = .ok (.goto 21, 3) := by decide +kernel
theorem d5_44 : decode prog_80_method_7_code 44 = .ok (.iconst 0, 1) := by decide +kernel
theorem d5_45 : decode prog_80_method_7_code 45 = .ok (.goto 17, 3) := by decide +kernel
theorem d5_48 : decode prog_80_method_7_code 48 = .ok (.iload_n 1, 1) := by decide +kernel
theorem d5_49 : decode prog_80_method_7_code 49 = .ok (.ifCond .lt 8, 3) := by decide +kernel
theorem d5_52 : decode prog_80_method_7_code 52 = .ok (.iload 4, 2) := by decide +kernel
theorem d5_54 : decode prog_80_method_7_code 54 = .ok (.ifCond .eq 7, 3) := by decide +kernel
theorem d5_57 : decode prog_80_method_7_code 57 = .ok (.iconst 1, 1) := by decide +kernel
theorem d5_58 : decode prog_80_method_7_code 58 = .ok (.goto 4, 3) := by decide +kernel
theorem d5_61 : decode prog_80_method_7_code 61 = .ok (.iconst 0, 1) := by decide +kernel
theorem d5_62 : decode prog_80_method_7_code 62 = .ok (.ireturn, 1) := by decide +kernel
def Qarc (x y z t : Int32) (h0 : Heap) (n0 : Nat) (v : Option Value) (h : Heap) (L : List Loc) : Prop := v = some (.int (own_arc x y z t)) ∧ Fr n0 L ∧ h = h0
theorem ef_rmArc (m : MethodId) (x0 : Int32) (x1 : Int32) (x2 : Int32) (x3 : Int32) : entryFrame m #[(.int x0), (.int x1), (.int x2), (.int x3)] 5 = mkF m 0 #[.val (.int x0), .val (.int x1), .val (.int x2), .val (.int x3), .unset] [] := by first | (simp [entryFrame, mkF, argsToLocals, Value.category, maxLocals]; done) | rfl
theorem pf_4 : plainFor (⟨"com/example/rootcast/rootcast/ring/Circle", "inArc", "(IIIZ)Z"⟩ : MethodName) = true := by apply plainFor_of_name; first | (simp [plainName, overriddenIn]; done) | decide +kernel
set_option maxRecDepth 65536 in
set_option maxHeartbeats 40000000 in
theorem rmArc (l : Launch) (Z : State) (a0 : Array Value) (hw : ∀ d ∈ tables_1, d.before a0 Z = true) (ws : List Jvm.Cond) (q0 q1 q2 q3 : Int32) (h0 : Heap) (n0 : Nat) (Z0 : n0 ≤ h0.size)  :
    MetFree l (⟨"com/example/rootcast/rootcast/ring/Circle", "inArc", "(IIIZ)Z"⟩ : MethodName) (head1 (Jvm.Cond.code (⟨"com/example/rootcast/rootcast/ring/Circle", "inArc", "(IIIZ)Z"⟩ : MethodName) prog_80_method_7_code 5 (some .boolean) :: ws) ({ frames := 0, cells := 0, slots := 0, locals := 0 } : Room)) (fun aa U => aa = #[(.int q0), (.int q1), (.int q2), (.int q3)] ∧ Z.Warmed39 U.vm ∧ U.heap = h0) (fun _ _ _ _ _ => True) (fun _ U o U' => ∃ v L, o = .returned v ∧ Qarc q0 q1 q2 q3 h0 n0 v U'.heap L ∧ FrameEnd U o U' L (({ frames := 0, cells := 0, slots := 0, locals := 0 } : Room).cells) (({ frames := 0, cells := 0, slots := 0, locals := 0 } : Room).slots)) := by
  refine own_body pf_4 ?_
  intro p e s m below meth c s₁ hx hby hml hown hnm hlk hret hZ X0 e0
  have N0 : Fr n0 [] := Fr.nil n0
  refine own_go (f' := (mkF m 0 #[.val (.int q0), .val (.int q1), .val (.int q2), .val (.int q3), .unset] [])) (fun t k => castTop (ef_rmArc m q0 q1 q2 q3) k) ?_
  refine own_iloadN X0 hx (pc' := 1) (hb hby d5_0) rfl rfl ?_
  by_cases hc1_1 : q3 = (0 : Int32)
  · skip
    refine own_ifYes X0 hx (pc' := 16) (hb hby d5_1) (teq hc1_1).1 (by decide) (by decide) ?_
    refine own_iloadN X0 hx (pc' := 17) (hb hby d5_16) rfl rfl ?_
    by_cases hc17_2 : q2 < (0 : Int32)
    · skip
      refine own_ifNo X0 hx (pc' := 20) (hb hby d5_17) (tlt hc17_2).2.1 rfl ?_
      refine own_iconst X0 hx (pc' := 21) (1 : Int32) (hb hby d5_20) rfl rfl ?_
      refine own_goto X0 hx (pc' := 25) (hb hby d5_21) (by decide) (by decide) ?_
      refine own_istore X0 hx (pc' := 27) (Ls' := #[.val (.int q0), .val (.int q1), .val (.int q2), .val (.int q3), .val (.int (1 : Int32))]) (hb hby d5_25) rfl rfl ?_
      refine own_iloadN X0 hx (pc' := 28) (hb hby d5_27) rfl rfl ?_
      by_cases hc28_3 : q0 < (0 : Int32)
      · skip
        refine own_ifNo X0 hx (pc' := 31) (hb hby d5_28) (tlt hc28_3).2.1 rfl ?_
        refine own_iloadN X0 hx (pc' := 32) (hb hby d5_31) rfl rfl ?_
        by_cases hc32_4 : q1 < (0 : Int32)
        · skip
          refine own_ifNo X0 hx (pc' := 35) (hb hby d5_32) (tlt hc32_4).2.1 rfl ?_
          refine own_iload X0 hx (pc' := 37) (hb hby d5_35) rfl rfl ?_
          refine own_ifNo X0 hx (pc' := 40) (hb hby d5_37) (feq (by decide : ¬ ((1 : Int32) = (0 : Int32)))).1 rfl ?_
          refine own_iconst X0 hx (pc' := 41) (1 : Int32) (hb hby d5_40) rfl rfl ?_
          refine own_goto X0 hx (pc' := 62) (hb hby d5_41) (by decide) (by decide) ?_
          refine own_retN X0 hx hlk hret (by simp) (hb hby d5_62) (by decide) (by decide) ?_
          exact ⟨by simp [own_arc, own_w, nar, hc1_1, hc17_2, hc28_3, hc32_4], N0, e0⟩
        · skip
          refine own_ifYes X0 hx (pc' := 44) (hb hby d5_32) (flt hc32_4).2.1 (by decide) (by decide) ?_
          refine own_iconst X0 hx (pc' := 45) (0 : Int32) (hb hby d5_44) rfl rfl ?_
          refine own_goto X0 hx (pc' := 62) (hb hby d5_45) (by decide) (by decide) ?_
          refine own_retN X0 hx hlk hret (by simp) (hb hby d5_62) (by decide) (by decide) ?_
          exact ⟨by simp [own_arc, own_w, nar, hc1_1, hc17_2, hc28_3, hc32_4], N0, e0⟩
      · skip
        refine own_ifYes X0 hx (pc' := 48) (hb hby d5_28) (flt hc28_3).2.1 (by decide) (by decide) ?_
        refine own_iloadN X0 hx (pc' := 49) (hb hby d5_48) rfl rfl ?_
        by_cases hc49_5 : q1 < (0 : Int32)
        · skip
          refine own_ifYes X0 hx (pc' := 57) (hb hby d5_49) (tlt hc49_5).1 (by decide) (by decide) ?_
          refine own_iconst X0 hx (pc' := 58) (1 : Int32) (hb hby d5_57) rfl rfl ?_
          refine own_goto X0 hx (pc' := 62) (hb hby d5_58) (by decide) (by decide) ?_
          refine own_retN X0 hx hlk hret (by simp) (hb hby d5_62) (by decide) (by decide) ?_
          exact ⟨by simp [own_arc, own_w, nar, hc1_1, hc17_2, hc28_3, hc49_5], N0, e0⟩
        · skip
          refine own_ifNo X0 hx (pc' := 52) (hb hby d5_49) (flt hc49_5).1 rfl ?_
          refine own_iload X0 hx (pc' := 54) (hb hby d5_52) rfl rfl ?_
          refine own_ifNo X0 hx (pc' := 57) (hb hby d5_54) (feq (by decide : ¬ ((1 : Int32) = (0 : Int32)))).1 rfl ?_
          refine own_iconst X0 hx (pc' := 58) (1 : Int32) (hb hby d5_57) rfl rfl ?_
          refine own_goto X0 hx (pc' := 62) (hb hby d5_58) (by decide) (by decide) ?_
          refine own_retN X0 hx hlk hret (by simp) (hb hby d5_62) (by decide) (by decide) ?_
          exact ⟨by simp [own_arc, own_w, nar, hc1_1, hc17_2, hc28_3, hc49_5], N0, e0⟩
    · skip
      refine own_ifYes X0 hx (pc' := 24) (hb hby d5_17) (flt hc17_2).2.1 (by decide) (by decide) ?_
      refine own_iconst X0 hx (pc' := 25) (0 : Int32) (hb hby d5_24) rfl rfl ?_
      refine own_istore X0 hx (pc' := 27) (Ls' := #[.val (.int q0), .val (.int q1), .val (.int q2), .val (.int q3), .val (.int (0 : Int32))]) (hb hby d5_25) rfl rfl ?_
      refine own_iloadN X0 hx (pc' := 28) (hb hby d5_27) rfl rfl ?_
      by_cases hc28_6 : q0 < (0 : Int32)
      · skip
        refine own_ifNo X0 hx (pc' := 31) (hb hby d5_28) (tlt hc28_6).2.1 rfl ?_
        refine own_iloadN X0 hx (pc' := 32) (hb hby d5_31) rfl rfl ?_
        by_cases hc32_7 : q1 < (0 : Int32)
        · skip
          refine own_ifNo X0 hx (pc' := 35) (hb hby d5_32) (tlt hc32_7).2.1 rfl ?_
          refine own_iload X0 hx (pc' := 37) (hb hby d5_35) rfl rfl ?_
          refine own_ifYes X0 hx (pc' := 44) (hb hby d5_37) (teq (by decide : (0 : Int32) = (0 : Int32))).1 (by decide) (by decide) ?_
          refine own_iconst X0 hx (pc' := 45) (0 : Int32) (hb hby d5_44) rfl rfl ?_
          refine own_goto X0 hx (pc' := 62) (hb hby d5_45) (by decide) (by decide) ?_
          refine own_retN X0 hx hlk hret (by simp) (hb hby d5_62) (by decide) (by decide) ?_
          exact ⟨by simp [own_arc, own_w, nar, hc1_1, hc17_2, hc28_6, hc32_7], N0, e0⟩
        · skip
          refine own_ifYes X0 hx (pc' := 44) (hb hby d5_32) (flt hc32_7).2.1 (by decide) (by decide) ?_
          refine own_iconst X0 hx (pc' := 45) (0 : Int32) (hb hby d5_44) rfl rfl ?_
          refine own_goto X0 hx (pc' := 62) (hb hby d5_45) (by decide) (by decide) ?_
          refine own_retN X0 hx hlk hret (by simp) (hb hby d5_62) (by decide) (by decide) ?_
          exact ⟨by simp [own_arc, own_w, nar, hc1_1, hc17_2, hc28_6, hc32_7], N0, e0⟩
      · skip
        refine own_ifYes X0 hx (pc' := 48) (hb hby d5_28) (flt hc28_6).2.1 (by decide) (by decide) ?_
        refine own_iloadN X0 hx (pc' := 49) (hb hby d5_48) rfl rfl ?_
        by_cases hc49_8 : q1 < (0 : Int32)
        · skip
          refine own_ifYes X0 hx (pc' := 57) (hb hby d5_49) (tlt hc49_8).1 (by decide) (by decide) ?_
          refine own_iconst X0 hx (pc' := 58) (1 : Int32) (hb hby d5_57) rfl rfl ?_
          refine own_goto X0 hx (pc' := 62) (hb hby d5_58) (by decide) (by decide) ?_
          refine own_retN X0 hx hlk hret (by simp) (hb hby d5_62) (by decide) (by decide) ?_
          exact ⟨by simp [own_arc, own_w, nar, hc1_1, hc17_2, hc28_6, hc49_8], N0, e0⟩
        · skip
          refine own_ifNo X0 hx (pc' := 52) (hb hby d5_49) (flt hc49_8).1 rfl ?_
          refine own_iload X0 hx (pc' := 54) (hb hby d5_52) rfl rfl ?_
          refine own_ifYes X0 hx (pc' := 61) (hb hby d5_54) (teq (by decide : (0 : Int32) = (0 : Int32))).1 (by decide) (by decide) ?_
          refine own_iconst X0 hx (pc' := 62) (0 : Int32) (hb hby d5_61) rfl rfl ?_
          refine own_retN X0 hx hlk hret (by simp) (hb hby d5_62) (by decide) (by decide) ?_
          exact ⟨by simp [own_arc, own_w, nar, hc1_1, hc17_2, hc28_6, hc49_8], N0, e0⟩
  · skip
    refine own_ifNo X0 hx (pc' := 4) (hb hby d5_1) (feq hc1_1).1 rfl ?_
    refine own_iloadN X0 hx (pc' := 5) (hb hby d5_4) rfl rfl ?_
    by_cases hc5_9 : (0 : Int32) < q2
    · skip
      refine own_ifYes X0 hx (pc' := 12) (hb hby d5_5) (tlt hc5_9).2.2.1 (by decide) (by decide) ?_
      refine own_iconst X0 hx (pc' := 13) (0 : Int32) (hb hby d5_12) rfl rfl ?_
      refine own_goto X0 hx (pc' := 25) (hb hby d5_13) (by decide) (by decide) ?_
      refine own_istore X0 hx (pc' := 27) (Ls' := #[.val (.int q0), .val (.int q1), .val (.int q2), .val (.int q3), .val (.int (0 : Int32))]) (hb hby d5_25) rfl rfl ?_
      refine own_iloadN X0 hx (pc' := 28) (hb hby d5_27) rfl rfl ?_
      by_cases hc28_10 : q0 < (0 : Int32)
      · skip
        refine own_ifNo X0 hx (pc' := 31) (hb hby d5_28) (tlt hc28_10).2.1 rfl ?_
        refine own_iloadN X0 hx (pc' := 32) (hb hby d5_31) rfl rfl ?_
        by_cases hc32_11 : q1 < (0 : Int32)
        · skip
          refine own_ifNo X0 hx (pc' := 35) (hb hby d5_32) (tlt hc32_11).2.1 rfl ?_
          refine own_iload X0 hx (pc' := 37) (hb hby d5_35) rfl rfl ?_
          refine own_ifYes X0 hx (pc' := 44) (hb hby d5_37) (teq (by decide : (0 : Int32) = (0 : Int32))).1 (by decide) (by decide) ?_
          refine own_iconst X0 hx (pc' := 45) (0 : Int32) (hb hby d5_44) rfl rfl ?_
          refine own_goto X0 hx (pc' := 62) (hb hby d5_45) (by decide) (by decide) ?_
          refine own_retN X0 hx hlk hret (by simp) (hb hby d5_62) (by decide) (by decide) ?_
          exact ⟨by simp [own_arc, own_w, nar, hc1_1, hc5_9, hc28_10, hc32_11], N0, e0⟩
        · skip
          refine own_ifYes X0 hx (pc' := 44) (hb hby d5_32) (flt hc32_11).2.1 (by decide) (by decide) ?_
          refine own_iconst X0 hx (pc' := 45) (0 : Int32) (hb hby d5_44) rfl rfl ?_
          refine own_goto X0 hx (pc' := 62) (hb hby d5_45) (by decide) (by decide) ?_
          refine own_retN X0 hx hlk hret (by simp) (hb hby d5_62) (by decide) (by decide) ?_
          exact ⟨by simp [own_arc, own_w, nar, hc1_1, hc5_9, hc28_10, hc32_11], N0, e0⟩
      · skip
        refine own_ifYes X0 hx (pc' := 48) (hb hby d5_28) (flt hc28_10).2.1 (by decide) (by decide) ?_
        refine own_iloadN X0 hx (pc' := 49) (hb hby d5_48) rfl rfl ?_
        by_cases hc49_12 : q1 < (0 : Int32)
        · skip
          refine own_ifYes X0 hx (pc' := 57) (hb hby d5_49) (tlt hc49_12).1 (by decide) (by decide) ?_
          refine own_iconst X0 hx (pc' := 58) (1 : Int32) (hb hby d5_57) rfl rfl ?_
          refine own_goto X0 hx (pc' := 62) (hb hby d5_58) (by decide) (by decide) ?_
          refine own_retN X0 hx hlk hret (by simp) (hb hby d5_62) (by decide) (by decide) ?_
          exact ⟨by simp [own_arc, own_w, nar, hc1_1, hc5_9, hc28_10, hc49_12], N0, e0⟩
        · skip
          refine own_ifNo X0 hx (pc' := 52) (hb hby d5_49) (flt hc49_12).1 rfl ?_
          refine own_iload X0 hx (pc' := 54) (hb hby d5_52) rfl rfl ?_
          refine own_ifYes X0 hx (pc' := 61) (hb hby d5_54) (teq (by decide : (0 : Int32) = (0 : Int32))).1 (by decide) (by decide) ?_
          refine own_iconst X0 hx (pc' := 62) (0 : Int32) (hb hby d5_61) rfl rfl ?_
          refine own_retN X0 hx hlk hret (by simp) (hb hby d5_62) (by decide) (by decide) ?_
          exact ⟨by simp [own_arc, own_w, nar, hc1_1, hc5_9, hc28_10, hc49_12], N0, e0⟩
    · skip
      refine own_ifNo X0 hx (pc' := 8) (hb hby d5_5) (flt hc5_9).2.2.1 rfl ?_
      refine own_iconst X0 hx (pc' := 9) (1 : Int32) (hb hby d5_8) rfl rfl ?_
      refine own_goto X0 hx (pc' := 25) (hb hby d5_9) (by decide) (by decide) ?_
      refine own_istore X0 hx (pc' := 27) (Ls' := #[.val (.int q0), .val (.int q1), .val (.int q2), .val (.int q3), .val (.int (1 : Int32))]) (hb hby d5_25) rfl rfl ?_
      refine own_iloadN X0 hx (pc' := 28) (hb hby d5_27) rfl rfl ?_
      by_cases hc28_13 : q0 < (0 : Int32)
      · skip
        refine own_ifNo X0 hx (pc' := 31) (hb hby d5_28) (tlt hc28_13).2.1 rfl ?_
        refine own_iloadN X0 hx (pc' := 32) (hb hby d5_31) rfl rfl ?_
        by_cases hc32_14 : q1 < (0 : Int32)
        · skip
          refine own_ifNo X0 hx (pc' := 35) (hb hby d5_32) (tlt hc32_14).2.1 rfl ?_
          refine own_iload X0 hx (pc' := 37) (hb hby d5_35) rfl rfl ?_
          refine own_ifNo X0 hx (pc' := 40) (hb hby d5_37) (feq (by decide : ¬ ((1 : Int32) = (0 : Int32)))).1 rfl ?_
          refine own_iconst X0 hx (pc' := 41) (1 : Int32) (hb hby d5_40) rfl rfl ?_
          refine own_goto X0 hx (pc' := 62) (hb hby d5_41) (by decide) (by decide) ?_
          refine own_retN X0 hx hlk hret (by simp) (hb hby d5_62) (by decide) (by decide) ?_
          exact ⟨by simp [own_arc, own_w, nar, hc1_1, hc5_9, hc28_13, hc32_14], N0, e0⟩
        · skip
          refine own_ifYes X0 hx (pc' := 44) (hb hby d5_32) (flt hc32_14).2.1 (by decide) (by decide) ?_
          refine own_iconst X0 hx (pc' := 45) (0 : Int32) (hb hby d5_44) rfl rfl ?_
          refine own_goto X0 hx (pc' := 62) (hb hby d5_45) (by decide) (by decide) ?_
          refine own_retN X0 hx hlk hret (by simp) (hb hby d5_62) (by decide) (by decide) ?_
          exact ⟨by simp [own_arc, own_w, nar, hc1_1, hc5_9, hc28_13, hc32_14], N0, e0⟩
      · skip
        refine own_ifYes X0 hx (pc' := 48) (hb hby d5_28) (flt hc28_13).2.1 (by decide) (by decide) ?_
        refine own_iloadN X0 hx (pc' := 49) (hb hby d5_48) rfl rfl ?_
        by_cases hc49_15 : q1 < (0 : Int32)
        · skip
          refine own_ifYes X0 hx (pc' := 57) (hb hby d5_49) (tlt hc49_15).1 (by decide) (by decide) ?_
          refine own_iconst X0 hx (pc' := 58) (1 : Int32) (hb hby d5_57) rfl rfl ?_
          refine own_goto X0 hx (pc' := 62) (hb hby d5_58) (by decide) (by decide) ?_
          refine own_retN X0 hx hlk hret (by simp) (hb hby d5_62) (by decide) (by decide) ?_
          exact ⟨by simp [own_arc, own_w, nar, hc1_1, hc5_9, hc28_13, hc49_15], N0, e0⟩
        · skip
          refine own_ifNo X0 hx (pc' := 52) (hb hby d5_49) (flt hc49_15).1 rfl ?_
          refine own_iload X0 hx (pc' := 54) (hb hby d5_52) rfl rfl ?_
          refine own_ifNo X0 hx (pc' := 57) (hb hby d5_54) (feq (by decide : ¬ ((1 : Int32) = (0 : Int32)))).1 rfl ?_
          refine own_iconst X0 hx (pc' := 58) (1 : Int32) (hb hby d5_57) rfl rfl ?_
          refine own_goto X0 hx (pc' := 62) (hb hby d5_58) (by decide) (by decide) ?_
          refine own_retN X0 hx hlk hret (by simp) (hb hby d5_62) (by decide) (by decide) ?_
          exact ⟨by simp [own_arc, own_w, nar, hc1_1, hc5_9, hc28_13, hc49_15], N0, e0⟩

theorem own_t64_0 : (0 : Int64).toInt = 0 := by decide
theorem own_t64_4294967295 : (4294967295 : Int64).toInt = 4294967295 := by decide
theorem own_t64_4294967296 : (4294967296 : Int64).toInt = 4294967296 := by decide
def Q0 (n0 : Nat) (v : Option Value) (h : Heap) (L : List Loc) : Prop := v = some (.int 1) ∧ Fr n0 L
theorem ef_rm0 (m : MethodId) (x0 : Int32) (x1 : Int32) (x2 : Int32) (x3 : Int32) (x4 : Int32) (x5 : Int32) : entryFrame m #[(.int x0), (.int x1), (.int x2), (.int x3), (.int x4), (.int x5)] maxLocals = mkF m 0 #[.val (.int x0), .val (.int x1), .val (.int x2), .val (.int x3), .val (.int x4), .val (.int x5), .unset, .unset, .unset, .unset, .unset, .unset, .unset, .unset, .unset, .unset] [] := by first | (simp [entryFrame, mkF, argsToLocals, Value.category, maxLocals]; done) | rfl
theorem pf_5 : plainFor (⟨"com/example/rootcast/rootcast/ring/CircleInArcPinLaw", "law", "(IIIIII)Z"⟩ : MethodName) = true := by apply plainFor_of_name; first | (simp [plainName, overriddenIn]; done) | decide +kernel
theorem W3 {a0 : Array Value} {Z : State} (hw : ∀ d ∈ tables_1, d.before a0 Z = true) : (Jvm.Cond.code ({ cls := "com/example/rootcast/rootcast/ring/CircleInArcPinLaw", name := "cmp", desc := "(III)I" } : Jvm.MethodName) method_4_code (3 : Nat) (Option.some Jvm.ClassFile.FieldType.int)).before a0 Z = true := hw _ (List.mem_of_getElem? (i := 3) rfl)
theorem pd_2 : parseMethodDescriptor "(III)I" = some ⟨[.int, .int, .int], some .int⟩ := by decide +kernel
theorem W0 {a0 : Array Value} {Z : State} (hw : ∀ d ∈ tables_1, d.before a0 Z = true) : (Jvm.Cond.methodLink "com/example/rootcast/rootcast/ring/CircleInArcPinLaw" (25 : Nat) ({ cls := "com/example/rootcast/rootcast/ring/CircleInArcPinLaw", name := "cmp", desc := "(III)I" } : Jvm.MethodName)).before a0 Z = true := hw _ (List.mem_of_getElem? (i := 0) rfl)
theorem W1 {a0 : Array Value} {Z : State} (hw : ∀ d ∈ tables_1, d.before a0 Z = true) : (Jvm.Cond.static ({ cls := "com/example/rootcast/rootcast/ring/CircleInArcPinLaw", name := "cmp", desc := "(III)I" } : Jvm.MethodName)).before a0 Z = true := hw _ (List.mem_of_getElem? (i := 1) rfl)
theorem W18 {a0 : Array Value} {Z : State} (hw : ∀ d ∈ tables_1, d.before a0 Z = true) : (Jvm.Cond.code ({ cls := "com/example/rootcast/rootcast/ring/Circle", name := "inArc", desc := "(IIIZ)Z" } : Jvm.MethodName) prog_80_method_7_code (5 : Nat) (Option.some Jvm.ClassFile.FieldType.boolean)).before a0 Z = true := hw _ (List.mem_of_getElem? (i := 18) rfl)
theorem W17 {a0 : Array Value} {Z : State} (hw : ∀ d ∈ tables_1, d.before a0 Z = true) : (Jvm.Cond.initialized "com/example/rootcast/rootcast/ring/Circle").before a0 Z = true := hw _ (List.mem_of_getElem? (i := 17) rfl)
theorem pd_3 : parseMethodDescriptor "(IIIZ)Z" = some ⟨[.int, .int, .int, .boolean], some .boolean⟩ := by decide +kernel
theorem W15 {a0 : Array Value} {Z : State} (hw : ∀ d ∈ tables_1, d.before a0 Z = true) : (Jvm.Cond.methodLink "com/example/rootcast/rootcast/ring/CircleInArcPinLaw" (29 : Nat) ({ cls := "com/example/rootcast/rootcast/ring/Circle", name := "inArc", desc := "(IIIZ)Z" } : Jvm.MethodName)).before a0 Z = true := hw _ (List.mem_of_getElem? (i := 15) rfl)
theorem W16 {a0 : Array Value} {Z : State} (hw : ∀ d ∈ tables_1, d.before a0 Z = true) : (Jvm.Cond.static ({ cls := "com/example/rootcast/rootcast/ring/Circle", name := "inArc", desc := "(IIIZ)Z" } : Jvm.MethodName)).before a0 Z = true := hw _ (List.mem_of_getElem? (i := 16) rfl)
theorem W19 {a0 : Array Value} {Z : State} (hw : ∀ d ∈ tables_1, d.before a0 Z = true) : (Jvm.Cond.constantLong "com/example/rootcast/rootcast/ring/CircleInArcPinLaw" (35 : Nat) (4294967295 : Int64)).before a0 Z = true := hw _ (List.mem_of_getElem? (i := 19) rfl)
theorem W20 {a0 : Array Value} {Z : State} (hw : ∀ d ∈ tables_1, d.before a0 Z = true) : (Jvm.Cond.constantLong "com/example/rootcast/rootcast/ring/CircleInArcPinLaw" (37 : Nat) (4294967296 : Int64)).before a0 Z = true := hw _ (List.mem_of_getElem? (i := 20) rfl)
set_option maxRecDepth 65536 in
set_option maxHeartbeats 40000000 in
theorem rm0 (l : Launch) (Z : State) (a0 : Array Value) (hw : ∀ d ∈ tables_1, d.before a0 Z = true) (ws : List Jvm.Cond) (p0 p1 p2 p3 p4 p5 : Int32) (h0 : Heap) (n0 : Nat) (Z0 : n0 ≤ h0.size)  :
    MetFree l x (head1 (Jvm.Cond.code x code maxLocals ret :: ws) room_1) (fun aa U => aa = #[(.int p0), (.int p1), (.int p2), (.int p3), (.int p4), (.int p5)] ∧ Z.Warmed39 U.vm ∧ U.heap = h0) (fun _ _ _ _ _ => True) (fun _ U o U' => ∃ v L, o = .returned v ∧ Q0 n0 v U'.heap L ∧ FrameEnd U o U' L 0 0) := by
  refine own_body pf_5 ?_
  intro p e s m below meth c s₁ hx hby hml hown hnm hlk hret hZ X0 e0
  have N0 : Fr n0 [] := Fr.nil n0
  refine own_go (f' := (mkF m 0 #[.val (.int p0), .val (.int p1), .val (.int p2), .val (.int p3), .val (.int p4), .val (.int p5), .unset, .unset, .unset, .unset, .unset, .unset, .unset, .unset, .unset, .unset] [])) (fun t k => castTop (ef_rm0 m p0 p1 p2 p3 p4 p5) k) ?_
  have J12 : ∀ z : Int32, (z.toInt = 0 ∨ z.toInt = 1) → own_G p.tables e below (own_P s (Q0 n0) 0 0) s₁ (mkF m 12 #[.val (.int p0), .val (.int p1), .val (.int p2), .val (.int p3), .val (.int p4), .val (.int p5), .unset, .unset, .unset, .unset, .unset, .unset, .unset, .unset, .unset, .unset] [(.int z)]) := by
    intro z hz
    refine own_istore X0 hx (pc' := 14) (Ls' := #[.val (.int p0), .val (.int p1), .val (.int p2), .val (.int p3), .val (.int p4), .val (.int p5), .val (.int z), .unset, .unset, .unset, .unset, .unset, .unset, .unset, .unset, .unset]) (hb hby at_12) rfl rfl ?_
    refine own_iloadN X0 hx (pc' := 15) (hb hby at_14) rfl rfl ?_
    refine own_iloadN X0 hx (pc' := 16) (hb hby at_15) rfl rfl ?_
    refine own_iloadN X0 hx (pc' := 17) (hb hby at_16) rfl rfl ?_
    refine own_callS X0 hx (pc' := 20) hZ hown (W0 hw) (W1 hw) (W2 hw) (W3 hw) (by decide) (rmCmp l Z a0 hw [] p0 p2 p3 h0 n0 Z0) e0 0 (by decide) (by decide) (by decide) (by decide) [(.int p0), (.int p2), (.int p3)] [] (by rw [hml]; rfl) (lenOf pd_2 rfl) rfl rfl (Nat.le_of_eq rfl) (hb hby at_17) rfl (fun v1 T1 L1 X1 hQ1 => ?_)
    obtain ⟨⟨z1, rfl, hz1⟩, Nq1, e1⟩ := hQ1
    have N2 := Fr.app N0 Nq1
    show own_G p.tables e below _ T1 (mkF m 20 #[.val (.int p0), .val (.int p1), .val (.int p2), .val (.int p3), .val (.int p4), .val (.int p5), .val (.int z), .unset, .unset, .unset, .unset, .unset, .unset, .unset, .unset, .unset] [(.int z1)])
    refine own_istore X1 hx (pc' := 22) (Ls' := #[.val (.int p0), .val (.int p1), .val (.int p2), .val (.int p3), .val (.int p4), .val (.int p5), .val (.int z), .val (.int z1), .unset, .unset, .unset, .unset, .unset, .unset, .unset, .unset]) (hb hby at_20) rfl rfl ?_
    refine own_iloadN X1 hx (pc' := 23) (hb hby at_22) rfl rfl ?_
    refine own_iloadN X1 hx (pc' := 24) (hb hby at_23) rfl rfl ?_
    refine own_iload X1 hx (pc' := 26) (hb hby at_24) rfl rfl ?_
    refine own_callS X1 hx (pc' := 29) hZ hown (W0 hw) (W1 hw) (W2 hw) (W3 hw) (by decide) (rmCmp l Z a0 hw [] p0 p1 p4 h0 n0 Z0) e1 0 (by decide) (by decide) (by decide) (by decide) [(.int p0), (.int p1), (.int p4)] [] (by rw [hml]; rfl) (lenOf pd_2 rfl) rfl rfl (Nat.le_of_eq rfl) (hb hby at_26) rfl (fun v3 T3 L3 X3 hQ3 => ?_)
    obtain ⟨⟨z3, rfl, hz3⟩, Nq3, e3⟩ := hQ3
    have N4 := Fr.app N2 Nq3
    show own_G p.tables e below _ T3 (mkF m 29 #[.val (.int p0), .val (.int p1), .val (.int p2), .val (.int p3), .val (.int p4), .val (.int p5), .val (.int z), .val (.int z1), .unset, .unset, .unset, .unset, .unset, .unset, .unset, .unset] [(.int z3)])
    refine own_istore X3 hx (pc' := 31) (Ls' := #[.val (.int p0), .val (.int p1), .val (.int p2), .val (.int p3), .val (.int p4), .val (.int p5), .val (.int z), .val (.int z1), .val (.int z3), .unset, .unset, .unset, .unset, .unset, .unset, .unset]) (hb hby at_29) rfl rfl ?_
    refine own_iloadN X3 hx (pc' := 32) (hb hby at_31) rfl rfl ?_
    refine own_iloadN X3 hx (pc' := 33) (hb hby at_32) rfl rfl ?_
    refine own_iload X3 hx (pc' := 35) (hb hby at_33) rfl rfl ?_
    refine own_callS X3 hx (pc' := 38) hZ hown (W0 hw) (W1 hw) (W2 hw) (W3 hw) (by decide) (rmCmp l Z a0 hw [] p1 p2 p5 h0 n0 Z0) e3 0 (by decide) (by decide) (by decide) (by decide) [(.int p1), (.int p2), (.int p5)] [] (by rw [hml]; rfl) (lenOf pd_2 rfl) rfl rfl (Nat.le_of_eq rfl) (hb hby at_35) rfl (fun v5 T5 L5 X5 hQ5 => ?_)
    obtain ⟨⟨z5, rfl, hz5⟩, Nq5, e5⟩ := hQ5
    have N6 := Fr.app N4 Nq5
    show own_G p.tables e below _ T5 (mkF m 38 #[.val (.int p0), .val (.int p1), .val (.int p2), .val (.int p3), .val (.int p4), .val (.int p5), .val (.int z), .val (.int z1), .val (.int z3), .unset, .unset, .unset, .unset, .unset, .unset, .unset] [(.int z5)])
    refine own_istore X5 hx (pc' := 40) (Ls' := #[.val (.int p0), .val (.int p1), .val (.int p2), .val (.int p3), .val (.int p4), .val (.int p5), .val (.int z), .val (.int z1), .val (.int z3), .val (.int z5), .unset, .unset, .unset, .unset, .unset, .unset]) (hb hby at_38) rfl rfl ?_
    refine own_iload X5 hx (pc' := 42) (hb hby at_40) rfl rfl ?_
    refine own_iload X5 hx (pc' := 44) (hb hby at_42) rfl rfl ?_
    refine own_iload X5 hx (pc' := 46) (hb hby at_44) rfl rfl ?_
    refine own_iload X5 hx (pc' := 48) (hb hby at_46) rfl rfl ?_
    refine own_callS X5 hx (pc' := 51) hZ hown (W15 hw) (W16 hw) (W17 hw) (W18 hw) (by decide) (rmArc l Z a0 hw [] z1 z3 z5 z h0 n0 Z0) e5 0 (by decide) (by decide) (by decide) (by decide) [(.int z1), (.int z3), (.int z5), (.int z)] [] (by rw [hml]; rfl) (lenOf pd_3 rfl) rfl rfl (Nat.le_of_eq rfl) (hb hby at_48) rfl (fun v7 T7 L7 X7 hQ7 => ?_)
    obtain ⟨rfl, Nq7, e7⟩ := hQ7
    have N8 := Fr.app N6 Nq7
    show own_G p.tables e below _ T7 (mkF m 51 #[.val (.int p0), .val (.int p1), .val (.int p2), .val (.int p3), .val (.int p4), .val (.int p5), .val (.int z), .val (.int z1), .val (.int z3), .val (.int z5), .unset, .unset, .unset, .unset, .unset, .unset] [(.int (own_arc z1 z3 z5 z))])
    refine own_istore X7 hx (pc' := 53) (Ls' := #[.val (.int p0), .val (.int p1), .val (.int p2), .val (.int p3), .val (.int p4), .val (.int p5), .val (.int z), .val (.int z1), .val (.int z3), .val (.int z5), .val (.int (own_arc z1 z3 z5 z)), .unset, .unset, .unset, .unset, .unset]) (hb hby at_51) rfl rfl ?_
    refine own_iloadN X7 hx (pc' := 54) (hb hby at_53) rfl rfl ?_
    refine own_i2l X7 hx (pc' := 55) (hb hby at_54) rfl ?_
    refine own_iloadN X7 hx (pc' := 56) (hb hby at_55) rfl rfl ?_
    refine own_i2l X7 hx (pc' := 57) (hb hby at_56) rfl ?_
    refine own_lsub X7 hx (pc' := 58) (hb hby at_57) rfl rfl ?_
    refine own_ldc2J X7 hx (pc' := 61) hZ hown (W19 hw) (hb hby at_58) rfl ?_
    refine own_land X7 hx (pc' := 62) (hb hby at_61) rfl rfl ?_
    refine own_lstore X7 hx (pc' := 64) (Ls' := #[.val (.int p0), .val (.int p1), .val (.int p2), .val (.int p3), .val (.int p4), .val (.int p5), .val (.int z), .val (.int z1), .val (.int z3), .val (.int z5), .val (.int (own_arc z1 z3 z5 z)), .val (.long (((p1.toInt64) - (p0.toInt64)) &&& (4294967295 : Int64))), .second, .unset, .unset, .unset]) (hb hby at_62) rfl rfl ?_
    refine own_iloadN X7 hx (pc' := 65) (hb hby at_64) rfl rfl ?_
    refine own_i2l X7 hx (pc' := 66) (hb hby at_65) rfl ?_
    refine own_iloadN X7 hx (pc' := 67) (hb hby at_66) rfl rfl ?_
    refine own_i2l X7 hx (pc' := 68) (hb hby at_67) rfl ?_
    refine own_lsub X7 hx (pc' := 69) (hb hby at_68) rfl rfl ?_
    refine own_ldc2J X7 hx (pc' := 72) hZ hown (W19 hw) (hb hby at_69) rfl ?_
    refine own_land X7 hx (pc' := 73) (hb hby at_72) rfl rfl ?_
    refine own_lstore X7 hx (pc' := 75) (Ls' := #[.val (.int p0), .val (.int p1), .val (.int p2), .val (.int p3), .val (.int p4), .val (.int p5), .val (.int z), .val (.int z1), .val (.int z3), .val (.int z5), .val (.int (own_arc z1 z3 z5 z)), .val (.long (((p1.toInt64) - (p0.toInt64)) &&& (4294967295 : Int64))), .second, .val (.long (((p2.toInt64) - (p0.toInt64)) &&& (4294967295 : Int64))), .second, .unset]) (hb hby at_73) rfl rfl ?_
    refine own_lload X7 hx (pc' := 77) (hb hby at_75) rfl rfl ?_
    refine own_lconst X7 hx (pc' := 78) (0 : Int64) (hb hby at_77) rfl rfl ?_
    refine own_lcmp X7 hx (pc' := 79) (hb hby at_78) rfl ?_
    by_cases hc79_9 : (((p2.toInt64) - (p0.toInt64)) &&& (4294967295 : Int64)) = (0 : Int64)
    · skip
      refine own_ifNo X7 hx (pc' := 82) (hb hby at_79) (teq ((lw_eq (((p2.toInt64) - (p0.toInt64)) &&& (4294967295 : Int64)) (0 : Int64)).mpr hc79_9)).2 rfl ?_
      refine own_ldc2J X7 hx (pc' := 85) hZ hown (W20 hw) (hb hby at_82) rfl ?_
      refine own_lstore X7 hx (pc' := 87) (Ls' := #[.val (.int p0), .val (.int p1), .val (.int p2), .val (.int p3), .val (.int p4), .val (.int p5), .val (.int z), .val (.int z1), .val (.int z3), .val (.int z5), .val (.int (own_arc z1 z3 z5 z)), .val (.long (((p1.toInt64) - (p0.toInt64)) &&& (4294967295 : Int64))), .second, .val (.long (4294967296 : Int64)), .second, .unset]) (hb hby at_85) rfl rfl ?_
      refine own_iloadN X7 hx (pc' := 88) (hb hby at_87) rfl rfl ?_
      refine own_iloadN X7 hx (pc' := 89) (hb hby at_88) rfl rfl ?_
      by_cases hc89_10 : p1 = p0
      · skip
        refine own_icmpYes X7 hx (pc' := 100) (hb hby at_89) (teq hc89_10).1 (by decide) (by decide) ?_
        refine own_iload X7 hx (pc' := 102) (hb hby at_100) rfl rfl ?_
        by_cases hc102_11 : z = (0 : Int32)
        · skip
          refine own_ifYes X7 hx (pc' := 114) (hb hby at_102) (teq hc102_11).1 (by decide) (by decide) ?_
          refine own_iconst X7 hx (pc' := 115) (0 : Int32) (hb hby at_114) rfl rfl ?_
          refine own_istore X7 hx (pc' := 117) (Ls' := #[.val (.int p0), .val (.int p1), .val (.int p2), .val (.int p3), .val (.int p4), .val (.int p5), .val (.int z), .val (.int z1), .val (.int z3), .val (.int z5), .val (.int (own_arc z1 z3 z5 z)), .val (.long (((p1.toInt64) - (p0.toInt64)) &&& (4294967295 : Int64))), .second, .val (.long (4294967296 : Int64)), .second, .val (.int (0 : Int32))]) (hb hby at_115) rfl rfl ?_
          have hv12 : (own_arc z1 z3 z5 z) = (0 : Int32) := by
            have a0 := hz1
            have a1 := hz3
            have a2 := hz5
            have a3 := hc79_9
            have a4 := hc89_10
            have a5 := hc102_11
            have b0 := hz
            have b1 := c_maskL (p1.toInt64 - p0.toInt64) (4294967295 : Int64) 32 (by decide) (by decide)
            have b2 := c_lsub p1.toInt64 p0.toInt64
            have b3 := rng64 (p1.toInt64 - p0.toInt64)
            have b4 := c_maskL (p2.toInt64 - p0.toInt64) (4294967295 : Int64) 32 (by decide) (by decide)
            have b5 := c_lsub p2.toInt64 p0.toInt64
            have b6 := rng64 (p2.toInt64 - p0.toInt64)
            have b7 := c_i2l p0
            have b8 := c_i2l p1
            have b9 := c_i2l p2
            have b10 := rng32 p0
            have b11 := rng32 p1
            have b12 := rng32 p2
            simp only [Int32.lt_iff_toInt_lt, Int32.le_iff_toInt_le, Int64.lt_iff_toInt_lt, Int64.le_iff_toInt_le, ← Int32.toInt_inj, ← Int64.toInt_inj, own_t32_0, own_t32_1, own_t32_m2147483648, own_t64_0, own_t64_4294967295, own_t64_4294967296, show ((2 ^ 32 : Nat) : Int) = 4294967296 from rfl] at a0 a1 a2 a3 a4 a5 b0 b1 b2 b3 b4 b5 b6 b7 b8 b9 b10 b11 b12
            unfold own_arc own_w
            simp only [Int32.lt_iff_toInt_lt, Int32.le_iff_toInt_le, Int64.lt_iff_toInt_lt, Int64.le_iff_toInt_le, ← Int32.toInt_inj, ← Int64.toInt_inj, own_t32_0, own_t32_1, own_t32_m2147483648, own_t64_0, own_t64_4294967295, own_t64_4294967296, show ((2 ^ 32 : Nat) : Int) = 4294967296 from rfl]
            repeat' split
            all_goals first | rfl | omega
          refine own_iload X7 hx (pc' := 119) (hb hby at_117) rfl rfl ?_
          refine own_iload X7 hx (pc' := 121) (hb hby at_119) rfl rfl ?_
          refine own_icmpNo X7 hx (pc' := 124) (hb hby at_121) (teq hv12).2 rfl ?_
          refine own_iconst X7 hx (pc' := 125) (1 : Int32) (hb hby at_124) rfl rfl ?_
          refine own_goto X7 hx (pc' := 129) (hb hby at_125) (by decide) (by decide) ?_
          refine own_retN X7 hx hlk hret (by simp) (hb hby at_129) (by decide) (by decide) ?_
          exact ⟨rfl, N8⟩
        · skip
          refine own_ifNo X7 hx (pc' := 105) (hb hby at_102) (feq hc102_11).1 rfl ?_
          refine own_iloadN X7 hx (pc' := 106) (hb hby at_105) rfl rfl ?_
          refine own_iloadN X7 hx (pc' := 107) (hb hby at_106) rfl rfl ?_
          by_cases hc107_13 : p1 = p2
          · skip
            refine own_icmpNo X7 hx (pc' := 110) (hb hby at_107) (teq hc107_13).2 rfl ?_
            refine own_iconst X7 hx (pc' := 111) (1 : Int32) (hb hby at_110) rfl rfl ?_
            refine own_goto X7 hx (pc' := 115) (hb hby at_111) (by decide) (by decide) ?_
            refine own_istore X7 hx (pc' := 117) (Ls' := #[.val (.int p0), .val (.int p1), .val (.int p2), .val (.int p3), .val (.int p4), .val (.int p5), .val (.int z), .val (.int z1), .val (.int z3), .val (.int z5), .val (.int (own_arc z1 z3 z5 z)), .val (.long (((p1.toInt64) - (p0.toInt64)) &&& (4294967295 : Int64))), .second, .val (.long (4294967296 : Int64)), .second, .val (.int (1 : Int32))]) (hb hby at_115) rfl rfl ?_
            have hv14 : (own_arc z1 z3 z5 z) = (1 : Int32) := by
              have a0 := hz1
              have a1 := hz3
              have a2 := hz5
              have a3 := hc79_9
              have a4 := hc89_10
              have a5 := hc102_11
              have a6 := hc107_13
              have b0 := hz
              have b1 := c_maskL (p1.toInt64 - p0.toInt64) (4294967295 : Int64) 32 (by decide) (by decide)
              have b2 := c_lsub p1.toInt64 p0.toInt64
              have b3 := rng64 (p1.toInt64 - p0.toInt64)
              have b4 := c_maskL (p2.toInt64 - p0.toInt64) (4294967295 : Int64) 32 (by decide) (by decide)
              have b5 := c_lsub p2.toInt64 p0.toInt64
              have b6 := rng64 (p2.toInt64 - p0.toInt64)
              have b7 := c_i2l p0
              have b8 := c_i2l p1
              have b9 := c_i2l p2
              have b10 := rng32 p0
              have b11 := rng32 p1
              have b12 := rng32 p2
              simp only [Int32.lt_iff_toInt_lt, Int32.le_iff_toInt_le, Int64.lt_iff_toInt_lt, Int64.le_iff_toInt_le, ← Int32.toInt_inj, ← Int64.toInt_inj, own_t32_0, own_t32_1, own_t32_m2147483648, own_t64_0, own_t64_4294967295, own_t64_4294967296, show ((2 ^ 32 : Nat) : Int) = 4294967296 from rfl] at a0 a1 a2 a3 a4 a5 a6 b0 b1 b2 b3 b4 b5 b6 b7 b8 b9 b10 b11 b12
              unfold own_arc own_w
              simp only [Int32.lt_iff_toInt_lt, Int32.le_iff_toInt_le, Int64.lt_iff_toInt_lt, Int64.le_iff_toInt_le, ← Int32.toInt_inj, ← Int64.toInt_inj, own_t32_0, own_t32_1, own_t32_m2147483648, own_t64_0, own_t64_4294967295, own_t64_4294967296, show ((2 ^ 32 : Nat) : Int) = 4294967296 from rfl]
              repeat' split
              all_goals first | rfl | omega
            refine own_iload X7 hx (pc' := 119) (hb hby at_117) rfl rfl ?_
            refine own_iload X7 hx (pc' := 121) (hb hby at_119) rfl rfl ?_
            refine own_icmpNo X7 hx (pc' := 124) (hb hby at_121) (teq hv14).2 rfl ?_
            refine own_iconst X7 hx (pc' := 125) (1 : Int32) (hb hby at_124) rfl rfl ?_
            refine own_goto X7 hx (pc' := 129) (hb hby at_125) (by decide) (by decide) ?_
            refine own_retN X7 hx hlk hret (by simp) (hb hby at_129) (by decide) (by decide) ?_
            exact ⟨rfl, N8⟩
          · skip
            refine own_icmpYes X7 hx (pc' := 114) (hb hby at_107) (feq hc107_13).2 (by decide) (by decide) ?_
            refine own_iconst X7 hx (pc' := 115) (0 : Int32) (hb hby at_114) rfl rfl ?_
            refine own_istore X7 hx (pc' := 117) (Ls' := #[.val (.int p0), .val (.int p1), .val (.int p2), .val (.int p3), .val (.int p4), .val (.int p5), .val (.int z), .val (.int z1), .val (.int z3), .val (.int z5), .val (.int (own_arc z1 z3 z5 z)), .val (.long (((p1.toInt64) - (p0.toInt64)) &&& (4294967295 : Int64))), .second, .val (.long (4294967296 : Int64)), .second, .val (.int (0 : Int32))]) (hb hby at_115) rfl rfl ?_
            have hv15 : (own_arc z1 z3 z5 z) = (0 : Int32) := by
              have a0 := hz1
              have a1 := hz3
              have a2 := hz5
              have a3 := hc79_9
              have a4 := hc89_10
              have a5 := hc102_11
              have a6 := hc107_13
              have b0 := hz
              have b1 := c_maskL (p1.toInt64 - p0.toInt64) (4294967295 : Int64) 32 (by decide) (by decide)
              have b2 := c_lsub p1.toInt64 p0.toInt64
              have b3 := rng64 (p1.toInt64 - p0.toInt64)
              have b4 := c_maskL (p2.toInt64 - p0.toInt64) (4294967295 : Int64) 32 (by decide) (by decide)
              have b5 := c_lsub p2.toInt64 p0.toInt64
              have b6 := rng64 (p2.toInt64 - p0.toInt64)
              have b7 := c_i2l p0
              have b8 := c_i2l p1
              have b9 := c_i2l p2
              have b10 := rng32 p0
              have b11 := rng32 p1
              have b12 := rng32 p2
              simp only [Int32.lt_iff_toInt_lt, Int32.le_iff_toInt_le, Int64.lt_iff_toInt_lt, Int64.le_iff_toInt_le, ← Int32.toInt_inj, ← Int64.toInt_inj, own_t32_0, own_t32_1, own_t32_m2147483648, own_t64_0, own_t64_4294967295, own_t64_4294967296, show ((2 ^ 32 : Nat) : Int) = 4294967296 from rfl] at a0 a1 a2 a3 a4 a5 a6 b0 b1 b2 b3 b4 b5 b6 b7 b8 b9 b10 b11 b12
              unfold own_arc own_w
              simp only [Int32.lt_iff_toInt_lt, Int32.le_iff_toInt_le, Int64.lt_iff_toInt_lt, Int64.le_iff_toInt_le, ← Int32.toInt_inj, ← Int64.toInt_inj, own_t32_0, own_t32_1, own_t32_m2147483648, own_t64_0, own_t64_4294967295, own_t64_4294967296, show ((2 ^ 32 : Nat) : Int) = 4294967296 from rfl]
              repeat' split
              all_goals first | rfl | omega
            refine own_iload X7 hx (pc' := 119) (hb hby at_117) rfl rfl ?_
            refine own_iload X7 hx (pc' := 121) (hb hby at_119) rfl rfl ?_
            refine own_icmpNo X7 hx (pc' := 124) (hb hby at_121) (teq hv15).2 rfl ?_
            refine own_iconst X7 hx (pc' := 125) (1 : Int32) (hb hby at_124) rfl rfl ?_
            refine own_goto X7 hx (pc' := 129) (hb hby at_125) (by decide) (by decide) ?_
            refine own_retN X7 hx hlk hret (by simp) (hb hby at_129) (by decide) (by decide) ?_
            exact ⟨rfl, N8⟩
      · skip
        refine own_icmpNo X7 hx (pc' := 92) (hb hby at_89) (feq hc89_10).1 rfl ?_
        refine own_lload X7 hx (pc' := 94) (hb hby at_92) rfl rfl ?_
        refine own_lload X7 hx (pc' := 96) (hb hby at_94) rfl rfl ?_
        refine own_lcmp X7 hx (pc' := 97) (hb hby at_96) rfl ?_
        by_cases hc97_16 : (((p1.toInt64) - (p0.toInt64)) &&& (4294967295 : Int64)) < (4294967296 : Int64)
        · skip
          refine own_ifYes X7 hx (pc' := 110) (hb hby at_97) (tlt ((lw_lt (((p1.toInt64) - (p0.toInt64)) &&& (4294967295 : Int64)) (4294967296 : Int64)).mpr hc97_16)).1 (by decide) (by decide) ?_
          refine own_iconst X7 hx (pc' := 111) (1 : Int32) (hb hby at_110) rfl rfl ?_
          refine own_goto X7 hx (pc' := 115) (hb hby at_111) (by decide) (by decide) ?_
          refine own_istore X7 hx (pc' := 117) (Ls' := #[.val (.int p0), .val (.int p1), .val (.int p2), .val (.int p3), .val (.int p4), .val (.int p5), .val (.int z), .val (.int z1), .val (.int z3), .val (.int z5), .val (.int (own_arc z1 z3 z5 z)), .val (.long (((p1.toInt64) - (p0.toInt64)) &&& (4294967295 : Int64))), .second, .val (.long (4294967296 : Int64)), .second, .val (.int (1 : Int32))]) (hb hby at_115) rfl rfl ?_
          have hv17 : (own_arc z1 z3 z5 z) = (1 : Int32) := by
            have a0 := hz1
            have a1 := hz3
            have a2 := hz5
            have a3 := hc79_9
            have a4 := hc89_10
            have a5 := hc97_16
            have b0 := hz
            have b1 := c_maskL (p1.toInt64 - p0.toInt64) (4294967295 : Int64) 32 (by decide) (by decide)
            have b2 := c_lsub p1.toInt64 p0.toInt64
            have b3 := rng64 (p1.toInt64 - p0.toInt64)
            have b4 := c_maskL (p2.toInt64 - p0.toInt64) (4294967295 : Int64) 32 (by decide) (by decide)
            have b5 := c_lsub p2.toInt64 p0.toInt64
            have b6 := rng64 (p2.toInt64 - p0.toInt64)
            have b7 := c_i2l p0
            have b8 := c_i2l p1
            have b9 := c_i2l p2
            have b10 := rng32 p0
            have b11 := rng32 p1
            have b12 := rng32 p2
            simp only [Int32.lt_iff_toInt_lt, Int32.le_iff_toInt_le, Int64.lt_iff_toInt_lt, Int64.le_iff_toInt_le, ← Int32.toInt_inj, ← Int64.toInt_inj, own_t32_0, own_t32_1, own_t32_m2147483648, own_t64_0, own_t64_4294967295, own_t64_4294967296, show ((2 ^ 32 : Nat) : Int) = 4294967296 from rfl] at a0 a1 a2 a3 a4 a5 b0 b1 b2 b3 b4 b5 b6 b7 b8 b9 b10 b11 b12
            unfold own_arc own_w
            simp only [Int32.lt_iff_toInt_lt, Int32.le_iff_toInt_le, Int64.lt_iff_toInt_lt, Int64.le_iff_toInt_le, ← Int32.toInt_inj, ← Int64.toInt_inj, own_t32_0, own_t32_1, own_t32_m2147483648, own_t64_0, own_t64_4294967295, own_t64_4294967296, show ((2 ^ 32 : Nat) : Int) = 4294967296 from rfl]
            repeat' split
            all_goals first | rfl | omega
          refine own_iload X7 hx (pc' := 119) (hb hby at_117) rfl rfl ?_
          refine own_iload X7 hx (pc' := 121) (hb hby at_119) rfl rfl ?_
          refine own_icmpNo X7 hx (pc' := 124) (hb hby at_121) (teq hv17).2 rfl ?_
          refine own_iconst X7 hx (pc' := 125) (1 : Int32) (hb hby at_124) rfl rfl ?_
          refine own_goto X7 hx (pc' := 129) (hb hby at_125) (by decide) (by decide) ?_
          refine own_retN X7 hx hlk hret (by simp) (hb hby at_129) (by decide) (by decide) ?_
          exact ⟨rfl, N8⟩
        · skip
          refine own_ifNo X7 hx (pc' := 100) (hb hby at_97) (flt (fun q => hc97_16 ((lw_lt (((p1.toInt64) - (p0.toInt64)) &&& (4294967295 : Int64)) (4294967296 : Int64)).mp q))).1 rfl ?_
          refine own_iload X7 hx (pc' := 102) (hb hby at_100) rfl rfl ?_
          by_cases hc102_18 : z = (0 : Int32)
          · skip
            refine own_ifYes X7 hx (pc' := 114) (hb hby at_102) (teq hc102_18).1 (by decide) (by decide) ?_
            refine own_iconst X7 hx (pc' := 115) (0 : Int32) (hb hby at_114) rfl rfl ?_
            refine own_istore X7 hx (pc' := 117) (Ls' := #[.val (.int p0), .val (.int p1), .val (.int p2), .val (.int p3), .val (.int p4), .val (.int p5), .val (.int z), .val (.int z1), .val (.int z3), .val (.int z5), .val (.int (own_arc z1 z3 z5 z)), .val (.long (((p1.toInt64) - (p0.toInt64)) &&& (4294967295 : Int64))), .second, .val (.long (4294967296 : Int64)), .second, .val (.int (0 : Int32))]) (hb hby at_115) rfl rfl ?_
            have hv19 : (own_arc z1 z3 z5 z) = (0 : Int32) := by
              have a0 := hz1
              have a1 := hz3
              have a2 := hz5
              have a3 := hc79_9
              have a4 := hc89_10
              have a5 := hc97_16
              have a6 := hc102_18
              have b0 := hz
              have b1 := c_maskL (p1.toInt64 - p0.toInt64) (4294967295 : Int64) 32 (by decide) (by decide)
              have b2 := c_lsub p1.toInt64 p0.toInt64
              have b3 := rng64 (p1.toInt64 - p0.toInt64)
              have b4 := c_maskL (p2.toInt64 - p0.toInt64) (4294967295 : Int64) 32 (by decide) (by decide)
              have b5 := c_lsub p2.toInt64 p0.toInt64
              have b6 := rng64 (p2.toInt64 - p0.toInt64)
              have b7 := c_i2l p0
              have b8 := c_i2l p1
              have b9 := c_i2l p2
              have b10 := rng32 p0
              have b11 := rng32 p1
              have b12 := rng32 p2
              simp only [Int32.lt_iff_toInt_lt, Int32.le_iff_toInt_le, Int64.lt_iff_toInt_lt, Int64.le_iff_toInt_le, ← Int32.toInt_inj, ← Int64.toInt_inj, own_t32_0, own_t32_1, own_t32_m2147483648, own_t64_0, own_t64_4294967295, own_t64_4294967296, show ((2 ^ 32 : Nat) : Int) = 4294967296 from rfl] at a0 a1 a2 a3 a4 a5 a6 b0 b1 b2 b3 b4 b5 b6 b7 b8 b9 b10 b11 b12
              unfold own_arc own_w
              simp only [Int32.lt_iff_toInt_lt, Int32.le_iff_toInt_le, Int64.lt_iff_toInt_lt, Int64.le_iff_toInt_le, ← Int32.toInt_inj, ← Int64.toInt_inj, own_t32_0, own_t32_1, own_t32_m2147483648, own_t64_0, own_t64_4294967295, own_t64_4294967296, show ((2 ^ 32 : Nat) : Int) = 4294967296 from rfl]
              repeat' split
              all_goals first | rfl | omega
            refine own_iload X7 hx (pc' := 119) (hb hby at_117) rfl rfl ?_
            refine own_iload X7 hx (pc' := 121) (hb hby at_119) rfl rfl ?_
            refine own_icmpNo X7 hx (pc' := 124) (hb hby at_121) (teq hv19).2 rfl ?_
            refine own_iconst X7 hx (pc' := 125) (1 : Int32) (hb hby at_124) rfl rfl ?_
            refine own_goto X7 hx (pc' := 129) (hb hby at_125) (by decide) (by decide) ?_
            refine own_retN X7 hx hlk hret (by simp) (hb hby at_129) (by decide) (by decide) ?_
            exact ⟨rfl, N8⟩
          · skip
            refine own_ifNo X7 hx (pc' := 105) (hb hby at_102) (feq hc102_18).1 rfl ?_
            refine own_iloadN X7 hx (pc' := 106) (hb hby at_105) rfl rfl ?_
            refine own_iloadN X7 hx (pc' := 107) (hb hby at_106) rfl rfl ?_
            by_cases hc107_20 : p1 = p2
            · skip
              refine own_icmpNo X7 hx (pc' := 110) (hb hby at_107) (teq hc107_20).2 rfl ?_
              refine own_iconst X7 hx (pc' := 111) (1 : Int32) (hb hby at_110) rfl rfl ?_
              refine own_goto X7 hx (pc' := 115) (hb hby at_111) (by decide) (by decide) ?_
              refine own_istore X7 hx (pc' := 117) (Ls' := #[.val (.int p0), .val (.int p1), .val (.int p2), .val (.int p3), .val (.int p4), .val (.int p5), .val (.int z), .val (.int z1), .val (.int z3), .val (.int z5), .val (.int (own_arc z1 z3 z5 z)), .val (.long (((p1.toInt64) - (p0.toInt64)) &&& (4294967295 : Int64))), .second, .val (.long (4294967296 : Int64)), .second, .val (.int (1 : Int32))]) (hb hby at_115) rfl rfl ?_
              have hv21 : (own_arc z1 z3 z5 z) = (1 : Int32) := by
                have a0 := hz1
                have a1 := hz3
                have a2 := hz5
                have a3 := hc79_9
                have a4 := hc89_10
                have a5 := hc97_16
                have a6 := hc102_18
                have a7 := hc107_20
                have b0 := hz
                have b1 := c_maskL (p1.toInt64 - p0.toInt64) (4294967295 : Int64) 32 (by decide) (by decide)
                have b2 := c_lsub p1.toInt64 p0.toInt64
                have b3 := rng64 (p1.toInt64 - p0.toInt64)
                have b4 := c_maskL (p2.toInt64 - p0.toInt64) (4294967295 : Int64) 32 (by decide) (by decide)
                have b5 := c_lsub p2.toInt64 p0.toInt64
                have b6 := rng64 (p2.toInt64 - p0.toInt64)
                have b7 := c_i2l p0
                have b8 := c_i2l p1
                have b9 := c_i2l p2
                have b10 := rng32 p0
                have b11 := rng32 p1
                have b12 := rng32 p2
                simp only [Int32.lt_iff_toInt_lt, Int32.le_iff_toInt_le, Int64.lt_iff_toInt_lt, Int64.le_iff_toInt_le, ← Int32.toInt_inj, ← Int64.toInt_inj, own_t32_0, own_t32_1, own_t32_m2147483648, own_t64_0, own_t64_4294967295, own_t64_4294967296, show ((2 ^ 32 : Nat) : Int) = 4294967296 from rfl] at a0 a1 a2 a3 a4 a5 a6 a7 b0 b1 b2 b3 b4 b5 b6 b7 b8 b9 b10 b11 b12
                unfold own_arc own_w
                simp only [Int32.lt_iff_toInt_lt, Int32.le_iff_toInt_le, Int64.lt_iff_toInt_lt, Int64.le_iff_toInt_le, ← Int32.toInt_inj, ← Int64.toInt_inj, own_t32_0, own_t32_1, own_t32_m2147483648, own_t64_0, own_t64_4294967295, own_t64_4294967296, show ((2 ^ 32 : Nat) : Int) = 4294967296 from rfl]
                repeat' split
                all_goals first | rfl | omega
              refine own_iload X7 hx (pc' := 119) (hb hby at_117) rfl rfl ?_
              refine own_iload X7 hx (pc' := 121) (hb hby at_119) rfl rfl ?_
              refine own_icmpNo X7 hx (pc' := 124) (hb hby at_121) (teq hv21).2 rfl ?_
              refine own_iconst X7 hx (pc' := 125) (1 : Int32) (hb hby at_124) rfl rfl ?_
              refine own_goto X7 hx (pc' := 129) (hb hby at_125) (by decide) (by decide) ?_
              refine own_retN X7 hx hlk hret (by simp) (hb hby at_129) (by decide) (by decide) ?_
              exact ⟨rfl, N8⟩
            · skip
              refine own_icmpYes X7 hx (pc' := 114) (hb hby at_107) (feq hc107_20).2 (by decide) (by decide) ?_
              refine own_iconst X7 hx (pc' := 115) (0 : Int32) (hb hby at_114) rfl rfl ?_
              refine own_istore X7 hx (pc' := 117) (Ls' := #[.val (.int p0), .val (.int p1), .val (.int p2), .val (.int p3), .val (.int p4), .val (.int p5), .val (.int z), .val (.int z1), .val (.int z3), .val (.int z5), .val (.int (own_arc z1 z3 z5 z)), .val (.long (((p1.toInt64) - (p0.toInt64)) &&& (4294967295 : Int64))), .second, .val (.long (4294967296 : Int64)), .second, .val (.int (0 : Int32))]) (hb hby at_115) rfl rfl ?_
              have hv22 : (own_arc z1 z3 z5 z) = (0 : Int32) := by
                have a0 := hz1
                have a1 := hz3
                have a2 := hz5
                have a3 := hc79_9
                have a4 := hc89_10
                have a5 := hc97_16
                have a6 := hc102_18
                have a7 := hc107_20
                have b0 := hz
                have b1 := c_maskL (p1.toInt64 - p0.toInt64) (4294967295 : Int64) 32 (by decide) (by decide)
                have b2 := c_lsub p1.toInt64 p0.toInt64
                have b3 := rng64 (p1.toInt64 - p0.toInt64)
                have b4 := c_maskL (p2.toInt64 - p0.toInt64) (4294967295 : Int64) 32 (by decide) (by decide)
                have b5 := c_lsub p2.toInt64 p0.toInt64
                have b6 := rng64 (p2.toInt64 - p0.toInt64)
                have b7 := c_i2l p0
                have b8 := c_i2l p1
                have b9 := c_i2l p2
                have b10 := rng32 p0
                have b11 := rng32 p1
                have b12 := rng32 p2
                simp only [Int32.lt_iff_toInt_lt, Int32.le_iff_toInt_le, Int64.lt_iff_toInt_lt, Int64.le_iff_toInt_le, ← Int32.toInt_inj, ← Int64.toInt_inj, own_t32_0, own_t32_1, own_t32_m2147483648, own_t64_0, own_t64_4294967295, own_t64_4294967296, show ((2 ^ 32 : Nat) : Int) = 4294967296 from rfl] at a0 a1 a2 a3 a4 a5 a6 a7 b0 b1 b2 b3 b4 b5 b6 b7 b8 b9 b10 b11 b12
                unfold own_arc own_w
                simp only [Int32.lt_iff_toInt_lt, Int32.le_iff_toInt_le, Int64.lt_iff_toInt_lt, Int64.le_iff_toInt_le, ← Int32.toInt_inj, ← Int64.toInt_inj, own_t32_0, own_t32_1, own_t32_m2147483648, own_t64_0, own_t64_4294967295, own_t64_4294967296, show ((2 ^ 32 : Nat) : Int) = 4294967296 from rfl]
                repeat' split
                all_goals first | rfl | omega
              refine own_iload X7 hx (pc' := 119) (hb hby at_117) rfl rfl ?_
              refine own_iload X7 hx (pc' := 121) (hb hby at_119) rfl rfl ?_
              refine own_icmpNo X7 hx (pc' := 124) (hb hby at_121) (teq hv22).2 rfl ?_
              refine own_iconst X7 hx (pc' := 125) (1 : Int32) (hb hby at_124) rfl rfl ?_
              refine own_goto X7 hx (pc' := 129) (hb hby at_125) (by decide) (by decide) ?_
              refine own_retN X7 hx hlk hret (by simp) (hb hby at_129) (by decide) (by decide) ?_
              exact ⟨rfl, N8⟩
    · skip
      refine own_ifYes X7 hx (pc' := 87) (hb hby at_79) (feq (fun q => hc79_9 ((lw_eq (((p2.toInt64) - (p0.toInt64)) &&& (4294967295 : Int64)) (0 : Int64)).mp q))).2 (by decide) (by decide) ?_
      refine own_iloadN X7 hx (pc' := 88) (hb hby at_87) rfl rfl ?_
      refine own_iloadN X7 hx (pc' := 89) (hb hby at_88) rfl rfl ?_
      by_cases hc89_23 : p1 = p0
      · skip
        refine own_icmpYes X7 hx (pc' := 100) (hb hby at_89) (teq hc89_23).1 (by decide) (by decide) ?_
        refine own_iload X7 hx (pc' := 102) (hb hby at_100) rfl rfl ?_
        by_cases hc102_24 : z = (0 : Int32)
        · skip
          refine own_ifYes X7 hx (pc' := 114) (hb hby at_102) (teq hc102_24).1 (by decide) (by decide) ?_
          refine own_iconst X7 hx (pc' := 115) (0 : Int32) (hb hby at_114) rfl rfl ?_
          refine own_istore X7 hx (pc' := 117) (Ls' := #[.val (.int p0), .val (.int p1), .val (.int p2), .val (.int p3), .val (.int p4), .val (.int p5), .val (.int z), .val (.int z1), .val (.int z3), .val (.int z5), .val (.int (own_arc z1 z3 z5 z)), .val (.long (((p1.toInt64) - (p0.toInt64)) &&& (4294967295 : Int64))), .second, .val (.long (((p2.toInt64) - (p0.toInt64)) &&& (4294967295 : Int64))), .second, .val (.int (0 : Int32))]) (hb hby at_115) rfl rfl ?_
          have hv25 : (own_arc z1 z3 z5 z) = (0 : Int32) := by
            have a0 := hz1
            have a1 := hz3
            have a2 := hz5
            have a3 := hc79_9
            have a4 := hc89_23
            have a5 := hc102_24
            have b0 := hz
            have b1 := c_maskL (p1.toInt64 - p0.toInt64) (4294967295 : Int64) 32 (by decide) (by decide)
            have b2 := c_lsub p1.toInt64 p0.toInt64
            have b3 := rng64 (p1.toInt64 - p0.toInt64)
            have b4 := c_maskL (p2.toInt64 - p0.toInt64) (4294967295 : Int64) 32 (by decide) (by decide)
            have b5 := c_lsub p2.toInt64 p0.toInt64
            have b6 := rng64 (p2.toInt64 - p0.toInt64)
            have b7 := c_i2l p0
            have b8 := c_i2l p1
            have b9 := c_i2l p2
            have b10 := rng32 p0
            have b11 := rng32 p1
            have b12 := rng32 p2
            simp only [Int32.lt_iff_toInt_lt, Int32.le_iff_toInt_le, Int64.lt_iff_toInt_lt, Int64.le_iff_toInt_le, ← Int32.toInt_inj, ← Int64.toInt_inj, own_t32_0, own_t32_1, own_t32_m2147483648, own_t64_0, own_t64_4294967295, own_t64_4294967296, show ((2 ^ 32 : Nat) : Int) = 4294967296 from rfl] at a0 a1 a2 a3 a4 a5 b0 b1 b2 b3 b4 b5 b6 b7 b8 b9 b10 b11 b12
            unfold own_arc own_w
            simp only [Int32.lt_iff_toInt_lt, Int32.le_iff_toInt_le, Int64.lt_iff_toInt_lt, Int64.le_iff_toInt_le, ← Int32.toInt_inj, ← Int64.toInt_inj, own_t32_0, own_t32_1, own_t32_m2147483648, own_t64_0, own_t64_4294967295, own_t64_4294967296, show ((2 ^ 32 : Nat) : Int) = 4294967296 from rfl]
            repeat' split
            all_goals first | rfl | omega
          refine own_iload X7 hx (pc' := 119) (hb hby at_117) rfl rfl ?_
          refine own_iload X7 hx (pc' := 121) (hb hby at_119) rfl rfl ?_
          refine own_icmpNo X7 hx (pc' := 124) (hb hby at_121) (teq hv25).2 rfl ?_
          refine own_iconst X7 hx (pc' := 125) (1 : Int32) (hb hby at_124) rfl rfl ?_
          refine own_goto X7 hx (pc' := 129) (hb hby at_125) (by decide) (by decide) ?_
          refine own_retN X7 hx hlk hret (by simp) (hb hby at_129) (by decide) (by decide) ?_
          exact ⟨rfl, N8⟩
        · skip
          refine own_ifNo X7 hx (pc' := 105) (hb hby at_102) (feq hc102_24).1 rfl ?_
          refine own_iloadN X7 hx (pc' := 106) (hb hby at_105) rfl rfl ?_
          refine own_iloadN X7 hx (pc' := 107) (hb hby at_106) rfl rfl ?_
          by_cases hc107_26 : p1 = p2
          · skip
            refine own_icmpNo X7 hx (pc' := 110) (hb hby at_107) (teq hc107_26).2 rfl ?_
            refine own_iconst X7 hx (pc' := 111) (1 : Int32) (hb hby at_110) rfl rfl ?_
            refine own_goto X7 hx (pc' := 115) (hb hby at_111) (by decide) (by decide) ?_
            refine own_istore X7 hx (pc' := 117) (Ls' := #[.val (.int p0), .val (.int p1), .val (.int p2), .val (.int p3), .val (.int p4), .val (.int p5), .val (.int z), .val (.int z1), .val (.int z3), .val (.int z5), .val (.int (own_arc z1 z3 z5 z)), .val (.long (((p1.toInt64) - (p0.toInt64)) &&& (4294967295 : Int64))), .second, .val (.long (((p2.toInt64) - (p0.toInt64)) &&& (4294967295 : Int64))), .second, .val (.int (1 : Int32))]) (hb hby at_115) rfl rfl ?_
            have hv27 : (own_arc z1 z3 z5 z) = (1 : Int32) := by
              have a0 := hz1
              have a1 := hz3
              have a2 := hz5
              have a3 := hc79_9
              have a4 := hc89_23
              have a5 := hc102_24
              have a6 := hc107_26
              have b0 := hz
              have b1 := c_maskL (p1.toInt64 - p0.toInt64) (4294967295 : Int64) 32 (by decide) (by decide)
              have b2 := c_lsub p1.toInt64 p0.toInt64
              have b3 := rng64 (p1.toInt64 - p0.toInt64)
              have b4 := c_maskL (p2.toInt64 - p0.toInt64) (4294967295 : Int64) 32 (by decide) (by decide)
              have b5 := c_lsub p2.toInt64 p0.toInt64
              have b6 := rng64 (p2.toInt64 - p0.toInt64)
              have b7 := c_i2l p0
              have b8 := c_i2l p1
              have b9 := c_i2l p2
              have b10 := rng32 p0
              have b11 := rng32 p1
              have b12 := rng32 p2
              simp only [Int32.lt_iff_toInt_lt, Int32.le_iff_toInt_le, Int64.lt_iff_toInt_lt, Int64.le_iff_toInt_le, ← Int32.toInt_inj, ← Int64.toInt_inj, own_t32_0, own_t32_1, own_t32_m2147483648, own_t64_0, own_t64_4294967295, own_t64_4294967296, show ((2 ^ 32 : Nat) : Int) = 4294967296 from rfl] at a0 a1 a2 a3 a4 a5 a6 b0 b1 b2 b3 b4 b5 b6 b7 b8 b9 b10 b11 b12
              unfold own_arc own_w
              simp only [Int32.lt_iff_toInt_lt, Int32.le_iff_toInt_le, Int64.lt_iff_toInt_lt, Int64.le_iff_toInt_le, ← Int32.toInt_inj, ← Int64.toInt_inj, own_t32_0, own_t32_1, own_t32_m2147483648, own_t64_0, own_t64_4294967295, own_t64_4294967296, show ((2 ^ 32 : Nat) : Int) = 4294967296 from rfl]
              repeat' split
              all_goals first | rfl | omega
            refine own_iload X7 hx (pc' := 119) (hb hby at_117) rfl rfl ?_
            refine own_iload X7 hx (pc' := 121) (hb hby at_119) rfl rfl ?_
            refine own_icmpNo X7 hx (pc' := 124) (hb hby at_121) (teq hv27).2 rfl ?_
            refine own_iconst X7 hx (pc' := 125) (1 : Int32) (hb hby at_124) rfl rfl ?_
            refine own_goto X7 hx (pc' := 129) (hb hby at_125) (by decide) (by decide) ?_
            refine own_retN X7 hx hlk hret (by simp) (hb hby at_129) (by decide) (by decide) ?_
            exact ⟨rfl, N8⟩
          · skip
            refine own_icmpYes X7 hx (pc' := 114) (hb hby at_107) (feq hc107_26).2 (by decide) (by decide) ?_
            refine own_iconst X7 hx (pc' := 115) (0 : Int32) (hb hby at_114) rfl rfl ?_
            refine own_istore X7 hx (pc' := 117) (Ls' := #[.val (.int p0), .val (.int p1), .val (.int p2), .val (.int p3), .val (.int p4), .val (.int p5), .val (.int z), .val (.int z1), .val (.int z3), .val (.int z5), .val (.int (own_arc z1 z3 z5 z)), .val (.long (((p1.toInt64) - (p0.toInt64)) &&& (4294967295 : Int64))), .second, .val (.long (((p2.toInt64) - (p0.toInt64)) &&& (4294967295 : Int64))), .second, .val (.int (0 : Int32))]) (hb hby at_115) rfl rfl ?_
            have hv28 : (own_arc z1 z3 z5 z) = (0 : Int32) := by
              have a0 := hz1
              have a1 := hz3
              have a2 := hz5
              have a3 := hc79_9
              have a4 := hc89_23
              have a5 := hc102_24
              have a6 := hc107_26
              have b0 := hz
              have b1 := c_maskL (p1.toInt64 - p0.toInt64) (4294967295 : Int64) 32 (by decide) (by decide)
              have b2 := c_lsub p1.toInt64 p0.toInt64
              have b3 := rng64 (p1.toInt64 - p0.toInt64)
              have b4 := c_maskL (p2.toInt64 - p0.toInt64) (4294967295 : Int64) 32 (by decide) (by decide)
              have b5 := c_lsub p2.toInt64 p0.toInt64
              have b6 := rng64 (p2.toInt64 - p0.toInt64)
              have b7 := c_i2l p0
              have b8 := c_i2l p1
              have b9 := c_i2l p2
              have b10 := rng32 p0
              have b11 := rng32 p1
              have b12 := rng32 p2
              simp only [Int32.lt_iff_toInt_lt, Int32.le_iff_toInt_le, Int64.lt_iff_toInt_lt, Int64.le_iff_toInt_le, ← Int32.toInt_inj, ← Int64.toInt_inj, own_t32_0, own_t32_1, own_t32_m2147483648, own_t64_0, own_t64_4294967295, own_t64_4294967296, show ((2 ^ 32 : Nat) : Int) = 4294967296 from rfl] at a0 a1 a2 a3 a4 a5 a6 b0 b1 b2 b3 b4 b5 b6 b7 b8 b9 b10 b11 b12
              unfold own_arc own_w
              simp only [Int32.lt_iff_toInt_lt, Int32.le_iff_toInt_le, Int64.lt_iff_toInt_lt, Int64.le_iff_toInt_le, ← Int32.toInt_inj, ← Int64.toInt_inj, own_t32_0, own_t32_1, own_t32_m2147483648, own_t64_0, own_t64_4294967295, own_t64_4294967296, show ((2 ^ 32 : Nat) : Int) = 4294967296 from rfl]
              repeat' split
              all_goals first | rfl | omega
            refine own_iload X7 hx (pc' := 119) (hb hby at_117) rfl rfl ?_
            refine own_iload X7 hx (pc' := 121) (hb hby at_119) rfl rfl ?_
            refine own_icmpNo X7 hx (pc' := 124) (hb hby at_121) (teq hv28).2 rfl ?_
            refine own_iconst X7 hx (pc' := 125) (1 : Int32) (hb hby at_124) rfl rfl ?_
            refine own_goto X7 hx (pc' := 129) (hb hby at_125) (by decide) (by decide) ?_
            refine own_retN X7 hx hlk hret (by simp) (hb hby at_129) (by decide) (by decide) ?_
            exact ⟨rfl, N8⟩
      · skip
        refine own_icmpNo X7 hx (pc' := 92) (hb hby at_89) (feq hc89_23).1 rfl ?_
        refine own_lload X7 hx (pc' := 94) (hb hby at_92) rfl rfl ?_
        refine own_lload X7 hx (pc' := 96) (hb hby at_94) rfl rfl ?_
        refine own_lcmp X7 hx (pc' := 97) (hb hby at_96) rfl ?_
        by_cases hc97_29 : (((p1.toInt64) - (p0.toInt64)) &&& (4294967295 : Int64)) < (((p2.toInt64) - (p0.toInt64)) &&& (4294967295 : Int64))
        · skip
          refine own_ifYes X7 hx (pc' := 110) (hb hby at_97) (tlt ((lw_lt (((p1.toInt64) - (p0.toInt64)) &&& (4294967295 : Int64)) (((p2.toInt64) - (p0.toInt64)) &&& (4294967295 : Int64))).mpr hc97_29)).1 (by decide) (by decide) ?_
          refine own_iconst X7 hx (pc' := 111) (1 : Int32) (hb hby at_110) rfl rfl ?_
          refine own_goto X7 hx (pc' := 115) (hb hby at_111) (by decide) (by decide) ?_
          refine own_istore X7 hx (pc' := 117) (Ls' := #[.val (.int p0), .val (.int p1), .val (.int p2), .val (.int p3), .val (.int p4), .val (.int p5), .val (.int z), .val (.int z1), .val (.int z3), .val (.int z5), .val (.int (own_arc z1 z3 z5 z)), .val (.long (((p1.toInt64) - (p0.toInt64)) &&& (4294967295 : Int64))), .second, .val (.long (((p2.toInt64) - (p0.toInt64)) &&& (4294967295 : Int64))), .second, .val (.int (1 : Int32))]) (hb hby at_115) rfl rfl ?_
          have hv30 : (own_arc z1 z3 z5 z) = (1 : Int32) := by
            have a0 := hz1
            have a1 := hz3
            have a2 := hz5
            have a3 := hc79_9
            have a4 := hc89_23
            have a5 := hc97_29
            have b0 := hz
            have b1 := c_maskL (p1.toInt64 - p0.toInt64) (4294967295 : Int64) 32 (by decide) (by decide)
            have b2 := c_lsub p1.toInt64 p0.toInt64
            have b3 := rng64 (p1.toInt64 - p0.toInt64)
            have b4 := c_maskL (p2.toInt64 - p0.toInt64) (4294967295 : Int64) 32 (by decide) (by decide)
            have b5 := c_lsub p2.toInt64 p0.toInt64
            have b6 := rng64 (p2.toInt64 - p0.toInt64)
            have b7 := c_i2l p0
            have b8 := c_i2l p1
            have b9 := c_i2l p2
            have b10 := rng32 p0
            have b11 := rng32 p1
            have b12 := rng32 p2
            simp only [Int32.lt_iff_toInt_lt, Int32.le_iff_toInt_le, Int64.lt_iff_toInt_lt, Int64.le_iff_toInt_le, ← Int32.toInt_inj, ← Int64.toInt_inj, own_t32_0, own_t32_1, own_t32_m2147483648, own_t64_0, own_t64_4294967295, own_t64_4294967296, show ((2 ^ 32 : Nat) : Int) = 4294967296 from rfl] at a0 a1 a2 a3 a4 a5 b0 b1 b2 b3 b4 b5 b6 b7 b8 b9 b10 b11 b12
            unfold own_arc own_w
            simp only [Int32.lt_iff_toInt_lt, Int32.le_iff_toInt_le, Int64.lt_iff_toInt_lt, Int64.le_iff_toInt_le, ← Int32.toInt_inj, ← Int64.toInt_inj, own_t32_0, own_t32_1, own_t32_m2147483648, own_t64_0, own_t64_4294967295, own_t64_4294967296, show ((2 ^ 32 : Nat) : Int) = 4294967296 from rfl]
            repeat' split
            all_goals first | rfl | omega
          refine own_iload X7 hx (pc' := 119) (hb hby at_117) rfl rfl ?_
          refine own_iload X7 hx (pc' := 121) (hb hby at_119) rfl rfl ?_
          refine own_icmpNo X7 hx (pc' := 124) (hb hby at_121) (teq hv30).2 rfl ?_
          refine own_iconst X7 hx (pc' := 125) (1 : Int32) (hb hby at_124) rfl rfl ?_
          refine own_goto X7 hx (pc' := 129) (hb hby at_125) (by decide) (by decide) ?_
          refine own_retN X7 hx hlk hret (by simp) (hb hby at_129) (by decide) (by decide) ?_
          exact ⟨rfl, N8⟩
        · skip
          refine own_ifNo X7 hx (pc' := 100) (hb hby at_97) (flt (fun q => hc97_29 ((lw_lt (((p1.toInt64) - (p0.toInt64)) &&& (4294967295 : Int64)) (((p2.toInt64) - (p0.toInt64)) &&& (4294967295 : Int64))).mp q))).1 rfl ?_
          refine own_iload X7 hx (pc' := 102) (hb hby at_100) rfl rfl ?_
          by_cases hc102_31 : z = (0 : Int32)
          · skip
            refine own_ifYes X7 hx (pc' := 114) (hb hby at_102) (teq hc102_31).1 (by decide) (by decide) ?_
            refine own_iconst X7 hx (pc' := 115) (0 : Int32) (hb hby at_114) rfl rfl ?_
            refine own_istore X7 hx (pc' := 117) (Ls' := #[.val (.int p0), .val (.int p1), .val (.int p2), .val (.int p3), .val (.int p4), .val (.int p5), .val (.int z), .val (.int z1), .val (.int z3), .val (.int z5), .val (.int (own_arc z1 z3 z5 z)), .val (.long (((p1.toInt64) - (p0.toInt64)) &&& (4294967295 : Int64))), .second, .val (.long (((p2.toInt64) - (p0.toInt64)) &&& (4294967295 : Int64))), .second, .val (.int (0 : Int32))]) (hb hby at_115) rfl rfl ?_
            have hv32 : (own_arc z1 z3 z5 z) = (0 : Int32) := by
              have a0 := hz1
              have a1 := hz3
              have a2 := hz5
              have a3 := hc79_9
              have a4 := hc89_23
              have a5 := hc97_29
              have a6 := hc102_31
              have b0 := hz
              have b1 := c_maskL (p1.toInt64 - p0.toInt64) (4294967295 : Int64) 32 (by decide) (by decide)
              have b2 := c_lsub p1.toInt64 p0.toInt64
              have b3 := rng64 (p1.toInt64 - p0.toInt64)
              have b4 := c_maskL (p2.toInt64 - p0.toInt64) (4294967295 : Int64) 32 (by decide) (by decide)
              have b5 := c_lsub p2.toInt64 p0.toInt64
              have b6 := rng64 (p2.toInt64 - p0.toInt64)
              have b7 := c_i2l p0
              have b8 := c_i2l p1
              have b9 := c_i2l p2
              have b10 := rng32 p0
              have b11 := rng32 p1
              have b12 := rng32 p2
              simp only [Int32.lt_iff_toInt_lt, Int32.le_iff_toInt_le, Int64.lt_iff_toInt_lt, Int64.le_iff_toInt_le, ← Int32.toInt_inj, ← Int64.toInt_inj, own_t32_0, own_t32_1, own_t32_m2147483648, own_t64_0, own_t64_4294967295, own_t64_4294967296, show ((2 ^ 32 : Nat) : Int) = 4294967296 from rfl] at a0 a1 a2 a3 a4 a5 a6 b0 b1 b2 b3 b4 b5 b6 b7 b8 b9 b10 b11 b12
              unfold own_arc own_w
              simp only [Int32.lt_iff_toInt_lt, Int32.le_iff_toInt_le, Int64.lt_iff_toInt_lt, Int64.le_iff_toInt_le, ← Int32.toInt_inj, ← Int64.toInt_inj, own_t32_0, own_t32_1, own_t32_m2147483648, own_t64_0, own_t64_4294967295, own_t64_4294967296, show ((2 ^ 32 : Nat) : Int) = 4294967296 from rfl]
              repeat' split
              all_goals first | rfl | omega
            refine own_iload X7 hx (pc' := 119) (hb hby at_117) rfl rfl ?_
            refine own_iload X7 hx (pc' := 121) (hb hby at_119) rfl rfl ?_
            refine own_icmpNo X7 hx (pc' := 124) (hb hby at_121) (teq hv32).2 rfl ?_
            refine own_iconst X7 hx (pc' := 125) (1 : Int32) (hb hby at_124) rfl rfl ?_
            refine own_goto X7 hx (pc' := 129) (hb hby at_125) (by decide) (by decide) ?_
            refine own_retN X7 hx hlk hret (by simp) (hb hby at_129) (by decide) (by decide) ?_
            exact ⟨rfl, N8⟩
          · skip
            refine own_ifNo X7 hx (pc' := 105) (hb hby at_102) (feq hc102_31).1 rfl ?_
            refine own_iloadN X7 hx (pc' := 106) (hb hby at_105) rfl rfl ?_
            refine own_iloadN X7 hx (pc' := 107) (hb hby at_106) rfl rfl ?_
            by_cases hc107_33 : p1 = p2
            · skip
              refine own_icmpNo X7 hx (pc' := 110) (hb hby at_107) (teq hc107_33).2 rfl ?_
              refine own_iconst X7 hx (pc' := 111) (1 : Int32) (hb hby at_110) rfl rfl ?_
              refine own_goto X7 hx (pc' := 115) (hb hby at_111) (by decide) (by decide) ?_
              refine own_istore X7 hx (pc' := 117) (Ls' := #[.val (.int p0), .val (.int p1), .val (.int p2), .val (.int p3), .val (.int p4), .val (.int p5), .val (.int z), .val (.int z1), .val (.int z3), .val (.int z5), .val (.int (own_arc z1 z3 z5 z)), .val (.long (((p1.toInt64) - (p0.toInt64)) &&& (4294967295 : Int64))), .second, .val (.long (((p2.toInt64) - (p0.toInt64)) &&& (4294967295 : Int64))), .second, .val (.int (1 : Int32))]) (hb hby at_115) rfl rfl ?_
              have hv34 : (own_arc z1 z3 z5 z) = (1 : Int32) := by
                have a0 := hz1
                have a1 := hz3
                have a2 := hz5
                have a3 := hc79_9
                have a4 := hc89_23
                have a5 := hc97_29
                have a6 := hc102_31
                have a7 := hc107_33
                have b0 := hz
                have b1 := c_maskL (p1.toInt64 - p0.toInt64) (4294967295 : Int64) 32 (by decide) (by decide)
                have b2 := c_lsub p1.toInt64 p0.toInt64
                have b3 := rng64 (p1.toInt64 - p0.toInt64)
                have b4 := c_maskL (p2.toInt64 - p0.toInt64) (4294967295 : Int64) 32 (by decide) (by decide)
                have b5 := c_lsub p2.toInt64 p0.toInt64
                have b6 := rng64 (p2.toInt64 - p0.toInt64)
                have b7 := c_i2l p0
                have b8 := c_i2l p1
                have b9 := c_i2l p2
                have b10 := rng32 p0
                have b11 := rng32 p1
                have b12 := rng32 p2
                simp only [Int32.lt_iff_toInt_lt, Int32.le_iff_toInt_le, Int64.lt_iff_toInt_lt, Int64.le_iff_toInt_le, ← Int32.toInt_inj, ← Int64.toInt_inj, own_t32_0, own_t32_1, own_t32_m2147483648, own_t64_0, own_t64_4294967295, own_t64_4294967296, show ((2 ^ 32 : Nat) : Int) = 4294967296 from rfl] at a0 a1 a2 a3 a4 a5 a6 a7 b0 b1 b2 b3 b4 b5 b6 b7 b8 b9 b10 b11 b12
                unfold own_arc own_w
                simp only [Int32.lt_iff_toInt_lt, Int32.le_iff_toInt_le, Int64.lt_iff_toInt_lt, Int64.le_iff_toInt_le, ← Int32.toInt_inj, ← Int64.toInt_inj, own_t32_0, own_t32_1, own_t32_m2147483648, own_t64_0, own_t64_4294967295, own_t64_4294967296, show ((2 ^ 32 : Nat) : Int) = 4294967296 from rfl]
                repeat' split
                all_goals first | rfl | omega
              refine own_iload X7 hx (pc' := 119) (hb hby at_117) rfl rfl ?_
              refine own_iload X7 hx (pc' := 121) (hb hby at_119) rfl rfl ?_
              refine own_icmpNo X7 hx (pc' := 124) (hb hby at_121) (teq hv34).2 rfl ?_
              refine own_iconst X7 hx (pc' := 125) (1 : Int32) (hb hby at_124) rfl rfl ?_
              refine own_goto X7 hx (pc' := 129) (hb hby at_125) (by decide) (by decide) ?_
              refine own_retN X7 hx hlk hret (by simp) (hb hby at_129) (by decide) (by decide) ?_
              exact ⟨rfl, N8⟩
            · skip
              refine own_icmpYes X7 hx (pc' := 114) (hb hby at_107) (feq hc107_33).2 (by decide) (by decide) ?_
              refine own_iconst X7 hx (pc' := 115) (0 : Int32) (hb hby at_114) rfl rfl ?_
              refine own_istore X7 hx (pc' := 117) (Ls' := #[.val (.int p0), .val (.int p1), .val (.int p2), .val (.int p3), .val (.int p4), .val (.int p5), .val (.int z), .val (.int z1), .val (.int z3), .val (.int z5), .val (.int (own_arc z1 z3 z5 z)), .val (.long (((p1.toInt64) - (p0.toInt64)) &&& (4294967295 : Int64))), .second, .val (.long (((p2.toInt64) - (p0.toInt64)) &&& (4294967295 : Int64))), .second, .val (.int (0 : Int32))]) (hb hby at_115) rfl rfl ?_
              have hv35 : (own_arc z1 z3 z5 z) = (0 : Int32) := by
                have a0 := hz1
                have a1 := hz3
                have a2 := hz5
                have a3 := hc79_9
                have a4 := hc89_23
                have a5 := hc97_29
                have a6 := hc102_31
                have a7 := hc107_33
                have b0 := hz
                have b1 := c_maskL (p1.toInt64 - p0.toInt64) (4294967295 : Int64) 32 (by decide) (by decide)
                have b2 := c_lsub p1.toInt64 p0.toInt64
                have b3 := rng64 (p1.toInt64 - p0.toInt64)
                have b4 := c_maskL (p2.toInt64 - p0.toInt64) (4294967295 : Int64) 32 (by decide) (by decide)
                have b5 := c_lsub p2.toInt64 p0.toInt64
                have b6 := rng64 (p2.toInt64 - p0.toInt64)
                have b7 := c_i2l p0
                have b8 := c_i2l p1
                have b9 := c_i2l p2
                have b10 := rng32 p0
                have b11 := rng32 p1
                have b12 := rng32 p2
                simp only [Int32.lt_iff_toInt_lt, Int32.le_iff_toInt_le, Int64.lt_iff_toInt_lt, Int64.le_iff_toInt_le, ← Int32.toInt_inj, ← Int64.toInt_inj, own_t32_0, own_t32_1, own_t32_m2147483648, own_t64_0, own_t64_4294967295, own_t64_4294967296, show ((2 ^ 32 : Nat) : Int) = 4294967296 from rfl] at a0 a1 a2 a3 a4 a5 a6 a7 b0 b1 b2 b3 b4 b5 b6 b7 b8 b9 b10 b11 b12
                unfold own_arc own_w
                simp only [Int32.lt_iff_toInt_lt, Int32.le_iff_toInt_le, Int64.lt_iff_toInt_lt, Int64.le_iff_toInt_le, ← Int32.toInt_inj, ← Int64.toInt_inj, own_t32_0, own_t32_1, own_t32_m2147483648, own_t64_0, own_t64_4294967295, own_t64_4294967296, show ((2 ^ 32 : Nat) : Int) = 4294967296 from rfl]
                repeat' split
                all_goals first | rfl | omega
              refine own_iload X7 hx (pc' := 119) (hb hby at_117) rfl rfl ?_
              refine own_iload X7 hx (pc' := 121) (hb hby at_119) rfl rfl ?_
              refine own_icmpNo X7 hx (pc' := 124) (hb hby at_121) (teq hv35).2 rfl ?_
              refine own_iconst X7 hx (pc' := 125) (1 : Int32) (hb hby at_124) rfl rfl ?_
              refine own_goto X7 hx (pc' := 129) (hb hby at_125) (by decide) (by decide) ?_
              refine own_retN X7 hx hlk hret (by simp) (hb hby at_129) (by decide) (by decide) ?_
              exact ⟨rfl, N8⟩
  refine own_iload X0 hx (pc' := 2) (hb hby at_0) rfl rfl ?_
  refine own_iconst X0 hx (pc' := 3) (1 : Int32) (hb hby at_2) rfl rfl ?_
  refine own_iand X0 hx (pc' := 4) (hb hby at_3) rfl rfl ?_
  by_cases hc4_36 : (p5 &&& (1 : Int32)) = (0 : Int32)
  · skip
    refine own_ifYes X0 hx (pc' := 11) (hb hby at_4) (teq hc4_36).1 (by decide) (by decide) ?_
    refine own_iconst X0 hx (pc' := 12) (0 : Int32) (hb hby at_11) rfl rfl ?_
    exact J12 _ (by decide)
  · skip
    refine own_ifNo X0 hx (pc' := 7) (hb hby at_4) (feq hc4_36).1 rfl ?_
    refine own_iconst X0 hx (pc' := 8) (1 : Int32) (hb hby at_7) rfl rfl ?_
    refine own_goto X0 hx (pc' := 12) (hb hby at_8) (by decide) (by decide) ?_
    exact J12 _ (by decide)

set_option maxRecDepth 65536 in
set_option maxHeartbeats 40000000 in
theorem comes_1 {Post : Tables → Env → Array Value → State → Outcome → State → Prop} (hpost : ∀ tb e args s v u, (limb_1_1.after args s (.returned v) u = true ∧ limb_1_2.after args s (.returned v) u = true ∧ True) → FrameEnd s (.returned v) u (Jvm.fieldLocs frame_1_writes args s ++ Jvm.arrayLocs frame_1_arrays args s ++ Jvm.staticLocs frame_1_statics s) 0 0 → Post tb e args s (.returned v) u) :
    ArmFor flags0 classFile x code maxLocals ret World_1 tables_1 room_1 Calls_1 rest_1 Pre_1 Post := by
  intro l hfl _ _ p e ha hc hk s m args below hf hA hF happ hP
  obtain ⟨hcalls, hrest, hpre⟩ := hP
  obtain ⟨-, -, -, hnamed, -, -, -, hat⟩ := (Spec.applies_iff hf).mp happ
  obtain ⟨hg, hn⟩ := and_e (Cond.before_iff.mp (show (Jvm.Cond.and given_1 narrow_1).before args s = true from hpre))
  obtain ⟨hcnt, hg0⟩ := and_e hg
  obtain ⟨ha0, hg1⟩ := and_e hg0
  obtain ⟨ha1, hg2⟩ := and_e hg1
  obtain ⟨ha2, hg3⟩ := and_e hg2
  obtain ⟨ha3, hg4⟩ := and_e hg3
  obtain ⟨ha4, hg5⟩ := and_e hg4
  obtain ⟨w0, w1, w2, w3, w4, w5, rfl⟩ : ∃ w0 w1 w2 w3 w4 w5 : Value, args = #[w0, w1, w2, w3, w4, w5] := by
    have hs : args.size = 6 := by simpa [Cond.value, given_1] using hcnt
    obtain ⟨L⟩ := args
    match L, hs with
    | [w0, w1, w2, w3, w4, w5], _ => exact ⟨w0, w1, w2, w3, w4, w5, rfl⟩
  have hw := fun d (hd : d ∈ tables_1) => atoms_spec (ws := Jvm.Cond.code x code maxLocals ret :: tables_1) hat d (List.mem_cons_of_mem _ hd)
  have hfit : Fit s := fun {y c} hc i hi => by
    obtain ⟨ha, rfl⟩ := Array.getElem?_eq_some_iff.mp hc
    have q := List.all_eq_true.mp ((Array.all_eq_true_iff_forall_mem.mp hF) _ (Array.getElem_mem ha)) i (List.mem_range.mpr hi)
    simpa [Array.getElem?_eq_getElem hi] using q
  obtain ⟨i0, ei0⟩ := is_v ha0
  obtain rfl : w0 = (.int i0) := Option.some.inj ei0
  obtain ⟨i1, ei1⟩ := is_v ha1
  obtain rfl : w1 = (.int i1) := Option.some.inj ei1
  obtain ⟨i2, ei2⟩ := is_v ha2
  obtain rfl : w2 = (.int i2) := Option.some.inj ei2
  obtain ⟨i3, ei3⟩ := is_v ha3
  obtain rfl : w3 = (.int i3) := Option.some.inj ei3
  obtain ⟨i4, ei4⟩ := is_v ha4
  obtain rfl : w4 = (.int i4) := Option.some.inj ei4
  obtain ⟨i5, ei5⟩ := is_v hg5
  obtain rfl : w5 = (.int i5) := Option.some.inj ei5
  obtain ⟨n, o, h1, h2, h3, _, L, rfl, ⟨rfl, N⟩, hq⟩ := rm0 l s _ hw tables_1 i0 i1 i2 i3 i4 i5  s.heap s.heap.size (Nat.le_refl _)  p e ha hc hk s m _ below hf ((Spec.applies_iff_loose hf).mp happ).1 ⟨rfl, State.Warmed39.refl s, rfl⟩ trivial
  refine ⟨n, _, h1, h2, h3, hpost _ _ _ _ _ _ ⟨Cond.after_iff.mpr rfl, Cond.after_iff.mpr (eq_i res_at (Term.int_eval (1)) rfl), trivial⟩ ⟨hq.1, hq.2.1, (hq.2.2.sift fun y hy => Or.inr (N y hy)).mono (by decide) (by decide)⟩⟩
theorem main_1_1 : Claimed_1_1 := comes_1 fun _ _ _ _ _ _ h hF => ⟨h.1, hF⟩
theorem main_1_2 : Claimed_1_2 := comes_1 fun _ _ _ _ _ _ h hF => ⟨h.2.1, hF⟩
end Jvm.Pilot.@@N@@
namespace Jvm.Pilot.@@N@@
open Jvm Jvm.ClassFile Sem Op Lib Jvm.Free Jvm.Stand Jvm.Pilot.@@N@@.Jvm.D
/-! MADE BY PROGRAM (witnessworld.py) out of the Statement's table words and the real class files: 10 classes; the members and pool entries that the words name. The judged class is class 1, her method 4. -/
namespace start1
open Jvm.ClassFile
def u (s : String) : CpInfo := .utf8 (stringToUtf16 s)
/-- a pool by its gaps: so many unusable entries, then the entry; so many at the end -/
def gap : Nat → List CpInfo → List CpInfo
  | 0, r => r
  | n + 1, r => .unusable :: gap n r
def poolList (es : List (Nat × CpInfo)) (last : Nat) : List CpInfo := es.foldr (fun e r => gap e.1 (e.2 :: r)) (gap last [])
def pool (es : List (Nat × CpInfo)) (last : Nat) : Array CpInfo := ⟨poolList es last⟩
def fileOf (pool : Array CpInfo) (this : Nat) (attrs : Array Attribute := #[]) (ms : Array MethodInfo := #[]) (fl : Nat := 33) (sup : Nat := 0) (ifs : Array Nat := #[]) (fds : Array FieldInfo := #[]) : ClassFile where
  minorVersion := 0
  majorVersion := 65
  constantPool := pool
  accessFlags := fl
  thisClass := this
  superClass := sup
  interfaces := ifs
  fields := fds
  methods := ms
  attributes := attrs
def plain (name : String) (sup : Option ClassId) : Class where
  name := name
  kind := .ordinary
  loader := none
  accessFlags := 33
  super := sup
  interfaces := #[]
  cf := none
  fields := #[]
  methods := #[]
  instanceTypes := #[]
  staticTypes := #[]
  resolved := #[]
  callSites := []
  init := .initialized
  statics := none
  mirror := none

def pool0 : Array CpInfo := pool [(5, u "<init>"), (0, u "()V"), (1, .class_ 10), (1, u "java/lang/Object")] 113

def k0m0 : Method := { name := "<init>", desc := "()V", sig := { parameters := [], returnType := none }, accessFlags := 1, code := none }
/-- java/lang/Object -/
def k0 : Class := { plain "java/lang/Object" none with
  accessFlags := 33
  interfaces := #[]
  cf := some (fileOf pool0 8 #[] #[{ accessFlags := 1, nameIndex := 5, descriptorIndex := 6, attributes := #[] }] 33 0 #[] #[])
  fields := #[]
  methods := #[k0m0]
  instanceTypes := #[]
  staticTypes := #[]
  resolved := Array.replicate 124 none
  statics := none }

def pool1 : Array CpInfo := pool [(2, .class_ 4), (1, u "java/lang/Object"), (0, u "<init>"), (0, u "()V"), (2, .integer 2147483648), (0, .methodref 11 12), (0, .class_ 13), (0, .nameAndType 14 15), (0, u "java/lang/Math"), (0, u "max"), (0, u "(II)I"), (0, .methodref 17 18), (0, .class_ 19), (0, .nameAndType 20 21), (0, u "com/example/rootcast/rootcast/ring/CircleInArcPinLaw"), (0, u "neg"), (0, u "(I)I"), (0, .methodref 17 23), (0, .nameAndType 24 21), (0, u "pos"), (0, .methodref 17 26), (0, .nameAndType 27 28), (0, u "cmp"), (0, u "(III)I"), (0, .methodref 30 31), (0, .class_ 32), (0, .nameAndType 33 34), (0, u "com/example/rootcast/rootcast/ring/Circle"), (0, u "inArc"), (0, u "(IIIZ)Z"), (0, .long 4294967295), (1, .long 4294967296), (4, u "law"), (0, u "(IIIIII)Z")] 2

def k1m0 : Method := { name := "<init>", desc := "()V", sig := { parameters := [], returnType := none }, accessFlags := 1, code := none }
def k1c1 : Code := { maxStack := 2, maxLocals := 1, code := method_2_code, exceptionTable := #[], attributes := #[] }
def k1m1 : Method := { name := "neg", desc := "(I)I", sig := { parameters := [.int], returnType := some .int }, accessFlags := 10, code := some k1c1 }
def k1c2 : Code := { maxStack := 3, maxLocals := 1, code := method_3_code, exceptionTable := #[], attributes := #[] }
def k1m2 : Method := { name := "pos", desc := "(I)I", sig := { parameters := [.int], returnType := some .int }, accessFlags := 10, code := some k1c2 }
def k1c3 : Code := { maxStack := 2, maxLocals := 3, code := method_4_code, exceptionTable := #[], attributes := #[] }
def k1m3 : Method := { name := "cmp", desc := "(III)I", sig := { parameters := [.int, .int, .int], returnType := some .int }, accessFlags := 10, code := some k1c3 }
def k1c4 : Code := { maxStack := 4, maxLocals := 16, code := code, exceptionTable := #[], attributes := #[] }
def k1m4 : Method := { name := "law", desc := "(IIIIII)Z", sig := { parameters := [.int, .int, .int, .int, .int, .int], returnType := some .boolean }, accessFlags := 9, code := some k1c4 }
/-- com/example/rootcast/rootcast/ring/CircleInArcPinLaw -/
def k1 : Class := { plain "com/example/rootcast/rootcast/ring/CircleInArcPinLaw" (some 0) with
  accessFlags := 49
  interfaces := #[]
  cf := some (fileOf pool1 17 #[] #[{ accessFlags := 1, nameIndex := 5, descriptorIndex := 6, attributes := #[] }, { accessFlags := 10, nameIndex := 20, descriptorIndex := 21, attributes := #[] }, { accessFlags := 10, nameIndex := 24, descriptorIndex := 21, attributes := #[] }, { accessFlags := 10, nameIndex := 27, descriptorIndex := 28, attributes := #[] }, { accessFlags := 9, nameIndex := 42, descriptorIndex := 43, attributes := #[] }] 49 2 #[] #[])
  fields := #[]
  methods := #[k1m0, k1m1, k1m2, k1m3, k1m4]
  instanceTypes := #[]
  staticTypes := #[]
  resolved := Array.replicate 46 none
  statics := none }

def pool2 : Array CpInfo := pool [(1, .class_ 2), (0, u "java/lang/Math"), (1, .class_ 6), (1, u "java/lang/Object"), (0, u "<init>"), (0, u "()V"), (89, .class_ 100), (1, u "java/lang/Math$RandomNumberGeneratorHolder"), (71, u "negativeZeroFloatBits"), (0, u "J"), (2, u "negativeZeroDoubleBits"), (21, u "max"), (46, u "$assertionsDisabled"), (0, u "Z"), (88, u "(II)I"), (2, u "twoToTheDoubleScaleDown"), (0, u "D"), (4, u "twoToTheDoubleScaleUp"), (9, u "E"), (3, u "PI"), (2, u "TAU"), (2, u "DEGREES_TO_RADIANS"), (0, u "RADIANS_TO_DEGREES")] 94

def k2m0 : Method := { name := "<init>", desc := "()V", sig := { parameters := [], returnType := none }, accessFlags := 2, code := none }
def k2c1 : Code := { maxStack := 2, maxLocals := 2, code := jdk_29_method_65_code, exceptionTable := #[], attributes := #[] }
def k2m1 : Method := { name := "max", desc := "(II)I", sig := { parameters := [.int, .int], returnType := some .int }, accessFlags := 9, code := some k2c1 }
/-- java/lang/Math -/
def k2 : Class := { plain "java/lang/Math" (some 0) with
  accessFlags := 49
  interfaces := #[]
  cf := some (fileOf pool2 1 #[.nestMembers #[98]] #[{ accessFlags := 2, nameIndex := 7, descriptorIndex := 8, attributes := #[] }, { accessFlags := 9, nameIndex := 198, descriptorIndex := 335, attributes := #[] }] 49 4 #[] #[{ accessFlags := 25, nameIndex := 354, descriptorIndex := 339, attributes := #[] }, { accessFlags := 25, nameIndex := 358, descriptorIndex := 339, attributes := #[] }, { accessFlags := 25, nameIndex := 361, descriptorIndex := 339, attributes := #[] }, { accessFlags := 26, nameIndex := 364, descriptorIndex := 339, attributes := #[] }, { accessFlags := 26, nameIndex := 365, descriptorIndex := 339, attributes := #[] }, { accessFlags := 26, nameIndex := 172, descriptorIndex := 173, attributes := #[] }, { accessFlags := 26, nameIndex := 176, descriptorIndex := 173, attributes := #[] }, { accessFlags := 8, nameIndex := 344, descriptorIndex := 339, attributes := #[] }, { accessFlags := 8, nameIndex := 338, descriptorIndex := 339, attributes := #[] }, { accessFlags := 4120, nameIndex := 245, descriptorIndex := 246, attributes := #[] }])
  fields := #[{ name := "E", type := .double, accessFlags := 25, slot := 0, constantValue := 0 }, { name := "PI", type := .double, accessFlags := 25, slot := 1, constantValue := 0 }, { name := "TAU", type := .double, accessFlags := 25, slot := 2, constantValue := 0 }, { name := "DEGREES_TO_RADIANS", type := .double, accessFlags := 26, slot := 3, constantValue := 0 }, { name := "RADIANS_TO_DEGREES", type := .double, accessFlags := 26, slot := 4, constantValue := 0 }, { name := "negativeZeroFloatBits", type := .long, accessFlags := 26, slot := 5, constantValue := 0 }, { name := "negativeZeroDoubleBits", type := .long, accessFlags := 26, slot := 6, constantValue := 0 }, { name := "twoToTheDoubleScaleUp", type := .double, accessFlags := 8, slot := 7, constantValue := 0 }, { name := "twoToTheDoubleScaleDown", type := .double, accessFlags := 8, slot := 8, constantValue := 0 }, { name := "$assertionsDisabled", type := .boolean, accessFlags := 4120, slot := 9, constantValue := 0 }]
  methods := #[k2m0, k2m1]
  instanceTypes := #[]
  staticTypes := #[.double, .double, .double, .double, .double, .long, .long, .double, .double, .boolean]
  resolved := Array.replicate 460 none
  statics := none }

def pool3 : Array CpInfo := pool [(2, .class_ 4), (1, u "java/lang/Object"), (12, .class_ 19), (1, u "com/example/rootcast/rootcast/ring/Circle"), (0, u "bits"), (0, u "I"), (5, u "Ljava/math/BigInteger;"), (6, u "turn"), (38, u "IDENTIFIERS"), (0, u "Lcom/example/rootcast/rootcast/ring/Circle;"), (11, u "inArc"), (0, u "(IIIZ)Z")] 18

def k3c0 : Code := { maxStack := 1, maxLocals := 5, code := prog_80_method_7_code, exceptionTable := #[], attributes := #[] }
def k3m0 : Method := { name := "inArc", desc := "(IIIZ)Z", sig := { parameters := [.int, .int, .int, .boolean], returnType := some .boolean }, accessFlags := 8, code := some k3c0 }
/-- com/example/rootcast/rootcast/ring/Circle -/
def k3 : Class := { plain "com/example/rootcast/rootcast/ring/Circle" (some 0) with
  accessFlags := 49
  interfaces := #[]
  cf := some (fileOf pool3 17 #[] #[{ accessFlags := 8, nameIndex := 86, descriptorIndex := 87, attributes := #[] }] 49 2 #[] #[{ accessFlags := 25, nameIndex := 73, descriptorIndex := 74, attributes := #[] }, { accessFlags := 18, nameIndex := 20, descriptorIndex := 21, attributes := #[] }, { accessFlags := 18, nameIndex := 34, descriptorIndex := 27, attributes := #[] }])
  fields := #[{ name := "IDENTIFIERS", type := (.object "com/example/rootcast/rootcast/ring/Circle"), accessFlags := 25, slot := 0, constantValue := 0 }, { name := "bits", type := .int, accessFlags := 18, slot := 0, constantValue := 0 }, { name := "turn", type := (.object "java/math/BigInteger"), accessFlags := 18, slot := 1, constantValue := 0 }]
  methods := #[k3m0]
  instanceTypes := #[.int, (.object "java/math/BigInteger")]
  staticTypes := #[(.object "com/example/rootcast/rootcast/ring/Circle")]
  resolved := Array.replicate 106 none
  statics := none }

def pool4 : Array CpInfo := pool [(1, u "java/lang/Cloneable"), (0, .class_ 1), (0, u "java/lang/Object"), (0, .class_ 3)] 3

/-- java/lang/Cloneable -/
def k4 : Class := { plain "java/lang/Cloneable" (some 0) with
  accessFlags := 1537
  interfaces := #[]
  cf := some (fileOf pool4 2 #[] #[] 1537 4 #[] #[])
  fields := #[]
  methods := #[]
  instanceTypes := #[]
  staticTypes := #[]
  resolved := Array.replicate 8 none
  statics := none }

def pool5 : Array CpInfo := pool [(1, u "java/io/Serializable"), (0, .class_ 1), (0, u "java/lang/Object"), (0, .class_ 3)] 3

/-- java/io/Serializable -/
def k5 : Class := { plain "java/io/Serializable" (some 0) with
  accessFlags := 1537
  interfaces := #[]
  cf := some (fileOf pool5 2 #[] #[] 1537 4 #[] #[])
  fields := #[]
  methods := #[]
  instanceTypes := #[]
  staticTypes := #[]
  resolved := Array.replicate 8 none
  statics := none }

/-- the primitive byte -/
def k6 : Class := { plain "byte" none with kind := .primitive 'B', accessFlags := 0x411 }
/-- [B -/
def k7 : Class := { plain "[B" (some 0) with kind := .array 6 .byte, interfaces := #[4, 5], accessFlags := 1041 }

/-- the primitive int -/
def k8 : Class := { plain "int" none with kind := .primitive 'I', accessFlags := 0x411 }
/-- [I -/
def k9 : Class := { plain "[I" (some 0) with kind := .array 8 .int, interfaces := #[4, 5], accessFlags := 1041 }

def heap : Heap := #[]
def classes : Array Class := #[k0, k1, k2, k3, k4, k5, k6, k7, k8, k9]
def interned : List (Array UInt16 × Addr) := []
def slotsUsed : Nat := 0
def theMethod : MethodId := ⟨1, 4⟩
def args0 : Array Value := #[.int 5, .int 2, .int 7, .int 1, .int 0, .int 3]
def aboutOver (below : List Frame) : State where
  vm := { classes := classes, interned := interned.toArray }
  heap := heap
  slotsUsed := slotsUsed
  threads := #[{ frames := .invoking theMethod args0 :: below }]
def below0 : List Frame := [.native { method := ⟨0, 0⟩, args := #[] }]
def about1 : State := aboutOver below0
def p0 : Program := .bare "" "" ""
def e0 : Env := launch0.env 0 0 0
theorem w_frames : about1.frames = Frame.invoking theMethod args0 :: below0 := rfl
set_option maxRecDepth 65536 in
theorem w_args : argsFit about1.vm theMethod args0 = true := by decide +kernel
set_option maxRecDepth 65536 in
theorem w_heap : heapFits about1 = true := by decide +kernel
set_option maxRecDepth 65536 in
theorem w_runnable : about1.curStatus? = some .runnable := by decide +kernel
set_option maxRecDepth 65536 in
theorem w_alone : about1.alone = true := by decide +kernel
set_option maxRecDepth 65536 in
theorem w_named : about1.methodNamed? x = some theMethod := by decide +kernel
set_option maxRecDepth 65536 in
theorem w_hears : about1.hears theMethod below0 = true := by decide +kernel
set_option maxRecDepth 65536 in
theorem w_ripe : about1.ripe theMethod args0 below0 = true := by decide +kernel
theorem w_running : about1.status = .running := rfl
set_option maxRecDepth 65536 in
theorem w_room : about1.hasRoom e0.platform room_1 = true :=
  launch0.hasRoom_least _ room_1 (by decide +kernel) (by decide +kernel) (by decide +kernel) (by decide +kernel) (by decide +kernel) (by decide +kernel)
theorem allAtoms_all (ts : List Jvm.Cond) (a : Array Jvm.Value) (st : Jvm.State) : (allAtoms ts).before a st = ts.all (fun c => c.before a st) := by
  induction ts with
  | nil => rfl
  | cons c t ih =>
    show (Jvm.Cond.and c (allAtoms t)).before a st = _
    rw [Jvm.Cond.before_and, ih, List.all_cons]
def words1 : List Jvm.Cond := Jvm.Cond.code x code maxLocals ret :: tables_1
/-- a 'code' word, met by the world's own term for the bytes: nothing is compared byte by byte -/
theorem code_word {y : MethodName} {bytes : ByteArray} {mx : Nat} {rt : Option FieldType} {a : Array Value} {s : State} {m : MethodId} {meth : Method} {c : Code} (h1 : s.methodNamed? y = some m) (h2 : s.vm.method? m = some meth) (h3 : meth.code = some c) (h4 : c.code = bytes)
    (h5 : (c.maxLocals == mx && c.exceptionTable.isEmpty && decide (c.maxStack ≤ mostOperands) && decide (meth.sig.returnType = rt) && !meth.locks && decide (parseMethodDescriptor y.desc = some meth.sig)) = true) : (Jvm.Cond.code y bytes mx rt).before a s = true := by
  simp only [Bool.and_eq_true, beq_iff_eq, Bool.not_eq_true', decide_eq_true_eq] at h5
  obtain ⟨⟨⟨⟨⟨g1, g2⟩, g3⟩, g4⟩, g5⟩, g6⟩ := h5
  simp [Cond.before, Cond.holds, Cond.value, h1, h2, h3, h4, g1, g2, g3, g4, g5, g6]
def isCode : Jvm.Cond → Bool
  | .code _ _ _ _ => true
  | _ => false
theorem all_split {L : List Jvm.Cond} {P : Jvm.Cond → Bool} (h1 : L.all (fun c => isCode c || P c) = true) (h2 : ∀ c ∈ L.filter isCode, P c = true) : L.all P = true := by
  refine List.all_eq_true.mpr fun c hc => ?_
  have h := List.all_eq_true.mp h1 c hc
  rcases Bool.eq_false_or_eq_true (isCode c) with hi | hi
  · exact h2 c (List.mem_filter.mpr ⟨hc, hi⟩)
  · simpa [hi] using h
set_option maxRecDepth 65536 in
theorem w_c0 : (Jvm.Cond.code x code maxLocals ret).before args0 about1 = true := code_word (m := ⟨1, 4⟩) (meth := k1m4) (c := k1c4) (by decide +kernel) rfl rfl rfl (by decide +kernel)
set_option maxRecDepth 65536 in
theorem w_c1 : (Jvm.Cond.code ({ cls := "com/example/rootcast/rootcast/ring/CircleInArcPinLaw", name := "cmp", desc := "(III)I" } : Jvm.MethodName) method_4_code (3 : Nat) (Option.some Jvm.ClassFile.FieldType.int)).before args0 about1 = true := code_word (m := ⟨1, 3⟩) (meth := k1m3) (c := k1c3) (by decide +kernel) rfl rfl rfl (by decide +kernel)
set_option maxRecDepth 65536 in
theorem w_c2 : (Jvm.Cond.code ({ cls := "com/example/rootcast/rootcast/ring/CircleInArcPinLaw", name := "neg", desc := "(I)I" } : Jvm.MethodName) method_2_code (1 : Nat) (Option.some Jvm.ClassFile.FieldType.int)).before args0 about1 = true := code_word (m := ⟨1, 1⟩) (meth := k1m1) (c := k1c1) (by decide +kernel) rfl rfl rfl (by decide +kernel)
set_option maxRecDepth 65536 in
theorem w_c3 : (Jvm.Cond.code ({ cls := "com/example/rootcast/rootcast/ring/CircleInArcPinLaw", name := "pos", desc := "(I)I" } : Jvm.MethodName) method_3_code (1 : Nat) (Option.some Jvm.ClassFile.FieldType.int)).before args0 about1 = true := code_word (m := ⟨1, 2⟩) (meth := k1m2) (c := k1c2) (by decide +kernel) rfl rfl rfl (by decide +kernel)
set_option maxRecDepth 65536 in
theorem w_c4 : (Jvm.Cond.code ({ cls := "java/lang/Math", name := "max", desc := "(II)I" } : Jvm.MethodName) jdk_29_method_65_code (2 : Nat) (Option.some Jvm.ClassFile.FieldType.int)).before args0 about1 = true := code_word (m := ⟨2, 1⟩) (meth := k2m1) (c := k2c1) (by decide +kernel) rfl rfl rfl (by decide +kernel)
set_option maxRecDepth 65536 in
theorem w_c5 : (Jvm.Cond.code ({ cls := "com/example/rootcast/rootcast/ring/Circle", name := "inArc", desc := "(IIIZ)Z" } : Jvm.MethodName) prog_80_method_7_code (5 : Nat) (Option.some Jvm.ClassFile.FieldType.boolean)).before args0 about1 = true := code_word (m := ⟨3, 0⟩) (meth := k3m0) (c := k3c0) (by decide +kernel) rfl rfl rfl (by decide +kernel)
def codes1 : List Jvm.Cond := [Jvm.Cond.code x code maxLocals ret, Jvm.Cond.code ({ cls := "com/example/rootcast/rootcast/ring/CircleInArcPinLaw", name := "cmp", desc := "(III)I" } : Jvm.MethodName) method_4_code (3 : Nat) (Option.some Jvm.ClassFile.FieldType.int), Jvm.Cond.code ({ cls := "com/example/rootcast/rootcast/ring/CircleInArcPinLaw", name := "neg", desc := "(I)I" } : Jvm.MethodName) method_2_code (1 : Nat) (Option.some Jvm.ClassFile.FieldType.int), Jvm.Cond.code ({ cls := "com/example/rootcast/rootcast/ring/CircleInArcPinLaw", name := "pos", desc := "(I)I" } : Jvm.MethodName) method_3_code (1 : Nat) (Option.some Jvm.ClassFile.FieldType.int), Jvm.Cond.code ({ cls := "java/lang/Math", name := "max", desc := "(II)I" } : Jvm.MethodName) jdk_29_method_65_code (2 : Nat) (Option.some Jvm.ClassFile.FieldType.int), Jvm.Cond.code ({ cls := "com/example/rootcast/rootcast/ring/Circle", name := "inArc", desc := "(IIIZ)Z" } : Jvm.MethodName) prog_80_method_7_code (5 : Nat) (Option.some Jvm.ClassFile.FieldType.boolean)]
set_option maxRecDepth 65536 in
theorem codes_eq : words1.filter isCode = codes1 := rfl
theorem w_codes : ∀ c ∈ words1.filter isCode, c.before args0 about1 = true := by
  rw [codes_eq]
  intro c hc
  simp only [codes1, List.mem_cons, List.not_mem_nil, or_false] at hc
  rcases hc with rfl | rfl | rfl | rfl | rfl | rfl
  · exact w_c0
  · exact w_c1
  · exact w_c2
  · exact w_c3
  · exact w_c4
  · exact w_c5
set_option maxRecDepth 65536 in
theorem w_t1 : words1.all (fun c => isCode c || c.before args0 about1) = true := by decide +kernel
theorem w_tables : (allAtoms (Jvm.Cond.code x code maxLocals ret :: tables_1)).before args0 about1 = true := by
  rw [allAtoms_all]
  show words1.all (fun c => c.before args0 about1) = true
  refine all_split ?_ w_codes
  rw [w_t1]
set_option maxRecDepth 65536 in
theorem w_case : (Jvm.Cond.and given_1 narrow_1).before args0 about1 = true := by decide +kernel
theorem w_applies : (headSpec (Jvm.Cond.code x code maxLocals ret :: tables_1) room_1).applies x e0.platform about1 = true :=
  (Spec.applies_iff w_frames).mpr ⟨w_running, w_runnable, w_alone, w_named, w_hears, w_ripe, w_room, w_tables⟩
theorem atStart : AtStart classFile x code maxLocals ret World_1 tables_1 room_1 Calls_1 rest_1 Pre_1 launch0 p0 e0 about1 theMethod args0 below0 :=
  ⟨lists_1, trivial, launch0.admits_env _ _ _, launch0.least_env, fairChoices_fair.cas, fairChoices_fair.clock, w_frames, w_args, w_heap, w_applies, trivial, trivial, w_case⟩
end start1
theorem witness_1 : WitnessClaimed_1 := ⟨start1.p0, start1.e0, start1.about1, start1.theMethod, start1.args0, start1.below0, start1.atStart⟩
end Jvm.Pilot.@@N@@
