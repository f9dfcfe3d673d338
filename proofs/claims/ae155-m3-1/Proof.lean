import JvmDerived
import JvmDerived.Pilot.@@N@@Statement
import JvmDerived.Pilot.@@N@@Code
set_option linter.unusedVariables false
set_option linter.unusedSimpArgs false
namespace Jvm.Pilot.@@N@@
open Jvm Jvm.ClassFile Sem Op Lib Jvm.Free Jvm.Stand Jvm.LawKit Jvm.RoadKit Bundle Jvm.Pilot.@@N@@.Jvm.D
section Own
variable {p : Program} {l : Launch} {e : Env} {R : Room} {s : State} {m : MethodId} {args : Array Value} {below : List Frame} {meth : Method} {c : Code} {T : State} {locs : List Loc} {cells slots : Nat} {C S : Nat} {Q : Option Value → Heap → List Loc → Prop}
/-- from the state T with the frame g on top the run comes to the method's end, and Q holds there -/
def Goes (p : Program) (e : Env) (below : List Frame) (s : State) (C S : Nat) (Q : Option Value → Heap → List Loc → Prop) (T : State) (g : JFrame) : Prop :=
  ∃ s₂ o, Steps p.tables e below (T.setTop g) s₂ ∧ s₂.status = .running ∧ Ended s₂ below o ∧ ∃ v L, o = .returned v ∧ Q v s₂.heap L ∧ FrameEnd s o s₂ L C S
theorem Goes.go {T' : State} {g g' : JFrame} (st : ∀ t, Steps p.tables e below (T'.setTop g') t → Steps p.tables e below (T.setTop g) t) (h : Goes p e below s C S Q T' g') : Goes p e below s C S Q T g := by
  obtain ⟨s₂, o, h1, h2⟩ := h; exact ⟨s₂, o, st _ h1, h2⟩
theorem Goes.tr {T' : State} {g g' : JFrame} (st : Steps p.tables e below (T.setTop g) (T'.setTop g')) (h : Goes p e below s C S Q T' g') : Goes p e below s C S Q T g := Goes.go (fun _ k => st.trans k) h
/-- a value comes back -/
theorem own_ret (X : Stand p l e R s m args below meth c T locs cells slots) (hx : p.tables.exec = Jvm.exec) (hlk : meth.locks = false) {t : FieldType} (hret : meth.sig.returnType = some t) {i : Instr} {w : Value} (hn : narrow t w = w)
    (hi : (i = .ireturn ∧ (t = .int ∨ t = .boolean ∨ t = .byte ∨ t = .char ∨ t = .short) ∧ ∃ z, w = .int z) ∨ (i = .lreturn ∧ t = .long ∧ ∃ z, w = .long z) ∨ (i = .dreturn ∧ t = .double ∧ ∃ z, w = .double z) ∨ (i = .freturn ∧ t = .float ∧ ∃ z, w = .float z) ∨ (i = .areturn ∧ t.isReference = true ∧ w.isRef = true))
    {pc : Nat} {Ls : Array Slot} {rest : List Value} (hd : decode c.code pc = .ok (i, 1)) (hC : cells ≤ C) (hS : slots ≤ S) {h : Heap} (eT : T.heap = h) (hQ : Q (some w) h locs) : Goes p e below s C S Q T (mkF m pc Ls (w :: rest)) := by
  obtain ⟨fs, hr, hrun, hended, hW, hsame⟩ := X.leave (v := some w) (fun h => by rw [hret] at h; cases h)
  subst eT
  exact ⟨_, _, retOut X hx hret hn hi hd hr, hrun, hended, _, _, rfl, hQ, ⟨_, rfl⟩, hW, hsame.mono hC hS⟩
theorem own_retI (X : Stand p l e R s m args below meth c T locs cells slots) (hx : p.tables.exec = Jvm.exec) (hlk : meth.locks = false) (hret : meth.sig.returnType = some .int) {z : Int32}
    {pc : Nat} {Ls : Array Slot} {rest : List Value} (hd : decode c.code pc = .ok (.ireturn, 1)) (hC : cells ≤ C) (hS : slots ≤ S) {h : Heap} (eT : T.heap = h) (hQ : Q (some (.int z)) h locs) : Goes p e below s C S Q T (mkF m pc Ls (.int z :: rest)) :=
  own_ret X hx hlk hret rfl (Or.inl ⟨rfl, Or.inl rfl, z, rfl⟩) hd hC hS eT hQ
theorem own_retZ (X : Stand p l e R s m args below meth c T locs cells slots) (hx : p.tables.exec = Jvm.exec) (hlk : meth.locks = false) (hret : meth.sig.returnType = some .boolean) {z : Int32} (hn : narrow .boolean (.int z) = .int z)
    {pc : Nat} {Ls : Array Slot} {rest : List Value} (hd : decode c.code pc = .ok (.ireturn, 1)) (hC : cells ≤ C) (hS : slots ≤ S) {h : Heap} (eT : T.heap = h) (hQ : Q (some (.int z)) h locs) : Goes p e below s C S Q T (mkF m pc Ls (.int z :: rest)) :=
  own_ret X hx hlk hret hn (Or.inl ⟨rfl, Or.inr (Or.inl rfl), z, rfl⟩) hd hC hS eT hQ
theorem own_retJ (X : Stand p l e R s m args below meth c T locs cells slots) (hx : p.tables.exec = Jvm.exec) (hlk : meth.locks = false) (hret : meth.sig.returnType = some .long) {z : Int64}
    {pc : Nat} {Ls : Array Slot} {rest : List Value} (hd : decode c.code pc = .ok (.lreturn, 1)) (hC : cells ≤ C) (hS : slots ≤ S) {h : Heap} (eT : T.heap = h) (hQ : Q (some (.long z)) h locs) : Goes p e below s C S Q T (mkF m pc Ls (.long z :: rest)) :=
  own_ret X hx hlk hret rfl (Or.inr (Or.inl ⟨rfl, rfl, z, rfl⟩)) hd hC hS eT hQ
theorem own_narR {t : FieldType} {w : Value} (hw : w.isRef = true) : narrow t w = w := by
  rcases ref_cases hw with rfl | ⟨a, rfl⟩ <;> cases t <;> rfl
theorem own_retR (X : Stand p l e R s m args below meth c T locs cells slots) (hx : p.tables.exec = Jvm.exec) (hlk : meth.locks = false) {t : FieldType} (hret : meth.sig.returnType = some t) (ht : t.isReference = true) {w : Value} (hw : w.isRef = true)
    {pc : Nat} {Ls : Array Slot} {rest : List Value} (hd : decode c.code pc = .ok (.areturn, 1)) (hC : cells ≤ C) (hS : slots ≤ S) {h : Heap} (eT : T.heap = h) (hQ : Q (some w) h locs) : Goes p e below s C S Q T (mkF m pc Ls (w :: rest)) :=
  own_ret X hx hlk hret (own_narR hw) (Or.inr (Or.inr (Or.inr (Or.inr ⟨rfl, ht, hw⟩)))) hd hC hS eT hQ
theorem own_retV (X : Stand p l e R s m args below meth c T locs cells slots) (hx : p.tables.exec = Jvm.exec) (hlk : meth.locks = false) (hret : meth.sig.returnType = none)
    {pc : Nat} {Ls : Array Slot} (hd : decode c.code pc = .ok (.return_, 1)) (hC : cells ≤ C) (hS : slots ≤ S) {h : Heap} (eT : T.heap = h) (hQ : Q none h locs) : Goes p e below s C S Q T (mkF m pc Ls []) := by
  obtain ⟨fs, hr, hrun, hended, hW, hsame⟩ := X.leave (v := none) (fun _ => rfl)
  subst eT
  exact ⟨_, _, X.returnOut hx hret hd hr, hrun, hended, _, _, rfl, hQ, ⟨_, rfl⟩, hW, hsame.mono hC hS⟩
/-- the entry -/
theorem own_enter {s₁ : State} {maxL : Nat} {as' : Array Value} {Ls : Array Slot} (hE : entryFrame m as' maxL = mkF m 0 Ls []) (h : Goes p e below s C S Q s₁ (mkF m 0 Ls [])) :
    ∃ s₂ o, Steps p.tables e below (s₁.setTop (entryFrame m as' maxL)) s₂ ∧ s₂.status = .running ∧ Ended s₂ below o ∧ ∃ v L, o = .returned v ∧ Q v s₂.heap L ∧ FrameEnd s o s₂ L C S := by
  rw [hE]; exact h
section Steps1
variable {pc : Nat} {Ls : Array Slot} {rest : List Value}
theorem own_iadd (X : Stand p l e R s m args below meth c T locs cells slots) (hx : p.tables.exec = Jvm.exec) (pc' : Nat) (hp : pc + 1 = pc') {x y z : Int32} (hd : decode c.code pc = .ok (.iadd, 1)) (hz : x + y = z) (h : Goes p e below s C S Q T (mkF m pc' Ls (.int z :: rest))) : Goes p e below s C S Q T (mkF m pc Ls (.int y :: .int x :: rest)) := by
  subst hp; subst hz; exact Goes.go (fun _ k => XS.iadd X.here hx rfl hd rfl k) h
theorem own_isub (X : Stand p l e R s m args below meth c T locs cells slots) (hx : p.tables.exec = Jvm.exec) (pc' : Nat) (hp : pc + 1 = pc') {x y z : Int32} (hd : decode c.code pc = .ok (.isub, 1)) (hz : x - y = z) (h : Goes p e below s C S Q T (mkF m pc' Ls (.int z :: rest))) : Goes p e below s C S Q T (mkF m pc Ls (.int y :: .int x :: rest)) := by
  subst hp; subst hz; exact Goes.go (fun _ k => XS.isub X.here hx rfl hd rfl k) h
theorem own_imul (X : Stand p l e R s m args below meth c T locs cells slots) (hx : p.tables.exec = Jvm.exec) (pc' : Nat) (hp : pc + 1 = pc') {x y z : Int32} (hd : decode c.code pc = .ok (.imul, 1)) (hz : x * y = z) (h : Goes p e below s C S Q T (mkF m pc' Ls (.int z :: rest))) : Goes p e below s C S Q T (mkF m pc Ls (.int y :: .int x :: rest)) := by
  subst hp; subst hz; exact Goes.go (fun _ k => XS.imul X.here hx rfl hd rfl k) h
theorem own_iand (X : Stand p l e R s m args below meth c T locs cells slots) (hx : p.tables.exec = Jvm.exec) (pc' : Nat) (hp : pc + 1 = pc') {x y z : Int32} (hd : decode c.code pc = .ok (.iand, 1)) (hz : x &&& y = z) (h : Goes p e below s C S Q T (mkF m pc' Ls (.int z :: rest))) : Goes p e below s C S Q T (mkF m pc Ls (.int y :: .int x :: rest)) := by
  subst hp; subst hz; exact Goes.go (fun _ k => XS.iand X.here hx rfl hd rfl k) h
theorem own_ior (X : Stand p l e R s m args below meth c T locs cells slots) (hx : p.tables.exec = Jvm.exec) (pc' : Nat) (hp : pc + 1 = pc') {x y z : Int32} (hd : decode c.code pc = .ok (.ior, 1)) (hz : x ||| y = z) (h : Goes p e below s C S Q T (mkF m pc' Ls (.int z :: rest))) : Goes p e below s C S Q T (mkF m pc Ls (.int y :: .int x :: rest)) := by
  subst hp; subst hz; exact Goes.go (fun _ k => XS.ior X.here hx rfl hd rfl k) h
theorem own_ixor (X : Stand p l e R s m args below meth c T locs cells slots) (hx : p.tables.exec = Jvm.exec) (pc' : Nat) (hp : pc + 1 = pc') {x y z : Int32} (hd : decode c.code pc = .ok (.ixor, 1)) (hz : x ^^^ y = z) (h : Goes p e below s C S Q T (mkF m pc' Ls (.int z :: rest))) : Goes p e below s C S Q T (mkF m pc Ls (.int y :: .int x :: rest)) := by
  subst hp; subst hz; exact Goes.go (fun _ k => XS.ixor X.here hx rfl hd rfl k) h
theorem own_idiv (X : Stand p l e R s m args below meth c T locs cells slots) (hx : p.tables.exec = Jvm.exec) (pc' : Nat) (hp : pc + 1 = pc') {x y z : Int32} (hd : decode c.code pc = .ok (.idiv, 1)) (hy : y ≠ 0) (hz : x / y = z) (h : Goes p e below s C S Q T (mkF m pc' Ls (.int z :: rest))) : Goes p e below s C S Q T (mkF m pc Ls (.int y :: .int x :: rest)) := by
  subst hp; subst hz; exact Goes.go (fun _ k => XS.idiv X.here hx rfl hd rfl hy k) h
theorem own_ishl (X : Stand p l e R s m args below meth c T locs cells slots) (hx : p.tables.exec = Jvm.exec) (pc' : Nat) (hp : pc + 1 = pc') {x z : Int32} {y : Int32} (hd : decode c.code pc = .ok (.ishl, 1)) (hz : (x <<< (y &&& 31)) = z) (h : Goes p e below s C S Q T (mkF m pc' Ls (.int z :: rest))) : Goes p e below s C S Q T (mkF m pc Ls (.int y :: .int x :: rest)) := by
  subst hp; subst hz; exact Goes.go (fun _ k => XS.ishl X.here hx rfl hd rfl k) h
theorem own_ishr (X : Stand p l e R s m args below meth c T locs cells slots) (hx : p.tables.exec = Jvm.exec) (pc' : Nat) (hp : pc + 1 = pc') {x z : Int32} {y : Int32} (hd : decode c.code pc = .ok (.ishr, 1)) (hz : (x >>> (y &&& 31)) = z) (h : Goes p e below s C S Q T (mkF m pc' Ls (.int z :: rest))) : Goes p e below s C S Q T (mkF m pc Ls (.int y :: .int x :: rest)) := by
  subst hp; subst hz; exact Goes.go (fun _ k => XS.ishr X.here hx rfl hd rfl k) h
theorem own_iushr (X : Stand p l e R s m args below meth c T locs cells slots) (hx : p.tables.exec = Jvm.exec) (pc' : Nat) (hp : pc + 1 = pc') {x z : Int32} {y : Int32} (hd : decode c.code pc = .ok (.iushr, 1)) (hz : ((x.toUInt32 >>> (y &&& 31).toUInt32).toInt32) = z) (h : Goes p e below s C S Q T (mkF m pc' Ls (.int z :: rest))) : Goes p e below s C S Q T (mkF m pc Ls (.int y :: .int x :: rest)) := by
  subst hp; subst hz; exact Goes.go (fun _ k => XS.iushr X.here hx rfl hd rfl k) h
theorem own_ladd (X : Stand p l e R s m args below meth c T locs cells slots) (hx : p.tables.exec = Jvm.exec) (pc' : Nat) (hp : pc + 1 = pc') {x y z : Int64} (hd : decode c.code pc = .ok (.ladd, 1)) (hz : x + y = z) (h : Goes p e below s C S Q T (mkF m pc' Ls (.long z :: rest))) : Goes p e below s C S Q T (mkF m pc Ls (.long y :: .long x :: rest)) := by
  subst hp; subst hz; exact Goes.go (fun _ k => XS.ladd X.here hx rfl hd rfl k) h
theorem own_lsub (X : Stand p l e R s m args below meth c T locs cells slots) (hx : p.tables.exec = Jvm.exec) (pc' : Nat) (hp : pc + 1 = pc') {x y z : Int64} (hd : decode c.code pc = .ok (.lsub, 1)) (hz : x - y = z) (h : Goes p e below s C S Q T (mkF m pc' Ls (.long z :: rest))) : Goes p e below s C S Q T (mkF m pc Ls (.long y :: .long x :: rest)) := by
  subst hp; subst hz; exact Goes.go (fun _ k => XS.lsub X.here hx rfl hd rfl k) h
theorem own_lmul (X : Stand p l e R s m args below meth c T locs cells slots) (hx : p.tables.exec = Jvm.exec) (pc' : Nat) (hp : pc + 1 = pc') {x y z : Int64} (hd : decode c.code pc = .ok (.lmul, 1)) (hz : x * y = z) (h : Goes p e below s C S Q T (mkF m pc' Ls (.long z :: rest))) : Goes p e below s C S Q T (mkF m pc Ls (.long y :: .long x :: rest)) := by
  subst hp; subst hz; exact Goes.go (fun _ k => XS.lmul X.here hx rfl hd rfl k) h
theorem own_land (X : Stand p l e R s m args below meth c T locs cells slots) (hx : p.tables.exec = Jvm.exec) (pc' : Nat) (hp : pc + 1 = pc') {x y z : Int64} (hd : decode c.code pc = .ok (.land, 1)) (hz : x &&& y = z) (h : Goes p e below s C S Q T (mkF m pc' Ls (.long z :: rest))) : Goes p e below s C S Q T (mkF m pc Ls (.long y :: .long x :: rest)) := by
  subst hp; subst hz; exact Goes.go (fun _ k => XS.land X.here hx rfl hd rfl k) h
theorem own_lor (X : Stand p l e R s m args below meth c T locs cells slots) (hx : p.tables.exec = Jvm.exec) (pc' : Nat) (hp : pc + 1 = pc') {x y z : Int64} (hd : decode c.code pc = .ok (.lor, 1)) (hz : x ||| y = z) (h : Goes p e below s C S Q T (mkF m pc' Ls (.long z :: rest))) : Goes p e below s C S Q T (mkF m pc Ls (.long y :: .long x :: rest)) := by
  subst hp; subst hz; exact Goes.go (fun _ k => XS.lor X.here hx rfl hd rfl k) h
theorem own_lxor (X : Stand p l e R s m args below meth c T locs cells slots) (hx : p.tables.exec = Jvm.exec) (pc' : Nat) (hp : pc + 1 = pc') {x y z : Int64} (hd : decode c.code pc = .ok (.lxor, 1)) (hz : x ^^^ y = z) (h : Goes p e below s C S Q T (mkF m pc' Ls (.long z :: rest))) : Goes p e below s C S Q T (mkF m pc Ls (.long y :: .long x :: rest)) := by
  subst hp; subst hz; exact Goes.go (fun _ k => XS.lxor X.here hx rfl hd rfl k) h
theorem own_ldiv (X : Stand p l e R s m args below meth c T locs cells slots) (hx : p.tables.exec = Jvm.exec) (pc' : Nat) (hp : pc + 1 = pc') {x y z : Int64} (hd : decode c.code pc = .ok (.ldiv, 1)) (hy : y ≠ 0) (hz : x / y = z) (h : Goes p e below s C S Q T (mkF m pc' Ls (.long z :: rest))) : Goes p e below s C S Q T (mkF m pc Ls (.long y :: .long x :: rest)) := by
  subst hp; subst hz; exact Goes.go (fun _ k => XS.ldiv X.here hx rfl hd rfl hy k) h
theorem own_lshl (X : Stand p l e R s m args below meth c T locs cells slots) (hx : p.tables.exec = Jvm.exec) (pc' : Nat) (hp : pc + 1 = pc') {x z : Int64} {y : Int32} (hd : decode c.code pc = .ok (.lshl, 1)) (hz : (x <<< (y &&& 0x3f).toInt64) = z) (h : Goes p e below s C S Q T (mkF m pc' Ls (.long z :: rest))) : Goes p e below s C S Q T (mkF m pc Ls (.int y :: .long x :: rest)) := by
  subst hp; subst hz; exact Goes.go (fun _ k => XS.lshl X.here hx rfl hd rfl k) h
theorem own_lshr (X : Stand p l e R s m args below meth c T locs cells slots) (hx : p.tables.exec = Jvm.exec) (pc' : Nat) (hp : pc + 1 = pc') {x z : Int64} {y : Int32} (hd : decode c.code pc = .ok (.lshr, 1)) (hz : (x >>> (y &&& 0x3f).toInt64) = z) (h : Goes p e below s C S Q T (mkF m pc' Ls (.long z :: rest))) : Goes p e below s C S Q T (mkF m pc Ls (.int y :: .long x :: rest)) := by
  subst hp; subst hz; exact Goes.go (fun _ k => XS.lshr X.here hx rfl hd rfl k) h
theorem own_lushr (X : Stand p l e R s m args below meth c T locs cells slots) (hx : p.tables.exec = Jvm.exec) (pc' : Nat) (hp : pc + 1 = pc') {x z : Int64} {y : Int32} (hd : decode c.code pc = .ok (.lushr, 1)) (hz : ((x.toUInt64 >>> (y &&& 0x3f).toInt64.toUInt64).toInt64) = z) (h : Goes p e below s C S Q T (mkF m pc' Ls (.long z :: rest))) : Goes p e below s C S Q T (mkF m pc Ls (.int y :: .long x :: rest)) := by
  subst hp; subst hz; exact Goes.go (fun _ k => XS.lushr X.here hx rfl hd rfl k) h
theorem own_irem (X : Stand p l e R s m args below meth c T locs cells slots) (hx : p.tables.exec = Jvm.exec) (pc' : Nat) (hp : pc + 1 = pc') {x y z : Int32} (hd : decode c.code pc = .ok (.irem, 1)) (hy : y ≠ 0) (hz : x % y = z) (h : Goes p e below s C S Q T (mkF m pc' Ls (.int z :: rest))) : Goes p e below s C S Q T (mkF m pc Ls (.int y :: .int x :: rest)) := by
  subst hp; subst hz; exact Goes.go (fun _ k => iremM X hx rfl hd rfl hy k) h
theorem own_lrem (X : Stand p l e R s m args below meth c T locs cells slots) (hx : p.tables.exec = Jvm.exec) (pc' : Nat) (hp : pc + 1 = pc') {x y z : Int64} (hd : decode c.code pc = .ok (.lrem, 1)) (hy : y ≠ 0) (hz : x % y = z) (h : Goes p e below s C S Q T (mkF m pc' Ls (.long z :: rest))) : Goes p e below s C S Q T (mkF m pc Ls (.long y :: .long x :: rest)) := by
  subst hp; subst hz; exact Goes.go (fun _ k => XS.lrem X.here hx rfl hd rfl hy (by rw [lrem_mod]; exact k)) h
theorem own_ineg (X : Stand p l e R s m args below meth c T locs cells slots) (hx : p.tables.exec = Jvm.exec) (pc' : Nat) (hp : pc + 1 = pc') {x : Int32} {z : Int32} (hd : decode c.code pc = .ok (.ineg, 1)) (hz : -x = z) (h : Goes p e below s C S Q T (mkF m pc' Ls (.int z :: rest))) : Goes p e below s C S Q T (mkF m pc Ls (.int x :: rest)) := by
  subst hp; subst hz; exact Goes.go (fun _ k => XS.ineg X.here hx rfl hd rfl k) h
theorem own_lneg (X : Stand p l e R s m args below meth c T locs cells slots) (hx : p.tables.exec = Jvm.exec) (pc' : Nat) (hp : pc + 1 = pc') {x : Int64} {z : Int64} (hd : decode c.code pc = .ok (.lneg, 1)) (hz : -x = z) (h : Goes p e below s C S Q T (mkF m pc' Ls (.long z :: rest))) : Goes p e below s C S Q T (mkF m pc Ls (.long x :: rest)) := by
  subst hp; subst hz; exact Goes.go (fun _ k => XS.lneg X.here hx rfl hd rfl k) h
theorem own_i2l (X : Stand p l e R s m args below meth c T locs cells slots) (hx : p.tables.exec = Jvm.exec) (pc' : Nat) (hp : pc + 1 = pc') {x : Int32} {z : Int64} (hd : decode c.code pc = .ok (.i2l, 1)) (hz : x.toInt64 = z) (h : Goes p e below s C S Q T (mkF m pc' Ls (.long z :: rest))) : Goes p e below s C S Q T (mkF m pc Ls (.int x :: rest)) := by
  subst hp; subst hz; exact Goes.go (fun _ k => XS.i2l X.here hx rfl hd rfl k) h
theorem own_l2i (X : Stand p l e R s m args below meth c T locs cells slots) (hx : p.tables.exec = Jvm.exec) (pc' : Nat) (hp : pc + 1 = pc') {x : Int64} {z : Int32} (hd : decode c.code pc = .ok (.l2i, 1)) (hz : x.toInt32 = z) (h : Goes p e below s C S Q T (mkF m pc' Ls (.int z :: rest))) : Goes p e below s C S Q T (mkF m pc Ls (.long x :: rest)) := by
  subst hp; subst hz; exact Goes.go (fun _ k => XS.l2i X.here hx rfl hd rfl k) h
theorem own_i2b (X : Stand p l e R s m args below meth c T locs cells slots) (hx : p.tables.exec = Jvm.exec) (pc' : Nat) (hp : pc + 1 = pc') {x : Int32} {z : Int32} (hd : decode c.code pc = .ok (.i2b, 1)) (hz : x.toInt8.toInt32 = z) (h : Goes p e below s C S Q T (mkF m pc' Ls (.int z :: rest))) : Goes p e below s C S Q T (mkF m pc Ls (.int x :: rest)) := by
  subst hp; subst hz; exact Goes.go (fun _ k => XS.i2b X.here hx rfl hd rfl k) h
theorem own_i2s (X : Stand p l e R s m args below meth c T locs cells slots) (hx : p.tables.exec = Jvm.exec) (pc' : Nat) (hp : pc + 1 = pc') {x : Int32} {z : Int32} (hd : decode c.code pc = .ok (.i2s, 1)) (hz : x.toInt16.toInt32 = z) (h : Goes p e below s C S Q T (mkF m pc' Ls (.int z :: rest))) : Goes p e below s C S Q T (mkF m pc Ls (.int x :: rest)) := by
  subst hp; subst hz; exact Goes.go (fun _ k => XS.i2s X.here hx rfl hd rfl k) h
theorem own_i2c (X : Stand p l e R s m args below meth c T locs cells slots) (hx : p.tables.exec = Jvm.exec) (pc' : Nat) (hp : pc + 1 = pc') {x : Int32} {z : Int32} (hd : decode c.code pc = .ok (.i2c, 1)) (hz : x.toUInt32.toUInt16.toUInt32.toInt32 = z) (h : Goes p e below s C S Q T (mkF m pc' Ls (.int z :: rest))) : Goes p e below s C S Q T (mkF m pc Ls (.int x :: rest)) := by
  subst hp; subst hz; exact Goes.go (fun _ k => XS.i2c X.here hx rfl hd rfl k) h
theorem own_lcmp (X : Stand p l e R s m args below meth c T locs cells slots) (hx : p.tables.exec = Jvm.exec) (pc' : Nat) (hp : pc + 1 = pc') {x y : Int64} (hd : decode c.code pc = .ok (.lcmp, 1))  (h : Goes p e below s C S Q T (mkF m pc' Ls (.int (lcmpW x y) :: rest))) : Goes p e below s C S Q T (mkF m pc Ls (.long y :: .long x :: rest)) := by
  subst hp; exact Goes.go (fun _ k => XS.lcmp X.here hx rfl hd rfl k) h
theorem own_iload (X : Stand p l e R s m args below meth c T locs cells slots) (hx : p.tables.exec = Jvm.exec) (pc' : Nat) (hp : pc + 2 = pc') {k : Nat} {v : Int32} (hd : decode c.code pc = .ok (.iload k, 2)) (hl : Ls[k]? = some (.val (.int v))) (h : Goes p e below s C S Q T (mkF m pc' Ls ((.int v) :: rest))) : Goes p e below s C S Q T (mkF m pc Ls rest) := by
  subst hp; exact Goes.go (fun _ k => XS.iload X.here hx rfl hd hl k) h
theorem own_iloadN (X : Stand p l e R s m args below meth c T locs cells slots) (hx : p.tables.exec = Jvm.exec) (pc' : Nat) (hp : pc + 1 = pc') {k : Fin 4} {v : Int32} (hd : decode c.code pc = .ok (.iload_n k, 1)) (hl : Ls[k.val]? = some (.val (.int v))) (h : Goes p e below s C S Q T (mkF m pc' Ls ((.int v) :: rest))) : Goes p e below s C S Q T (mkF m pc Ls rest) := by
  subst hp; exact Goes.go (fun _ k => XS.iloadN X.here hx rfl hd hl k) h
theorem own_istore (X : Stand p l e R s m args below meth c T locs cells slots) (hx : p.tables.exec = Jvm.exec) (pc' : Nat) (hp : pc + 2 = pc') {k : Nat} {v : Int32} (Ls' : Array Slot) (hd : decode c.code pc = .ok (.istore k, 2)) (hl : storeLocals Ls k (.int v) = some Ls') (h : Goes p e below s C S Q T (mkF m pc' Ls' rest)) : Goes p e below s C S Q T (mkF m pc Ls ((.int v) :: rest)) := by
  subst hp; exact Goes.go (fun _ k => XS.istore X.here hx rfl hd rfl hl k) h
theorem own_istoreN (X : Stand p l e R s m args below meth c T locs cells slots) (hx : p.tables.exec = Jvm.exec) (pc' : Nat) (hp : pc + 1 = pc') {k : Fin 4} {v : Int32} (Ls' : Array Slot) (hd : decode c.code pc = .ok (.istore_n k, 1)) (hl : storeLocals Ls k.val (.int v) = some Ls') (h : Goes p e below s C S Q T (mkF m pc' Ls' rest)) : Goes p e below s C S Q T (mkF m pc Ls ((.int v) :: rest)) := by
  subst hp; exact Goes.go (fun _ k => XS.istoreN X.here hx rfl hd rfl hl k) h
theorem own_lload (X : Stand p l e R s m args below meth c T locs cells slots) (hx : p.tables.exec = Jvm.exec) (pc' : Nat) (hp : pc + 2 = pc') {k : Nat} {v : Int64} (hd : decode c.code pc = .ok (.lload k, 2)) (hl : Ls[k]? = some (.val (.long v))) (h : Goes p e below s C S Q T (mkF m pc' Ls ((.long v) :: rest))) : Goes p e below s C S Q T (mkF m pc Ls rest) := by
  subst hp; exact Goes.go (fun _ k => XS.lload X.here hx rfl hd hl k) h
theorem own_lloadN (X : Stand p l e R s m args below meth c T locs cells slots) (hx : p.tables.exec = Jvm.exec) (pc' : Nat) (hp : pc + 1 = pc') {k : Fin 4} {v : Int64} (hd : decode c.code pc = .ok (.lload_n k, 1)) (hl : Ls[k.val]? = some (.val (.long v))) (h : Goes p e below s C S Q T (mkF m pc' Ls ((.long v) :: rest))) : Goes p e below s C S Q T (mkF m pc Ls rest) := by
  subst hp; exact Goes.go (fun _ k => XS.lloadN X.here hx rfl hd hl k) h
theorem own_lstore (X : Stand p l e R s m args below meth c T locs cells slots) (hx : p.tables.exec = Jvm.exec) (pc' : Nat) (hp : pc + 2 = pc') {k : Nat} {v : Int64} (Ls' : Array Slot) (hd : decode c.code pc = .ok (.lstore k, 2)) (hl : storeLocals Ls k (.long v) = some Ls') (h : Goes p e below s C S Q T (mkF m pc' Ls' rest)) : Goes p e below s C S Q T (mkF m pc Ls ((.long v) :: rest)) := by
  subst hp; exact Goes.go (fun _ k => XS.lstore X.here hx rfl hd rfl hl k) h
theorem own_lstoreN (X : Stand p l e R s m args below meth c T locs cells slots) (hx : p.tables.exec = Jvm.exec) (pc' : Nat) (hp : pc + 1 = pc') {k : Fin 4} {v : Int64} (Ls' : Array Slot) (hd : decode c.code pc = .ok (.lstore_n k, 1)) (hl : storeLocals Ls k.val (.long v) = some Ls') (h : Goes p e below s C S Q T (mkF m pc' Ls' rest)) : Goes p e below s C S Q T (mkF m pc Ls ((.long v) :: rest)) := by
  subst hp; exact Goes.go (fun _ k => XS.lstoreN X.here hx rfl hd rfl hl k) h
theorem own_aload (X : Stand p l e R s m args below meth c T locs cells slots) (hx : p.tables.exec = Jvm.exec) (pc' : Nat) (hp : pc + 2 = pc') {k : Nat} {v : Value} (hd : decode c.code pc = .ok (.aload k, 2)) (hl : Ls[k]? = some (.val v)) (hv : v.isRef = true) (h : Goes p e below s C S Q T (mkF m pc' Ls (v :: rest))) : Goes p e below s C S Q T (mkF m pc Ls rest) := by
  subst hp; exact Goes.go (fun _ k => XS.aload X.here hx rfl hd hl hv k) h
theorem own_aloadN (X : Stand p l e R s m args below meth c T locs cells slots) (hx : p.tables.exec = Jvm.exec) (pc' : Nat) (hp : pc + 1 = pc') {k : Fin 4} {v : Value} (hd : decode c.code pc = .ok (.aload_n k, 1)) (hl : Ls[k.val]? = some (.val v)) (hv : v.isRef = true) (h : Goes p e below s C S Q T (mkF m pc' Ls (v :: rest))) : Goes p e below s C S Q T (mkF m pc Ls rest) := by
  subst hp; exact Goes.go (fun _ k => XS.aloadN X.here hx rfl hd hl hv k) h
theorem own_astore (X : Stand p l e R s m args below meth c T locs cells slots) (hx : p.tables.exec = Jvm.exec) (pc' : Nat) (hp : pc + 2 = pc') {k : Nat} {v : Value} (Ls' : Array Slot) (hd : decode c.code pc = .ok (.astore k, 2)) (hl : storeLocals Ls k v = some Ls') (hv : v.isRef = true) (h : Goes p e below s C S Q T (mkF m pc' Ls' rest)) : Goes p e below s C S Q T (mkF m pc Ls (v :: rest)) := by
  subst hp; exact Goes.go (fun _ k => XS.astore X.here hx rfl hd rfl hv hl k) h
theorem own_astoreN (X : Stand p l e R s m args below meth c T locs cells slots) (hx : p.tables.exec = Jvm.exec) (pc' : Nat) (hp : pc + 1 = pc') {k : Fin 4} {v : Value} (Ls' : Array Slot) (hd : decode c.code pc = .ok (.astore_n k, 1)) (hl : storeLocals Ls k.val v = some Ls') (hv : v.isRef = true) (h : Goes p e below s C S Q T (mkF m pc' Ls' rest)) : Goes p e below s C S Q T (mkF m pc Ls (v :: rest)) := by
  subst hp; exact Goes.go (fun _ k => XS.astoreN X.here hx rfl hd rfl hv hl k) h
theorem own_iconst (X : Stand p l e R s m args below meth c T locs cells slots) (hx : p.tables.exec = Jvm.exec) (pc' : Nat) (hp : pc + 1 = pc') {i : Int} (v : Int32) (hd : decode c.code pc = .ok (.iconst i, 1)) (hv : Int32.ofInt i = v) (h : Goes p e below s C S Q T (mkF m pc' Ls (.int v :: rest))) : Goes p e below s C S Q T (mkF m pc Ls rest) := by
  subst hp; subst hv; exact Goes.go (fun _ k => XS.iconst X.here hx rfl hd k) h
theorem own_bipush (X : Stand p l e R s m args below meth c T locs cells slots) (hx : p.tables.exec = Jvm.exec) (pc' : Nat) (hp : pc + 2 = pc') {i : Int} (v : Int32) (hd : decode c.code pc = .ok (.bipush i, 2)) (hv : (Int8.ofInt i).toInt32 = v) (h : Goes p e below s C S Q T (mkF m pc' Ls (.int v :: rest))) : Goes p e below s C S Q T (mkF m pc Ls rest) := by
  subst hp; subst hv; exact Goes.go (fun _ k => XS.bipush X.here hx rfl hd k) h
theorem own_sipush (X : Stand p l e R s m args below meth c T locs cells slots) (hx : p.tables.exec = Jvm.exec) (pc' : Nat) (hp : pc + 3 = pc') {i : Int} (v : Int32) (hd : decode c.code pc = .ok (.sipush i, 3)) (hv : (Int16.ofInt i).toInt32 = v) (h : Goes p e below s C S Q T (mkF m pc' Ls (.int v :: rest))) : Goes p e below s C S Q T (mkF m pc Ls rest) := by
  subst hp; subst hv; exact Goes.go (fun _ k => XS.sipush X.here hx rfl hd k) h
theorem own_lconst (X : Stand p l e R s m args below meth c T locs cells slots) (hx : p.tables.exec = Jvm.exec) (pc' : Nat) (hp : pc + 1 = pc') {i : Fin 2} (v : Int64) (hd : decode c.code pc = .ok (.lconst i, 1)) (hv : Int64.ofNat i = v) (h : Goes p e below s C S Q T (mkF m pc' Ls (.long v :: rest))) : Goes p e below s C S Q T (mkF m pc Ls rest) := by
  subst hp; subst hv; exact Goes.go (fun _ k => XS.lconst X.here hx rfl hd k) h
theorem own_aconst_null (X : Stand p l e R s m args below meth c T locs cells slots) (hx : p.tables.exec = Jvm.exec) (pc' : Nat) (hp : pc + 1 = pc')  (hd : decode c.code pc = .ok (.aconst_null, 1))  (h : Goes p e below s C S Q T (mkF m pc' Ls (.null :: rest))) : Goes p e below s C S Q T (mkF m pc Ls rest) := by
  subst hp; exact Goes.go (fun _ k => XS.aconstNull X.here hx rfl hd k) h
theorem own_dup (X : Stand p l e R s m args below meth c T locs cells slots) (hx : p.tables.exec = Jvm.exec) (pc' : Nat) (hp : pc + 1 = pc') {v : Value} (hd : decode c.code pc = .ok (.dup, 1)) (hc : v.category = 1) (h : Goes p e below s C S Q T (mkF m pc' Ls (v :: v :: rest))) : Goes p e below s C S Q T (mkF m pc Ls (v :: rest)) := by
  subst hp; exact Goes.go (fun _ k => XS.dup X.here hx rfl hd rfl hc k) h
theorem own_pop (X : Stand p l e R s m args below meth c T locs cells slots) (hx : p.tables.exec = Jvm.exec) (pc' : Nat) (hp : pc + 1 = pc') {v : Value} (hd : decode c.code pc = .ok (.pop, 1)) (hc : v.category = 1) (h : Goes p e below s C S Q T (mkF m pc' Ls rest)) : Goes p e below s C S Q T (mkF m pc Ls (v :: rest)) := by
  subst hp; exact Goes.go (fun _ k => XS.pop X.here hx rfl hd rfl hc k) h
theorem own_dup_x1 (X : Stand p l e R s m args below meth c T locs cells slots) (hx : p.tables.exec = Jvm.exec) (pc' : Nat) (hp : pc + 1 = pc') {v w : Value} (hd : decode c.code pc = .ok (.dup_x1, 1)) (hc : v.category = 1) (hc' : w.category = 1) (h : Goes p e below s C S Q T (mkF m pc' Ls (v :: w :: v :: rest))) : Goes p e below s C S Q T (mkF m pc Ls (v :: w :: rest)) := by
  subst hp; exact Goes.go (fun _ k => XS.dupX1 X.here hx rfl hd rfl hc hc' k) h
theorem own_dup2L (X : Stand p l e R s m args below meth c T locs cells slots) (hx : p.tables.exec = Jvm.exec) (pc' : Nat) (hp : pc + 1 = pc') {v : Int64} (hd : decode c.code pc = .ok (.dup2, 1))  (h : Goes p e below s C S Q T (mkF m pc' Ls (.long v :: .long v :: rest))) : Goes p e below s C S Q T (mkF m pc Ls (.long v :: rest)) := by
  subst hp; exact Goes.go (fun _ k => Jvm.Free.XT.dup2L X.here hx rfl hd rfl k) h
theorem own_dup2 (X : Stand p l e R s m args below meth c T locs cells slots) (hx : p.tables.exec = Jvm.exec) (pc' : Nat) (hp : pc + 1 = pc') {v w : Value} (hd : decode c.code pc = .ok (.dup2, 1)) (hc : v.category = 1) (hc' : w.category = 1) (h : Goes p e below s C S Q T (mkF m pc' Ls (v :: w :: v :: w :: rest))) : Goes p e below s C S Q T (mkF m pc Ls (v :: w :: rest)) := by
  subst hp; exact Goes.go (fun _ k => Jvm.Free.XT.dup2 X.here hx rfl hd rfl hc hc' k) h
theorem own_iinc (X : Stand p l e R s m args below meth c T locs cells slots) (hx : p.tables.exec = Jvm.exec) (pc' : Nat) (hp : pc + 3 = pc') {k : Nat} {cst : Int} {x z : Int32} (Ls' : Array Slot) (hd : decode c.code pc = .ok (.iinc k cst, 3)) (hl : Ls[k]? = some (.val (.int x))) (hz : x + Int32.ofInt cst = z) (hl' : storeLocals Ls k (.int z) = some Ls') (h : Goes p e below s C S Q T (mkF m pc' Ls' rest)) : Goes p e below s C S Q T (mkF m pc Ls rest) := by
  subst hp; subst hz; exact Goes.go (fun _ k => XS.iinc X.here hx rfl hd hl hl' k) h
theorem own_goto (X : Stand p l e R s m args below meth c T locs cells slots) (hx : p.tables.exec = Jvm.exec) (pc' : Nat) {o : Int} (hd : decode c.code pc = .ok (.goto o, 3)) (ho : 0 ≤ (pc : Int) + o) (hp : ((pc : Int) + o).toNat = pc') (h : Goes p e below s C S Q T (mkF m pc' Ls rest)) : Goes p e below s C S Q T (mkF m pc Ls rest) :=
  Goes.go (fun _ k => XS.goto X.here hx rfl rfl hd ho hp k) h
theorem own_ifY (X : Stand p l e R s m args below meth c T locs cells slots) (hx : p.tables.exec = Jvm.exec) (pc' : Nat) {o : Int} {cd : ClassFile.Cond} {x : Int32} (hd : decode c.code pc = .ok (.ifCond cd o, 3)) (hc : ifCond.holds cd x = true) (ho : 0 ≤ (pc : Int) + o) (hp : ((pc : Int) + o).toNat = pc') (h : Goes p e below s C S Q T (mkF m pc' Ls rest)) : Goes p e below s C S Q T (mkF m pc Ls (.int x :: rest)) :=
  Goes.go (fun _ k => XS.ifYes X.here hx rfl rfl hd rfl hc ho hp k) h
theorem own_ifN (X : Stand p l e R s m args below meth c T locs cells slots) (hx : p.tables.exec = Jvm.exec) (pc' : Nat) {o : Int} {cd : ClassFile.Cond} {x : Int32} (hd : decode c.code pc = .ok (.ifCond cd o, 3)) (hc : ifCond.holds cd x = false) (hp : pc + 3 = pc') (h : Goes p e below s C S Q T (mkF m pc' Ls rest)) : Goes p e below s C S Q T (mkF m pc Ls (.int x :: rest)) := by
  subst hp; exact Goes.go (fun _ k => XS.ifNo X.here hx rfl hd rfl hc k) h
theorem own_icmpY (X : Stand p l e R s m args below meth c T locs cells slots) (hx : p.tables.exec = Jvm.exec) (pc' : Nat) {o : Int} {cd : ClassFile.Cond} {x y : Int32} (hd : decode c.code pc = .ok (.if_icmp cd o, 3)) (hc : if_icmp.holds cd x y = true) (ho : 0 ≤ (pc : Int) + o) (hp : ((pc : Int) + o).toNat = pc') (h : Goes p e below s C S Q T (mkF m pc' Ls rest)) : Goes p e below s C S Q T (mkF m pc Ls (.int y :: .int x :: rest)) :=
  Goes.go (fun _ k => XS.icmpYes X.here hx rfl rfl hd rfl hc ho hp k) h
theorem own_icmpN (X : Stand p l e R s m args below meth c T locs cells slots) (hx : p.tables.exec = Jvm.exec) (pc' : Nat) {o : Int} {cd : ClassFile.Cond} {x y : Int32} (hd : decode c.code pc = .ok (.if_icmp cd o, 3)) (hc : if_icmp.holds cd x y = false) (hp : pc + 3 = pc') (h : Goes p e below s C S Q T (mkF m pc' Ls rest)) : Goes p e below s C S Q T (mkF m pc Ls (.int y :: .int x :: rest)) := by
  subst hp; exact Goes.go (fun _ k => XS.icmpNo X.here hx rfl hd rfl hc k) h
theorem own_acmp (X : Stand p l e R s m args below meth c T locs cells slots) (hx : p.tables.exec = Jvm.exec) (pc' : Nat) {o : Int} {cd : ACond} {x y : Value} {same : Bool} (h1 : x.isRef = true) (h2 : y.isRef = true) (hd : decode c.code pc = .ok (.if_acmp cd o, 3)) (hq : decide (x = y) = same) (ho : 0 ≤ (pc : Int) + o) (hp : pc' = if acV cd same = true then ((pc : Int) + o).toNat else pc + 3) (h : Goes p e below s C S Q T (mkF m pc' Ls rest)) : Goes p e below s C S Q T (mkF m pc Ls (y :: x :: rest)) :=
  Goes.go (fun _ k => Jvm.RoadKit.acmp (g := mkF m pc Ls (y :: x :: rest)) X hx rfl h1 h2 rfl hd rfl hq ho hp k) h
theorem own_ifnullY (X : Stand p l e R s m args below meth c T locs cells slots) (hx : p.tables.exec = Jvm.exec) (pc' : Nat) {o : Int} (hd : decode c.code pc = .ok (.ifnull o, 3)) (ho : 0 ≤ (pc : Int) + o) (hp : ((pc : Int) + o).toNat = pc') (h : Goes p e below s C S Q T (mkF m pc' Ls rest)) : Goes p e below s C S Q T (mkF m pc Ls (.null :: rest)) :=
  Goes.go (fun _ k => XS.ifnullYes X.here hx rfl rfl hd rfl ho hp k) h
theorem own_ifnullN (X : Stand p l e R s m args below meth c T locs cells slots) (hx : p.tables.exec = Jvm.exec) (pc' : Nat) {o : Int} {b : Addr} (hd : decode c.code pc = .ok (.ifnull o, 3)) (hp : pc + 3 = pc') (h : Goes p e below s C S Q T (mkF m pc' Ls rest)) : Goes p e below s C S Q T (mkF m pc Ls (.ref b :: rest)) := by
  subst hp; exact Goes.go (fun _ k => XS.ifnullNo X.here hx rfl hd rfl k) h
theorem own_ifnonnullY (X : Stand p l e R s m args below meth c T locs cells slots) (hx : p.tables.exec = Jvm.exec) (pc' : Nat) {o : Int} {b : Addr} (hd : decode c.code pc = .ok (.ifnonnull o, 3)) (ho : 0 ≤ (pc : Int) + o) (hp : ((pc : Int) + o).toNat = pc') (h : Goes p e below s C S Q T (mkF m pc' Ls rest)) : Goes p e below s C S Q T (mkF m pc Ls (.ref b :: rest)) :=
  Goes.go (fun _ k => XS.ifnonnullYes X.here hx rfl rfl hd rfl ho hp k) h
theorem own_ifnonnullN (X : Stand p l e R s m args below meth c T locs cells slots) (hx : p.tables.exec = Jvm.exec) (pc' : Nat) {o : Int} (hd : decode c.code pc = .ok (.ifnonnull o, 3)) (hp : pc + 3 = pc') (h : Goes p e below s C S Q T (mkF m pc' Ls rest)) : Goes p e below s C S Q T (mkF m pc Ls (.null :: rest)) := by
  subst hp; exact Goes.go (fun _ k => XS.ifnonnullNo X.here hx rfl hd rfl k) h
end Steps1
/-- the branches on a long comparison -/
theorem Ltlt {x y : Int64} (h : x < y) : ifCond.holds .lt (lcmpW x y) = true ∧ ifCond.holds .ge (lcmpW x y) = false ∧ ifCond.holds .gt (lcmpW y x) = true ∧ ifCond.holds .le (lcmpW y x) = false :=
  ⟨(if0 _ _).trans (tlt ((lw_lt x y).mpr h)).1, (if0 _ _).trans (tlt ((lw_lt x y).mpr h)).2.1, (if0 _ _).trans (tlt ((lw_gt y x).mpr h)).2.2.1, (if0 _ _).trans (tlt ((lw_gt y x).mpr h)).2.2.2⟩
theorem Lflt {x y : Int64} (h : ¬ x < y) : ifCond.holds .lt (lcmpW x y) = false ∧ ifCond.holds .ge (lcmpW x y) = true ∧ ifCond.holds .gt (lcmpW y x) = false ∧ ifCond.holds .le (lcmpW y x) = true :=
  ⟨(if0 _ _).trans (flt fun q => h ((lw_lt x y).mp q)).1, (if0 _ _).trans (flt fun q => h ((lw_lt x y).mp q)).2.1, (if0 _ _).trans (flt fun q => h ((lw_gt y x).mp q)).2.2.1, (if0 _ _).trans (flt fun q => h ((lw_gt y x).mp q)).2.2.2⟩
theorem Lteq {x y : Int64} (h : x = y) : ifCond.holds .eq (lcmpW x y) = true ∧ ifCond.holds .ne (lcmpW x y) = false :=
  ⟨(if0 _ _).trans (teq ((lw_eq x y).mpr h)).1, (if0 _ _).trans (teq ((lw_eq x y).mpr h)).2⟩
theorem Lfeq {x y : Int64} (h : ¬ x = y) : ifCond.holds .eq (lcmpW x y) = false ∧ ifCond.holds .ne (lcmpW x y) = true :=
  ⟨(if0 _ _).trans (feq fun q => h ((lw_eq x y).mp q)).1, (if0 _ _).trans (feq fun q => h ((lw_eq x y).mp q)).2⟩
theorem Ztlt {x y : Int32} (h : x < y) : if_icmp.holds .lt x y = true ∧ if_icmp.holds .ge x y = false ∧ if_icmp.holds .gt y x = true ∧ if_icmp.holds .le y x = false := tlt h
/-- the pieces of a memory fact -/
theorem own_lt_ne {a b n : Nat} (h : a < n) (g : b = n) : a ≠ b := by omega
end Own
theorem own_eqv {args : Array Value} {s : State} {t u : Term} {v : Value} (hu : u.eval args s none [] s = some v) (h : (Jvm.Cond.eq t u).value args s none s [] = some true) : t.eval args s none [] s = some v := by
  cases ht : t.eval args s none [] s with
  | none => simp [Cond.value, ht] at h
  | some x =>
    simp only [Cond.value, ht, hu] at h
    cases x <;> cases v <;> simp_all
theorem own_fldv {args : Array Value} {s : State} {t u : Term} {a : Addr} {C n d : String} {v : Value} (ev : t.eval args s none [] s = some (.ref a)) (hu : u.eval args s none [] s = some v) (h : (Jvm.Cond.eq (Term.field t C n d) u).value args s none s [] = some true) : s.fieldOf? a C n d = some v :=
  (fld_at ev).symm.trans (own_eqv hu h)
theorem own_mod3 (x r : Int32) (h : r = ((x &&& (2147483647 : Int32)) % (3 : Int32))) : r = (0 : Int32) ∨ r = (1 : Int32) ∨ r = (2 : Int32) := by
  have hm : (x &&& (2147483647 : Int32)).toInt = x.toInt % 2147483648 := c_mask x (2147483647 : Int32) 31 (by decide) (by decide)
  have hr := (c_irem (x &&& (2147483647 : Int32)) (3 : Int32) 3 (by decide)).1 (by omega)
  have e0 : (0 : Int32).toInt = 0 := by decide
  have e1 : (1 : Int32).toInt = 1 := by decide
  have e2 : (2 : Int32).toInt = 2 := by decide
  rw [← h] at hr
  simp only [← Int32.toInt_inj, e0, e1, e2]; omega
theorem own_d1_0 : decode method_2_code 0 = .ok (.iload_n 0, 1) := by decide +kernel
theorem own_d1_1 : decode method_2_code 1 = .ok (.ifCond .ne 7, 3) := by decide +kernel
theorem own_d1_4 : decode method_2_code 4 = .ok (.getstatic 7, 3) := by decide +kernel
theorem own_d1_7 : decode method_2_code 7 = .ok (.areturn, 1) := by decide +kernel
theorem own_pn_com_example_cambium_cambium_search_ShapeBuiltByPinLaw : plainName "com/example/cambium/cambium/search/ShapeBuiltByPinLaw" = true := by first | (simp [plainName, overriddenIn]; done) | decide +kernel
def Qs0 (Z : State) (za : Addr) (h0 : Heap) (n0 : Nat) (v : Option Value) (h : Heap) (L : List Loc) : Prop := v = some (.ref za) ∧ Fr n0 L ∧ h = h0
set_option maxRecDepth 65536 in
set_option maxHeartbeats 40000000 in
theorem rms0 (l : Launch) (Z : State) (a0 : Array Value) (hw : ∀ d ∈ tables_1, d.before a0 Z = true) (ws : List Jvm.Cond) (za : Addr) (h0 : Heap) (n0 : Nat) (Z0 : n0 ≤ h0.size) (Sz : Sta Z h0 "com/example/cambium/cambium/search/Shape" "ROOT" "Lcom/example/cambium/cambium/search/Shape;" (.ref za)) :
    MetFree l (⟨"com/example/cambium/cambium/search/ShapeBuiltByPinLaw", "shape", "(I)Lcom/example/cambium/cambium/search/Shape;"⟩ : MethodName) (head1 (Jvm.Cond.code (⟨"com/example/cambium/cambium/search/ShapeBuiltByPinLaw", "shape", "(I)Lcom/example/cambium/cambium/search/Shape;"⟩ : MethodName) method_2_code 1 (some (.object "com/example/cambium/cambium/search/Shape")) :: ws) ({ frames := 0, cells := 0, slots := 0, locals := 0 } : Room)) (fun a U => a = #[(.int (0 : Int32))] ∧ Z.Warmed39 U.vm ∧ U.heap = h0) (fun _ _ _ _ _ => True) (fun _ U o U' => ∃ v L, o = .returned v ∧ Qs0 Z za h0 n0 v U'.heap L ∧ FrameEnd U o U' L ({ frames := 0, cells := 0, slots := 0, locals := 0 } : Room).cells ({ frames := 0, cells := 0, slots := 0, locals := 0 } : Room).slots) := by
  refine MetFree.of_bodySF (plainFor_of_name own_pn_com_example_cambium_cambium_search_ShapeBuiltByPinLaw) hisR ?_
  intro p e s m args below meth c s₁ Bd hml0 hP hK
  obtain ⟨rfl, hZ, hh⟩ := hP
  have hx := Bd.exec
  have hby := Bd.bytes
  have hml : c.maxLocals = 1 := hml0
  have hlk := Bd.notSynchronized
  have hown : s.vm.findClass "com/example/cambium/cambium/search/ShapeBuiltByPinLaw" = some m.cls := findClass_of_methodNamed Bd.named
  have hnm := (name_of_methodNamed Bd.named Bd.method).1
  have X0 : Stand p l e ({ frames := 0, cells := 0, slots := 0, locals := 0 } : Room) s m #[(.int (0 : Int32))] below meth c s₁ [] 0 0 := Stand.of_body Bd
  have e0 : s₁.heap = h0 := by rw [← hh, Bd.state]; rfl
  have N0 := Fr.nil n0
  refine own_enter (Q := Qs0 Z za h0 n0) (Ls := #[.val (.int (0 : Int32))]) (by first | rfl | (simp [entryFrame, mkF, argsToLocals, Value.category]; done)) ?_
  refine own_iloadN X0 hx 1 rfl (hb hby own_d1_0) rfl ?_
  refine own_ifN X0 hx 4 (hb hby own_d1_1) ((if0 _ _).trans (teq ((by decide) : (0 : Int32) = (0 : Int32))).2) rfl ?_
  obtain ⟨T1, X1, e1, st1⟩ := getS2 X0 hx hZ hown (host := "") (Or.inl (hw _ (List.mem_of_getElem? (i := 5) rfl))) Via.refl e0 Sz (g := (mkF m 4 #[.val (.int (0 : Int32))] [])) rfl (hb hby own_d1_4)
  refine Goes.go st1 ?_
  show Goes p e below s _ _ _ T1 (mkF m 7 #[.val (.int (0 : Int32))] [(.ref za)])
  refine own_retR X1 hx hlk Bd.returns rfl rfl (hb hby own_d1_7) (by decide) (by decide) e1 ?_
  exact ⟨rfl, N0, rfl⟩
theorem own_d1_8 : decode method_2_code 8 = .ok (.iload_n 0, 1) := by decide +kernel
theorem own_d1_9 : decode method_2_code 9 = .ok (.iconst 1, 1) := by decide +kernel
theorem own_d1_10 : decode method_2_code 10 = .ok (.if_icmp .ne 7, 3) := by decide +kernel
theorem own_d1_13 : decode method_2_code 13 = .ok (.getstatic 13, 3) := by decide +kernel
theorem own_d1_16 : decode method_2_code 16 = .ok (.areturn, 1) := by decide +kernel
def Qs1 (Z : State) (za : Addr) (h0 : Heap) (n0 : Nat) (v : Option Value) (h : Heap) (L : List Loc) : Prop := v = some (.ref za) ∧ Fr n0 L ∧ h = h0
set_option maxRecDepth 65536 in
set_option maxHeartbeats 40000000 in
theorem rms1 (l : Launch) (Z : State) (a0 : Array Value) (hw : ∀ d ∈ tables_1, d.before a0 Z = true) (ws : List Jvm.Cond) (za : Addr) (h0 : Heap) (n0 : Nat) (Z0 : n0 ≤ h0.size) (Sz : Sta Z h0 "com/example/cambium/cambium/search/Shape" "MATCHED" "Lcom/example/cambium/cambium/search/Shape;" (.ref za)) :
    MetFree l (⟨"com/example/cambium/cambium/search/ShapeBuiltByPinLaw", "shape", "(I)Lcom/example/cambium/cambium/search/Shape;"⟩ : MethodName) (head1 (Jvm.Cond.code (⟨"com/example/cambium/cambium/search/ShapeBuiltByPinLaw", "shape", "(I)Lcom/example/cambium/cambium/search/Shape;"⟩ : MethodName) method_2_code 1 (some (.object "com/example/cambium/cambium/search/Shape")) :: ws) ({ frames := 0, cells := 0, slots := 0, locals := 0 } : Room)) (fun a U => a = #[(.int (1 : Int32))] ∧ Z.Warmed39 U.vm ∧ U.heap = h0) (fun _ _ _ _ _ => True) (fun _ U o U' => ∃ v L, o = .returned v ∧ Qs1 Z za h0 n0 v U'.heap L ∧ FrameEnd U o U' L ({ frames := 0, cells := 0, slots := 0, locals := 0 } : Room).cells ({ frames := 0, cells := 0, slots := 0, locals := 0 } : Room).slots) := by
  refine MetFree.of_bodySF (plainFor_of_name own_pn_com_example_cambium_cambium_search_ShapeBuiltByPinLaw) hisR ?_
  intro p e s m args below meth c s₁ Bd hml0 hP hK
  obtain ⟨rfl, hZ, hh⟩ := hP
  have hx := Bd.exec
  have hby := Bd.bytes
  have hml : c.maxLocals = 1 := hml0
  have hlk := Bd.notSynchronized
  have hown : s.vm.findClass "com/example/cambium/cambium/search/ShapeBuiltByPinLaw" = some m.cls := findClass_of_methodNamed Bd.named
  have hnm := (name_of_methodNamed Bd.named Bd.method).1
  have X0 : Stand p l e ({ frames := 0, cells := 0, slots := 0, locals := 0 } : Room) s m #[(.int (1 : Int32))] below meth c s₁ [] 0 0 := Stand.of_body Bd
  have e0 : s₁.heap = h0 := by rw [← hh, Bd.state]; rfl
  have N0 := Fr.nil n0
  refine own_enter (Q := Qs1 Z za h0 n0) (Ls := #[.val (.int (1 : Int32))]) (by first | rfl | (simp [entryFrame, mkF, argsToLocals, Value.category]; done)) ?_
  refine own_iloadN X0 hx 1 rfl (hb hby own_d1_0) rfl ?_
  refine own_ifY X0 hx 8 (hb hby own_d1_1) ((if0 _ _).trans (feq ((by decide) : ¬ ((1 : Int32) = (0 : Int32)))).2) (by decide) (by decide) ?_
  refine own_iloadN X0 hx 9 rfl (hb hby own_d1_8) rfl ?_
  refine own_iconst X0 hx 10 rfl (1 : Int32) (hb hby own_d1_9) (by decide) ?_
  refine own_icmpN X0 hx 13 (hb hby own_d1_10) (teq ((by decide) : (1 : Int32) = (1 : Int32))).2 rfl ?_
  obtain ⟨T1, X1, e1, st1⟩ := getS2 X0 hx hZ hown (host := "") (Or.inl (hw _ (List.mem_of_getElem? (i := 27) rfl))) Via.refl e0 Sz (g := (mkF m 13 #[.val (.int (1 : Int32))] [])) rfl (hb hby own_d1_13)
  refine Goes.go st1 ?_
  show Goes p e below s _ _ _ T1 (mkF m 16 #[.val (.int (1 : Int32))] [(.ref za)])
  refine own_retR X1 hx hlk Bd.returns rfl rfl (hb hby own_d1_16) (by decide) (by decide) e1 ?_
  exact ⟨rfl, N0, rfl⟩
theorem own_d1_17 : decode method_2_code 17 = .ok (.getstatic 16, 3) := by decide +kernel
theorem own_d1_20 : decode method_2_code 20 = .ok (.areturn, 1) := by decide +kernel
def Qs2 (Z : State) (za : Addr) (h0 : Heap) (n0 : Nat) (v : Option Value) (h : Heap) (L : List Loc) : Prop := v = some (.ref za) ∧ Fr n0 L ∧ h = h0
set_option maxRecDepth 65536 in
set_option maxHeartbeats 40000000 in
theorem rms2 (l : Launch) (Z : State) (a0 : Array Value) (hw : ∀ d ∈ tables_1, d.before a0 Z = true) (ws : List Jvm.Cond) (za : Addr) (h0 : Heap) (n0 : Nat) (Z0 : n0 ≤ h0.size) (Sz : Sta Z h0 "com/example/cambium/cambium/search/Shape" "TIGHT" "Lcom/example/cambium/cambium/search/Shape;" (.ref za)) :
    MetFree l (⟨"com/example/cambium/cambium/search/ShapeBuiltByPinLaw", "shape", "(I)Lcom/example/cambium/cambium/search/Shape;"⟩ : MethodName) (head1 (Jvm.Cond.code (⟨"com/example/cambium/cambium/search/ShapeBuiltByPinLaw", "shape", "(I)Lcom/example/cambium/cambium/search/Shape;"⟩ : MethodName) method_2_code 1 (some (.object "com/example/cambium/cambium/search/Shape")) :: ws) ({ frames := 0, cells := 0, slots := 0, locals := 0 } : Room)) (fun a U => a = #[(.int (2 : Int32))] ∧ Z.Warmed39 U.vm ∧ U.heap = h0) (fun _ _ _ _ _ => True) (fun _ U o U' => ∃ v L, o = .returned v ∧ Qs2 Z za h0 n0 v U'.heap L ∧ FrameEnd U o U' L ({ frames := 0, cells := 0, slots := 0, locals := 0 } : Room).cells ({ frames := 0, cells := 0, slots := 0, locals := 0 } : Room).slots) := by
  refine MetFree.of_bodySF (plainFor_of_name own_pn_com_example_cambium_cambium_search_ShapeBuiltByPinLaw) hisR ?_
  intro p e s m args below meth c s₁ Bd hml0 hP hK
  obtain ⟨rfl, hZ, hh⟩ := hP
  have hx := Bd.exec
  have hby := Bd.bytes
  have hml : c.maxLocals = 1 := hml0
  have hlk := Bd.notSynchronized
  have hown : s.vm.findClass "com/example/cambium/cambium/search/ShapeBuiltByPinLaw" = some m.cls := findClass_of_methodNamed Bd.named
  have hnm := (name_of_methodNamed Bd.named Bd.method).1
  have X0 : Stand p l e ({ frames := 0, cells := 0, slots := 0, locals := 0 } : Room) s m #[(.int (2 : Int32))] below meth c s₁ [] 0 0 := Stand.of_body Bd
  have e0 : s₁.heap = h0 := by rw [← hh, Bd.state]; rfl
  have N0 := Fr.nil n0
  refine own_enter (Q := Qs2 Z za h0 n0) (Ls := #[.val (.int (2 : Int32))]) (by first | rfl | (simp [entryFrame, mkF, argsToLocals, Value.category]; done)) ?_
  refine own_iloadN X0 hx 1 rfl (hb hby own_d1_0) rfl ?_
  refine own_ifY X0 hx 8 (hb hby own_d1_1) ((if0 _ _).trans (feq ((by decide) : ¬ ((2 : Int32) = (0 : Int32)))).2) (by decide) (by decide) ?_
  refine own_iloadN X0 hx 9 rfl (hb hby own_d1_8) rfl ?_
  refine own_iconst X0 hx 10 rfl (1 : Int32) (hb hby own_d1_9) (by decide) ?_
  refine own_icmpY X0 hx 17 (hb hby own_d1_10) (feq ((by decide) : ¬ ((2 : Int32) = (1 : Int32)))).2 (by decide) (by decide) ?_
  obtain ⟨T1, X1, e1, st1⟩ := getS2 X0 hx hZ hown (host := "") (Or.inl (hw _ (List.mem_of_getElem? (i := 20) rfl))) Via.refl e0 Sz (g := (mkF m 17 #[.val (.int (2 : Int32))] [])) rfl (hb hby own_d1_17)
  refine Goes.go st1 ?_
  show Goes p e below s _ _ _ T1 (mkF m 20 #[.val (.int (2 : Int32))] [(.ref za)])
  refine own_retR X1 hx hlk Bd.returns rfl rfl (hb hby own_d1_20) (by decide) (by decide) e1 ?_
  exact ⟨rfl, N0, rfl⟩
theorem own_d2_0 : decode method_3_code 0 = .ok (.iload_n 0, 1) := by decide +kernel
theorem own_d2_1 : decode method_3_code 1 = .ok (.ifCond .ne 7, 3) := by decide +kernel
theorem own_d2_4 : decode method_3_code 4 = .ok (.getstatic 19, 3) := by decide +kernel
theorem own_d2_7 : decode method_3_code 7 = .ok (.areturn, 1) := by decide +kernel
def Qg0 (Z : State) (za : Addr) (h0 : Heap) (n0 : Nat) (v : Option Value) (h : Heap) (L : List Loc) : Prop := v = some (.ref za) ∧ Fr n0 L ∧ h = h0
set_option maxRecDepth 65536 in
set_option maxHeartbeats 40000000 in
theorem rmg0 (l : Launch) (Z : State) (a0 : Array Value) (hw : ∀ d ∈ tables_1, d.before a0 Z = true) (ws : List Jvm.Cond) (za : Addr) (h0 : Heap) (n0 : Nat) (Z0 : n0 ≤ h0.size) (Sz : Sta Z h0 "com/example/cambium/cambium/search/Strategy" "AUTO" "Lcom/example/cambium/cambium/search/Strategy;" (.ref za)) :
    MetFree l (⟨"com/example/cambium/cambium/search/ShapeBuiltByPinLaw", "strategy", "(I)Lcom/example/cambium/cambium/search/Strategy;"⟩ : MethodName) (head1 (Jvm.Cond.code (⟨"com/example/cambium/cambium/search/ShapeBuiltByPinLaw", "strategy", "(I)Lcom/example/cambium/cambium/search/Strategy;"⟩ : MethodName) method_3_code 1 (some (.object "com/example/cambium/cambium/search/Strategy")) :: ws) ({ frames := 0, cells := 0, slots := 0, locals := 0 } : Room)) (fun a U => a = #[(.int (0 : Int32))] ∧ Z.Warmed39 U.vm ∧ U.heap = h0) (fun _ _ _ _ _ => True) (fun _ U o U' => ∃ v L, o = .returned v ∧ Qg0 Z za h0 n0 v U'.heap L ∧ FrameEnd U o U' L ({ frames := 0, cells := 0, slots := 0, locals := 0 } : Room).cells ({ frames := 0, cells := 0, slots := 0, locals := 0 } : Room).slots) := by
  refine MetFree.of_bodySF (plainFor_of_name own_pn_com_example_cambium_cambium_search_ShapeBuiltByPinLaw) hisR ?_
  intro p e s m args below meth c s₁ Bd hml0 hP hK
  obtain ⟨rfl, hZ, hh⟩ := hP
  have hx := Bd.exec
  have hby := Bd.bytes
  have hml : c.maxLocals = 1 := hml0
  have hlk := Bd.notSynchronized
  have hown : s.vm.findClass "com/example/cambium/cambium/search/ShapeBuiltByPinLaw" = some m.cls := findClass_of_methodNamed Bd.named
  have hnm := (name_of_methodNamed Bd.named Bd.method).1
  have X0 : Stand p l e ({ frames := 0, cells := 0, slots := 0, locals := 0 } : Room) s m #[(.int (0 : Int32))] below meth c s₁ [] 0 0 := Stand.of_body Bd
  have e0 : s₁.heap = h0 := by rw [← hh, Bd.state]; rfl
  have N0 := Fr.nil n0
  refine own_enter (Q := Qg0 Z za h0 n0) (Ls := #[.val (.int (0 : Int32))]) (by first | rfl | (simp [entryFrame, mkF, argsToLocals, Value.category]; done)) ?_
  refine own_iloadN X0 hx 1 rfl (hb hby own_d2_0) rfl ?_
  refine own_ifN X0 hx 4 (hb hby own_d2_1) ((if0 _ _).trans (teq ((by decide) : (0 : Int32) = (0 : Int32))).2) rfl ?_
  obtain ⟨T1, X1, e1, st1⟩ := getS2 X0 hx hZ hown (host := "") (Or.inl (hw _ (List.mem_of_getElem? (i := 11) rfl))) Via.refl e0 Sz (g := (mkF m 4 #[.val (.int (0 : Int32))] [])) rfl (hb hby own_d2_4)
  refine Goes.go st1 ?_
  show Goes p e below s _ _ _ T1 (mkF m 7 #[.val (.int (0 : Int32))] [(.ref za)])
  refine own_retR X1 hx hlk Bd.returns rfl rfl (hb hby own_d2_7) (by decide) (by decide) e1 ?_
  exact ⟨rfl, N0, rfl⟩
theorem own_d2_8 : decode method_3_code 8 = .ok (.iload_n 0, 1) := by decide +kernel
theorem own_d2_9 : decode method_3_code 9 = .ok (.iconst 1, 1) := by decide +kernel
theorem own_d2_10 : decode method_3_code 10 = .ok (.if_icmp .ne 7, 3) := by decide +kernel
theorem own_d2_13 : decode method_3_code 13 = .ok (.getstatic 25, 3) := by decide +kernel
theorem own_d2_16 : decode method_3_code 16 = .ok (.areturn, 1) := by decide +kernel
def Qg1 (Z : State) (za : Addr) (h0 : Heap) (n0 : Nat) (v : Option Value) (h : Heap) (L : List Loc) : Prop := v = some (.ref za) ∧ Fr n0 L ∧ h = h0
set_option maxRecDepth 65536 in
set_option maxHeartbeats 40000000 in
theorem rmg1 (l : Launch) (Z : State) (a0 : Array Value) (hw : ∀ d ∈ tables_1, d.before a0 Z = true) (ws : List Jvm.Cond) (za : Addr) (h0 : Heap) (n0 : Nat) (Z0 : n0 ≤ h0.size) (Sz : Sta Z h0 "com/example/cambium/cambium/search/Strategy" "LOOKUP" "Lcom/example/cambium/cambium/search/Strategy;" (.ref za)) :
    MetFree l (⟨"com/example/cambium/cambium/search/ShapeBuiltByPinLaw", "strategy", "(I)Lcom/example/cambium/cambium/search/Strategy;"⟩ : MethodName) (head1 (Jvm.Cond.code (⟨"com/example/cambium/cambium/search/ShapeBuiltByPinLaw", "strategy", "(I)Lcom/example/cambium/cambium/search/Strategy;"⟩ : MethodName) method_3_code 1 (some (.object "com/example/cambium/cambium/search/Strategy")) :: ws) ({ frames := 0, cells := 0, slots := 0, locals := 0 } : Room)) (fun a U => a = #[(.int (1 : Int32))] ∧ Z.Warmed39 U.vm ∧ U.heap = h0) (fun _ _ _ _ _ => True) (fun _ U o U' => ∃ v L, o = .returned v ∧ Qg1 Z za h0 n0 v U'.heap L ∧ FrameEnd U o U' L ({ frames := 0, cells := 0, slots := 0, locals := 0 } : Room).cells ({ frames := 0, cells := 0, slots := 0, locals := 0 } : Room).slots) := by
  refine MetFree.of_bodySF (plainFor_of_name own_pn_com_example_cambium_cambium_search_ShapeBuiltByPinLaw) hisR ?_
  intro p e s m args below meth c s₁ Bd hml0 hP hK
  obtain ⟨rfl, hZ, hh⟩ := hP
  have hx := Bd.exec
  have hby := Bd.bytes
  have hml : c.maxLocals = 1 := hml0
  have hlk := Bd.notSynchronized
  have hown : s.vm.findClass "com/example/cambium/cambium/search/ShapeBuiltByPinLaw" = some m.cls := findClass_of_methodNamed Bd.named
  have hnm := (name_of_methodNamed Bd.named Bd.method).1
  have X0 : Stand p l e ({ frames := 0, cells := 0, slots := 0, locals := 0 } : Room) s m #[(.int (1 : Int32))] below meth c s₁ [] 0 0 := Stand.of_body Bd
  have e0 : s₁.heap = h0 := by rw [← hh, Bd.state]; rfl
  have N0 := Fr.nil n0
  refine own_enter (Q := Qg1 Z za h0 n0) (Ls := #[.val (.int (1 : Int32))]) (by first | rfl | (simp [entryFrame, mkF, argsToLocals, Value.category]; done)) ?_
  refine own_iloadN X0 hx 1 rfl (hb hby own_d2_0) rfl ?_
  refine own_ifY X0 hx 8 (hb hby own_d2_1) ((if0 _ _).trans (feq ((by decide) : ¬ ((1 : Int32) = (0 : Int32)))).2) (by decide) (by decide) ?_
  refine own_iloadN X0 hx 9 rfl (hb hby own_d2_8) rfl ?_
  refine own_iconst X0 hx 10 rfl (1 : Int32) (hb hby own_d2_9) (by decide) ?_
  refine own_icmpN X0 hx 13 (hb hby own_d2_10) (teq ((by decide) : (1 : Int32) = (1 : Int32))).2 rfl ?_
  obtain ⟨T1, X1, e1, st1⟩ := getS2 X0 hx hZ hown (host := "") (Or.inl (hw _ (List.mem_of_getElem? (i := 22) rfl))) Via.refl e0 Sz (g := (mkF m 13 #[.val (.int (1 : Int32))] [])) rfl (hb hby own_d2_13)
  refine Goes.go st1 ?_
  show Goes p e below s _ _ _ T1 (mkF m 16 #[.val (.int (1 : Int32))] [(.ref za)])
  refine own_retR X1 hx hlk Bd.returns rfl rfl (hb hby own_d2_16) (by decide) (by decide) e1 ?_
  exact ⟨rfl, N0, rfl⟩
theorem own_d2_17 : decode method_3_code 17 = .ok (.getstatic 28, 3) := by decide +kernel
theorem own_d2_20 : decode method_3_code 20 = .ok (.areturn, 1) := by decide +kernel
def Qg2 (Z : State) (za : Addr) (h0 : Heap) (n0 : Nat) (v : Option Value) (h : Heap) (L : List Loc) : Prop := v = some (.ref za) ∧ Fr n0 L ∧ h = h0
set_option maxRecDepth 65536 in
set_option maxHeartbeats 40000000 in
theorem rmg2 (l : Launch) (Z : State) (a0 : Array Value) (hw : ∀ d ∈ tables_1, d.before a0 Z = true) (ws : List Jvm.Cond) (za : Addr) (h0 : Heap) (n0 : Nat) (Z0 : n0 ≤ h0.size) (Sz : Sta Z h0 "com/example/cambium/cambium/search/Strategy" "SCAN" "Lcom/example/cambium/cambium/search/Strategy;" (.ref za)) :
    MetFree l (⟨"com/example/cambium/cambium/search/ShapeBuiltByPinLaw", "strategy", "(I)Lcom/example/cambium/cambium/search/Strategy;"⟩ : MethodName) (head1 (Jvm.Cond.code (⟨"com/example/cambium/cambium/search/ShapeBuiltByPinLaw", "strategy", "(I)Lcom/example/cambium/cambium/search/Strategy;"⟩ : MethodName) method_3_code 1 (some (.object "com/example/cambium/cambium/search/Strategy")) :: ws) ({ frames := 0, cells := 0, slots := 0, locals := 0 } : Room)) (fun a U => a = #[(.int (2 : Int32))] ∧ Z.Warmed39 U.vm ∧ U.heap = h0) (fun _ _ _ _ _ => True) (fun _ U o U' => ∃ v L, o = .returned v ∧ Qg2 Z za h0 n0 v U'.heap L ∧ FrameEnd U o U' L ({ frames := 0, cells := 0, slots := 0, locals := 0 } : Room).cells ({ frames := 0, cells := 0, slots := 0, locals := 0 } : Room).slots) := by
  refine MetFree.of_bodySF (plainFor_of_name own_pn_com_example_cambium_cambium_search_ShapeBuiltByPinLaw) hisR ?_
  intro p e s m args below meth c s₁ Bd hml0 hP hK
  obtain ⟨rfl, hZ, hh⟩ := hP
  have hx := Bd.exec
  have hby := Bd.bytes
  have hml : c.maxLocals = 1 := hml0
  have hlk := Bd.notSynchronized
  have hown : s.vm.findClass "com/example/cambium/cambium/search/ShapeBuiltByPinLaw" = some m.cls := findClass_of_methodNamed Bd.named
  have hnm := (name_of_methodNamed Bd.named Bd.method).1
  have X0 : Stand p l e ({ frames := 0, cells := 0, slots := 0, locals := 0 } : Room) s m #[(.int (2 : Int32))] below meth c s₁ [] 0 0 := Stand.of_body Bd
  have e0 : s₁.heap = h0 := by rw [← hh, Bd.state]; rfl
  have N0 := Fr.nil n0
  refine own_enter (Q := Qg2 Z za h0 n0) (Ls := #[.val (.int (2 : Int32))]) (by first | rfl | (simp [entryFrame, mkF, argsToLocals, Value.category]; done)) ?_
  refine own_iloadN X0 hx 1 rfl (hb hby own_d2_0) rfl ?_
  refine own_ifY X0 hx 8 (hb hby own_d2_1) ((if0 _ _).trans (feq ((by decide) : ¬ ((2 : Int32) = (0 : Int32)))).2) (by decide) (by decide) ?_
  refine own_iloadN X0 hx 9 rfl (hb hby own_d2_8) rfl ?_
  refine own_iconst X0 hx 10 rfl (1 : Int32) (hb hby own_d2_9) (by decide) ?_
  refine own_icmpY X0 hx 17 (hb hby own_d2_10) (feq ((by decide) : ¬ ((2 : Int32) = (1 : Int32)))).2 (by decide) (by decide) ?_
  obtain ⟨T1, X1, e1, st1⟩ := getS2 X0 hx hZ hown (host := "") (Or.inl (hw _ (List.mem_of_getElem? (i := 25) rfl))) Via.refl e0 Sz (g := (mkF m 17 #[.val (.int (2 : Int32))] [])) rfl (hb hby own_d2_17)
  refine Goes.go st1 ?_
  show Goes p e below s _ _ _ T1 (mkF m 20 #[.val (.int (2 : Int32))] [(.ref za)])
  refine own_retR X1 hx hlk Bd.returns rfl rfl (hb hby own_d2_20) (by decide) (by decide) e1 ?_
  exact ⟨rfl, N0, rfl⟩
theorem own_d3_0 : decode prog_48_method_7_code 0 = .ok (.aload_n 0, 1) := by decide +kernel
theorem own_d3_1 : decode prog_48_method_7_code 1 = .ok (.getstatic 3, 3) := by decide +kernel
theorem own_d3_4 : decode prog_48_method_7_code 4 = .ok (.if_acmp .eq 10, 3) := by decide +kernel
theorem own_d3_14 : decode prog_48_method_7_code 14 = .ok (.iconst 1, 1) := by decide +kernel
theorem own_d3_15 : decode prog_48_method_7_code 15 = .ok (.goto 4, 3) := by decide +kernel
theorem own_d3_19 : decode prog_48_method_7_code 19 = .ok (.ireturn, 1) := by decide +kernel
theorem own_pn_com_example_cambium_cambium_search_Shape : plainName "com/example/cambium/cambium/search/Shape" = true := by first | (simp [plainName, overriddenIn]; done) | decide +kernel
def QbA (Z : State) (ro : Addr) (sg : Addr) (h0 : Heap) (n0 : Nat) (v : Option Value) (h : Heap) (L : List Loc) : Prop := v = some (.int (1 : Int32)) ∧ Fr n0 L ∧ h = h0
set_option maxRecDepth 65536 in
set_option maxHeartbeats 40000000 in
theorem rmbA (l : Launch) (Z : State) (a0 : Array Value) (hw : ∀ d ∈ tables_1, d.before a0 Z = true) (ws : List Jvm.Cond) (ro : Addr) (sg : Addr) (h0 : Heap) (n0 : Nat) (Z0 : n0 ≤ h0.size) (Sr : Sta Z h0 "com/example/cambium/cambium/search/Shape" "ROOT" "Lcom/example/cambium/cambium/search/Shape;" (.ref ro)) :
    MetFree l (⟨"com/example/cambium/cambium/search/Shape", "builtBy", "(Lcom/example/cambium/cambium/search/Strategy;)Z"⟩ : MethodName) (head1 (Jvm.Cond.code (⟨"com/example/cambium/cambium/search/Shape", "builtBy", "(Lcom/example/cambium/cambium/search/Strategy;)Z"⟩ : MethodName) prog_48_method_7_code 2 (some .boolean) :: ws) ({ frames := 0, cells := 0, slots := 0, locals := 0 } : Room)) (fun a U => a = #[(.ref ro), (.ref sg)] ∧ Z.Warmed39 U.vm ∧ U.heap = h0) (fun _ _ _ _ _ => True) (fun _ U o U' => ∃ v L, o = .returned v ∧ QbA Z ro sg h0 n0 v U'.heap L ∧ FrameEnd U o U' L ({ frames := 0, cells := 0, slots := 0, locals := 0 } : Room).cells ({ frames := 0, cells := 0, slots := 0, locals := 0 } : Room).slots) := by
  refine MetFree.of_bodySF (plainFor_of_name own_pn_com_example_cambium_cambium_search_Shape) hisR ?_
  intro p e s m args below meth c s₁ Bd hml0 hP hK
  obtain ⟨rfl, hZ, hh⟩ := hP
  have hx := Bd.exec
  have hby := Bd.bytes
  have hml : c.maxLocals = 2 := hml0
  have hlk := Bd.notSynchronized
  have hown : s.vm.findClass "com/example/cambium/cambium/search/Shape" = some m.cls := findClass_of_methodNamed Bd.named
  have hnm := (name_of_methodNamed Bd.named Bd.method).1
  have X0 : Stand p l e ({ frames := 0, cells := 0, slots := 0, locals := 0 } : Room) s m #[(.ref ro), (.ref sg)] below meth c s₁ [] 0 0 := Stand.of_body Bd
  have e0 : s₁.heap = h0 := by rw [← hh, Bd.state]; rfl
  have N0 := Fr.nil n0
  refine own_enter (Q := QbA Z ro sg h0 n0) (Ls := #[.val (.ref ro), .val (.ref sg)]) (by first | rfl | (simp [entryFrame, mkF, argsToLocals, Value.category]; done)) ?_
  refine own_aloadN X0 hx 1 rfl (hb hby own_d3_0) rfl rfl ?_
  obtain ⟨T1, X1, e1, st1⟩ := getS2 X0 hx hZ hown (host := "") (Or.inl (hw _ (List.mem_of_getElem? (i := 19) rfl))) Via.refl e0 Sr (g := (mkF m 1 #[.val (.ref ro), .val (.ref sg)] [(.ref ro)])) rfl (hb hby own_d3_1)
  refine Goes.go st1 ?_
  show Goes p e below s _ _ _ T1 (mkF m 4 #[.val (.ref ro), .val (.ref sg)] [(.ref ro), (.ref ro)])
  refine own_acmp X1 hx 14 (same := true) rfl rfl (hb hby own_d3_4) (decide_eq_true rfl) (by decide) (by decide) ?_
  refine own_iconst X1 hx 15 rfl (1 : Int32) (hb hby own_d3_14) (by decide) ?_
  refine own_goto X1 hx 19 (hb hby own_d3_15) (by decide) (by decide) ?_
  refine own_retZ X1 hx hlk Bd.returns (by decide) (hb hby own_d3_19) (by decide) (by decide) e1 ?_
  exact ⟨rfl, N0, rfl⟩
theorem own_d3_7 : decode prog_48_method_7_code 7 = .ok (.aload_n 1, 1) := by decide +kernel
theorem own_d3_8 : decode prog_48_method_7_code 8 = .ok (.getstatic 68, 3) := by decide +kernel
theorem own_d3_11 : decode prog_48_method_7_code 11 = .ok (.if_acmp .eq 7, 3) := by decide +kernel
theorem own_d3_18 : decode prog_48_method_7_code 18 = .ok (.iconst 0, 1) := by decide +kernel
def QbB (Z : State) (th : Addr) (lo : Addr) (ro : Addr) (h0 : Heap) (n0 : Nat) (v : Option Value) (h : Heap) (L : List Loc) : Prop := v = some (.int (0 : Int32)) ∧ Fr n0 L ∧ h = h0
set_option maxRecDepth 65536 in
set_option maxHeartbeats 40000000 in
theorem rmbB (l : Launch) (Z : State) (a0 : Array Value) (hw : ∀ d ∈ tables_1, d.before a0 Z = true) (ws : List Jvm.Cond) (th : Addr) (lo : Addr) (ro : Addr) (h0 : Heap) (n0 : Nat) (Z0 : n0 ≤ h0.size) (Sr : Sta Z h0 "com/example/cambium/cambium/search/Shape" "ROOT" "Lcom/example/cambium/cambium/search/Shape;" (.ref ro)) (Sl : Sta Z h0 "com/example/cambium/cambium/search/Strategy" "LOOKUP" "Lcom/example/cambium/cambium/search/Strategy;" (.ref lo)) (n1 : th ≠ ro) :
    MetFree l (⟨"com/example/cambium/cambium/search/Shape", "builtBy", "(Lcom/example/cambium/cambium/search/Strategy;)Z"⟩ : MethodName) (head1 (Jvm.Cond.code (⟨"com/example/cambium/cambium/search/Shape", "builtBy", "(Lcom/example/cambium/cambium/search/Strategy;)Z"⟩ : MethodName) prog_48_method_7_code 2 (some .boolean) :: ws) ({ frames := 0, cells := 0, slots := 0, locals := 0 } : Room)) (fun a U => a = #[(.ref th), (.ref lo)] ∧ Z.Warmed39 U.vm ∧ U.heap = h0) (fun _ _ _ _ _ => True) (fun _ U o U' => ∃ v L, o = .returned v ∧ QbB Z th lo ro h0 n0 v U'.heap L ∧ FrameEnd U o U' L ({ frames := 0, cells := 0, slots := 0, locals := 0 } : Room).cells ({ frames := 0, cells := 0, slots := 0, locals := 0 } : Room).slots) := by
  refine MetFree.of_bodySF (plainFor_of_name own_pn_com_example_cambium_cambium_search_Shape) hisR ?_
  intro p e s m args below meth c s₁ Bd hml0 hP hK
  obtain ⟨rfl, hZ, hh⟩ := hP
  have hx := Bd.exec
  have hby := Bd.bytes
  have hml : c.maxLocals = 2 := hml0
  have hlk := Bd.notSynchronized
  have hown : s.vm.findClass "com/example/cambium/cambium/search/Shape" = some m.cls := findClass_of_methodNamed Bd.named
  have hnm := (name_of_methodNamed Bd.named Bd.method).1
  have X0 : Stand p l e ({ frames := 0, cells := 0, slots := 0, locals := 0 } : Room) s m #[(.ref th), (.ref lo)] below meth c s₁ [] 0 0 := Stand.of_body Bd
  have e0 : s₁.heap = h0 := by rw [← hh, Bd.state]; rfl
  have N0 := Fr.nil n0
  refine own_enter (Q := QbB Z th lo ro h0 n0) (Ls := #[.val (.ref th), .val (.ref lo)]) (by first | rfl | (simp [entryFrame, mkF, argsToLocals, Value.category]; done)) ?_
  refine own_aloadN X0 hx 1 rfl (hb hby own_d3_0) rfl rfl ?_
  obtain ⟨T1, X1, e1, st1⟩ := getS2 X0 hx hZ hown (host := "") (Or.inl (hw _ (List.mem_of_getElem? (i := 19) rfl))) Via.refl e0 Sr (g := (mkF m 1 #[.val (.ref th), .val (.ref lo)] [(.ref th)])) rfl (hb hby own_d3_1)
  refine Goes.go st1 ?_
  show Goes p e below s _ _ _ T1 (mkF m 4 #[.val (.ref th), .val (.ref lo)] [(.ref ro), (.ref th)])
  refine own_acmp X1 hx 7 (same := false) rfl rfl (hb hby own_d3_4) (decide_eq_false fun q => n1 (Value.ref.inj q)) (by decide) (by decide) ?_
  refine own_aloadN X1 hx 8 rfl (hb hby own_d3_7) rfl rfl ?_
  obtain ⟨T2, X2, e2, st2⟩ := getS2 X1 hx hZ hown (host := "") (Or.inl (hw _ (List.mem_of_getElem? (i := 24) rfl))) Via.refl e1 Sl (g := (mkF m 8 #[.val (.ref th), .val (.ref lo)] [(.ref lo)])) rfl (hb hby own_d3_8)
  refine Goes.go st2 ?_
  show Goes p e below s _ _ _ T2 (mkF m 11 #[.val (.ref th), .val (.ref lo)] [(.ref lo), (.ref lo)])
  refine own_acmp X2 hx 18 (same := true) rfl rfl (hb hby own_d3_11) (decide_eq_true rfl) (by decide) (by decide) ?_
  refine own_iconst X2 hx 19 rfl (0 : Int32) (hb hby own_d3_18) (by decide) ?_
  refine own_retZ X2 hx hlk Bd.returns (by decide) (hb hby own_d3_19) (by decide) (by decide) e2 ?_
  exact ⟨rfl, N0, rfl⟩
def QbC (Z : State) (th : Addr) (sg : Addr) (ro : Addr) (lo : Addr) (h0 : Heap) (n0 : Nat) (v : Option Value) (h : Heap) (L : List Loc) : Prop := v = some (.int (1 : Int32)) ∧ Fr n0 L ∧ h = h0
set_option maxRecDepth 65536 in
set_option maxHeartbeats 40000000 in
theorem rmbC (l : Launch) (Z : State) (a0 : Array Value) (hw : ∀ d ∈ tables_1, d.before a0 Z = true) (ws : List Jvm.Cond) (th : Addr) (sg : Addr) (ro : Addr) (lo : Addr) (h0 : Heap) (n0 : Nat) (Z0 : n0 ≤ h0.size) (Sr : Sta Z h0 "com/example/cambium/cambium/search/Shape" "ROOT" "Lcom/example/cambium/cambium/search/Shape;" (.ref ro)) (Sl : Sta Z h0 "com/example/cambium/cambium/search/Strategy" "LOOKUP" "Lcom/example/cambium/cambium/search/Strategy;" (.ref lo)) (n1 : th ≠ ro) (n2 : sg ≠ lo) :
    MetFree l (⟨"com/example/cambium/cambium/search/Shape", "builtBy", "(Lcom/example/cambium/cambium/search/Strategy;)Z"⟩ : MethodName) (head1 (Jvm.Cond.code (⟨"com/example/cambium/cambium/search/Shape", "builtBy", "(Lcom/example/cambium/cambium/search/Strategy;)Z"⟩ : MethodName) prog_48_method_7_code 2 (some .boolean) :: ws) ({ frames := 0, cells := 0, slots := 0, locals := 0 } : Room)) (fun a U => a = #[(.ref th), (.ref sg)] ∧ Z.Warmed39 U.vm ∧ U.heap = h0) (fun _ _ _ _ _ => True) (fun _ U o U' => ∃ v L, o = .returned v ∧ QbC Z th sg ro lo h0 n0 v U'.heap L ∧ FrameEnd U o U' L ({ frames := 0, cells := 0, slots := 0, locals := 0 } : Room).cells ({ frames := 0, cells := 0, slots := 0, locals := 0 } : Room).slots) := by
  refine MetFree.of_bodySF (plainFor_of_name own_pn_com_example_cambium_cambium_search_Shape) hisR ?_
  intro p e s m args below meth c s₁ Bd hml0 hP hK
  obtain ⟨rfl, hZ, hh⟩ := hP
  have hx := Bd.exec
  have hby := Bd.bytes
  have hml : c.maxLocals = 2 := hml0
  have hlk := Bd.notSynchronized
  have hown : s.vm.findClass "com/example/cambium/cambium/search/Shape" = some m.cls := findClass_of_methodNamed Bd.named
  have hnm := (name_of_methodNamed Bd.named Bd.method).1
  have X0 : Stand p l e ({ frames := 0, cells := 0, slots := 0, locals := 0 } : Room) s m #[(.ref th), (.ref sg)] below meth c s₁ [] 0 0 := Stand.of_body Bd
  have e0 : s₁.heap = h0 := by rw [← hh, Bd.state]; rfl
  have N0 := Fr.nil n0
  refine own_enter (Q := QbC Z th sg ro lo h0 n0) (Ls := #[.val (.ref th), .val (.ref sg)]) (by first | rfl | (simp [entryFrame, mkF, argsToLocals, Value.category]; done)) ?_
  refine own_aloadN X0 hx 1 rfl (hb hby own_d3_0) rfl rfl ?_
  obtain ⟨T1, X1, e1, st1⟩ := getS2 X0 hx hZ hown (host := "") (Or.inl (hw _ (List.mem_of_getElem? (i := 19) rfl))) Via.refl e0 Sr (g := (mkF m 1 #[.val (.ref th), .val (.ref sg)] [(.ref th)])) rfl (hb hby own_d3_1)
  refine Goes.go st1 ?_
  show Goes p e below s _ _ _ T1 (mkF m 4 #[.val (.ref th), .val (.ref sg)] [(.ref ro), (.ref th)])
  refine own_acmp X1 hx 7 (same := false) rfl rfl (hb hby own_d3_4) (decide_eq_false fun q => n1 (Value.ref.inj q)) (by decide) (by decide) ?_
  refine own_aloadN X1 hx 8 rfl (hb hby own_d3_7) rfl rfl ?_
  obtain ⟨T2, X2, e2, st2⟩ := getS2 X1 hx hZ hown (host := "") (Or.inl (hw _ (List.mem_of_getElem? (i := 24) rfl))) Via.refl e1 Sl (g := (mkF m 8 #[.val (.ref th), .val (.ref sg)] [(.ref sg)])) rfl (hb hby own_d3_8)
  refine Goes.go st2 ?_
  show Goes p e below s _ _ _ T2 (mkF m 11 #[.val (.ref th), .val (.ref sg)] [(.ref lo), (.ref sg)])
  refine own_acmp X2 hx 14 (same := false) rfl rfl (hb hby own_d3_11) (decide_eq_false fun q => n2 (Value.ref.inj q)) (by decide) (by decide) ?_
  refine own_iconst X2 hx 15 rfl (1 : Int32) (hb hby own_d3_14) (by decide) ?_
  refine own_goto X2 hx 19 (hb hby own_d3_15) (by decide) (by decide) ?_
  refine own_retZ X2 hx hlk Bd.returns (by decide) (hb hby own_d3_19) (by decide) (by decide) e2 ?_
  exact ⟨rfl, N0, rfl⟩
theorem own_pd0 : parseMethodDescriptor "(I)Lcom/example/cambium/cambium/search/Shape;" = some ⟨[.int], some (.object "com/example/cambium/cambium/search/Shape")⟩ := by decide +kernel
theorem own_pd1 : parseMethodDescriptor "(I)Lcom/example/cambium/cambium/search/Strategy;" = some ⟨[.int], some (.object "com/example/cambium/cambium/search/Strategy")⟩ := by decide +kernel
theorem own_pd2 : parseMethodDescriptor "(Lcom/example/cambium/cambium/search/Strategy;)Z" = some ⟨[(.object "com/example/cambium/cambium/search/Strategy")], some .boolean⟩ := by decide +kernel
def Q0 (Z : State) (x0 : Int32) (x1 : Int32) (z_ROOT : Addr) (z_AUTO : Addr) (z_TIGHT : Addr) (z_LOOKUP : Addr) (z_SCAN : Addr) (z_MATCHED : Addr) (h0 : Heap) (n0 : Nat) (v : Option Value) (h : Heap) (L : List Loc) : Prop := v = some (.int 1) ∧ Fr n0 L
set_option maxRecDepth 65536 in
set_option maxHeartbeats 40000000 in
theorem rm0 (l : Launch) (Z : State) (a0 : Array Value) (hw : ∀ d ∈ tables_1, d.before a0 Z = true) (ws : List Jvm.Cond) (x0 : Int32) (x1 : Int32) (z_ROOT : Addr) (z_AUTO : Addr) (z_TIGHT : Addr) (z_LOOKUP : Addr) (z_SCAN : Addr) (z_MATCHED : Addr) (h0 : Heap) (n0 : Nat) (Z0 : n0 ≤ h0.size) (S_z_ROOT : Sta Z h0 "com/example/cambium/cambium/search/Shape" "ROOT" "Lcom/example/cambium/cambium/search/Shape;" (.ref z_ROOT)) (E_z_ROOT : Exa Z h0 z_ROOT "com/example/cambium/cambium/search/Shape") (S_z_AUTO : Sta Z h0 "com/example/cambium/cambium/search/Strategy" "AUTO" "Lcom/example/cambium/cambium/search/Strategy;" (.ref z_AUTO)) (E_z_AUTO : Exa Z h0 z_AUTO "com/example/cambium/cambium/search/Strategy") (S_z_TIGHT : Sta Z h0 "com/example/cambium/cambium/search/Shape" "TIGHT" "Lcom/example/cambium/cambium/search/Shape;" (.ref z_TIGHT)) (E_z_TIGHT : Exa Z h0 z_TIGHT "com/example/cambium/cambium/search/Shape") (S_z_LOOKUP : Sta Z h0 "com/example/cambium/cambium/search/Strategy" "LOOKUP" "Lcom/example/cambium/cambium/search/Strategy;" (.ref z_LOOKUP)) (E_z_LOOKUP : Exa Z h0 z_LOOKUP "com/example/cambium/cambium/search/Strategy") (S_z_SCAN : Sta Z h0 "com/example/cambium/cambium/search/Strategy" "SCAN" "Lcom/example/cambium/cambium/search/Strategy;" (.ref z_SCAN)) (E_z_SCAN : Exa Z h0 z_SCAN "com/example/cambium/cambium/search/Strategy") (S_z_MATCHED : Sta Z h0 "com/example/cambium/cambium/search/Shape" "MATCHED" "Lcom/example/cambium/cambium/search/Shape;" (.ref z_MATCHED)) (E_z_MATCHED : Exa Z h0 z_MATCHED "com/example/cambium/cambium/search/Shape") (O_ordinal_z_TIGHT : Fld Z h0 z_TIGHT "java/lang/Enum" "ordinal" "I" (.int (2 : Int32))) (O_ordinal_z_ROOT : Fld Z h0 z_ROOT "java/lang/Enum" "ordinal" "I" (.int (0 : Int32))) (O_ordinal_z_SCAN : Fld Z h0 z_SCAN "java/lang/Enum" "ordinal" "I" (.int (2 : Int32))) (O_ordinal_z_LOOKUP : Fld Z h0 z_LOOKUP "java/lang/Enum" "ordinal" "I" (.int (1 : Int32))) (O_ordinal_z_MATCHED : Fld Z h0 z_MATCHED "java/lang/Enum" "ordinal" "I" (.int (1 : Int32))) (O_ordinal_z_AUTO : Fld Z h0 z_AUTO "java/lang/Enum" "ordinal" "I" (.int (0 : Int32))) (ne_z_TIGHT_z_ROOT : z_TIGHT ≠ z_ROOT) (ne_z_TIGHT_z_MATCHED : z_TIGHT ≠ z_MATCHED) (ne_z_ROOT_z_MATCHED : z_ROOT ≠ z_MATCHED) (ne_z_SCAN_z_LOOKUP : z_SCAN ≠ z_LOOKUP) (ne_z_SCAN_z_AUTO : z_SCAN ≠ z_AUTO) (ne_z_LOOKUP_z_AUTO : z_LOOKUP ≠ z_AUTO) :
    MetFree l x (head1 (Jvm.Cond.code x code maxLocals ret :: ws) room_1) (fun a U => a = #[(.int x0), (.int x1)] ∧ Z.Warmed39 U.vm ∧ U.heap = h0) (fun _ _ _ _ _ => True) (fun _ U o U' => ∃ v L, o = .returned v ∧ Q0 Z x0 x1 z_ROOT z_AUTO z_TIGHT z_LOOKUP z_SCAN z_MATCHED h0 n0 v U'.heap L ∧ FrameEnd U o U' L 0 0) := by
  refine MetFree.of_bodySF (plainFor_of_name own_pn_com_example_cambium_cambium_search_ShapeBuiltByPinLaw) hisR ?_
  intro p e s m args below meth c s₁ Bd hml0 hP hK
  obtain ⟨rfl, hZ, hh⟩ := hP
  have hx := Bd.exec
  have hby := Bd.bytes
  have hml : c.maxLocals = 5 := hml0
  have hlk := Bd.notSynchronized
  have hown : s.vm.findClass "com/example/cambium/cambium/search/ShapeBuiltByPinLaw" = some m.cls := findClass_of_methodNamed Bd.named
  have hnm := (name_of_methodNamed Bd.named Bd.method).1
  have X0 : Stand p l e room_1 s m #[(.int x0), (.int x1)] below meth c s₁ [] 0 0 := Stand.of_body Bd
  have e0 : s₁.heap = h0 := by rw [← hh, Bd.state]; rfl
  have N0 := Fr.nil n0
  refine own_enter (Q := Q0 Z x0 x1 z_ROOT z_AUTO z_TIGHT z_LOOKUP z_SCAN z_MATCHED h0 n0) (Ls := #[.val (.int x0), .val (.int x1), .unset, .unset, .unset]) (by first | rfl | (simp [entryFrame, mkF, argsToLocals, Value.category, maxLocals]; done)) ?_
  refine own_iloadN X0 hx 1 rfl (hb hby at_0) rfl ?_
  refine Goes.go (X0.ldcInt hx hown (mvT hZ (hw _ (List.mem_of_getElem? (i := 0) rfl))) (g := (mkF m 1 #[.val (.int x0), .val (.int x1), .unset, .unset, .unset] [(.int x0)])) rfl (hb hby at_1)) ?_
  show Goes p e below s _ _ _ s₁ (mkF m 3 #[.val (.int x0), .val (.int x1), .unset, .unset, .unset] [(.int (2147483647 : Int32)), (.int x0)])
  refine own_iand X0 hx 4 rfl (hb hby at_3) rfl ?_
  refine own_iconst X0 hx 5 rfl (3 : Int32) (hb hby at_4) (by decide) ?_
  obtain ⟨si, h_si⟩ : ∃ z, z = ((x0 &&& (2147483647 : Int32)) % (3 : Int32)) := ⟨_, rfl⟩
  refine own_irem X0 hx 6 rfl (hb hby at_5) (by decide) h_si.symm ?_
  refine own_istoreN X0 hx 7 rfl #[.val (.int x0), .val (.int x1), .val (.int si), .unset, .unset] (hb hby at_6) rfl ?_
  refine own_iloadN X0 hx 8 rfl (hb hby at_7) rfl ?_
  refine Goes.go (X0.ldcInt hx hown (mvT hZ (hw _ (List.mem_of_getElem? (i := 0) rfl))) (g := (mkF m 8 #[.val (.int x0), .val (.int x1), .val (.int si), .unset, .unset] [(.int x1)])) rfl (hb hby at_8)) ?_
  show Goes p e below s _ _ _ s₁ (mkF m 10 #[.val (.int x0), .val (.int x1), .val (.int si), .unset, .unset] [(.int (2147483647 : Int32)), (.int x1)])
  refine own_iand X0 hx 11 rfl (hb hby at_10) rfl ?_
  refine own_iconst X0 hx 12 rfl (3 : Int32) (hb hby at_11) (by decide) ?_
  obtain ⟨ti, h_ti⟩ : ∃ z, z = ((x1 &&& (2147483647 : Int32)) % (3 : Int32)) := ⟨_, rfl⟩
  refine own_irem X0 hx 13 rfl (hb hby at_12) (by decide) h_ti.symm ?_
  refine own_istoreN X0 hx 14 rfl #[.val (.int x0), .val (.int x1), .val (.int si), .val (.int ti), .unset] (hb hby at_13) rfl ?_
  have hsi := own_mod3 _ _ h_si
  have hti := own_mod3 _ _ h_ti
  rcases hsi with rfl | rfl | rfl
  · refine own_iconst X0 hx 15 rfl (1 : Int32) (hb hby at_14) (by decide) ?_
    rcases hti with rfl | rfl | rfl
    · refine own_istore X0 hx 17 rfl #[.val (.int x0), .val (.int x1), .val (.int (0 : Int32)), .val (.int (0 : Int32)), .val (.int (1 : Int32))] (hb hby at_15) rfl ?_
      refine own_iloadN X0 hx 18 rfl (hb hby at_17) rfl ?_
      refine own_iconst X0 hx 19 rfl (1 : Int32) (hb hby at_18) (by decide) ?_
      refine own_icmpY X0 hx 30 (hb hby at_19) (feq ((by decide) : ¬ ((0 : Int32) = (1 : Int32)))).2 (by decide) (by decide) ?_
      refine own_iloadN X0 hx 31 rfl (hb hby at_30) rfl ?_
      refine own_iconst X0 hx 32 rfl (2 : Int32) (hb hby at_31) (by decide) ?_
      refine own_icmpY X0 hx 43 (hb hby at_32) (feq ((by decide) : ¬ ((0 : Int32) = (2 : Int32)))).2 (by decide) (by decide) ?_
      refine own_iloadN X0 hx 44 rfl (hb hby at_43) rfl ?_
      obtain ⟨_, _, ⟨T1, L1, k1, n1⟩, -, X1, ⟨Lc1, hQ1, l1, y1, z1⟩, st1⟩ := Jvm.LawKit.callS X0 hx (y := (⟨"com/example/cambium/cambium/search/ShapeBuiltByPinLaw", "shape", "(I)Lcom/example/cambium/cambium/search/Shape;"⟩ : MethodName)) hown (mvT hZ (hw _ (List.mem_of_getElem? (i := 1) rfl))) (mvT hZ (hw _ (List.mem_of_getElem? (i := 2) rfl))) (mvT hZ (hw _ (List.mem_of_getElem? (i := 3) rfl))) (mvT hZ (hw _ (List.mem_of_getElem? (i := 4) rfl))) (by decide) (backOf (W := 0) (rms0 l Z a0 hw [] z_ROOT h0 n0 Z0 S_z_ROOT) hZ (hw _ (List.mem_of_getElem? (i := 4) rfl)) (hw _ (List.mem_of_getElem? (i := 3) rfl)) (by decide) (by decide)) (g := (mkF m 44 #[.val (.int x0), .val (.int x1), .val (.int (0 : Int32)), .val (.int (0 : Int32)), .val (.int (1 : Int32))] [(.int (0 : Int32))])) rfl (by rw [hml]; rfl) (argsL := [(.int (0 : Int32))]) (rest := []) (lenOf own_pd0 rfl) rfl (by show 2 * 0 + _ ≤ _; exact Nat.le_of_eq rfl) (hb hby at_44) (fun _ _ => ⟨rfl, e0, (by decide : 0 + 0 ≤ _), (by decide : 0 + 0 ≤ _)⟩)
      dsimp only [Pt.U, Pt.locs, Pt.cells, Pt.slots] at X1 l1 y1 z1 st1 hQ1
      subst l1 y1 z1
      obtain ⟨rfl, N1q, eh1⟩ := hQ1
      have N1 := Fr.app N0 N1q
      refine Goes.go st1 ?_
      show Goes p e below s _ _ _ T1 (mkF m 47 #[.val (.int x0), .val (.int x1), .val (.int (0 : Int32)), .val (.int (0 : Int32)), .val (.int (1 : Int32))] [(.ref z_ROOT)])
      refine own_iloadN X1 hx 48 rfl (hb hby at_47) rfl ?_
      obtain ⟨_, _, ⟨T2, L2, k2, n2⟩, -, X2, ⟨Lc2, hQ2, l2, y2, z2⟩, st2⟩ := Jvm.LawKit.callS X1 hx (y := (⟨"com/example/cambium/cambium/search/ShapeBuiltByPinLaw", "strategy", "(I)Lcom/example/cambium/cambium/search/Strategy;"⟩ : MethodName)) hown (mvT hZ (hw _ (List.mem_of_getElem? (i := 8) rfl))) (mvT hZ (hw _ (List.mem_of_getElem? (i := 9) rfl))) (mvT hZ (hw _ (List.mem_of_getElem? (i := 3) rfl))) (mvT hZ (hw _ (List.mem_of_getElem? (i := 10) rfl))) (by decide) (backOf (W := 1) (rmg0 l Z a0 hw [] z_AUTO h0 n0 Z0 S_z_AUTO) hZ (hw _ (List.mem_of_getElem? (i := 10) rfl)) (hw _ (List.mem_of_getElem? (i := 3) rfl)) (by decide) (by decide)) (g := (mkF m 48 #[.val (.int x0), .val (.int x1), .val (.int (0 : Int32)), .val (.int (0 : Int32)), .val (.int (1 : Int32))] [(.int (0 : Int32)), (.ref z_ROOT)])) rfl (by rw [hml]; rfl) (argsL := [(.int (0 : Int32))]) (rest := [(.ref z_ROOT)]) (lenOf own_pd1 rfl) rfl (by show 2 * 0 + _ ≤ _; exact Nat.le_of_eq rfl) (hb hby at_48) (fun _ _ => ⟨rfl, eh1, (by decide : 0 + 0 ≤ _), (by decide : 0 + 0 ≤ _)⟩)
      dsimp only [Pt.U, Pt.locs, Pt.cells, Pt.slots] at X2 l2 y2 z2 st2 hQ2
      subst l2 y2 z2
      obtain ⟨rfl, N2q, eh2⟩ := hQ2
      have N2 := Fr.app N1 N2q
      refine Goes.go st2 ?_
      show Goes p e below s _ _ _ T2 (mkF m 51 #[.val (.int x0), .val (.int x1), .val (.int (0 : Int32)), .val (.int (0 : Int32)), .val (.int (1 : Int32))] [(.ref z_AUTO), (.ref z_ROOT)])
      obtain ⟨cq3, kq3, q3a, q3b, q3c⟩ := isOf hZ eh2 E_z_ROOT
      obtain ⟨_, _, ⟨T3, L3, k3, n3⟩, -, X3, ⟨Lc3, hQ3, l3, y3, z3⟩, st3⟩ := X2.virtualBack hx (y := (⟨"com/example/cambium/cambium/search/Shape", "builtBy", "(Lcom/example/cambium/cambium/search/Strategy;)Z"⟩ : MethodName)) (z := (⟨"com/example/cambium/cambium/search/Shape", "builtBy", "(Lcom/example/cambium/cambium/search/Strategy;)Z"⟩ : MethodName)) hown (mvT hZ (hw _ (List.mem_of_getElem? (i := 14) rfl))) (mvT hZ (hw _ (List.mem_of_getElem? (i := 15) rfl))) (notFace_of_selects (args := #[]) (mvT hZ (hw _ (List.mem_of_getElem? (i := 17) rfl)))) (mvT hZ (hw _ (List.mem_of_getElem? (i := 17) rfl))) (mvT hZ (hw _ (List.mem_of_getElem? (i := 16) rfl))) (by decide) (backOf (W := 0) (rmbA l Z a0 hw [] z_ROOT z_AUTO h0 n0 Z0 S_z_ROOT) hZ (hw _ (List.mem_of_getElem? (i := 18) rfl)) (hw _ (List.mem_of_getElem? (i := 6) rfl)) (by decide) (by decide)) q3a q3c (g := (mkF m 51 #[.val (.int x0), .val (.int x1), .val (.int (0 : Int32)), .val (.int (0 : Int32)), .val (.int (1 : Int32))] [(.ref z_AUTO), (.ref z_ROOT)])) rfl (by rw [hml]; rfl) (Steps.refl _) (argsL := [(.ref z_AUTO)]) (rest := []) (lenOf own_pd2 rfl) rfl (by show 2 * 0 + _ ≤ _; exact Nat.le_of_eq rfl) (hb hby at_51) (fun _ _ => ⟨rfl, eh2, (by decide : 0 + 0 ≤ _), (by decide : 0 + 0 ≤ _)⟩)
      dsimp only [Pt.U, Pt.locs, Pt.cells, Pt.slots] at X3 l3 y3 z3 st3 hQ3
      subst l3 y3 z3
      obtain ⟨rfl, N3q, eh3⟩ := hQ3
      have N3 := Fr.app N2 N3q
      refine Goes.tr st3 ?_
      show Goes p e below s _ _ _ T3 (mkF m 54 #[.val (.int x0), .val (.int x1), .val (.int (0 : Int32)), .val (.int (0 : Int32)), .val (.int (1 : Int32))] [(.int (1 : Int32))])
      refine own_iload X3 hx 56 rfl (hb hby at_54) rfl ?_
      refine own_icmpN X3 hx 59 (hb hby at_56) (teq ((by decide) : (1 : Int32) = (1 : Int32))).2 rfl ?_
      refine own_iconst X3 hx 60 rfl (1 : Int32) (hb hby at_59) (by decide) ?_
      refine own_goto X3 hx 64 (hb hby at_60) (by decide) (by decide) ?_
      refine own_retZ X3 hx hlk Bd.returns (by decide) (hb hby at_64) (by decide) (by decide) eh3 ?_
      exact ⟨rfl, N3⟩
    · refine own_istore X0 hx 17 rfl #[.val (.int x0), .val (.int x1), .val (.int (0 : Int32)), .val (.int (1 : Int32)), .val (.int (1 : Int32))] (hb hby at_15) rfl ?_
      refine own_iloadN X0 hx 18 rfl (hb hby at_17) rfl ?_
      refine own_iconst X0 hx 19 rfl (1 : Int32) (hb hby at_18) (by decide) ?_
      refine own_icmpY X0 hx 30 (hb hby at_19) (feq ((by decide) : ¬ ((0 : Int32) = (1 : Int32)))).2 (by decide) (by decide) ?_
      refine own_iloadN X0 hx 31 rfl (hb hby at_30) rfl ?_
      refine own_iconst X0 hx 32 rfl (2 : Int32) (hb hby at_31) (by decide) ?_
      refine own_icmpY X0 hx 43 (hb hby at_32) (feq ((by decide) : ¬ ((0 : Int32) = (2 : Int32)))).2 (by decide) (by decide) ?_
      refine own_iloadN X0 hx 44 rfl (hb hby at_43) rfl ?_
      obtain ⟨_, _, ⟨T4, L4, k4, n4⟩, -, X4, ⟨Lc4, hQ4, l4, y4, z4⟩, st4⟩ := Jvm.LawKit.callS X0 hx (y := (⟨"com/example/cambium/cambium/search/ShapeBuiltByPinLaw", "shape", "(I)Lcom/example/cambium/cambium/search/Shape;"⟩ : MethodName)) hown (mvT hZ (hw _ (List.mem_of_getElem? (i := 1) rfl))) (mvT hZ (hw _ (List.mem_of_getElem? (i := 2) rfl))) (mvT hZ (hw _ (List.mem_of_getElem? (i := 3) rfl))) (mvT hZ (hw _ (List.mem_of_getElem? (i := 4) rfl))) (by decide) (backOf (W := 0) (rms0 l Z a0 hw [] z_ROOT h0 n0 Z0 S_z_ROOT) hZ (hw _ (List.mem_of_getElem? (i := 4) rfl)) (hw _ (List.mem_of_getElem? (i := 3) rfl)) (by decide) (by decide)) (g := (mkF m 44 #[.val (.int x0), .val (.int x1), .val (.int (0 : Int32)), .val (.int (1 : Int32)), .val (.int (1 : Int32))] [(.int (0 : Int32))])) rfl (by rw [hml]; rfl) (argsL := [(.int (0 : Int32))]) (rest := []) (lenOf own_pd0 rfl) rfl (by show 2 * 0 + _ ≤ _; exact Nat.le_of_eq rfl) (hb hby at_44) (fun _ _ => ⟨rfl, e0, (by decide : 0 + 0 ≤ _), (by decide : 0 + 0 ≤ _)⟩)
      dsimp only [Pt.U, Pt.locs, Pt.cells, Pt.slots] at X4 l4 y4 z4 st4 hQ4
      subst l4 y4 z4
      obtain ⟨rfl, N4q, eh4⟩ := hQ4
      have N4 := Fr.app N0 N4q
      refine Goes.go st4 ?_
      show Goes p e below s _ _ _ T4 (mkF m 47 #[.val (.int x0), .val (.int x1), .val (.int (0 : Int32)), .val (.int (1 : Int32)), .val (.int (1 : Int32))] [(.ref z_ROOT)])
      refine own_iloadN X4 hx 48 rfl (hb hby at_47) rfl ?_
      obtain ⟨_, _, ⟨T5, L5, k5, n5⟩, -, X5, ⟨Lc5, hQ5, l5, y5, z5⟩, st5⟩ := Jvm.LawKit.callS X4 hx (y := (⟨"com/example/cambium/cambium/search/ShapeBuiltByPinLaw", "strategy", "(I)Lcom/example/cambium/cambium/search/Strategy;"⟩ : MethodName)) hown (mvT hZ (hw _ (List.mem_of_getElem? (i := 8) rfl))) (mvT hZ (hw _ (List.mem_of_getElem? (i := 9) rfl))) (mvT hZ (hw _ (List.mem_of_getElem? (i := 3) rfl))) (mvT hZ (hw _ (List.mem_of_getElem? (i := 10) rfl))) (by decide) (backOf (W := 1) (rmg1 l Z a0 hw [] z_LOOKUP h0 n0 Z0 S_z_LOOKUP) hZ (hw _ (List.mem_of_getElem? (i := 10) rfl)) (hw _ (List.mem_of_getElem? (i := 3) rfl)) (by decide) (by decide)) (g := (mkF m 48 #[.val (.int x0), .val (.int x1), .val (.int (0 : Int32)), .val (.int (1 : Int32)), .val (.int (1 : Int32))] [(.int (1 : Int32)), (.ref z_ROOT)])) rfl (by rw [hml]; rfl) (argsL := [(.int (1 : Int32))]) (rest := [(.ref z_ROOT)]) (lenOf own_pd1 rfl) rfl (by show 2 * 0 + _ ≤ _; exact Nat.le_of_eq rfl) (hb hby at_48) (fun _ _ => ⟨rfl, eh4, (by decide : 0 + 0 ≤ _), (by decide : 0 + 0 ≤ _)⟩)
      dsimp only [Pt.U, Pt.locs, Pt.cells, Pt.slots] at X5 l5 y5 z5 st5 hQ5
      subst l5 y5 z5
      obtain ⟨rfl, N5q, eh5⟩ := hQ5
      have N5 := Fr.app N4 N5q
      refine Goes.go st5 ?_
      show Goes p e below s _ _ _ T5 (mkF m 51 #[.val (.int x0), .val (.int x1), .val (.int (0 : Int32)), .val (.int (1 : Int32)), .val (.int (1 : Int32))] [(.ref z_LOOKUP), (.ref z_ROOT)])
      obtain ⟨cq6, kq6, q6a, q6b, q6c⟩ := isOf hZ eh5 E_z_ROOT
      obtain ⟨_, _, ⟨T6, L6, k6, n6⟩, -, X6, ⟨Lc6, hQ6, l6, y6, z6⟩, st6⟩ := X5.virtualBack hx (y := (⟨"com/example/cambium/cambium/search/Shape", "builtBy", "(Lcom/example/cambium/cambium/search/Strategy;)Z"⟩ : MethodName)) (z := (⟨"com/example/cambium/cambium/search/Shape", "builtBy", "(Lcom/example/cambium/cambium/search/Strategy;)Z"⟩ : MethodName)) hown (mvT hZ (hw _ (List.mem_of_getElem? (i := 14) rfl))) (mvT hZ (hw _ (List.mem_of_getElem? (i := 15) rfl))) (notFace_of_selects (args := #[]) (mvT hZ (hw _ (List.mem_of_getElem? (i := 17) rfl)))) (mvT hZ (hw _ (List.mem_of_getElem? (i := 17) rfl))) (mvT hZ (hw _ (List.mem_of_getElem? (i := 16) rfl))) (by decide) (backOf (W := 0) (rmbA l Z a0 hw [] z_ROOT z_LOOKUP h0 n0 Z0 S_z_ROOT) hZ (hw _ (List.mem_of_getElem? (i := 18) rfl)) (hw _ (List.mem_of_getElem? (i := 6) rfl)) (by decide) (by decide)) q6a q6c (g := (mkF m 51 #[.val (.int x0), .val (.int x1), .val (.int (0 : Int32)), .val (.int (1 : Int32)), .val (.int (1 : Int32))] [(.ref z_LOOKUP), (.ref z_ROOT)])) rfl (by rw [hml]; rfl) (Steps.refl _) (argsL := [(.ref z_LOOKUP)]) (rest := []) (lenOf own_pd2 rfl) rfl (by show 2 * 0 + _ ≤ _; exact Nat.le_of_eq rfl) (hb hby at_51) (fun _ _ => ⟨rfl, eh5, (by decide : 0 + 0 ≤ _), (by decide : 0 + 0 ≤ _)⟩)
      dsimp only [Pt.U, Pt.locs, Pt.cells, Pt.slots] at X6 l6 y6 z6 st6 hQ6
      subst l6 y6 z6
      obtain ⟨rfl, N6q, eh6⟩ := hQ6
      have N6 := Fr.app N5 N6q
      refine Goes.tr st6 ?_
      show Goes p e below s _ _ _ T6 (mkF m 54 #[.val (.int x0), .val (.int x1), .val (.int (0 : Int32)), .val (.int (1 : Int32)), .val (.int (1 : Int32))] [(.int (1 : Int32))])
      refine own_iload X6 hx 56 rfl (hb hby at_54) rfl ?_
      refine own_icmpN X6 hx 59 (hb hby at_56) (teq ((by decide) : (1 : Int32) = (1 : Int32))).2 rfl ?_
      refine own_iconst X6 hx 60 rfl (1 : Int32) (hb hby at_59) (by decide) ?_
      refine own_goto X6 hx 64 (hb hby at_60) (by decide) (by decide) ?_
      refine own_retZ X6 hx hlk Bd.returns (by decide) (hb hby at_64) (by decide) (by decide) eh6 ?_
      exact ⟨rfl, N6⟩
    · refine own_istore X0 hx 17 rfl #[.val (.int x0), .val (.int x1), .val (.int (0 : Int32)), .val (.int (2 : Int32)), .val (.int (1 : Int32))] (hb hby at_15) rfl ?_
      refine own_iloadN X0 hx 18 rfl (hb hby at_17) rfl ?_
      refine own_iconst X0 hx 19 rfl (1 : Int32) (hb hby at_18) (by decide) ?_
      refine own_icmpY X0 hx 30 (hb hby at_19) (feq ((by decide) : ¬ ((0 : Int32) = (1 : Int32)))).2 (by decide) (by decide) ?_
      refine own_iloadN X0 hx 31 rfl (hb hby at_30) rfl ?_
      refine own_iconst X0 hx 32 rfl (2 : Int32) (hb hby at_31) (by decide) ?_
      refine own_icmpY X0 hx 43 (hb hby at_32) (feq ((by decide) : ¬ ((0 : Int32) = (2 : Int32)))).2 (by decide) (by decide) ?_
      refine own_iloadN X0 hx 44 rfl (hb hby at_43) rfl ?_
      obtain ⟨_, _, ⟨T7, L7, k7, n7⟩, -, X7, ⟨Lc7, hQ7, l7, y7, z7⟩, st7⟩ := Jvm.LawKit.callS X0 hx (y := (⟨"com/example/cambium/cambium/search/ShapeBuiltByPinLaw", "shape", "(I)Lcom/example/cambium/cambium/search/Shape;"⟩ : MethodName)) hown (mvT hZ (hw _ (List.mem_of_getElem? (i := 1) rfl))) (mvT hZ (hw _ (List.mem_of_getElem? (i := 2) rfl))) (mvT hZ (hw _ (List.mem_of_getElem? (i := 3) rfl))) (mvT hZ (hw _ (List.mem_of_getElem? (i := 4) rfl))) (by decide) (backOf (W := 0) (rms0 l Z a0 hw [] z_ROOT h0 n0 Z0 S_z_ROOT) hZ (hw _ (List.mem_of_getElem? (i := 4) rfl)) (hw _ (List.mem_of_getElem? (i := 3) rfl)) (by decide) (by decide)) (g := (mkF m 44 #[.val (.int x0), .val (.int x1), .val (.int (0 : Int32)), .val (.int (2 : Int32)), .val (.int (1 : Int32))] [(.int (0 : Int32))])) rfl (by rw [hml]; rfl) (argsL := [(.int (0 : Int32))]) (rest := []) (lenOf own_pd0 rfl) rfl (by show 2 * 0 + _ ≤ _; exact Nat.le_of_eq rfl) (hb hby at_44) (fun _ _ => ⟨rfl, e0, (by decide : 0 + 0 ≤ _), (by decide : 0 + 0 ≤ _)⟩)
      dsimp only [Pt.U, Pt.locs, Pt.cells, Pt.slots] at X7 l7 y7 z7 st7 hQ7
      subst l7 y7 z7
      obtain ⟨rfl, N7q, eh7⟩ := hQ7
      have N7 := Fr.app N0 N7q
      refine Goes.go st7 ?_
      show Goes p e below s _ _ _ T7 (mkF m 47 #[.val (.int x0), .val (.int x1), .val (.int (0 : Int32)), .val (.int (2 : Int32)), .val (.int (1 : Int32))] [(.ref z_ROOT)])
      refine own_iloadN X7 hx 48 rfl (hb hby at_47) rfl ?_
      obtain ⟨_, _, ⟨T8, L8, k8, n8⟩, -, X8, ⟨Lc8, hQ8, l8, y8, z8⟩, st8⟩ := Jvm.LawKit.callS X7 hx (y := (⟨"com/example/cambium/cambium/search/ShapeBuiltByPinLaw", "strategy", "(I)Lcom/example/cambium/cambium/search/Strategy;"⟩ : MethodName)) hown (mvT hZ (hw _ (List.mem_of_getElem? (i := 8) rfl))) (mvT hZ (hw _ (List.mem_of_getElem? (i := 9) rfl))) (mvT hZ (hw _ (List.mem_of_getElem? (i := 3) rfl))) (mvT hZ (hw _ (List.mem_of_getElem? (i := 10) rfl))) (by decide) (backOf (W := 1) (rmg2 l Z a0 hw [] z_SCAN h0 n0 Z0 S_z_SCAN) hZ (hw _ (List.mem_of_getElem? (i := 10) rfl)) (hw _ (List.mem_of_getElem? (i := 3) rfl)) (by decide) (by decide)) (g := (mkF m 48 #[.val (.int x0), .val (.int x1), .val (.int (0 : Int32)), .val (.int (2 : Int32)), .val (.int (1 : Int32))] [(.int (2 : Int32)), (.ref z_ROOT)])) rfl (by rw [hml]; rfl) (argsL := [(.int (2 : Int32))]) (rest := [(.ref z_ROOT)]) (lenOf own_pd1 rfl) rfl (by show 2 * 0 + _ ≤ _; exact Nat.le_of_eq rfl) (hb hby at_48) (fun _ _ => ⟨rfl, eh7, (by decide : 0 + 0 ≤ _), (by decide : 0 + 0 ≤ _)⟩)
      dsimp only [Pt.U, Pt.locs, Pt.cells, Pt.slots] at X8 l8 y8 z8 st8 hQ8
      subst l8 y8 z8
      obtain ⟨rfl, N8q, eh8⟩ := hQ8
      have N8 := Fr.app N7 N8q
      refine Goes.go st8 ?_
      show Goes p e below s _ _ _ T8 (mkF m 51 #[.val (.int x0), .val (.int x1), .val (.int (0 : Int32)), .val (.int (2 : Int32)), .val (.int (1 : Int32))] [(.ref z_SCAN), (.ref z_ROOT)])
      obtain ⟨cq9, kq9, q9a, q9b, q9c⟩ := isOf hZ eh8 E_z_ROOT
      obtain ⟨_, _, ⟨T9, L9, k9, n9⟩, -, X9, ⟨Lc9, hQ9, l9, y9, z9⟩, st9⟩ := X8.virtualBack hx (y := (⟨"com/example/cambium/cambium/search/Shape", "builtBy", "(Lcom/example/cambium/cambium/search/Strategy;)Z"⟩ : MethodName)) (z := (⟨"com/example/cambium/cambium/search/Shape", "builtBy", "(Lcom/example/cambium/cambium/search/Strategy;)Z"⟩ : MethodName)) hown (mvT hZ (hw _ (List.mem_of_getElem? (i := 14) rfl))) (mvT hZ (hw _ (List.mem_of_getElem? (i := 15) rfl))) (notFace_of_selects (args := #[]) (mvT hZ (hw _ (List.mem_of_getElem? (i := 17) rfl)))) (mvT hZ (hw _ (List.mem_of_getElem? (i := 17) rfl))) (mvT hZ (hw _ (List.mem_of_getElem? (i := 16) rfl))) (by decide) (backOf (W := 0) (rmbA l Z a0 hw [] z_ROOT z_SCAN h0 n0 Z0 S_z_ROOT) hZ (hw _ (List.mem_of_getElem? (i := 18) rfl)) (hw _ (List.mem_of_getElem? (i := 6) rfl)) (by decide) (by decide)) q9a q9c (g := (mkF m 51 #[.val (.int x0), .val (.int x1), .val (.int (0 : Int32)), .val (.int (2 : Int32)), .val (.int (1 : Int32))] [(.ref z_SCAN), (.ref z_ROOT)])) rfl (by rw [hml]; rfl) (Steps.refl _) (argsL := [(.ref z_SCAN)]) (rest := []) (lenOf own_pd2 rfl) rfl (by show 2 * 0 + _ ≤ _; exact Nat.le_of_eq rfl) (hb hby at_51) (fun _ _ => ⟨rfl, eh8, (by decide : 0 + 0 ≤ _), (by decide : 0 + 0 ≤ _)⟩)
      dsimp only [Pt.U, Pt.locs, Pt.cells, Pt.slots] at X9 l9 y9 z9 st9 hQ9
      subst l9 y9 z9
      obtain ⟨rfl, N9q, eh9⟩ := hQ9
      have N9 := Fr.app N8 N9q
      refine Goes.tr st9 ?_
      show Goes p e below s _ _ _ T9 (mkF m 54 #[.val (.int x0), .val (.int x1), .val (.int (0 : Int32)), .val (.int (2 : Int32)), .val (.int (1 : Int32))] [(.int (1 : Int32))])
      refine own_iload X9 hx 56 rfl (hb hby at_54) rfl ?_
      refine own_icmpN X9 hx 59 (hb hby at_56) (teq ((by decide) : (1 : Int32) = (1 : Int32))).2 rfl ?_
      refine own_iconst X9 hx 60 rfl (1 : Int32) (hb hby at_59) (by decide) ?_
      refine own_goto X9 hx 64 (hb hby at_60) (by decide) (by decide) ?_
      refine own_retZ X9 hx hlk Bd.returns (by decide) (hb hby at_64) (by decide) (by decide) eh9 ?_
      exact ⟨rfl, N9⟩
  · refine own_iconst X0 hx 15 rfl (1 : Int32) (hb hby at_14) (by decide) ?_
    rcases hti with rfl | rfl | rfl
    · refine own_istore X0 hx 17 rfl #[.val (.int x0), .val (.int x1), .val (.int (1 : Int32)), .val (.int (0 : Int32)), .val (.int (1 : Int32))] (hb hby at_15) rfl ?_
      refine own_iloadN X0 hx 18 rfl (hb hby at_17) rfl ?_
      refine own_iconst X0 hx 19 rfl (1 : Int32) (hb hby at_18) (by decide) ?_
      refine own_icmpN X0 hx 22 (hb hby at_19) (teq ((by decide) : (1 : Int32) = (1 : Int32))).2 rfl ?_
      refine own_iloadN X0 hx 23 rfl (hb hby at_22) rfl ?_
      refine own_iconst X0 hx 24 rfl (1 : Int32) (hb hby at_23) (by decide) ?_
      refine own_icmpY X0 hx 30 (hb hby at_24) (feq ((by decide) : ¬ ((0 : Int32) = (1 : Int32)))).2 (by decide) (by decide) ?_
      refine own_iloadN X0 hx 31 rfl (hb hby at_30) rfl ?_
      refine own_iconst X0 hx 32 rfl (2 : Int32) (hb hby at_31) (by decide) ?_
      refine own_icmpY X0 hx 43 (hb hby at_32) (feq ((by decide) : ¬ ((1 : Int32) = (2 : Int32)))).2 (by decide) (by decide) ?_
      refine own_iloadN X0 hx 44 rfl (hb hby at_43) rfl ?_
      obtain ⟨_, _, ⟨T10, L10, k10, n10⟩, -, X10, ⟨Lc10, hQ10, l10, y10, z10⟩, st10⟩ := Jvm.LawKit.callS X0 hx (y := (⟨"com/example/cambium/cambium/search/ShapeBuiltByPinLaw", "shape", "(I)Lcom/example/cambium/cambium/search/Shape;"⟩ : MethodName)) hown (mvT hZ (hw _ (List.mem_of_getElem? (i := 1) rfl))) (mvT hZ (hw _ (List.mem_of_getElem? (i := 2) rfl))) (mvT hZ (hw _ (List.mem_of_getElem? (i := 3) rfl))) (mvT hZ (hw _ (List.mem_of_getElem? (i := 4) rfl))) (by decide) (backOf (W := 0) (rms1 l Z a0 hw [] z_MATCHED h0 n0 Z0 S_z_MATCHED) hZ (hw _ (List.mem_of_getElem? (i := 4) rfl)) (hw _ (List.mem_of_getElem? (i := 3) rfl)) (by decide) (by decide)) (g := (mkF m 44 #[.val (.int x0), .val (.int x1), .val (.int (1 : Int32)), .val (.int (0 : Int32)), .val (.int (1 : Int32))] [(.int (1 : Int32))])) rfl (by rw [hml]; rfl) (argsL := [(.int (1 : Int32))]) (rest := []) (lenOf own_pd0 rfl) rfl (by show 2 * 0 + _ ≤ _; exact Nat.le_of_eq rfl) (hb hby at_44) (fun _ _ => ⟨rfl, e0, (by decide : 0 + 0 ≤ _), (by decide : 0 + 0 ≤ _)⟩)
      dsimp only [Pt.U, Pt.locs, Pt.cells, Pt.slots] at X10 l10 y10 z10 st10 hQ10
      subst l10 y10 z10
      obtain ⟨rfl, N10q, eh10⟩ := hQ10
      have N10 := Fr.app N0 N10q
      refine Goes.go st10 ?_
      show Goes p e below s _ _ _ T10 (mkF m 47 #[.val (.int x0), .val (.int x1), .val (.int (1 : Int32)), .val (.int (0 : Int32)), .val (.int (1 : Int32))] [(.ref z_MATCHED)])
      refine own_iloadN X10 hx 48 rfl (hb hby at_47) rfl ?_
      obtain ⟨_, _, ⟨T11, L11, k11, n11⟩, -, X11, ⟨Lc11, hQ11, l11, y11, z11⟩, st11⟩ := Jvm.LawKit.callS X10 hx (y := (⟨"com/example/cambium/cambium/search/ShapeBuiltByPinLaw", "strategy", "(I)Lcom/example/cambium/cambium/search/Strategy;"⟩ : MethodName)) hown (mvT hZ (hw _ (List.mem_of_getElem? (i := 8) rfl))) (mvT hZ (hw _ (List.mem_of_getElem? (i := 9) rfl))) (mvT hZ (hw _ (List.mem_of_getElem? (i := 3) rfl))) (mvT hZ (hw _ (List.mem_of_getElem? (i := 10) rfl))) (by decide) (backOf (W := 1) (rmg0 l Z a0 hw [] z_AUTO h0 n0 Z0 S_z_AUTO) hZ (hw _ (List.mem_of_getElem? (i := 10) rfl)) (hw _ (List.mem_of_getElem? (i := 3) rfl)) (by decide) (by decide)) (g := (mkF m 48 #[.val (.int x0), .val (.int x1), .val (.int (1 : Int32)), .val (.int (0 : Int32)), .val (.int (1 : Int32))] [(.int (0 : Int32)), (.ref z_MATCHED)])) rfl (by rw [hml]; rfl) (argsL := [(.int (0 : Int32))]) (rest := [(.ref z_MATCHED)]) (lenOf own_pd1 rfl) rfl (by show 2 * 0 + _ ≤ _; exact Nat.le_of_eq rfl) (hb hby at_48) (fun _ _ => ⟨rfl, eh10, (by decide : 0 + 0 ≤ _), (by decide : 0 + 0 ≤ _)⟩)
      dsimp only [Pt.U, Pt.locs, Pt.cells, Pt.slots] at X11 l11 y11 z11 st11 hQ11
      subst l11 y11 z11
      obtain ⟨rfl, N11q, eh11⟩ := hQ11
      have N11 := Fr.app N10 N11q
      refine Goes.go st11 ?_
      show Goes p e below s _ _ _ T11 (mkF m 51 #[.val (.int x0), .val (.int x1), .val (.int (1 : Int32)), .val (.int (0 : Int32)), .val (.int (1 : Int32))] [(.ref z_AUTO), (.ref z_MATCHED)])
      obtain ⟨cq12, kq12, q12a, q12b, q12c⟩ := isOf hZ eh11 E_z_MATCHED
      obtain ⟨_, _, ⟨T12, L12, k12, n12⟩, -, X12, ⟨Lc12, hQ12, l12, y12, z12⟩, st12⟩ := X11.virtualBack hx (y := (⟨"com/example/cambium/cambium/search/Shape", "builtBy", "(Lcom/example/cambium/cambium/search/Strategy;)Z"⟩ : MethodName)) (z := (⟨"com/example/cambium/cambium/search/Shape", "builtBy", "(Lcom/example/cambium/cambium/search/Strategy;)Z"⟩ : MethodName)) hown (mvT hZ (hw _ (List.mem_of_getElem? (i := 14) rfl))) (mvT hZ (hw _ (List.mem_of_getElem? (i := 15) rfl))) (notFace_of_selects (args := #[]) (mvT hZ (hw _ (List.mem_of_getElem? (i := 17) rfl)))) (mvT hZ (hw _ (List.mem_of_getElem? (i := 17) rfl))) (mvT hZ (hw _ (List.mem_of_getElem? (i := 16) rfl))) (by decide) (backOf (W := 0) (rmbC l Z a0 hw [] z_MATCHED z_AUTO z_ROOT z_LOOKUP h0 n0 Z0 S_z_ROOT S_z_LOOKUP (Ne.symm ne_z_ROOT_z_MATCHED) (Ne.symm ne_z_LOOKUP_z_AUTO)) hZ (hw _ (List.mem_of_getElem? (i := 18) rfl)) (hw _ (List.mem_of_getElem? (i := 6) rfl)) (by decide) (by decide)) q12a q12c (g := (mkF m 51 #[.val (.int x0), .val (.int x1), .val (.int (1 : Int32)), .val (.int (0 : Int32)), .val (.int (1 : Int32))] [(.ref z_AUTO), (.ref z_MATCHED)])) rfl (by rw [hml]; rfl) (Steps.refl _) (argsL := [(.ref z_AUTO)]) (rest := []) (lenOf own_pd2 rfl) rfl (by show 2 * 0 + _ ≤ _; exact Nat.le_of_eq rfl) (hb hby at_51) (fun _ _ => ⟨rfl, eh11, (by decide : 0 + 0 ≤ _), (by decide : 0 + 0 ≤ _)⟩)
      dsimp only [Pt.U, Pt.locs, Pt.cells, Pt.slots] at X12 l12 y12 z12 st12 hQ12
      subst l12 y12 z12
      obtain ⟨rfl, N12q, eh12⟩ := hQ12
      have N12 := Fr.app N11 N12q
      refine Goes.tr st12 ?_
      show Goes p e below s _ _ _ T12 (mkF m 54 #[.val (.int x0), .val (.int x1), .val (.int (1 : Int32)), .val (.int (0 : Int32)), .val (.int (1 : Int32))] [(.int (1 : Int32))])
      refine own_iload X12 hx 56 rfl (hb hby at_54) rfl ?_
      refine own_icmpN X12 hx 59 (hb hby at_56) (teq ((by decide) : (1 : Int32) = (1 : Int32))).2 rfl ?_
      refine own_iconst X12 hx 60 rfl (1 : Int32) (hb hby at_59) (by decide) ?_
      refine own_goto X12 hx 64 (hb hby at_60) (by decide) (by decide) ?_
      refine own_retZ X12 hx hlk Bd.returns (by decide) (hb hby at_64) (by decide) (by decide) eh12 ?_
      exact ⟨rfl, N12⟩
    · refine own_istore X0 hx 17 rfl #[.val (.int x0), .val (.int x1), .val (.int (1 : Int32)), .val (.int (1 : Int32)), .val (.int (1 : Int32))] (hb hby at_15) rfl ?_
      refine own_iloadN X0 hx 18 rfl (hb hby at_17) rfl ?_
      refine own_iconst X0 hx 19 rfl (1 : Int32) (hb hby at_18) (by decide) ?_
      refine own_icmpN X0 hx 22 (hb hby at_19) (teq ((by decide) : (1 : Int32) = (1 : Int32))).2 rfl ?_
      refine own_iloadN X0 hx 23 rfl (hb hby at_22) rfl ?_
      refine own_iconst X0 hx 24 rfl (1 : Int32) (hb hby at_23) (by decide) ?_
      refine own_icmpN X0 hx 27 (hb hby at_24) (teq ((by decide) : (1 : Int32) = (1 : Int32))).2 rfl ?_
      refine own_iconst X0 hx 28 rfl (0 : Int32) (hb hby at_27) (by decide) ?_
      refine own_istore X0 hx 30 rfl #[.val (.int x0), .val (.int x1), .val (.int (1 : Int32)), .val (.int (1 : Int32)), .val (.int (0 : Int32))] (hb hby at_28) rfl ?_
      refine own_iloadN X0 hx 31 rfl (hb hby at_30) rfl ?_
      refine own_iconst X0 hx 32 rfl (2 : Int32) (hb hby at_31) (by decide) ?_
      refine own_icmpY X0 hx 43 (hb hby at_32) (feq ((by decide) : ¬ ((1 : Int32) = (2 : Int32)))).2 (by decide) (by decide) ?_
      refine own_iloadN X0 hx 44 rfl (hb hby at_43) rfl ?_
      obtain ⟨_, _, ⟨T13, L13, k13, n13⟩, -, X13, ⟨Lc13, hQ13, l13, y13, z13⟩, st13⟩ := Jvm.LawKit.callS X0 hx (y := (⟨"com/example/cambium/cambium/search/ShapeBuiltByPinLaw", "shape", "(I)Lcom/example/cambium/cambium/search/Shape;"⟩ : MethodName)) hown (mvT hZ (hw _ (List.mem_of_getElem? (i := 1) rfl))) (mvT hZ (hw _ (List.mem_of_getElem? (i := 2) rfl))) (mvT hZ (hw _ (List.mem_of_getElem? (i := 3) rfl))) (mvT hZ (hw _ (List.mem_of_getElem? (i := 4) rfl))) (by decide) (backOf (W := 0) (rms1 l Z a0 hw [] z_MATCHED h0 n0 Z0 S_z_MATCHED) hZ (hw _ (List.mem_of_getElem? (i := 4) rfl)) (hw _ (List.mem_of_getElem? (i := 3) rfl)) (by decide) (by decide)) (g := (mkF m 44 #[.val (.int x0), .val (.int x1), .val (.int (1 : Int32)), .val (.int (1 : Int32)), .val (.int (0 : Int32))] [(.int (1 : Int32))])) rfl (by rw [hml]; rfl) (argsL := [(.int (1 : Int32))]) (rest := []) (lenOf own_pd0 rfl) rfl (by show 2 * 0 + _ ≤ _; exact Nat.le_of_eq rfl) (hb hby at_44) (fun _ _ => ⟨rfl, e0, (by decide : 0 + 0 ≤ _), (by decide : 0 + 0 ≤ _)⟩)
      dsimp only [Pt.U, Pt.locs, Pt.cells, Pt.slots] at X13 l13 y13 z13 st13 hQ13
      subst l13 y13 z13
      obtain ⟨rfl, N13q, eh13⟩ := hQ13
      have N13 := Fr.app N0 N13q
      refine Goes.go st13 ?_
      show Goes p e below s _ _ _ T13 (mkF m 47 #[.val (.int x0), .val (.int x1), .val (.int (1 : Int32)), .val (.int (1 : Int32)), .val (.int (0 : Int32))] [(.ref z_MATCHED)])
      refine own_iloadN X13 hx 48 rfl (hb hby at_47) rfl ?_
      obtain ⟨_, _, ⟨T14, L14, k14, n14⟩, -, X14, ⟨Lc14, hQ14, l14, y14, z14⟩, st14⟩ := Jvm.LawKit.callS X13 hx (y := (⟨"com/example/cambium/cambium/search/ShapeBuiltByPinLaw", "strategy", "(I)Lcom/example/cambium/cambium/search/Strategy;"⟩ : MethodName)) hown (mvT hZ (hw _ (List.mem_of_getElem? (i := 8) rfl))) (mvT hZ (hw _ (List.mem_of_getElem? (i := 9) rfl))) (mvT hZ (hw _ (List.mem_of_getElem? (i := 3) rfl))) (mvT hZ (hw _ (List.mem_of_getElem? (i := 10) rfl))) (by decide) (backOf (W := 1) (rmg1 l Z a0 hw [] z_LOOKUP h0 n0 Z0 S_z_LOOKUP) hZ (hw _ (List.mem_of_getElem? (i := 10) rfl)) (hw _ (List.mem_of_getElem? (i := 3) rfl)) (by decide) (by decide)) (g := (mkF m 48 #[.val (.int x0), .val (.int x1), .val (.int (1 : Int32)), .val (.int (1 : Int32)), .val (.int (0 : Int32))] [(.int (1 : Int32)), (.ref z_MATCHED)])) rfl (by rw [hml]; rfl) (argsL := [(.int (1 : Int32))]) (rest := [(.ref z_MATCHED)]) (lenOf own_pd1 rfl) rfl (by show 2 * 0 + _ ≤ _; exact Nat.le_of_eq rfl) (hb hby at_48) (fun _ _ => ⟨rfl, eh13, (by decide : 0 + 0 ≤ _), (by decide : 0 + 0 ≤ _)⟩)
      dsimp only [Pt.U, Pt.locs, Pt.cells, Pt.slots] at X14 l14 y14 z14 st14 hQ14
      subst l14 y14 z14
      obtain ⟨rfl, N14q, eh14⟩ := hQ14
      have N14 := Fr.app N13 N14q
      refine Goes.go st14 ?_
      show Goes p e below s _ _ _ T14 (mkF m 51 #[.val (.int x0), .val (.int x1), .val (.int (1 : Int32)), .val (.int (1 : Int32)), .val (.int (0 : Int32))] [(.ref z_LOOKUP), (.ref z_MATCHED)])
      obtain ⟨cq15, kq15, q15a, q15b, q15c⟩ := isOf hZ eh14 E_z_MATCHED
      obtain ⟨_, _, ⟨T15, L15, k15, n15⟩, -, X15, ⟨Lc15, hQ15, l15, y15, z15⟩, st15⟩ := X14.virtualBack hx (y := (⟨"com/example/cambium/cambium/search/Shape", "builtBy", "(Lcom/example/cambium/cambium/search/Strategy;)Z"⟩ : MethodName)) (z := (⟨"com/example/cambium/cambium/search/Shape", "builtBy", "(Lcom/example/cambium/cambium/search/Strategy;)Z"⟩ : MethodName)) hown (mvT hZ (hw _ (List.mem_of_getElem? (i := 14) rfl))) (mvT hZ (hw _ (List.mem_of_getElem? (i := 15) rfl))) (notFace_of_selects (args := #[]) (mvT hZ (hw _ (List.mem_of_getElem? (i := 17) rfl)))) (mvT hZ (hw _ (List.mem_of_getElem? (i := 17) rfl))) (mvT hZ (hw _ (List.mem_of_getElem? (i := 16) rfl))) (by decide) (backOf (W := 0) (rmbB l Z a0 hw [] z_MATCHED z_LOOKUP z_ROOT h0 n0 Z0 S_z_ROOT S_z_LOOKUP (Ne.symm ne_z_ROOT_z_MATCHED)) hZ (hw _ (List.mem_of_getElem? (i := 18) rfl)) (hw _ (List.mem_of_getElem? (i := 6) rfl)) (by decide) (by decide)) q15a q15c (g := (mkF m 51 #[.val (.int x0), .val (.int x1), .val (.int (1 : Int32)), .val (.int (1 : Int32)), .val (.int (0 : Int32))] [(.ref z_LOOKUP), (.ref z_MATCHED)])) rfl (by rw [hml]; rfl) (Steps.refl _) (argsL := [(.ref z_LOOKUP)]) (rest := []) (lenOf own_pd2 rfl) rfl (by show 2 * 0 + _ ≤ _; exact Nat.le_of_eq rfl) (hb hby at_51) (fun _ _ => ⟨rfl, eh14, (by decide : 0 + 0 ≤ _), (by decide : 0 + 0 ≤ _)⟩)
      dsimp only [Pt.U, Pt.locs, Pt.cells, Pt.slots] at X15 l15 y15 z15 st15 hQ15
      subst l15 y15 z15
      obtain ⟨rfl, N15q, eh15⟩ := hQ15
      have N15 := Fr.app N14 N15q
      refine Goes.tr st15 ?_
      show Goes p e below s _ _ _ T15 (mkF m 54 #[.val (.int x0), .val (.int x1), .val (.int (1 : Int32)), .val (.int (1 : Int32)), .val (.int (0 : Int32))] [(.int (0 : Int32))])
      refine own_iload X15 hx 56 rfl (hb hby at_54) rfl ?_
      refine own_icmpN X15 hx 59 (hb hby at_56) (teq ((by decide) : (0 : Int32) = (0 : Int32))).2 rfl ?_
      refine own_iconst X15 hx 60 rfl (1 : Int32) (hb hby at_59) (by decide) ?_
      refine own_goto X15 hx 64 (hb hby at_60) (by decide) (by decide) ?_
      refine own_retZ X15 hx hlk Bd.returns (by decide) (hb hby at_64) (by decide) (by decide) eh15 ?_
      exact ⟨rfl, N15⟩
    · refine own_istore X0 hx 17 rfl #[.val (.int x0), .val (.int x1), .val (.int (1 : Int32)), .val (.int (2 : Int32)), .val (.int (1 : Int32))] (hb hby at_15) rfl ?_
      refine own_iloadN X0 hx 18 rfl (hb hby at_17) rfl ?_
      refine own_iconst X0 hx 19 rfl (1 : Int32) (hb hby at_18) (by decide) ?_
      refine own_icmpN X0 hx 22 (hb hby at_19) (teq ((by decide) : (1 : Int32) = (1 : Int32))).2 rfl ?_
      refine own_iloadN X0 hx 23 rfl (hb hby at_22) rfl ?_
      refine own_iconst X0 hx 24 rfl (1 : Int32) (hb hby at_23) (by decide) ?_
      refine own_icmpY X0 hx 30 (hb hby at_24) (feq ((by decide) : ¬ ((2 : Int32) = (1 : Int32)))).2 (by decide) (by decide) ?_
      refine own_iloadN X0 hx 31 rfl (hb hby at_30) rfl ?_
      refine own_iconst X0 hx 32 rfl (2 : Int32) (hb hby at_31) (by decide) ?_
      refine own_icmpY X0 hx 43 (hb hby at_32) (feq ((by decide) : ¬ ((1 : Int32) = (2 : Int32)))).2 (by decide) (by decide) ?_
      refine own_iloadN X0 hx 44 rfl (hb hby at_43) rfl ?_
      obtain ⟨_, _, ⟨T16, L16, k16, n16⟩, -, X16, ⟨Lc16, hQ16, l16, y16, z16⟩, st16⟩ := Jvm.LawKit.callS X0 hx (y := (⟨"com/example/cambium/cambium/search/ShapeBuiltByPinLaw", "shape", "(I)Lcom/example/cambium/cambium/search/Shape;"⟩ : MethodName)) hown (mvT hZ (hw _ (List.mem_of_getElem? (i := 1) rfl))) (mvT hZ (hw _ (List.mem_of_getElem? (i := 2) rfl))) (mvT hZ (hw _ (List.mem_of_getElem? (i := 3) rfl))) (mvT hZ (hw _ (List.mem_of_getElem? (i := 4) rfl))) (by decide) (backOf (W := 0) (rms1 l Z a0 hw [] z_MATCHED h0 n0 Z0 S_z_MATCHED) hZ (hw _ (List.mem_of_getElem? (i := 4) rfl)) (hw _ (List.mem_of_getElem? (i := 3) rfl)) (by decide) (by decide)) (g := (mkF m 44 #[.val (.int x0), .val (.int x1), .val (.int (1 : Int32)), .val (.int (2 : Int32)), .val (.int (1 : Int32))] [(.int (1 : Int32))])) rfl (by rw [hml]; rfl) (argsL := [(.int (1 : Int32))]) (rest := []) (lenOf own_pd0 rfl) rfl (by show 2 * 0 + _ ≤ _; exact Nat.le_of_eq rfl) (hb hby at_44) (fun _ _ => ⟨rfl, e0, (by decide : 0 + 0 ≤ _), (by decide : 0 + 0 ≤ _)⟩)
      dsimp only [Pt.U, Pt.locs, Pt.cells, Pt.slots] at X16 l16 y16 z16 st16 hQ16
      subst l16 y16 z16
      obtain ⟨rfl, N16q, eh16⟩ := hQ16
      have N16 := Fr.app N0 N16q
      refine Goes.go st16 ?_
      show Goes p e below s _ _ _ T16 (mkF m 47 #[.val (.int x0), .val (.int x1), .val (.int (1 : Int32)), .val (.int (2 : Int32)), .val (.int (1 : Int32))] [(.ref z_MATCHED)])
      refine own_iloadN X16 hx 48 rfl (hb hby at_47) rfl ?_
      obtain ⟨_, _, ⟨T17, L17, k17, n17⟩, -, X17, ⟨Lc17, hQ17, l17, y17, z17⟩, st17⟩ := Jvm.LawKit.callS X16 hx (y := (⟨"com/example/cambium/cambium/search/ShapeBuiltByPinLaw", "strategy", "(I)Lcom/example/cambium/cambium/search/Strategy;"⟩ : MethodName)) hown (mvT hZ (hw _ (List.mem_of_getElem? (i := 8) rfl))) (mvT hZ (hw _ (List.mem_of_getElem? (i := 9) rfl))) (mvT hZ (hw _ (List.mem_of_getElem? (i := 3) rfl))) (mvT hZ (hw _ (List.mem_of_getElem? (i := 10) rfl))) (by decide) (backOf (W := 1) (rmg2 l Z a0 hw [] z_SCAN h0 n0 Z0 S_z_SCAN) hZ (hw _ (List.mem_of_getElem? (i := 10) rfl)) (hw _ (List.mem_of_getElem? (i := 3) rfl)) (by decide) (by decide)) (g := (mkF m 48 #[.val (.int x0), .val (.int x1), .val (.int (1 : Int32)), .val (.int (2 : Int32)), .val (.int (1 : Int32))] [(.int (2 : Int32)), (.ref z_MATCHED)])) rfl (by rw [hml]; rfl) (argsL := [(.int (2 : Int32))]) (rest := [(.ref z_MATCHED)]) (lenOf own_pd1 rfl) rfl (by show 2 * 0 + _ ≤ _; exact Nat.le_of_eq rfl) (hb hby at_48) (fun _ _ => ⟨rfl, eh16, (by decide : 0 + 0 ≤ _), (by decide : 0 + 0 ≤ _)⟩)
      dsimp only [Pt.U, Pt.locs, Pt.cells, Pt.slots] at X17 l17 y17 z17 st17 hQ17
      subst l17 y17 z17
      obtain ⟨rfl, N17q, eh17⟩ := hQ17
      have N17 := Fr.app N16 N17q
      refine Goes.go st17 ?_
      show Goes p e below s _ _ _ T17 (mkF m 51 #[.val (.int x0), .val (.int x1), .val (.int (1 : Int32)), .val (.int (2 : Int32)), .val (.int (1 : Int32))] [(.ref z_SCAN), (.ref z_MATCHED)])
      obtain ⟨cq18, kq18, q18a, q18b, q18c⟩ := isOf hZ eh17 E_z_MATCHED
      obtain ⟨_, _, ⟨T18, L18, k18, n18⟩, -, X18, ⟨Lc18, hQ18, l18, y18, z18⟩, st18⟩ := X17.virtualBack hx (y := (⟨"com/example/cambium/cambium/search/Shape", "builtBy", "(Lcom/example/cambium/cambium/search/Strategy;)Z"⟩ : MethodName)) (z := (⟨"com/example/cambium/cambium/search/Shape", "builtBy", "(Lcom/example/cambium/cambium/search/Strategy;)Z"⟩ : MethodName)) hown (mvT hZ (hw _ (List.mem_of_getElem? (i := 14) rfl))) (mvT hZ (hw _ (List.mem_of_getElem? (i := 15) rfl))) (notFace_of_selects (args := #[]) (mvT hZ (hw _ (List.mem_of_getElem? (i := 17) rfl)))) (mvT hZ (hw _ (List.mem_of_getElem? (i := 17) rfl))) (mvT hZ (hw _ (List.mem_of_getElem? (i := 16) rfl))) (by decide) (backOf (W := 0) (rmbC l Z a0 hw [] z_MATCHED z_SCAN z_ROOT z_LOOKUP h0 n0 Z0 S_z_ROOT S_z_LOOKUP (Ne.symm ne_z_ROOT_z_MATCHED) ne_z_SCAN_z_LOOKUP) hZ (hw _ (List.mem_of_getElem? (i := 18) rfl)) (hw _ (List.mem_of_getElem? (i := 6) rfl)) (by decide) (by decide)) q18a q18c (g := (mkF m 51 #[.val (.int x0), .val (.int x1), .val (.int (1 : Int32)), .val (.int (2 : Int32)), .val (.int (1 : Int32))] [(.ref z_SCAN), (.ref z_MATCHED)])) rfl (by rw [hml]; rfl) (Steps.refl _) (argsL := [(.ref z_SCAN)]) (rest := []) (lenOf own_pd2 rfl) rfl (by show 2 * 0 + _ ≤ _; exact Nat.le_of_eq rfl) (hb hby at_51) (fun _ _ => ⟨rfl, eh17, (by decide : 0 + 0 ≤ _), (by decide : 0 + 0 ≤ _)⟩)
      dsimp only [Pt.U, Pt.locs, Pt.cells, Pt.slots] at X18 l18 y18 z18 st18 hQ18
      subst l18 y18 z18
      obtain ⟨rfl, N18q, eh18⟩ := hQ18
      have N18 := Fr.app N17 N18q
      refine Goes.tr st18 ?_
      show Goes p e below s _ _ _ T18 (mkF m 54 #[.val (.int x0), .val (.int x1), .val (.int (1 : Int32)), .val (.int (2 : Int32)), .val (.int (1 : Int32))] [(.int (1 : Int32))])
      refine own_iload X18 hx 56 rfl (hb hby at_54) rfl ?_
      refine own_icmpN X18 hx 59 (hb hby at_56) (teq ((by decide) : (1 : Int32) = (1 : Int32))).2 rfl ?_
      refine own_iconst X18 hx 60 rfl (1 : Int32) (hb hby at_59) (by decide) ?_
      refine own_goto X18 hx 64 (hb hby at_60) (by decide) (by decide) ?_
      refine own_retZ X18 hx hlk Bd.returns (by decide) (hb hby at_64) (by decide) (by decide) eh18 ?_
      exact ⟨rfl, N18⟩
  · refine own_iconst X0 hx 15 rfl (1 : Int32) (hb hby at_14) (by decide) ?_
    rcases hti with rfl | rfl | rfl
    · refine own_istore X0 hx 17 rfl #[.val (.int x0), .val (.int x1), .val (.int (2 : Int32)), .val (.int (0 : Int32)), .val (.int (1 : Int32))] (hb hby at_15) rfl ?_
      refine own_iloadN X0 hx 18 rfl (hb hby at_17) rfl ?_
      refine own_iconst X0 hx 19 rfl (1 : Int32) (hb hby at_18) (by decide) ?_
      refine own_icmpY X0 hx 30 (hb hby at_19) (feq ((by decide) : ¬ ((2 : Int32) = (1 : Int32)))).2 (by decide) (by decide) ?_
      refine own_iloadN X0 hx 31 rfl (hb hby at_30) rfl ?_
      refine own_iconst X0 hx 32 rfl (2 : Int32) (hb hby at_31) (by decide) ?_
      refine own_icmpN X0 hx 35 (hb hby at_32) (teq ((by decide) : (2 : Int32) = (2 : Int32))).2 rfl ?_
      refine own_iloadN X0 hx 36 rfl (hb hby at_35) rfl ?_
      refine own_iconst X0 hx 37 rfl (1 : Int32) (hb hby at_36) (by decide) ?_
      refine own_icmpY X0 hx 43 (hb hby at_37) (feq ((by decide) : ¬ ((0 : Int32) = (1 : Int32)))).2 (by decide) (by decide) ?_
      refine own_iloadN X0 hx 44 rfl (hb hby at_43) rfl ?_
      obtain ⟨_, _, ⟨T19, L19, k19, n19⟩, -, X19, ⟨Lc19, hQ19, l19, y19, z19⟩, st19⟩ := Jvm.LawKit.callS X0 hx (y := (⟨"com/example/cambium/cambium/search/ShapeBuiltByPinLaw", "shape", "(I)Lcom/example/cambium/cambium/search/Shape;"⟩ : MethodName)) hown (mvT hZ (hw _ (List.mem_of_getElem? (i := 1) rfl))) (mvT hZ (hw _ (List.mem_of_getElem? (i := 2) rfl))) (mvT hZ (hw _ (List.mem_of_getElem? (i := 3) rfl))) (mvT hZ (hw _ (List.mem_of_getElem? (i := 4) rfl))) (by decide) (backOf (W := 0) (rms2 l Z a0 hw [] z_TIGHT h0 n0 Z0 S_z_TIGHT) hZ (hw _ (List.mem_of_getElem? (i := 4) rfl)) (hw _ (List.mem_of_getElem? (i := 3) rfl)) (by decide) (by decide)) (g := (mkF m 44 #[.val (.int x0), .val (.int x1), .val (.int (2 : Int32)), .val (.int (0 : Int32)), .val (.int (1 : Int32))] [(.int (2 : Int32))])) rfl (by rw [hml]; rfl) (argsL := [(.int (2 : Int32))]) (rest := []) (lenOf own_pd0 rfl) rfl (by show 2 * 0 + _ ≤ _; exact Nat.le_of_eq rfl) (hb hby at_44) (fun _ _ => ⟨rfl, e0, (by decide : 0 + 0 ≤ _), (by decide : 0 + 0 ≤ _)⟩)
      dsimp only [Pt.U, Pt.locs, Pt.cells, Pt.slots] at X19 l19 y19 z19 st19 hQ19
      subst l19 y19 z19
      obtain ⟨rfl, N19q, eh19⟩ := hQ19
      have N19 := Fr.app N0 N19q
      refine Goes.go st19 ?_
      show Goes p e below s _ _ _ T19 (mkF m 47 #[.val (.int x0), .val (.int x1), .val (.int (2 : Int32)), .val (.int (0 : Int32)), .val (.int (1 : Int32))] [(.ref z_TIGHT)])
      refine own_iloadN X19 hx 48 rfl (hb hby at_47) rfl ?_
      obtain ⟨_, _, ⟨T20, L20, k20, n20⟩, -, X20, ⟨Lc20, hQ20, l20, y20, z20⟩, st20⟩ := Jvm.LawKit.callS X19 hx (y := (⟨"com/example/cambium/cambium/search/ShapeBuiltByPinLaw", "strategy", "(I)Lcom/example/cambium/cambium/search/Strategy;"⟩ : MethodName)) hown (mvT hZ (hw _ (List.mem_of_getElem? (i := 8) rfl))) (mvT hZ (hw _ (List.mem_of_getElem? (i := 9) rfl))) (mvT hZ (hw _ (List.mem_of_getElem? (i := 3) rfl))) (mvT hZ (hw _ (List.mem_of_getElem? (i := 10) rfl))) (by decide) (backOf (W := 1) (rmg0 l Z a0 hw [] z_AUTO h0 n0 Z0 S_z_AUTO) hZ (hw _ (List.mem_of_getElem? (i := 10) rfl)) (hw _ (List.mem_of_getElem? (i := 3) rfl)) (by decide) (by decide)) (g := (mkF m 48 #[.val (.int x0), .val (.int x1), .val (.int (2 : Int32)), .val (.int (0 : Int32)), .val (.int (1 : Int32))] [(.int (0 : Int32)), (.ref z_TIGHT)])) rfl (by rw [hml]; rfl) (argsL := [(.int (0 : Int32))]) (rest := [(.ref z_TIGHT)]) (lenOf own_pd1 rfl) rfl (by show 2 * 0 + _ ≤ _; exact Nat.le_of_eq rfl) (hb hby at_48) (fun _ _ => ⟨rfl, eh19, (by decide : 0 + 0 ≤ _), (by decide : 0 + 0 ≤ _)⟩)
      dsimp only [Pt.U, Pt.locs, Pt.cells, Pt.slots] at X20 l20 y20 z20 st20 hQ20
      subst l20 y20 z20
      obtain ⟨rfl, N20q, eh20⟩ := hQ20
      have N20 := Fr.app N19 N20q
      refine Goes.go st20 ?_
      show Goes p e below s _ _ _ T20 (mkF m 51 #[.val (.int x0), .val (.int x1), .val (.int (2 : Int32)), .val (.int (0 : Int32)), .val (.int (1 : Int32))] [(.ref z_AUTO), (.ref z_TIGHT)])
      obtain ⟨cq21, kq21, q21a, q21b, q21c⟩ := isOf hZ eh20 E_z_TIGHT
      obtain ⟨_, _, ⟨T21, L21, k21, n21⟩, -, X21, ⟨Lc21, hQ21, l21, y21, z21⟩, st21⟩ := X20.virtualBack hx (y := (⟨"com/example/cambium/cambium/search/Shape", "builtBy", "(Lcom/example/cambium/cambium/search/Strategy;)Z"⟩ : MethodName)) (z := (⟨"com/example/cambium/cambium/search/Shape", "builtBy", "(Lcom/example/cambium/cambium/search/Strategy;)Z"⟩ : MethodName)) hown (mvT hZ (hw _ (List.mem_of_getElem? (i := 14) rfl))) (mvT hZ (hw _ (List.mem_of_getElem? (i := 15) rfl))) (notFace_of_selects (args := #[]) (mvT hZ (hw _ (List.mem_of_getElem? (i := 17) rfl)))) (mvT hZ (hw _ (List.mem_of_getElem? (i := 17) rfl))) (mvT hZ (hw _ (List.mem_of_getElem? (i := 16) rfl))) (by decide) (backOf (W := 0) (rmbC l Z a0 hw [] z_TIGHT z_AUTO z_ROOT z_LOOKUP h0 n0 Z0 S_z_ROOT S_z_LOOKUP ne_z_TIGHT_z_ROOT (Ne.symm ne_z_LOOKUP_z_AUTO)) hZ (hw _ (List.mem_of_getElem? (i := 18) rfl)) (hw _ (List.mem_of_getElem? (i := 6) rfl)) (by decide) (by decide)) q21a q21c (g := (mkF m 51 #[.val (.int x0), .val (.int x1), .val (.int (2 : Int32)), .val (.int (0 : Int32)), .val (.int (1 : Int32))] [(.ref z_AUTO), (.ref z_TIGHT)])) rfl (by rw [hml]; rfl) (Steps.refl _) (argsL := [(.ref z_AUTO)]) (rest := []) (lenOf own_pd2 rfl) rfl (by show 2 * 0 + _ ≤ _; exact Nat.le_of_eq rfl) (hb hby at_51) (fun _ _ => ⟨rfl, eh20, (by decide : 0 + 0 ≤ _), (by decide : 0 + 0 ≤ _)⟩)
      dsimp only [Pt.U, Pt.locs, Pt.cells, Pt.slots] at X21 l21 y21 z21 st21 hQ21
      subst l21 y21 z21
      obtain ⟨rfl, N21q, eh21⟩ := hQ21
      have N21 := Fr.app N20 N21q
      refine Goes.tr st21 ?_
      show Goes p e below s _ _ _ T21 (mkF m 54 #[.val (.int x0), .val (.int x1), .val (.int (2 : Int32)), .val (.int (0 : Int32)), .val (.int (1 : Int32))] [(.int (1 : Int32))])
      refine own_iload X21 hx 56 rfl (hb hby at_54) rfl ?_
      refine own_icmpN X21 hx 59 (hb hby at_56) (teq ((by decide) : (1 : Int32) = (1 : Int32))).2 rfl ?_
      refine own_iconst X21 hx 60 rfl (1 : Int32) (hb hby at_59) (by decide) ?_
      refine own_goto X21 hx 64 (hb hby at_60) (by decide) (by decide) ?_
      refine own_retZ X21 hx hlk Bd.returns (by decide) (hb hby at_64) (by decide) (by decide) eh21 ?_
      exact ⟨rfl, N21⟩
    · refine own_istore X0 hx 17 rfl #[.val (.int x0), .val (.int x1), .val (.int (2 : Int32)), .val (.int (1 : Int32)), .val (.int (1 : Int32))] (hb hby at_15) rfl ?_
      refine own_iloadN X0 hx 18 rfl (hb hby at_17) rfl ?_
      refine own_iconst X0 hx 19 rfl (1 : Int32) (hb hby at_18) (by decide) ?_
      refine own_icmpY X0 hx 30 (hb hby at_19) (feq ((by decide) : ¬ ((2 : Int32) = (1 : Int32)))).2 (by decide) (by decide) ?_
      refine own_iloadN X0 hx 31 rfl (hb hby at_30) rfl ?_
      refine own_iconst X0 hx 32 rfl (2 : Int32) (hb hby at_31) (by decide) ?_
      refine own_icmpN X0 hx 35 (hb hby at_32) (teq ((by decide) : (2 : Int32) = (2 : Int32))).2 rfl ?_
      refine own_iloadN X0 hx 36 rfl (hb hby at_35) rfl ?_
      refine own_iconst X0 hx 37 rfl (1 : Int32) (hb hby at_36) (by decide) ?_
      refine own_icmpN X0 hx 40 (hb hby at_37) (teq ((by decide) : (1 : Int32) = (1 : Int32))).2 rfl ?_
      refine own_iconst X0 hx 41 rfl (0 : Int32) (hb hby at_40) (by decide) ?_
      refine own_istore X0 hx 43 rfl #[.val (.int x0), .val (.int x1), .val (.int (2 : Int32)), .val (.int (1 : Int32)), .val (.int (0 : Int32))] (hb hby at_41) rfl ?_
      refine own_iloadN X0 hx 44 rfl (hb hby at_43) rfl ?_
      obtain ⟨_, _, ⟨T22, L22, k22, n22⟩, -, X22, ⟨Lc22, hQ22, l22, y22, z22⟩, st22⟩ := Jvm.LawKit.callS X0 hx (y := (⟨"com/example/cambium/cambium/search/ShapeBuiltByPinLaw", "shape", "(I)Lcom/example/cambium/cambium/search/Shape;"⟩ : MethodName)) hown (mvT hZ (hw _ (List.mem_of_getElem? (i := 1) rfl))) (mvT hZ (hw _ (List.mem_of_getElem? (i := 2) rfl))) (mvT hZ (hw _ (List.mem_of_getElem? (i := 3) rfl))) (mvT hZ (hw _ (List.mem_of_getElem? (i := 4) rfl))) (by decide) (backOf (W := 0) (rms2 l Z a0 hw [] z_TIGHT h0 n0 Z0 S_z_TIGHT) hZ (hw _ (List.mem_of_getElem? (i := 4) rfl)) (hw _ (List.mem_of_getElem? (i := 3) rfl)) (by decide) (by decide)) (g := (mkF m 44 #[.val (.int x0), .val (.int x1), .val (.int (2 : Int32)), .val (.int (1 : Int32)), .val (.int (0 : Int32))] [(.int (2 : Int32))])) rfl (by rw [hml]; rfl) (argsL := [(.int (2 : Int32))]) (rest := []) (lenOf own_pd0 rfl) rfl (by show 2 * 0 + _ ≤ _; exact Nat.le_of_eq rfl) (hb hby at_44) (fun _ _ => ⟨rfl, e0, (by decide : 0 + 0 ≤ _), (by decide : 0 + 0 ≤ _)⟩)
      dsimp only [Pt.U, Pt.locs, Pt.cells, Pt.slots] at X22 l22 y22 z22 st22 hQ22
      subst l22 y22 z22
      obtain ⟨rfl, N22q, eh22⟩ := hQ22
      have N22 := Fr.app N0 N22q
      refine Goes.go st22 ?_
      show Goes p e below s _ _ _ T22 (mkF m 47 #[.val (.int x0), .val (.int x1), .val (.int (2 : Int32)), .val (.int (1 : Int32)), .val (.int (0 : Int32))] [(.ref z_TIGHT)])
      refine own_iloadN X22 hx 48 rfl (hb hby at_47) rfl ?_
      obtain ⟨_, _, ⟨T23, L23, k23, n23⟩, -, X23, ⟨Lc23, hQ23, l23, y23, z23⟩, st23⟩ := Jvm.LawKit.callS X22 hx (y := (⟨"com/example/cambium/cambium/search/ShapeBuiltByPinLaw", "strategy", "(I)Lcom/example/cambium/cambium/search/Strategy;"⟩ : MethodName)) hown (mvT hZ (hw _ (List.mem_of_getElem? (i := 8) rfl))) (mvT hZ (hw _ (List.mem_of_getElem? (i := 9) rfl))) (mvT hZ (hw _ (List.mem_of_getElem? (i := 3) rfl))) (mvT hZ (hw _ (List.mem_of_getElem? (i := 10) rfl))) (by decide) (backOf (W := 1) (rmg1 l Z a0 hw [] z_LOOKUP h0 n0 Z0 S_z_LOOKUP) hZ (hw _ (List.mem_of_getElem? (i := 10) rfl)) (hw _ (List.mem_of_getElem? (i := 3) rfl)) (by decide) (by decide)) (g := (mkF m 48 #[.val (.int x0), .val (.int x1), .val (.int (2 : Int32)), .val (.int (1 : Int32)), .val (.int (0 : Int32))] [(.int (1 : Int32)), (.ref z_TIGHT)])) rfl (by rw [hml]; rfl) (argsL := [(.int (1 : Int32))]) (rest := [(.ref z_TIGHT)]) (lenOf own_pd1 rfl) rfl (by show 2 * 0 + _ ≤ _; exact Nat.le_of_eq rfl) (hb hby at_48) (fun _ _ => ⟨rfl, eh22, (by decide : 0 + 0 ≤ _), (by decide : 0 + 0 ≤ _)⟩)
      dsimp only [Pt.U, Pt.locs, Pt.cells, Pt.slots] at X23 l23 y23 z23 st23 hQ23
      subst l23 y23 z23
      obtain ⟨rfl, N23q, eh23⟩ := hQ23
      have N23 := Fr.app N22 N23q
      refine Goes.go st23 ?_
      show Goes p e below s _ _ _ T23 (mkF m 51 #[.val (.int x0), .val (.int x1), .val (.int (2 : Int32)), .val (.int (1 : Int32)), .val (.int (0 : Int32))] [(.ref z_LOOKUP), (.ref z_TIGHT)])
      obtain ⟨cq24, kq24, q24a, q24b, q24c⟩ := isOf hZ eh23 E_z_TIGHT
      obtain ⟨_, _, ⟨T24, L24, k24, n24⟩, -, X24, ⟨Lc24, hQ24, l24, y24, z24⟩, st24⟩ := X23.virtualBack hx (y := (⟨"com/example/cambium/cambium/search/Shape", "builtBy", "(Lcom/example/cambium/cambium/search/Strategy;)Z"⟩ : MethodName)) (z := (⟨"com/example/cambium/cambium/search/Shape", "builtBy", "(Lcom/example/cambium/cambium/search/Strategy;)Z"⟩ : MethodName)) hown (mvT hZ (hw _ (List.mem_of_getElem? (i := 14) rfl))) (mvT hZ (hw _ (List.mem_of_getElem? (i := 15) rfl))) (notFace_of_selects (args := #[]) (mvT hZ (hw _ (List.mem_of_getElem? (i := 17) rfl)))) (mvT hZ (hw _ (List.mem_of_getElem? (i := 17) rfl))) (mvT hZ (hw _ (List.mem_of_getElem? (i := 16) rfl))) (by decide) (backOf (W := 0) (rmbB l Z a0 hw [] z_TIGHT z_LOOKUP z_ROOT h0 n0 Z0 S_z_ROOT S_z_LOOKUP ne_z_TIGHT_z_ROOT) hZ (hw _ (List.mem_of_getElem? (i := 18) rfl)) (hw _ (List.mem_of_getElem? (i := 6) rfl)) (by decide) (by decide)) q24a q24c (g := (mkF m 51 #[.val (.int x0), .val (.int x1), .val (.int (2 : Int32)), .val (.int (1 : Int32)), .val (.int (0 : Int32))] [(.ref z_LOOKUP), (.ref z_TIGHT)])) rfl (by rw [hml]; rfl) (Steps.refl _) (argsL := [(.ref z_LOOKUP)]) (rest := []) (lenOf own_pd2 rfl) rfl (by show 2 * 0 + _ ≤ _; exact Nat.le_of_eq rfl) (hb hby at_51) (fun _ _ => ⟨rfl, eh23, (by decide : 0 + 0 ≤ _), (by decide : 0 + 0 ≤ _)⟩)
      dsimp only [Pt.U, Pt.locs, Pt.cells, Pt.slots] at X24 l24 y24 z24 st24 hQ24
      subst l24 y24 z24
      obtain ⟨rfl, N24q, eh24⟩ := hQ24
      have N24 := Fr.app N23 N24q
      refine Goes.tr st24 ?_
      show Goes p e below s _ _ _ T24 (mkF m 54 #[.val (.int x0), .val (.int x1), .val (.int (2 : Int32)), .val (.int (1 : Int32)), .val (.int (0 : Int32))] [(.int (0 : Int32))])
      refine own_iload X24 hx 56 rfl (hb hby at_54) rfl ?_
      refine own_icmpN X24 hx 59 (hb hby at_56) (teq ((by decide) : (0 : Int32) = (0 : Int32))).2 rfl ?_
      refine own_iconst X24 hx 60 rfl (1 : Int32) (hb hby at_59) (by decide) ?_
      refine own_goto X24 hx 64 (hb hby at_60) (by decide) (by decide) ?_
      refine own_retZ X24 hx hlk Bd.returns (by decide) (hb hby at_64) (by decide) (by decide) eh24 ?_
      exact ⟨rfl, N24⟩
    · refine own_istore X0 hx 17 rfl #[.val (.int x0), .val (.int x1), .val (.int (2 : Int32)), .val (.int (2 : Int32)), .val (.int (1 : Int32))] (hb hby at_15) rfl ?_
      refine own_iloadN X0 hx 18 rfl (hb hby at_17) rfl ?_
      refine own_iconst X0 hx 19 rfl (1 : Int32) (hb hby at_18) (by decide) ?_
      refine own_icmpY X0 hx 30 (hb hby at_19) (feq ((by decide) : ¬ ((2 : Int32) = (1 : Int32)))).2 (by decide) (by decide) ?_
      refine own_iloadN X0 hx 31 rfl (hb hby at_30) rfl ?_
      refine own_iconst X0 hx 32 rfl (2 : Int32) (hb hby at_31) (by decide) ?_
      refine own_icmpN X0 hx 35 (hb hby at_32) (teq ((by decide) : (2 : Int32) = (2 : Int32))).2 rfl ?_
      refine own_iloadN X0 hx 36 rfl (hb hby at_35) rfl ?_
      refine own_iconst X0 hx 37 rfl (1 : Int32) (hb hby at_36) (by decide) ?_
      refine own_icmpY X0 hx 43 (hb hby at_37) (feq ((by decide) : ¬ ((2 : Int32) = (1 : Int32)))).2 (by decide) (by decide) ?_
      refine own_iloadN X0 hx 44 rfl (hb hby at_43) rfl ?_
      obtain ⟨_, _, ⟨T25, L25, k25, n25⟩, -, X25, ⟨Lc25, hQ25, l25, y25, z25⟩, st25⟩ := Jvm.LawKit.callS X0 hx (y := (⟨"com/example/cambium/cambium/search/ShapeBuiltByPinLaw", "shape", "(I)Lcom/example/cambium/cambium/search/Shape;"⟩ : MethodName)) hown (mvT hZ (hw _ (List.mem_of_getElem? (i := 1) rfl))) (mvT hZ (hw _ (List.mem_of_getElem? (i := 2) rfl))) (mvT hZ (hw _ (List.mem_of_getElem? (i := 3) rfl))) (mvT hZ (hw _ (List.mem_of_getElem? (i := 4) rfl))) (by decide) (backOf (W := 0) (rms2 l Z a0 hw [] z_TIGHT h0 n0 Z0 S_z_TIGHT) hZ (hw _ (List.mem_of_getElem? (i := 4) rfl)) (hw _ (List.mem_of_getElem? (i := 3) rfl)) (by decide) (by decide)) (g := (mkF m 44 #[.val (.int x0), .val (.int x1), .val (.int (2 : Int32)), .val (.int (2 : Int32)), .val (.int (1 : Int32))] [(.int (2 : Int32))])) rfl (by rw [hml]; rfl) (argsL := [(.int (2 : Int32))]) (rest := []) (lenOf own_pd0 rfl) rfl (by show 2 * 0 + _ ≤ _; exact Nat.le_of_eq rfl) (hb hby at_44) (fun _ _ => ⟨rfl, e0, (by decide : 0 + 0 ≤ _), (by decide : 0 + 0 ≤ _)⟩)
      dsimp only [Pt.U, Pt.locs, Pt.cells, Pt.slots] at X25 l25 y25 z25 st25 hQ25
      subst l25 y25 z25
      obtain ⟨rfl, N25q, eh25⟩ := hQ25
      have N25 := Fr.app N0 N25q
      refine Goes.go st25 ?_
      show Goes p e below s _ _ _ T25 (mkF m 47 #[.val (.int x0), .val (.int x1), .val (.int (2 : Int32)), .val (.int (2 : Int32)), .val (.int (1 : Int32))] [(.ref z_TIGHT)])
      refine own_iloadN X25 hx 48 rfl (hb hby at_47) rfl ?_
      obtain ⟨_, _, ⟨T26, L26, k26, n26⟩, -, X26, ⟨Lc26, hQ26, l26, y26, z26⟩, st26⟩ := Jvm.LawKit.callS X25 hx (y := (⟨"com/example/cambium/cambium/search/ShapeBuiltByPinLaw", "strategy", "(I)Lcom/example/cambium/cambium/search/Strategy;"⟩ : MethodName)) hown (mvT hZ (hw _ (List.mem_of_getElem? (i := 8) rfl))) (mvT hZ (hw _ (List.mem_of_getElem? (i := 9) rfl))) (mvT hZ (hw _ (List.mem_of_getElem? (i := 3) rfl))) (mvT hZ (hw _ (List.mem_of_getElem? (i := 10) rfl))) (by decide) (backOf (W := 1) (rmg2 l Z a0 hw [] z_SCAN h0 n0 Z0 S_z_SCAN) hZ (hw _ (List.mem_of_getElem? (i := 10) rfl)) (hw _ (List.mem_of_getElem? (i := 3) rfl)) (by decide) (by decide)) (g := (mkF m 48 #[.val (.int x0), .val (.int x1), .val (.int (2 : Int32)), .val (.int (2 : Int32)), .val (.int (1 : Int32))] [(.int (2 : Int32)), (.ref z_TIGHT)])) rfl (by rw [hml]; rfl) (argsL := [(.int (2 : Int32))]) (rest := [(.ref z_TIGHT)]) (lenOf own_pd1 rfl) rfl (by show 2 * 0 + _ ≤ _; exact Nat.le_of_eq rfl) (hb hby at_48) (fun _ _ => ⟨rfl, eh25, (by decide : 0 + 0 ≤ _), (by decide : 0 + 0 ≤ _)⟩)
      dsimp only [Pt.U, Pt.locs, Pt.cells, Pt.slots] at X26 l26 y26 z26 st26 hQ26
      subst l26 y26 z26
      obtain ⟨rfl, N26q, eh26⟩ := hQ26
      have N26 := Fr.app N25 N26q
      refine Goes.go st26 ?_
      show Goes p e below s _ _ _ T26 (mkF m 51 #[.val (.int x0), .val (.int x1), .val (.int (2 : Int32)), .val (.int (2 : Int32)), .val (.int (1 : Int32))] [(.ref z_SCAN), (.ref z_TIGHT)])
      obtain ⟨cq27, kq27, q27a, q27b, q27c⟩ := isOf hZ eh26 E_z_TIGHT
      obtain ⟨_, _, ⟨T27, L27, k27, n27⟩, -, X27, ⟨Lc27, hQ27, l27, y27, z27⟩, st27⟩ := X26.virtualBack hx (y := (⟨"com/example/cambium/cambium/search/Shape", "builtBy", "(Lcom/example/cambium/cambium/search/Strategy;)Z"⟩ : MethodName)) (z := (⟨"com/example/cambium/cambium/search/Shape", "builtBy", "(Lcom/example/cambium/cambium/search/Strategy;)Z"⟩ : MethodName)) hown (mvT hZ (hw _ (List.mem_of_getElem? (i := 14) rfl))) (mvT hZ (hw _ (List.mem_of_getElem? (i := 15) rfl))) (notFace_of_selects (args := #[]) (mvT hZ (hw _ (List.mem_of_getElem? (i := 17) rfl)))) (mvT hZ (hw _ (List.mem_of_getElem? (i := 17) rfl))) (mvT hZ (hw _ (List.mem_of_getElem? (i := 16) rfl))) (by decide) (backOf (W := 0) (rmbC l Z a0 hw [] z_TIGHT z_SCAN z_ROOT z_LOOKUP h0 n0 Z0 S_z_ROOT S_z_LOOKUP ne_z_TIGHT_z_ROOT ne_z_SCAN_z_LOOKUP) hZ (hw _ (List.mem_of_getElem? (i := 18) rfl)) (hw _ (List.mem_of_getElem? (i := 6) rfl)) (by decide) (by decide)) q27a q27c (g := (mkF m 51 #[.val (.int x0), .val (.int x1), .val (.int (2 : Int32)), .val (.int (2 : Int32)), .val (.int (1 : Int32))] [(.ref z_SCAN), (.ref z_TIGHT)])) rfl (by rw [hml]; rfl) (Steps.refl _) (argsL := [(.ref z_SCAN)]) (rest := []) (lenOf own_pd2 rfl) rfl (by show 2 * 0 + _ ≤ _; exact Nat.le_of_eq rfl) (hb hby at_51) (fun _ _ => ⟨rfl, eh26, (by decide : 0 + 0 ≤ _), (by decide : 0 + 0 ≤ _)⟩)
      dsimp only [Pt.U, Pt.locs, Pt.cells, Pt.slots] at X27 l27 y27 z27 st27 hQ27
      subst l27 y27 z27
      obtain ⟨rfl, N27q, eh27⟩ := hQ27
      have N27 := Fr.app N26 N27q
      refine Goes.tr st27 ?_
      show Goes p e below s _ _ _ T27 (mkF m 54 #[.val (.int x0), .val (.int x1), .val (.int (2 : Int32)), .val (.int (2 : Int32)), .val (.int (1 : Int32))] [(.int (1 : Int32))])
      refine own_iload X27 hx 56 rfl (hb hby at_54) rfl ?_
      refine own_icmpN X27 hx 59 (hb hby at_56) (teq ((by decide) : (1 : Int32) = (1 : Int32))).2 rfl ?_
      refine own_iconst X27 hx 60 rfl (1 : Int32) (hb hby at_59) (by decide) ?_
      refine own_goto X27 hx 64 (hb hby at_60) (by decide) (by decide) ?_
      refine own_retZ X27 hx hlk Bd.returns (by decide) (hb hby at_64) (by decide) (by decide) eh27 ?_
      exact ⟨rfl, N27⟩
set_option maxRecDepth 65536 in
set_option maxHeartbeats 40000000 in
theorem comes_1 {Post : Tables → Env → Array Value → State → Outcome → State → Prop} (hpost : ∀ tb e args s v u, (limb_1_1.after args s (.returned v) u = true ∧ limb_1_2.after args s (.returned v) u = true ∧ True) → FrameEnd s (.returned v) u (Jvm.fieldLocs frame_1_writes args s ++ Jvm.arrayLocs frame_1_arrays args s ++ Jvm.staticLocs frame_1_statics s) 0 0 → Post tb e args s (.returned v) u) :
    ArmFor flags0 classFile x code maxLocals ret World_1 tables_1 room_1 Calls_1 rest_1 Pre_1 Post := by
  intro l hfl _ _ p e ha hc hk s m args below hf hA hF happ hP
  obtain ⟨hcalls, hrest, hpre⟩ := hP
  obtain ⟨-, -, -, hnamed, -, -, -, hat⟩ := (Spec.applies_iff hf).mp happ
  obtain ⟨hg, hn⟩ := and_e (Cond.before_iff.mp (show (Jvm.Cond.and given_1 narrow_1).before args s = true from hpre))
  obtain ⟨gg1, gg2⟩ := and_e hg
  obtain ⟨gg3, gg4⟩ := and_e gg2
  obtain ⟨w0, w1, rfl⟩ : ∃ w0 w1 : Value, args = #[w0, w1] := by
    have hs : args.size = 2 := by simpa [Cond.value, given_1] using gg1
    obtain ⟨L⟩ := args
    match L, hs with
    | [w0, w1], _ => exact ⟨w0, w1, rfl⟩
  have hw := fun d (hd : d ∈ tables_1) => atoms_spec (ws := Jvm.Cond.code x code maxLocals ret :: tables_1) hat d (List.mem_cons_of_mem _ hd)
  have hfit : Fit s := fun {y c} hc i hi => by
    obtain ⟨ha, rfl⟩ := Array.getElem?_eq_some_iff.mp hc
    have q := List.all_eq_true.mp ((Array.all_eq_true_iff_forall_mem.mp hF) _ (Array.getElem_mem ha)) i (List.mem_range.mpr hi)
    simpa [Array.getElem?_eq_getElem hi] using q
  obtain ⟨i0, ei0⟩ := is_v gg3
  obtain rfl : w0 = (.int i0) := Option.some.inj ei0
  obtain ⟨i1, ei1⟩ := is_v gg4
  obtain rfl : w1 = (.int i1) := Option.some.inj ei1
  obtain ⟨nn1, nn2⟩ := and_e hn
  obtain ⟨z_ROOT, ev_z_ROOT⟩ := exa_v nn1
  have S_z_ROOT := Sta.start ev_z_ROOT (Or.inr ⟨(hw _ (List.mem_of_getElem? (i := 6) rfl)), (hw _ (List.mem_of_getElem? (i := 7) rfl))⟩)
  have E_z_ROOT := Exa.start ev_z_ROOT nn1
  obtain ⟨nn3, nn4⟩ := and_e nn2
  obtain ⟨z_AUTO, ev_z_AUTO⟩ := exa_v nn3
  have S_z_AUTO := Sta.start ev_z_AUTO (Or.inr ⟨(hw _ (List.mem_of_getElem? (i := 12) rfl)), (hw _ (List.mem_of_getElem? (i := 13) rfl))⟩)
  have E_z_AUTO := Exa.start ev_z_AUTO nn3
  obtain ⟨nn5, nn6⟩ := and_e nn4
  obtain ⟨z_TIGHT, ev_z_TIGHT⟩ := exa_v nn5
  have S_z_TIGHT := Sta.start ev_z_TIGHT (Or.inr ⟨(hw _ (List.mem_of_getElem? (i := 6) rfl)), (hw _ (List.mem_of_getElem? (i := 21) rfl))⟩)
  have E_z_TIGHT := Exa.start ev_z_TIGHT nn5
  obtain ⟨nn7, nn8⟩ := and_e nn6
  obtain ⟨z_LOOKUP, ev_z_LOOKUP⟩ := exa_v nn7
  have S_z_LOOKUP := Sta.start ev_z_LOOKUP (Or.inr ⟨(hw _ (List.mem_of_getElem? (i := 12) rfl)), (hw _ (List.mem_of_getElem? (i := 23) rfl))⟩)
  have E_z_LOOKUP := Exa.start ev_z_LOOKUP nn7
  obtain ⟨nn9, nn10⟩ := and_e nn8
  obtain ⟨nn11, nn12⟩ := and_e nn10
  obtain ⟨nn13, nn14⟩ := and_e nn12
  obtain ⟨z_SCAN, ev_z_SCAN⟩ := exa_v nn13
  have S_z_SCAN := Sta.start ev_z_SCAN (Or.inr ⟨(hw _ (List.mem_of_getElem? (i := 12) rfl)), (hw _ (List.mem_of_getElem? (i := 26) rfl))⟩)
  have E_z_SCAN := Exa.start ev_z_SCAN nn13
  obtain ⟨nn15, nn16⟩ := and_e nn14
  obtain ⟨nn17, nn18⟩ := and_e nn16
  obtain ⟨nn19, nn20⟩ := and_e nn18
  obtain ⟨z_MATCHED, ev_z_MATCHED⟩ := exa_v nn19
  have S_z_MATCHED := Sta.start ev_z_MATCHED (Or.inr ⟨(hw _ (List.mem_of_getElem? (i := 6) rfl)), (hw _ (List.mem_of_getElem? (i := 28) rfl))⟩)
  have E_z_MATCHED := Exa.start ev_z_MATCHED nn19
  obtain ⟨nn21, nn22⟩ := and_e nn20
  have O_ordinal_z_TIGHT := Fld.start (own_fldv ev_z_TIGHT (Term.int_eval (2)) nn9)
  have O_ordinal_z_ROOT := Fld.start (own_fldv ev_z_ROOT (Term.int_eval (0)) nn11)
  have O_ordinal_z_SCAN := Fld.start (own_fldv ev_z_SCAN (Term.int_eval (2)) nn15)
  have O_ordinal_z_LOOKUP := Fld.start (own_fldv ev_z_LOOKUP (Term.int_eval (1)) nn17)
  have O_ordinal_z_MATCHED := Fld.start (own_fldv ev_z_MATCHED (Term.int_eval (1)) nn21)
  have O_ordinal_z_AUTO := Fld.start (own_fldv ev_z_AUTO (Term.int_eval (0)) nn22)
  have ne_z_TIGHT_z_ROOT : z_TIGHT ≠ z_ROOT := Fld.ne O_ordinal_z_TIGHT O_ordinal_z_ROOT (fun h => absurd (Value.int.inj h) (by decide))
  have ne_z_TIGHT_z_MATCHED : z_TIGHT ≠ z_MATCHED := Fld.ne O_ordinal_z_TIGHT O_ordinal_z_MATCHED (fun h => absurd (Value.int.inj h) (by decide))
  have ne_z_ROOT_z_MATCHED : z_ROOT ≠ z_MATCHED := Fld.ne O_ordinal_z_ROOT O_ordinal_z_MATCHED (fun h => absurd (Value.int.inj h) (by decide))
  have ne_z_SCAN_z_LOOKUP : z_SCAN ≠ z_LOOKUP := Fld.ne O_ordinal_z_SCAN O_ordinal_z_LOOKUP (fun h => absurd (Value.int.inj h) (by decide))
  have ne_z_SCAN_z_AUTO : z_SCAN ≠ z_AUTO := Fld.ne O_ordinal_z_SCAN O_ordinal_z_AUTO (fun h => absurd (Value.int.inj h) (by decide))
  have ne_z_LOOKUP_z_AUTO : z_LOOKUP ≠ z_AUTO := Fld.ne O_ordinal_z_LOOKUP O_ordinal_z_AUTO (fun h => absurd (Value.int.inj h) (by decide))
  obtain ⟨n, o, h1, h2, h3, _, L, rfl, ⟨rfl, N⟩, hq⟩ := rm0 l s _ hw tables_1 i0 i1 z_ROOT z_AUTO z_TIGHT z_LOOKUP z_SCAN z_MATCHED s.heap s.heap.size (Nat.le_refl _) S_z_ROOT E_z_ROOT S_z_AUTO E_z_AUTO S_z_TIGHT E_z_TIGHT S_z_LOOKUP E_z_LOOKUP S_z_SCAN E_z_SCAN S_z_MATCHED E_z_MATCHED O_ordinal_z_TIGHT O_ordinal_z_ROOT O_ordinal_z_SCAN O_ordinal_z_LOOKUP O_ordinal_z_MATCHED O_ordinal_z_AUTO ne_z_TIGHT_z_ROOT ne_z_TIGHT_z_MATCHED ne_z_ROOT_z_MATCHED ne_z_SCAN_z_LOOKUP ne_z_SCAN_z_AUTO ne_z_LOOKUP_z_AUTO p e ha hc hk s m _ below hf ((Spec.applies_iff_loose hf).mp happ).1 ⟨rfl, State.Warmed39.refl s, rfl⟩ trivial
  refine ⟨n, _, h1, h2, h3, hpost _ _ _ _ _ _ ⟨Cond.after_iff.mpr rfl, Cond.after_iff.mpr (eq_i res_at (Term.int_eval (1)) rfl), trivial⟩ ⟨hq.1, hq.2.1, (hq.2.2.sift fun y hy => Or.inr (N y hy)).mono (by decide) (by decide)⟩⟩
theorem main_1_1 : Claimed_1_1 := comes_1 fun _ _ _ _ _ _ h hF => ⟨h.1, hF⟩
theorem main_1_2 : Claimed_1_2 := comes_1 fun _ _ _ _ _ _ h hF => ⟨h.2.1, hF⟩
end Jvm.Pilot.@@N@@
namespace Jvm.Pilot.@@N@@
open Jvm Jvm.ClassFile Sem Op Lib Jvm.Free Jvm.Stand Jvm.Pilot.@@N@@.Jvm.D
/-! MADE BY PROGRAM (witnessworld.py) out of the Statement's table words and the real class files: 13 classes; the members and pool entries that the words name. The judged class is class 1, her method 3. -/
namespace start1
open Jvm.ClassFile
def u (s : String) : CpInfo := .utf8 (stringToUtf16 s)
/-- a pool by its gaps: so many unusable entries, then the entry; so many at the end -/
def gap : Nat → List CpInfo → List CpInfo
  | 0, r => r
  | n + 1, r => .unusable :: gap n r
def poolList (es : List (Nat × CpInfo)) (last : Nat) : List CpInfo := es.foldr (fun e r => gap e.1 (e.2 :: r)) (gap last [])
def pool (es : List (Nat × CpInfo)) (last : Nat) : Array CpInfo := ⟨poolList es last⟩
def fileOf (pool : Array CpInfo) (this : Nat) (attrs : Array Attribute := #[]) (ms : Array MethodInfo := #[]) (fl : Nat := 33) (sup : Nat := 0) (ifs : Array Nat := #[]) (fds : Array FieldInfo := #[]) : ClassFile where
  minorVersion := 0
  majorVersion := 65
  constantPool := pool
  accessFlags := fl
  thisClass := this
  superClass := sup
  interfaces := ifs
  fields := fds
  methods := ms
  attributes := attrs
def plain (name : String) (sup : Option ClassId) : Class where
  name := name
  kind := .ordinary
  loader := none
  accessFlags := 33
  super := sup
  interfaces := #[]
  cf := none
  fields := #[]
  methods := #[]
  instanceTypes := #[]
  staticTypes := #[]
  resolved := #[]
  callSites := []
  init := .initialized
  statics := none
  mirror := none

def pool0 : Array CpInfo := pool [(5, u "<init>"), (0, u "()V"), (1, .class_ 10), (1, u "java/lang/Object")] 113

def k0m0 : Method := { name := "<init>", desc := "()V", sig := { parameters := [], returnType := none }, accessFlags := 1, code := none }
/-- java/lang/Object -/
def k0 : Class := { plain "java/lang/Object" none with
  accessFlags := 33
  interfaces := #[]
  cf := some (fileOf pool0 8 #[] #[{ accessFlags := 1, nameIndex := 5, descriptorIndex := 6, attributes := #[] }] 33 0 #[] #[])
  fields := #[]
  methods := #[k0m0]
  instanceTypes := #[]
  staticTypes := #[]
  resolved := Array.replicate 124 none
  statics := none }

def pool1 : Array CpInfo := pool [(2, .class_ 4), (1, u "java/lang/Object"), (0, u "<init>"), (0, u "()V"), (0, .fieldref 8 9), (0, .class_ 10), (0, .nameAndType 11 12), (0, u "com/example/cambium/cambium/search/Shape"), (0, u "ROOT"), (0, u "Lcom/example/cambium/cambium/search/Shape;"), (0, .fieldref 8 14), (0, .nameAndType 15 12), (0, u "MATCHED"), (0, .fieldref 8 17), (0, .nameAndType 18 12), (0, u "TIGHT"), (0, .fieldref 20 21), (0, .class_ 22), (0, .nameAndType 23 24), (0, u "com/example/cambium/cambium/search/Strategy"), (0, u "AUTO"), (0, u "Lcom/example/cambium/cambium/search/Strategy;"), (0, .fieldref 20 26), (0, .nameAndType 27 24), (0, u "LOOKUP"), (0, .fieldref 20 29), (0, .nameAndType 30 24), (0, u "SCAN"), (0, .integer 2147483647), (0, .methodref 33 34), (0, .class_ 35), (0, .nameAndType 36 37), (0, u "com/example/cambium/cambium/search/ShapeBuiltByPinLaw"), (0, u "shape"), (0, u "(I)Lcom/example/cambium/cambium/search/Shape;"), (0, .methodref 33 39), (0, .nameAndType 40 41), (0, u "strategy"), (0, u "(I)Lcom/example/cambium/cambium/search/Strategy;"), (0, .methodref 8 43), (0, .nameAndType 44 45), (0, u "builtBy"), (0, u "(Lcom/example/cambium/cambium/search/Strategy;)Z"), (3, u "law"), (0, u "(II)Z")] 2

def k1m0 : Method := { name := "<init>", desc := "()V", sig := { parameters := [], returnType := none }, accessFlags := 1, code := none }
def k1c1 : Code := { maxStack := 2, maxLocals := 1, code := method_2_code, exceptionTable := #[], attributes := #[] }
def k1m1 : Method := { name := "shape", desc := "(I)Lcom/example/cambium/cambium/search/Shape;", sig := { parameters := [.int], returnType := some (.object "com/example/cambium/cambium/search/Shape") }, accessFlags := 10, code := some k1c1 }
def k1c2 : Code := { maxStack := 2, maxLocals := 1, code := method_3_code, exceptionTable := #[], attributes := #[] }
def k1m2 : Method := { name := "strategy", desc := "(I)Lcom/example/cambium/cambium/search/Strategy;", sig := { parameters := [.int], returnType := some (.object "com/example/cambium/cambium/search/Strategy") }, accessFlags := 10, code := some k1c2 }
def k1c3 : Code := { maxStack := 2, maxLocals := 5, code := code, exceptionTable := #[], attributes := #[] }
def k1m3 : Method := { name := "law", desc := "(II)Z", sig := { parameters := [.int, .int], returnType := some .boolean }, accessFlags := 9, code := some k1c3 }
/-- com/example/cambium/cambium/search/ShapeBuiltByPinLaw -/
def k1 : Class := { plain "com/example/cambium/cambium/search/ShapeBuiltByPinLaw" (some 0) with
  accessFlags := 49
  interfaces := #[]
  cf := some (fileOf pool1 33 #[] #[{ accessFlags := 1, nameIndex := 5, descriptorIndex := 6, attributes := #[] }, { accessFlags := 10, nameIndex := 36, descriptorIndex := 37, attributes := #[] }, { accessFlags := 10, nameIndex := 40, descriptorIndex := 41, attributes := #[] }, { accessFlags := 9, nameIndex := 49, descriptorIndex := 50, attributes := #[] }] 49 2 #[] #[])
  fields := #[]
  methods := #[k1m0, k1m1, k1m2, k1m3]
  instanceTypes := #[]
  staticTypes := #[]
  resolved := Array.replicate 53 none
  statics := none }

def pool2 : Array CpInfo := pool [(1, .class_ 2), (0, u "java/lang/constant/Constable"), (0, .class_ 4), (0, u "java/lang/Object")] 6

/-- java/lang/constant/Constable -/
def k2 : Class := { plain "java/lang/constant/Constable" (some 0) with
  accessFlags := 1537
  interfaces := #[]
  cf := some (fileOf pool2 1 #[] #[] 1537 3 #[] #[])
  fields := #[]
  methods := #[]
  instanceTypes := #[]
  staticTypes := #[]
  resolved := Array.replicate 11 none
  statics := none }

def pool3 : Array CpInfo := pool [(1, .class_ 2), (0, u "java/lang/Comparable"), (0, .class_ 4), (0, u "java/lang/Object")] 7

/-- java/lang/Comparable -/
def k3 : Class := { plain "java/lang/Comparable" (some 0) with
  accessFlags := 1537
  interfaces := #[]
  cf := some (fileOf pool3 1 #[] #[] 1537 3 #[] #[])
  fields := #[]
  methods := #[]
  instanceTypes := #[]
  staticTypes := #[]
  resolved := Array.replicate 12 none
  statics := none }

def pool4 : Array CpInfo := pool [(1, .class_ 2), (0, u "java/io/Serializable"), (0, .class_ 4), (0, u "java/lang/Object")] 2

/-- java/io/Serializable -/
def k4 : Class := { plain "java/io/Serializable" (some 0) with
  accessFlags := 1537
  interfaces := #[]
  cf := some (fileOf pool4 1 #[] #[] 1537 3 #[] #[])
  fields := #[]
  methods := #[]
  instanceTypes := #[]
  staticTypes := #[]
  resolved := Array.replicate 7 none
  statics := none }

def pool5 : Array CpInfo := pool [(2, .class_ 4), (1, u "java/lang/Enum"), (0, u "name"), (0, u "Ljava/lang/String;"), (2, u "ordinal"), (0, u "I"), (1, .class_ 14), (1, u "java/lang/Object"), (4, u "hash"), (86, .class_ 108), (1, u "java/lang/Enum$EnumDesc"), (2, .class_ 112), (0, u "java/lang/constant/Constable"), (0, .class_ 114), (0, u "java/lang/Comparable"), (0, .class_ 116), (0, u "java/io/Serializable")] 87

/-- java/lang/Enum -/
def k5 : Class := { plain "java/lang/Enum" (some 0) with
  accessFlags := 1057
  interfaces := #[2, 3, 4]
  cf := some (fileOf pool5 2 #[.nestMembers #[106]] #[] 1057 12 #[111, 113, 115] #[{ accessFlags := 18, nameIndex := 5, descriptorIndex := 6, attributes := #[] }, { accessFlags := 18, nameIndex := 9, descriptorIndex := 10, attributes := #[] }, { accessFlags := 2, nameIndex := 19, descriptorIndex := 10, attributes := #[] }])
  fields := #[{ name := "name", type := (.object "java/lang/String"), accessFlags := 18, slot := 0, constantValue := 0 }, { name := "ordinal", type := .int, accessFlags := 18, slot := 1, constantValue := 0 }, { name := "hash", type := .int, accessFlags := 2, slot := 2, constantValue := 0 }]
  methods := #[]
  instanceTypes := #[(.object "java/lang/String"), .int, .int]
  staticTypes := #[]
  resolved := Array.replicate 204 none
  statics := none }

def pool6 : Array CpInfo := pool [(1, .class_ 2), (0, u "com/example/cambium/cambium/search/Shape"), (0, .fieldref 1 4), (0, .nameAndType 5 6), (0, u "ROOT"), (0, u "Lcom/example/cambium/cambium/search/Shape;"), (2, u "MATCHED"), (2, u "TIGHT"), (2, u "$VALUES"), (0, u "[Lcom/example/cambium/cambium/search/Shape;"), (6, .class_ 25), (1, u "java/lang/Enum"), (24, u "builtBy"), (0, u "(Lcom/example/cambium/cambium/search/Strategy;)Z"), (7, .class_ 60), (0, u "com/example/cambium/cambium/search/Strategy"), (7, .fieldref 59 69), (0, .nameAndType 70 71), (0, u "LOOKUP"), (0, u "Lcom/example/cambium/cambium/search/Strategy;")] 35

def k6c0 : Code := { maxStack := 2, maxLocals := 2, code := prog_48_method_7_code, exceptionTable := #[], attributes := #[] }
def k6m0 : Method := { name := "builtBy", desc := "(Lcom/example/cambium/cambium/search/Strategy;)Z", sig := { parameters := [(.object "com/example/cambium/cambium/search/Strategy")], returnType := some .boolean }, accessFlags := 0, code := some k6c0 }
/-- com/example/cambium/cambium/search/Shape -/
def k6 : Class := { plain "com/example/cambium/cambium/search/Shape" (some 5) with
  accessFlags := 16433
  interfaces := #[]
  cf := some (fileOf pool6 1 #[] #[{ accessFlags := 0, nameIndex := 50, descriptorIndex := 51, attributes := #[] }] 16433 23 #[] #[{ accessFlags := 16409, nameIndex := 5, descriptorIndex := 6, attributes := #[] }, { accessFlags := 16409, nameIndex := 9, descriptorIndex := 6, attributes := #[] }, { accessFlags := 16409, nameIndex := 12, descriptorIndex := 6, attributes := #[] }, { accessFlags := 4122, nameIndex := 15, descriptorIndex := 16, attributes := #[] }])
  fields := #[{ name := "ROOT", type := (.object "com/example/cambium/cambium/search/Shape"), accessFlags := 16409, slot := 0, constantValue := 0 }, { name := "MATCHED", type := (.object "com/example/cambium/cambium/search/Shape"), accessFlags := 16409, slot := 1, constantValue := 0 }, { name := "TIGHT", type := (.object "com/example/cambium/cambium/search/Shape"), accessFlags := 16409, slot := 2, constantValue := 0 }, { name := "$VALUES", type := (.array (.object "com/example/cambium/cambium/search/Shape")), accessFlags := 4122, slot := 3, constantValue := 0 }]
  methods := #[k6m0]
  instanceTypes := #[(.object "java/lang/String"), .int, .int]
  staticTypes := #[(.object "com/example/cambium/cambium/search/Shape"), (.object "com/example/cambium/cambium/search/Shape"), (.object "com/example/cambium/cambium/search/Shape"), (.array (.object "com/example/cambium/cambium/search/Shape"))]
  resolved := Array.replicate 107 none
  statics := some 0 }

def pool7 : Array CpInfo := pool [(1, .class_ 2), (0, u "com/example/cambium/cambium/search/Strategy"), (2, u "AUTO"), (0, u "Lcom/example/cambium/cambium/search/Strategy;"), (2, u "LOOKUP"), (2, u "SCAN"), (2, u "$VALUES"), (0, u "[Lcom/example/cambium/cambium/search/Strategy;"), (6, .class_ 25), (1, u "java/lang/Enum")] 41

/-- com/example/cambium/cambium/search/Strategy -/
def k7 : Class := { plain "com/example/cambium/cambium/search/Strategy" (some 5) with
  accessFlags := 16433
  interfaces := #[]
  cf := some (fileOf pool7 1 #[] #[] 16433 23 #[] #[{ accessFlags := 16409, nameIndex := 5, descriptorIndex := 6, attributes := #[] }, { accessFlags := 16409, nameIndex := 9, descriptorIndex := 6, attributes := #[] }, { accessFlags := 16409, nameIndex := 12, descriptorIndex := 6, attributes := #[] }, { accessFlags := 4122, nameIndex := 15, descriptorIndex := 16, attributes := #[] }])
  fields := #[{ name := "AUTO", type := (.object "com/example/cambium/cambium/search/Strategy"), accessFlags := 16409, slot := 0, constantValue := 0 }, { name := "LOOKUP", type := (.object "com/example/cambium/cambium/search/Strategy"), accessFlags := 16409, slot := 1, constantValue := 0 }, { name := "SCAN", type := (.object "com/example/cambium/cambium/search/Strategy"), accessFlags := 16409, slot := 2, constantValue := 0 }, { name := "$VALUES", type := (.array (.object "com/example/cambium/cambium/search/Strategy")), accessFlags := 4122, slot := 3, constantValue := 0 }]
  methods := #[]
  instanceTypes := #[(.object "java/lang/String"), .int, .int]
  staticTypes := #[(.object "com/example/cambium/cambium/search/Strategy"), (.object "com/example/cambium/cambium/search/Strategy"), (.object "com/example/cambium/cambium/search/Strategy"), (.array (.object "com/example/cambium/cambium/search/Strategy"))]
  resolved := Array.replicate 67 none
  statics := some 1 }

def pool8 : Array CpInfo := pool [(1, u "java/lang/Cloneable"), (0, .class_ 1), (0, u "java/lang/Object"), (0, .class_ 3)] 3

/-- java/lang/Cloneable -/
def k8 : Class := { plain "java/lang/Cloneable" (some 0) with
  accessFlags := 1537
  interfaces := #[]
  cf := some (fileOf pool8 2 #[] #[] 1537 4 #[] #[])
  fields := #[]
  methods := #[]
  instanceTypes := #[]
  staticTypes := #[]
  resolved := Array.replicate 8 none
  statics := none }

/-- the primitive byte -/
def k9 : Class := { plain "byte" none with kind := .primitive 'B', accessFlags := 0x411 }
/-- [B -/
def k10 : Class := { plain "[B" (some 0) with kind := .array 9 .byte, interfaces := #[8, 4], accessFlags := 1041 }

/-- the primitive int -/
def k11 : Class := { plain "int" none with kind := .primitive 'I', accessFlags := 0x411 }
/-- [I -/
def k12 : Class := { plain "[I" (some 0) with kind := .array 11 .int, interfaces := #[8, 4], accessFlags := 1041 }

def heap : Heap := #[{ cls := 6, slots := #[.ref 2, .ref 3, .ref 4, .null], vm := .statics 6 },
  { cls := 7, slots := #[.ref 5, .ref 6, .ref 7, .null], vm := .statics 7 },
  { cls := 6, slots := #[.null, .int 0, .int 0], vm := .none },
  { cls := 6, slots := #[.null, .int 1, .int 0], vm := .none },
  { cls := 6, slots := #[.null, .int 2, .int 0], vm := .none },
  { cls := 7, slots := #[.null, .int 0, .int 0], vm := .none },
  { cls := 7, slots := #[.null, .int 1, .int 0], vm := .none },
  { cls := 7, slots := #[.null, .int 2, .int 0], vm := .none }]
def classes : Array Class := #[k0, k1, k2, k3, k4, k5, k6, k7, k8, k9, k10, k11, k12]
def interned : List (Array UInt16 × Addr) := []
def slotsUsed : Nat := 26
def theMethod : MethodId := ⟨1, 3⟩
def args0 : Array Value := #[.int 5, .int 4]
def aboutOver (below : List Frame) : State where
  vm := { classes := classes, interned := interned.toArray }
  heap := heap
  slotsUsed := slotsUsed
  threads := #[{ frames := .invoking theMethod args0 :: below }]
def below0 : List Frame := [.native { method := ⟨0, 0⟩, args := #[] }]
def about1 : State := aboutOver below0
def p0 : Program := .bare "" "" ""
def e0 : Env := launch0.env 0 0 0
theorem w_frames : about1.frames = Frame.invoking theMethod args0 :: below0 := rfl
set_option maxRecDepth 65536 in
theorem w_args : argsFit about1.vm theMethod args0 = true := by decide +kernel
set_option maxRecDepth 65536 in
theorem w_heap : heapFits about1 = true := by decide +kernel
set_option maxRecDepth 65536 in
theorem w_runnable : about1.curStatus? = some .runnable := by decide +kernel
set_option maxRecDepth 65536 in
theorem w_alone : about1.alone = true := by decide +kernel
set_option maxRecDepth 65536 in
theorem w_named : about1.methodNamed? x = some theMethod := by decide +kernel
set_option maxRecDepth 65536 in
theorem w_hears : about1.hears theMethod below0 = true := by decide +kernel
set_option maxRecDepth 65536 in
theorem w_ripe : about1.ripe theMethod args0 below0 = true := by decide +kernel
theorem w_running : about1.status = .running := rfl
set_option maxRecDepth 65536 in
theorem w_room : about1.hasRoom e0.platform room_1 = true :=
  launch0.hasRoom_least _ room_1 (by decide +kernel) (by decide +kernel) (by decide +kernel) (by decide +kernel) (by decide +kernel) (by decide +kernel)
theorem allAtoms_all (ts : List Jvm.Cond) (a : Array Jvm.Value) (st : Jvm.State) : (allAtoms ts).before a st = ts.all (fun c => c.before a st) := by
  induction ts with
  | nil => rfl
  | cons c t ih =>
    show (Jvm.Cond.and c (allAtoms t)).before a st = _
    rw [Jvm.Cond.before_and, ih, List.all_cons]
def words1 : List Jvm.Cond := Jvm.Cond.code x code maxLocals ret :: tables_1
/-- a 'code' word, met by the world's own term for the bytes: nothing is compared byte by byte -/
theorem code_word {y : MethodName} {bytes : ByteArray} {mx : Nat} {rt : Option FieldType} {a : Array Value} {s : State} {m : MethodId} {meth : Method} {c : Code} (h1 : s.methodNamed? y = some m) (h2 : s.vm.method? m = some meth) (h3 : meth.code = some c) (h4 : c.code = bytes)
    (h5 : (c.maxLocals == mx && c.exceptionTable.isEmpty && decide (c.maxStack ≤ mostOperands) && decide (meth.sig.returnType = rt) && !meth.locks && decide (parseMethodDescriptor y.desc = some meth.sig)) = true) : (Jvm.Cond.code y bytes mx rt).before a s = true := by
  simp only [Bool.and_eq_true, beq_iff_eq, Bool.not_eq_true', decide_eq_true_eq] at h5
  obtain ⟨⟨⟨⟨⟨g1, g2⟩, g3⟩, g4⟩, g5⟩, g6⟩ := h5
  simp [Cond.before, Cond.holds, Cond.value, h1, h2, h3, h4, g1, g2, g3, g4, g5, g6]
def isCode : Jvm.Cond → Bool
  | .code _ _ _ _ => true
  | _ => false
theorem all_split {L : List Jvm.Cond} {P : Jvm.Cond → Bool} (h1 : L.all (fun c => isCode c || P c) = true) (h2 : ∀ c ∈ L.filter isCode, P c = true) : L.all P = true := by
  refine List.all_eq_true.mpr fun c hc => ?_
  have h := List.all_eq_true.mp h1 c hc
  rcases Bool.eq_false_or_eq_true (isCode c) with hi | hi
  · exact h2 c (List.mem_filter.mpr ⟨hc, hi⟩)
  · simpa [hi] using h
set_option maxRecDepth 65536 in
theorem w_c0 : (Jvm.Cond.code x code maxLocals ret).before args0 about1 = true := code_word (m := ⟨1, 3⟩) (meth := k1m3) (c := k1c3) (by decide +kernel) rfl rfl rfl (by decide +kernel)
set_option maxRecDepth 65536 in
theorem w_c1 : (Jvm.Cond.code ({ cls := "com/example/cambium/cambium/search/ShapeBuiltByPinLaw", name := "shape", desc := "(I)Lcom/example/cambium/cambium/search/Shape;" } : Jvm.MethodName) method_2_code (1 : Nat) (Option.some (Jvm.ClassFile.FieldType.object "com/example/cambium/cambium/search/Shape"))).before args0 about1 = true := code_word (m := ⟨1, 1⟩) (meth := k1m1) (c := k1c1) (by decide +kernel) rfl rfl rfl (by decide +kernel)
set_option maxRecDepth 65536 in
theorem w_c2 : (Jvm.Cond.code ({ cls := "com/example/cambium/cambium/search/ShapeBuiltByPinLaw", name := "strategy", desc := "(I)Lcom/example/cambium/cambium/search/Strategy;" } : Jvm.MethodName) method_3_code (1 : Nat) (Option.some (Jvm.ClassFile.FieldType.object "com/example/cambium/cambium/search/Strategy"))).before args0 about1 = true := code_word (m := ⟨1, 2⟩) (meth := k1m2) (c := k1c2) (by decide +kernel) rfl rfl rfl (by decide +kernel)
set_option maxRecDepth 65536 in
theorem w_c3 : (Jvm.Cond.code ({ cls := "com/example/cambium/cambium/search/Shape", name := "builtBy", desc := "(Lcom/example/cambium/cambium/search/Strategy;)Z" } : Jvm.MethodName) prog_48_method_7_code (2 : Nat) (Option.some Jvm.ClassFile.FieldType.boolean)).before args0 about1 = true := code_word (m := ⟨6, 0⟩) (meth := k6m0) (c := k6c0) (by decide +kernel) rfl rfl rfl (by decide +kernel)
def codes1 : List Jvm.Cond := [Jvm.Cond.code x code maxLocals ret, Jvm.Cond.code ({ cls := "com/example/cambium/cambium/search/ShapeBuiltByPinLaw", name := "shape", desc := "(I)Lcom/example/cambium/cambium/search/Shape;" } : Jvm.MethodName) method_2_code (1 : Nat) (Option.some (Jvm.ClassFile.FieldType.object "com/example/cambium/cambium/search/Shape")), Jvm.Cond.code ({ cls := "com/example/cambium/cambium/search/ShapeBuiltByPinLaw", name := "strategy", desc := "(I)Lcom/example/cambium/cambium/search/Strategy;" } : Jvm.MethodName) method_3_code (1 : Nat) (Option.some (Jvm.ClassFile.FieldType.object "com/example/cambium/cambium/search/Strategy")), Jvm.Cond.code ({ cls := "com/example/cambium/cambium/search/Shape", name := "builtBy", desc := "(Lcom/example/cambium/cambium/search/Strategy;)Z" } : Jvm.MethodName) prog_48_method_7_code (2 : Nat) (Option.some Jvm.ClassFile.FieldType.boolean)]
set_option maxRecDepth 65536 in
theorem codes_eq : words1.filter isCode = codes1 := rfl
theorem w_codes : ∀ c ∈ words1.filter isCode, c.before args0 about1 = true := by
  rw [codes_eq]
  intro c hc
  simp only [codes1, List.mem_cons, List.not_mem_nil, or_false] at hc
  rcases hc with rfl | rfl | rfl | rfl
  · exact w_c0
  · exact w_c1
  · exact w_c2
  · exact w_c3
set_option maxRecDepth 65536 in
theorem w_t1 : (words1.take 24).all (fun c => isCode c || c.before args0 about1) = true := by decide +kernel
set_option maxRecDepth 65536 in
theorem w_t2 : (words1.drop 24).all (fun c => isCode c || c.before args0 about1) = true := by decide +kernel
theorem w_tables : (allAtoms (Jvm.Cond.code x code maxLocals ret :: tables_1)).before args0 about1 = true := by
  rw [allAtoms_all]
  show words1.all (fun c => c.before args0 about1) = true
  refine all_split ?_ w_codes
  rw [← List.take_append_drop 24 words1, List.all_append, w_t1, w_t2]
  rfl
set_option maxRecDepth 65536 in
theorem w_case : (Jvm.Cond.and given_1 narrow_1).before args0 about1 = true := by decide +kernel
theorem w_applies : (headSpec (Jvm.Cond.code x code maxLocals ret :: tables_1) room_1).applies x e0.platform about1 = true :=
  (Spec.applies_iff w_frames).mpr ⟨w_running, w_runnable, w_alone, w_named, w_hears, w_ripe, w_room, w_tables⟩
theorem atStart : AtStart classFile x code maxLocals ret World_1 tables_1 room_1 Calls_1 rest_1 Pre_1 launch0 p0 e0 about1 theMethod args0 below0 :=
  ⟨lists_1, trivial, launch0.admits_env _ _ _, launch0.least_env, fairChoices_fair.cas, fairChoices_fair.clock, w_frames, w_args, w_heap, w_applies, trivial, trivial, w_case⟩
end start1
theorem witness_1 : WitnessClaimed_1 := ⟨start1.p0, start1.e0, start1.about1, start1.theMethod, start1.args0, start1.below0, start1.atStart⟩
end Jvm.Pilot.@@N@@
