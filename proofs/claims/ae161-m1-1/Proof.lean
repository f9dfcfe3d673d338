import JvmDerived
import JvmDerived.Pilot.@@N@@Statement
import JvmDerived.Pilot.@@N@@Code
set_option linter.unusedVariables false
set_option linter.unusedSimpArgs false
namespace Jvm.Pilot.@@N@@
open Jvm Jvm.ClassFile Sem Op Lib Jvm.Free Jvm.Stand Jvm.LawKit Jvm.RoadKit Bundle Jvm.Pilot.@@N@@.Jvm.D
section Own
variable {p : Program} {l : Launch} {e : Env} {R : Room} {s : State} {m : MethodId} {args : Array Value} {below : List Frame} {meth : Method} {c : Code} {T : State} {locs : List Loc} {cells slots : Nat} {C S : Nat} {Q : Option Value → Heap → List Loc → Prop}
/-- from the state T with the frame g on top the run comes to the method's end, and Q holds there -/
def Goes (p : Program) (e : Env) (below : List Frame) (s : State) (C S : Nat) (Q : Option Value → Heap → List Loc → Prop) (T : State) (g : JFrame) : Prop :=
  ∃ s₂ o, Steps p.tables e below (T.setTop g) s₂ ∧ s₂.status = .running ∧ Ended s₂ below o ∧ ∃ v L, o = .returned v ∧ Q v s₂.heap L ∧ FrameEnd s o s₂ L C S
theorem Goes.go {T' : State} {g g' : JFrame} (st : ∀ t, Steps p.tables e below (T'.setTop g') t → Steps p.tables e below (T.setTop g) t) (h : Goes p e below s C S Q T' g') : Goes p e below s C S Q T g := by
  obtain ⟨s₂, o, h1, h2⟩ := h; exact ⟨s₂, o, st _ h1, h2⟩
theorem Goes.tr {T' : State} {g g' : JFrame} (st : Steps p.tables e below (T.setTop g) (T'.setTop g')) (h : Goes p e below s C S Q T' g') : Goes p e below s C S Q T g := Goes.go (fun _ k => st.trans k) h
/-- a value comes back -/
theorem own_ret (X : Stand p l e R s m args below meth c T locs cells slots) (hx : p.tables.exec = Jvm.exec) (hlk : meth.locks = false) {t : FieldType} (hret : meth.sig.returnType = some t) {i : Instr} {w : Value} (hn : narrow t w = w)
    (hi : (i = .ireturn ∧ (t = .int ∨ t = .boolean ∨ t = .byte ∨ t = .char ∨ t = .short) ∧ ∃ z, w = .int z) ∨ (i = .lreturn ∧ t = .long ∧ ∃ z, w = .long z) ∨ (i = .dreturn ∧ t = .double ∧ ∃ z, w = .double z) ∨ (i = .freturn ∧ t = .float ∧ ∃ z, w = .float z) ∨ (i = .areturn ∧ t.isReference = true ∧ w.isRef = true))
    {pc : Nat} {Ls : Array Slot} {rest : List Value} (hd : decode c.code pc = .ok (i, 1)) (hC : cells ≤ C) (hS : slots ≤ S) {h : Heap} (eT : T.heap = h) (hQ : Q (some w) h locs) : Goes p e below s C S Q T (mkF m pc Ls (w :: rest)) := by
  obtain ⟨fs, hr, hrun, hended, hW, hsame⟩ := X.leave (v := some w) (fun h => by rw [hret] at h; cases h)
  subst eT
  exact ⟨_, _, retOut X hx hret hn hi hd hr, hrun, hended, _, _, rfl, hQ, ⟨_, rfl⟩, hW, hsame.mono hC hS⟩
theorem own_retI (X : Stand p l e R s m args below meth c T locs cells slots) (hx : p.tables.exec = Jvm.exec) (hlk : meth.locks = false) (hret : meth.sig.returnType = some .int) {z : Int32}
    {pc : Nat} {Ls : Array Slot} {rest : List Value} (hd : decode c.code pc = .ok (.ireturn, 1)) (hC : cells ≤ C) (hS : slots ≤ S) {h : Heap} (eT : T.heap = h) (hQ : Q (some (.int z)) h locs) : Goes p e below s C S Q T (mkF m pc Ls (.int z :: rest)) :=
  own_ret X hx hlk hret rfl (Or.inl ⟨rfl, Or.inl rfl, z, rfl⟩) hd hC hS eT hQ
theorem own_retZ (X : Stand p l e R s m args below meth c T locs cells slots) (hx : p.tables.exec = Jvm.exec) (hlk : meth.locks = false) (hret : meth.sig.returnType = some .boolean) {z : Int32} (hn : narrow .boolean (.int z) = .int z)
    {pc : Nat} {Ls : Array Slot} {rest : List Value} (hd : decode c.code pc = .ok (.ireturn, 1)) (hC : cells ≤ C) (hS : slots ≤ S) {h : Heap} (eT : T.heap = h) (hQ : Q (some (.int z)) h locs) : Goes p e below s C S Q T (mkF m pc Ls (.int z :: rest)) :=
  own_ret X hx hlk hret hn (Or.inl ⟨rfl, Or.inr (Or.inl rfl), z, rfl⟩) hd hC hS eT hQ
theorem own_retJ (X : Stand p l e R s m args below meth c T locs cells slots) (hx : p.tables.exec = Jvm.exec) (hlk : meth.locks = false) (hret : meth.sig.returnType = some .long) {z : Int64}
    {pc : Nat} {Ls : Array Slot} {rest : List Value} (hd : decode c.code pc = .ok (.lreturn, 1)) (hC : cells ≤ C) (hS : slots ≤ S) {h : Heap} (eT : T.heap = h) (hQ : Q (some (.long z)) h locs) : Goes p e below s C S Q T (mkF m pc Ls (.long z :: rest)) :=
  own_ret X hx hlk hret rfl (Or.inr (Or.inl ⟨rfl, rfl, z, rfl⟩)) hd hC hS eT hQ
theorem own_narR {t : FieldType} {w : Value} (hw : w.isRef = true) : narrow t w = w := by
  rcases ref_cases hw with rfl | ⟨a, rfl⟩ <;> cases t <;> rfl
theorem own_retR (X : Stand p l e R s m args below meth c T locs cells slots) (hx : p.tables.exec = Jvm.exec) (hlk : meth.locks = false) {t : FieldType} (hret : meth.sig.returnType = some t) (ht : t.isReference = true) {w : Value} (hw : w.isRef = true)
    {pc : Nat} {Ls : Array Slot} {rest : List Value} (hd : decode c.code pc = .ok (.areturn, 1)) (hC : cells ≤ C) (hS : slots ≤ S) {h : Heap} (eT : T.heap = h) (hQ : Q (some w) h locs) : Goes p e below s C S Q T (mkF m pc Ls (w :: rest)) :=
  own_ret X hx hlk hret (own_narR hw) (Or.inr (Or.inr (Or.inr (Or.inr ⟨rfl, ht, hw⟩)))) hd hC hS eT hQ
theorem own_retV (X : Stand p l e R s m args below meth c T locs cells slots) (hx : p.tables.exec = Jvm.exec) (hlk : meth.locks = false) (hret : meth.sig.returnType = none)
    {pc : Nat} {Ls : Array Slot} (hd : decode c.code pc = .ok (.return_, 1)) (hC : cells ≤ C) (hS : slots ≤ S) {h : Heap} (eT : T.heap = h) (hQ : Q none h locs) : Goes p e below s C S Q T (mkF m pc Ls []) := by
  obtain ⟨fs, hr, hrun, hended, hW, hsame⟩ := X.leave (v := none) (fun _ => rfl)
  subst eT
  exact ⟨_, _, X.returnOut hx hret hd hr, hrun, hended, _, _, rfl, hQ, ⟨_, rfl⟩, hW, hsame.mono hC hS⟩
/-- the entry -/
theorem own_enter {s₁ : State} {maxL : Nat} {as' : Array Value} {Ls : Array Slot} (hE : entryFrame m as' maxL = mkF m 0 Ls []) (h : Goes p e below s C S Q s₁ (mkF m 0 Ls [])) :
    ∃ s₂ o, Steps p.tables e below (s₁.setTop (entryFrame m as' maxL)) s₂ ∧ s₂.status = .running ∧ Ended s₂ below o ∧ ∃ v L, o = .returned v ∧ Q v s₂.heap L ∧ FrameEnd s o s₂ L C S := by
  rw [hE]; exact h
section Steps1
variable {pc : Nat} {Ls : Array Slot} {rest : List Value}
theorem own_iadd (X : Stand p l e R s m args below meth c T locs cells slots) (hx : p.tables.exec = Jvm.exec) (pc' : Nat) (hp : pc + 1 = pc') {x y z : Int32} (hd : decode c.code pc = .ok (.iadd, 1)) (hz : x + y = z) (h : Goes p e below s C S Q T (mkF m pc' Ls (.int z :: rest))) : Goes p e below s C S Q T (mkF m pc Ls (.int y :: .int x :: rest)) := by
  subst hp; subst hz; exact Goes.go (fun _ k => XS.iadd X.here hx rfl hd rfl k) h
theorem own_isub (X : Stand p l e R s m args below meth c T locs cells slots) (hx : p.tables.exec = Jvm.exec) (pc' : Nat) (hp : pc + 1 = pc') {x y z : Int32} (hd : decode c.code pc = .ok (.isub, 1)) (hz : x - y = z) (h : Goes p e below s C S Q T (mkF m pc' Ls (.int z :: rest))) : Goes p e below s C S Q T (mkF m pc Ls (.int y :: .int x :: rest)) := by
  subst hp; subst hz; exact Goes.go (fun _ k => XS.isub X.here hx rfl hd rfl k) h
theorem own_imul (X : Stand p l e R s m args below meth c T locs cells slots) (hx : p.tables.exec = Jvm.exec) (pc' : Nat) (hp : pc + 1 = pc') {x y z : Int32} (hd : decode c.code pc = .ok (.imul, 1)) (hz : x * y = z) (h : Goes p e below s C S Q T (mkF m pc' Ls (.int z :: rest))) : Goes p e below s C S Q T (mkF m pc Ls (.int y :: .int x :: rest)) := by
  subst hp; subst hz; exact Goes.go (fun _ k => XS.imul X.here hx rfl hd rfl k) h
theorem own_iand (X : Stand p l e R s m args below meth c T locs cells slots) (hx : p.tables.exec = Jvm.exec) (pc' : Nat) (hp : pc + 1 = pc') {x y z : Int32} (hd : decode c.code pc = .ok (.iand, 1)) (hz : x &&& y = z) (h : Goes p e below s C S Q T (mkF m pc' Ls (.int z :: rest))) : Goes p e below s C S Q T (mkF m pc Ls (.int y :: .int x :: rest)) := by
  subst hp; subst hz; exact Goes.go (fun _ k => XS.iand X.here hx rfl hd rfl k) h
theorem own_ior (X : Stand p l e R s m args below meth c T locs cells slots) (hx : p.tables.exec = Jvm.exec) (pc' : Nat) (hp : pc + 1 = pc') {x y z : Int32} (hd : decode c.code pc = .ok (.ior, 1)) (hz : x ||| y = z) (h : Goes p e below s C S Q T (mkF m pc' Ls (.int z :: rest))) : Goes p e below s C S Q T (mkF m pc Ls (.int y :: .int x :: rest)) := by
  subst hp; subst hz; exact Goes.go (fun _ k => XS.ior X.here hx rfl hd rfl k) h
theorem own_ixor (X : Stand p l e R s m args below meth c T locs cells slots) (hx : p.tables.exec = Jvm.exec) (pc' : Nat) (hp : pc + 1 = pc') {x y z : Int32} (hd : decode c.code pc = .ok (.ixor, 1)) (hz : x ^^^ y = z) (h : Goes p e below s C S Q T (mkF m pc' Ls (.int z :: rest))) : Goes p e below s C S Q T (mkF m pc Ls (.int y :: .int x :: rest)) := by
  subst hp; subst hz; exact Goes.go (fun _ k => XS.ixor X.here hx rfl hd rfl k) h
theorem own_idiv (X : Stand p l e R s m args below meth c T locs cells slots) (hx : p.tables.exec = Jvm.exec) (pc' : Nat) (hp : pc + 1 = pc') {x y z : Int32} (hd : decode c.code pc = .ok (.idiv, 1)) (hy : y ≠ 0) (hz : x / y = z) (h : Goes p e below s C S Q T (mkF m pc' Ls (.int z :: rest))) : Goes p e below s C S Q T (mkF m pc Ls (.int y :: .int x :: rest)) := by
  subst hp; subst hz; exact Goes.go (fun _ k => XS.idiv X.here hx rfl hd rfl hy k) h
theorem own_ishl (X : Stand p l e R s m args below meth c T locs cells slots) (hx : p.tables.exec = Jvm.exec) (pc' : Nat) (hp : pc + 1 = pc') {x z : Int32} {y : Int32} (hd : decode c.code pc = .ok (.ishl, 1)) (hz : (x <<< (y &&& 31)) = z) (h : Goes p e below s C S Q T (mkF m pc' Ls (.int z :: rest))) : Goes p e below s C S Q T (mkF m pc Ls (.int y :: .int x :: rest)) := by
  subst hp; subst hz; exact Goes.go (fun _ k => XS.ishl X.here hx rfl hd rfl k) h
theorem own_ishr (X : Stand p l e R s m args below meth c T locs cells slots) (hx : p.tables.exec = Jvm.exec) (pc' : Nat) (hp : pc + 1 = pc') {x z : Int32} {y : Int32} (hd : decode c.code pc = .ok (.ishr, 1)) (hz : (x >>> (y &&& 31)) = z) (h : Goes p e below s C S Q T (mkF m pc' Ls (.int z :: rest))) : Goes p e below s C S Q T (mkF m pc Ls (.int y :: .int x :: rest)) := by
  subst hp; subst hz; exact Goes.go (fun _ k => XS.ishr X.here hx rfl hd rfl k) h
theorem own_iushr (X : Stand p l e R s m args below meth c T locs cells slots) (hx : p.tables.exec = Jvm.exec) (pc' : Nat) (hp : pc + 1 = pc') {x z : Int32} {y : Int32} (hd : decode c.code pc = .ok (.iushr, 1)) (hz : ((x.toUInt32 >>> (y &&& 31).toUInt32).toInt32) = z) (h : Goes p e below s C S Q T (mkF m pc' Ls (.int z :: rest))) : Goes p e below s C S Q T (mkF m pc Ls (.int y :: .int x :: rest)) := by
  subst hp; subst hz; exact Goes.go (fun _ k => XS.iushr X.here hx rfl hd rfl k) h
theorem own_ladd (X : Stand p l e R s m args below meth c T locs cells slots) (hx : p.tables.exec = Jvm.exec) (pc' : Nat) (hp : pc + 1 = pc') {x y z : Int64} (hd : decode c.code pc = .ok (.ladd, 1)) (hz : x + y = z) (h : Goes p e below s C S Q T (mkF m pc' Ls (.long z :: rest))) : Goes p e below s C S Q T (mkF m pc Ls (.long y :: .long x :: rest)) := by
  subst hp; subst hz; exact Goes.go (fun _ k => XS.ladd X.here hx rfl hd rfl k) h
theorem own_lsub (X : Stand p l e R s m args below meth c T locs cells slots) (hx : p.tables.exec = Jvm.exec) (pc' : Nat) (hp : pc + 1 = pc') {x y z : Int64} (hd : decode c.code pc = .ok (.lsub, 1)) (hz : x - y = z) (h : Goes p e below s C S Q T (mkF m pc' Ls (.long z :: rest))) : Goes p e below s C S Q T (mkF m pc Ls (.long y :: .long x :: rest)) := by
  subst hp; subst hz; exact Goes.go (fun _ k => XS.lsub X.here hx rfl hd rfl k) h
theorem own_lmul (X : Stand p l e R s m args below meth c T locs cells slots) (hx : p.tables.exec = Jvm.exec) (pc' : Nat) (hp : pc + 1 = pc') {x y z : Int64} (hd : decode c.code pc = .ok (.lmul, 1)) (hz : x * y = z) (h : Goes p e below s C S Q T (mkF m pc' Ls (.long z :: rest))) : Goes p e below s C S Q T (mkF m pc Ls (.long y :: .long x :: rest)) := by
  subst hp; subst hz; exact Goes.go (fun _ k => XS.lmul X.here hx rfl hd rfl k) h
theorem own_land (X : Stand p l e R s m args below meth c T locs cells slots) (hx : p.tables.exec = Jvm.exec) (pc' : Nat) (hp : pc + 1 = pc') {x y z : Int64} (hd : decode c.code pc = .ok (.land, 1)) (hz : x &&& y = z) (h : Goes p e below s C S Q T (mkF m pc' Ls (.long z :: rest))) : Goes p e below s C S Q T (mkF m pc Ls (.long y :: .long x :: rest)) := by
  subst hp; subst hz; exact Goes.go (fun _ k => XS.land X.here hx rfl hd rfl k) h
theorem own_lor (X : Stand p l e R s m args below meth c T locs cells slots) (hx : p.tables.exec = Jvm.exec) (pc' : Nat) (hp : pc + 1 = pc') {x y z : Int64} (hd : decode c.code pc = .ok (.lor, 1)) (hz : x ||| y = z) (h : Goes p e below s C S Q T (mkF m pc' Ls (.long z :: rest))) : Goes p e below s C S Q T (mkF m pc Ls (.long y :: .long x :: rest)) := by
  subst hp; subst hz; exact Goes.go (fun _ k => XS.lor X.here hx rfl hd rfl k) h
theorem own_lxor (X : Stand p l e R s m args below meth c T locs cells slots) (hx : p.tables.exec = Jvm.exec) (pc' : Nat) (hp : pc + 1 = pc') {x y z : Int64} (hd : decode c.code pc = .ok (.lxor, 1)) (hz : x ^^^ y = z) (h : Goes p e below s C S Q T (mkF m pc' Ls (.long z :: rest))) : Goes p e below s C S Q T (mkF m pc Ls (.long y :: .long x :: rest)) := by
  subst hp; subst hz; exact Goes.go (fun _ k => XS.lxor X.here hx rfl hd rfl k) h
theorem own_ldiv (X : Stand p l e R s m args below meth c T locs cells slots) (hx : p.tables.exec = Jvm.exec) (pc' : Nat) (hp : pc + 1 = pc') {x y z : Int64} (hd : decode c.code pc = .ok (.ldiv, 1)) (hy : y ≠ 0) (hz : x / y = z) (h : Goes p e below s C S Q T (mkF m pc' Ls (.long z :: rest))) : Goes p e below s C S Q T (mkF m pc Ls (.long y :: .long x :: rest)) := by
  subst hp; subst hz; exact Goes.go (fun _ k => XS.ldiv X.here hx rfl hd rfl hy k) h
theorem own_lshl (X : Stand p l e R s m args below meth c T locs cells slots) (hx : p.tables.exec = Jvm.exec) (pc' : Nat) (hp : pc + 1 = pc') {x z : Int64} {y : Int32} (hd : decode c.code pc = .ok (.lshl, 1)) (hz : (x <<< (y &&& 0x3f).toInt64) = z) (h : Goes p e below s C S Q T (mkF m pc' Ls (.long z :: rest))) : Goes p e below s C S Q T (mkF m pc Ls (.int y :: .long x :: rest)) := by
  subst hp; subst hz; exact Goes.go (fun _ k => XS.lshl X.here hx rfl hd rfl k) h
theorem own_lshr (X : Stand p l e R s m args below meth c T locs cells slots) (hx : p.tables.exec = Jvm.exec) (pc' : Nat) (hp : pc + 1 = pc') {x z : Int64} {y : Int32} (hd : decode c.code pc = .ok (.lshr, 1)) (hz : (x >>> (y &&& 0x3f).toInt64) = z) (h : Goes p e below s C S Q T (mkF m pc' Ls (.long z :: rest))) : Goes p e below s C S Q T (mkF m pc Ls (.int y :: .long x :: rest)) := by
  subst hp; subst hz; exact Goes.go (fun _ k => XS.lshr X.here hx rfl hd rfl k) h
theorem own_lushr (X : Stand p l e R s m args below meth c T locs cells slots) (hx : p.tables.exec = Jvm.exec) (pc' : Nat) (hp : pc + 1 = pc') {x z : Int64} {y : Int32} (hd : decode c.code pc = .ok (.lushr, 1)) (hz : ((x.toUInt64 >>> (y &&& 0x3f).toInt64.toUInt64).toInt64) = z) (h : Goes p e below s C S Q T (mkF m pc' Ls (.long z :: rest))) : Goes p e below s C S Q T (mkF m pc Ls (.int y :: .long x :: rest)) := by
  subst hp; subst hz; exact Goes.go (fun _ k => XS.lushr X.here hx rfl hd rfl k) h
theorem own_irem (X : Stand p l e R s m args below meth c T locs cells slots) (hx : p.tables.exec = Jvm.exec) (pc' : Nat) (hp : pc + 1 = pc') {x y z : Int32} (hd : decode c.code pc = .ok (.irem, 1)) (hy : y ≠ 0) (hz : x % y = z) (h : Goes p e below s C S Q T (mkF m pc' Ls (.int z :: rest))) : Goes p e below s C S Q T (mkF m pc Ls (.int y :: .int x :: rest)) := by
  subst hp; subst hz; exact Goes.go (fun _ k => iremM X hx rfl hd rfl hy k) h
theorem own_lrem (X : Stand p l e R s m args below meth c T locs cells slots) (hx : p.tables.exec = Jvm.exec) (pc' : Nat) (hp : pc + 1 = pc') {x y z : Int64} (hd : decode c.code pc = .ok (.lrem, 1)) (hy : y ≠ 0) (hz : x % y = z) (h : Goes p e below s C S Q T (mkF m pc' Ls (.long z :: rest))) : Goes p e below s C S Q T (mkF m pc Ls (.long y :: .long x :: rest)) := by
  subst hp; subst hz; exact Goes.go (fun _ k => XS.lrem X.here hx rfl hd rfl hy (by rw [lrem_mod]; exact k)) h
theorem own_ineg (X : Stand p l e R s m args below meth c T locs cells slots) (hx : p.tables.exec = Jvm.exec) (pc' : Nat) (hp : pc + 1 = pc') {x : Int32} {z : Int32} (hd : decode c.code pc = .ok (.ineg, 1)) (hz : -x = z) (h : Goes p e below s C S Q T (mkF m pc' Ls (.int z :: rest))) : Goes p e below s C S Q T (mkF m pc Ls (.int x :: rest)) := by
  subst hp; subst hz; exact Goes.go (fun _ k => XS.ineg X.here hx rfl hd rfl k) h
theorem own_lneg (X : Stand p l e R s m args below meth c T locs cells slots) (hx : p.tables.exec = Jvm.exec) (pc' : Nat) (hp : pc + 1 = pc') {x : Int64} {z : Int64} (hd : decode c.code pc = .ok (.lneg, 1)) (hz : -x = z) (h : Goes p e below s C S Q T (mkF m pc' Ls (.long z :: rest))) : Goes p e below s C S Q T (mkF m pc Ls (.long x :: rest)) := by
  subst hp; subst hz; exact Goes.go (fun _ k => XS.lneg X.here hx rfl hd rfl k) h
theorem own_i2l (X : Stand p l e R s m args below meth c T locs cells slots) (hx : p.tables.exec = Jvm.exec) (pc' : Nat) (hp : pc + 1 = pc') {x : Int32} {z : Int64} (hd : decode c.code pc = .ok (.i2l, 1)) (hz : x.toInt64 = z) (h : Goes p e below s C S Q T (mkF m pc' Ls (.long z :: rest))) : Goes p e below s C S Q T (mkF m pc Ls (.int x :: rest)) := by
  subst hp; subst hz; exact Goes.go (fun _ k => XS.i2l X.here hx rfl hd rfl k) h
theorem own_l2i (X : Stand p l e R s m args below meth c T locs cells slots) (hx : p.tables.exec = Jvm.exec) (pc' : Nat) (hp : pc + 1 = pc') {x : Int64} {z : Int32} (hd : decode c.code pc = .ok (.l2i, 1)) (hz : x.toInt32 = z) (h : Goes p e below s C S Q T (mkF m pc' Ls (.int z :: rest))) : Goes p e below s C S Q T (mkF m pc Ls (.long x :: rest)) := by
  subst hp; subst hz; exact Goes.go (fun _ k => XS.l2i X.here hx rfl hd rfl k) h
theorem own_i2b (X : Stand p l e R s m args below meth c T locs cells slots) (hx : p.tables.exec = Jvm.exec) (pc' : Nat) (hp : pc + 1 = pc') {x : Int32} {z : Int32} (hd : decode c.code pc = .ok (.i2b, 1)) (hz : x.toInt8.toInt32 = z) (h : Goes p e below s C S Q T (mkF m pc' Ls (.int z :: rest))) : Goes p e below s C S Q T (mkF m pc Ls (.int x :: rest)) := by
  subst hp; subst hz; exact Goes.go (fun _ k => XS.i2b X.here hx rfl hd rfl k) h
theorem own_i2s (X : Stand p l e R s m args below meth c T locs cells slots) (hx : p.tables.exec = Jvm.exec) (pc' : Nat) (hp : pc + 1 = pc') {x : Int32} {z : Int32} (hd : decode c.code pc = .ok (.i2s, 1)) (hz : x.toInt16.toInt32 = z) (h : Goes p e below s C S Q T (mkF m pc' Ls (.int z :: rest))) : Goes p e below s C S Q T (mkF m pc Ls (.int x :: rest)) := by
  subst hp; subst hz; exact Goes.go (fun _ k => XS.i2s X.here hx rfl hd rfl k) h
theorem own_i2c (X : Stand p l e R s m args below meth c T locs cells slots) (hx : p.tables.exec = Jvm.exec) (pc' : Nat) (hp : pc + 1 = pc') {x : Int32} {z : Int32} (hd : decode c.code pc = .ok (.i2c, 1)) (hz : x.toUInt32.toUInt16.toUInt32.toInt32 = z) (h : Goes p e below s C S Q T (mkF m pc' Ls (.int z :: rest))) : Goes p e below s C S Q T (mkF m pc Ls (.int x :: rest)) := by
  subst hp; subst hz; exact Goes.go (fun _ k => XS.i2c X.here hx rfl hd rfl k) h
theorem own_lcmp (X : Stand p l e R s m args below meth c T locs cells slots) (hx : p.tables.exec = Jvm.exec) (pc' : Nat) (hp : pc + 1 = pc') {x y : Int64} (hd : decode c.code pc = .ok (.lcmp, 1))  (h : Goes p e below s C S Q T (mkF m pc' Ls (.int (lcmpW x y) :: rest))) : Goes p e below s C S Q T (mkF m pc Ls (.long y :: .long x :: rest)) := by
  subst hp; exact Goes.go (fun _ k => XS.lcmp X.here hx rfl hd rfl k) h
theorem own_iload (X : Stand p l e R s m args below meth c T locs cells slots) (hx : p.tables.exec = Jvm.exec) (pc' : Nat) (hp : pc + 2 = pc') {k : Nat} {v : Int32} (hd : decode c.code pc = .ok (.iload k, 2)) (hl : Ls[k]? = some (.val (.int v))) (h : Goes p e below s C S Q T (mkF m pc' Ls ((.int v) :: rest))) : Goes p e below s C S Q T (mkF m pc Ls rest) := by
  subst hp; exact Goes.go (fun _ k => XS.iload X.here hx rfl hd hl k) h
theorem own_iloadN (X : Stand p l e R s m args below meth c T locs cells slots) (hx : p.tables.exec = Jvm.exec) (pc' : Nat) (hp : pc + 1 = pc') {k : Fin 4} {v : Int32} (hd : decode c.code pc = .ok (.iload_n k, 1)) (hl : Ls[k.val]? = some (.val (.int v))) (h : Goes p e below s C S Q T (mkF m pc' Ls ((.int v) :: rest))) : Goes p e below s C S Q T (mkF m pc Ls rest) := by
  subst hp; exact Goes.go (fun _ k => XS.iloadN X.here hx rfl hd hl k) h
theorem own_istore (X : Stand p l e R s m args below meth c T locs cells slots) (hx : p.tables.exec = Jvm.exec) (pc' : Nat) (hp : pc + 2 = pc') {k : Nat} {v : Int32} (Ls' : Array Slot) (hd : decode c.code pc = .ok (.istore k, 2)) (hl : storeLocals Ls k (.int v) = some Ls') (h : Goes p e below s C S Q T (mkF m pc' Ls' rest)) : Goes p e below s C S Q T (mkF m pc Ls ((.int v) :: rest)) := by
  subst hp; exact Goes.go (fun _ k => XS.istore X.here hx rfl hd rfl hl k) h
theorem own_istoreN (X : Stand p l e R s m args below meth c T locs cells slots) (hx : p.tables.exec = Jvm.exec) (pc' : Nat) (hp : pc + 1 = pc') {k : Fin 4} {v : Int32} (Ls' : Array Slot) (hd : decode c.code pc = .ok (.istore_n k, 1)) (hl : storeLocals Ls k.val (.int v) = some Ls') (h : Goes p e below s C S Q T (mkF m pc' Ls' rest)) : Goes p e below s C S Q T (mkF m pc Ls ((.int v) :: rest)) := by
  subst hp; exact Goes.go (fun _ k => XS.istoreN X.here hx rfl hd rfl hl k) h
theorem own_lload (X : Stand p l e R s m args below meth c T locs cells slots) (hx : p.tables.exec = Jvm.exec) (pc' : Nat) (hp : pc + 2 = pc') {k : Nat} {v : Int64} (hd : decode c.code pc = .ok (.lload k, 2)) (hl : Ls[k]? = some (.val (.long v))) (h : Goes p e below s C S Q T (mkF m pc' Ls ((.long v) :: rest))) : Goes p e below s C S Q T (mkF m pc Ls rest) := by
  subst hp; exact Goes.go (fun _ k => XS.lload X.here hx rfl hd hl k) h
theorem own_lloadN (X : Stand p l e R s m args below meth c T locs cells slots) (hx : p.tables.exec = Jvm.exec) (pc' : Nat) (hp : pc + 1 = pc') {k : Fin 4} {v : Int64} (hd : decode c.code pc = .ok (.lload_n k, 1)) (hl : Ls[k.val]? = some (.val (.long v))) (h : Goes p e below s C S Q T (mkF m pc' Ls ((.long v) :: rest))) : Goes p e below s C S Q T (mkF m pc Ls rest) := by
  subst hp; exact Goes.go (fun _ k => XS.lloadN X.here hx rfl hd hl k) h
theorem own_lstore (X : Stand p l e R s m args below meth c T locs cells slots) (hx : p.tables.exec = Jvm.exec) (pc' : Nat) (hp : pc + 2 = pc') {k : Nat} {v : Int64} (Ls' : Array Slot) (hd : decode c.code pc = .ok (.lstore k, 2)) (hl : storeLocals Ls k (.long v) = some Ls') (h : Goes p e below s C S Q T (mkF m pc' Ls' rest)) : Goes p e below s C S Q T (mkF m pc Ls ((.long v) :: rest)) := by
  subst hp; exact Goes.go (fun _ k => XS.lstore X.here hx rfl hd rfl hl k) h
theorem own_lstoreN (X : Stand p l e R s m args below meth c T locs cells slots) (hx : p.tables.exec = Jvm.exec) (pc' : Nat) (hp : pc + 1 = pc') {k : Fin 4} {v : Int64} (Ls' : Array Slot) (hd : decode c.code pc = .ok (.lstore_n k, 1)) (hl : storeLocals Ls k.val (.long v) = some Ls') (h : Goes p e below s C S Q T (mkF m pc' Ls' rest)) : Goes p e below s C S Q T (mkF m pc Ls ((.long v) :: rest)) := by
  subst hp; exact Goes.go (fun _ k => XS.lstoreN X.here hx rfl hd rfl hl k) h
theorem own_aload (X : Stand p l e R s m args below meth c T locs cells slots) (hx : p.tables.exec = Jvm.exec) (pc' : Nat) (hp : pc + 2 = pc') {k : Nat} {v : Value} (hd : decode c.code pc = .ok (.aload k, 2)) (hl : Ls[k]? = some (.val v)) (hv : v.isRef = true) (h : Goes p e below s C S Q T (mkF m pc' Ls (v :: rest))) : Goes p e below s C S Q T (mkF m pc Ls rest) := by
  subst hp; exact Goes.go (fun _ k => XS.aload X.here hx rfl hd hl hv k) h
theorem own_aloadN (X : Stand p l e R s m args below meth c T locs cells slots) (hx : p.tables.exec = Jvm.exec) (pc' : Nat) (hp : pc + 1 = pc') {k : Fin 4} {v : Value} (hd : decode c.code pc = .ok (.aload_n k, 1)) (hl : Ls[k.val]? = some (.val v)) (hv : v.isRef = true) (h : Goes p e below s C S Q T (mkF m pc' Ls (v :: rest))) : Goes p e below s C S Q T (mkF m pc Ls rest) := by
  subst hp; exact Goes.go (fun _ k => XS.aloadN X.here hx rfl hd hl hv k) h
theorem own_astore (X : Stand p l e R s m args below meth c T locs cells slots) (hx : p.tables.exec = Jvm.exec) (pc' : Nat) (hp : pc + 2 = pc') {k : Nat} {v : Value} (Ls' : Array Slot) (hd : decode c.code pc = .ok (.astore k, 2)) (hl : storeLocals Ls k v = some Ls') (hv : v.isRef = true) (h : Goes p e below s C S Q T (mkF m pc' Ls' rest)) : Goes p e below s C S Q T (mkF m pc Ls (v :: rest)) := by
  subst hp; exact Goes.go (fun _ k => XS.astore X.here hx rfl hd rfl hv hl k) h
theorem own_astoreN (X : Stand p l e R s m args below meth c T locs cells slots) (hx : p.tables.exec = Jvm.exec) (pc' : Nat) (hp : pc + 1 = pc') {k : Fin 4} {v : Value} (Ls' : Array Slot) (hd : decode c.code pc = .ok (.astore_n k, 1)) (hl : storeLocals Ls k.val v = some Ls') (hv : v.isRef = true) (h : Goes p e below s C S Q T (mkF m pc' Ls' rest)) : Goes p e below s C S Q T (mkF m pc Ls (v :: rest)) := by
  subst hp; exact Goes.go (fun _ k => XS.astoreN X.here hx rfl hd rfl hv hl k) h
theorem own_iconst (X : Stand p l e R s m args below meth c T locs cells slots) (hx : p.tables.exec = Jvm.exec) (pc' : Nat) (hp : pc + 1 = pc') {i : Int} (v : Int32) (hd : decode c.code pc = .ok (.iconst i, 1)) (hv : Int32.ofInt i = v) (h : Goes p e below s C S Q T (mkF m pc' Ls (.int v :: rest))) : Goes p e below s C S Q T (mkF m pc Ls rest) := by
  subst hp; subst hv; exact Goes.go (fun _ k => XS.iconst X.here hx rfl hd k) h
theorem own_bipush (X : Stand p l e R s m args below meth c T locs cells slots) (hx : p.tables.exec = Jvm.exec) (pc' : Nat) (hp : pc + 2 = pc') {i : Int} (v : Int32) (hd : decode c.code pc = .ok (.bipush i, 2)) (hv : (Int8.ofInt i).toInt32 = v) (h : Goes p e below s C S Q T (mkF m pc' Ls (.int v :: rest))) : Goes p e below s C S Q T (mkF m pc Ls rest) := by
  subst hp; subst hv; exact Goes.go (fun _ k => XS.bipush X.here hx rfl hd k) h
theorem own_sipush (X : Stand p l e R s m args below meth c T locs cells slots) (hx : p.tables.exec = Jvm.exec) (pc' : Nat) (hp : pc + 3 = pc') {i : Int} (v : Int32) (hd : decode c.code pc = .ok (.sipush i, 3)) (hv : (Int16.ofInt i).toInt32 = v) (h : Goes p e below s C S Q T (mkF m pc' Ls (.int v :: rest))) : Goes p e below s C S Q T (mkF m pc Ls rest) := by
  subst hp; subst hv; exact Goes.go (fun _ k => XS.sipush X.here hx rfl hd k) h
theorem own_lconst (X : Stand p l e R s m args below meth c T locs cells slots) (hx : p.tables.exec = Jvm.exec) (pc' : Nat) (hp : pc + 1 = pc') {i : Fin 2} (v : Int64) (hd : decode c.code pc = .ok (.lconst i, 1)) (hv : Int64.ofNat i = v) (h : Goes p e below s C S Q T (mkF m pc' Ls (.long v :: rest))) : Goes p e below s C S Q T (mkF m pc Ls rest) := by
  subst hp; subst hv; exact Goes.go (fun _ k => XS.lconst X.here hx rfl hd k) h
theorem own_aconst_null (X : Stand p l e R s m args below meth c T locs cells slots) (hx : p.tables.exec = Jvm.exec) (pc' : Nat) (hp : pc + 1 = pc')  (hd : decode c.code pc = .ok (.aconst_null, 1))  (h : Goes p e below s C S Q T (mkF m pc' Ls (.null :: rest))) : Goes p e below s C S Q T (mkF m pc Ls rest) := by
  subst hp; exact Goes.go (fun _ k => XS.aconstNull X.here hx rfl hd k) h
theorem own_dup (X : Stand p l e R s m args below meth c T locs cells slots) (hx : p.tables.exec = Jvm.exec) (pc' : Nat) (hp : pc + 1 = pc') {v : Value} (hd : decode c.code pc = .ok (.dup, 1)) (hc : v.category = 1) (h : Goes p e below s C S Q T (mkF m pc' Ls (v :: v :: rest))) : Goes p e below s C S Q T (mkF m pc Ls (v :: rest)) := by
  subst hp; exact Goes.go (fun _ k => XS.dup X.here hx rfl hd rfl hc k) h
theorem own_pop (X : Stand p l e R s m args below meth c T locs cells slots) (hx : p.tables.exec = Jvm.exec) (pc' : Nat) (hp : pc + 1 = pc') {v : Value} (hd : decode c.code pc = .ok (.pop, 1)) (hc : v.category = 1) (h : Goes p e below s C S Q T (mkF m pc' Ls rest)) : Goes p e below s C S Q T (mkF m pc Ls (v :: rest)) := by
  subst hp; exact Goes.go (fun _ k => XS.pop X.here hx rfl hd rfl hc k) h
theorem own_dup_x1 (X : Stand p l e R s m args below meth c T locs cells slots) (hx : p.tables.exec = Jvm.exec) (pc' : Nat) (hp : pc + 1 = pc') {v w : Value} (hd : decode c.code pc = .ok (.dup_x1, 1)) (hc : v.category = 1) (hc' : w.category = 1) (h : Goes p e below s C S Q T (mkF m pc' Ls (v :: w :: v :: rest))) : Goes p e below s C S Q T (mkF m pc Ls (v :: w :: rest)) := by
  subst hp; exact Goes.go (fun _ k => XS.dupX1 X.here hx rfl hd rfl hc hc' k) h
theorem own_dup2L (X : Stand p l e R s m args below meth c T locs cells slots) (hx : p.tables.exec = Jvm.exec) (pc' : Nat) (hp : pc + 1 = pc') {v : Int64} (hd : decode c.code pc = .ok (.dup2, 1))  (h : Goes p e below s C S Q T (mkF m pc' Ls (.long v :: .long v :: rest))) : Goes p e below s C S Q T (mkF m pc Ls (.long v :: rest)) := by
  subst hp; exact Goes.go (fun _ k => Jvm.Free.XT.dup2L X.here hx rfl hd rfl k) h
theorem own_dup2 (X : Stand p l e R s m args below meth c T locs cells slots) (hx : p.tables.exec = Jvm.exec) (pc' : Nat) (hp : pc + 1 = pc') {v w : Value} (hd : decode c.code pc = .ok (.dup2, 1)) (hc : v.category = 1) (hc' : w.category = 1) (h : Goes p e below s C S Q T (mkF m pc' Ls (v :: w :: v :: w :: rest))) : Goes p e below s C S Q T (mkF m pc Ls (v :: w :: rest)) := by
  subst hp; exact Goes.go (fun _ k => Jvm.Free.XT.dup2 X.here hx rfl hd rfl hc hc' k) h
theorem own_iinc (X : Stand p l e R s m args below meth c T locs cells slots) (hx : p.tables.exec = Jvm.exec) (pc' : Nat) (hp : pc + 3 = pc') {k : Nat} {cst : Int} {x z : Int32} (Ls' : Array Slot) (hd : decode c.code pc = .ok (.iinc k cst, 3)) (hl : Ls[k]? = some (.val (.int x))) (hz : x + Int32.ofInt cst = z) (hl' : storeLocals Ls k (.int z) = some Ls') (h : Goes p e below s C S Q T (mkF m pc' Ls' rest)) : Goes p e below s C S Q T (mkF m pc Ls rest) := by
  subst hp; subst hz; exact Goes.go (fun _ k => XS.iinc X.here hx rfl hd hl hl' k) h
theorem own_goto (X : Stand p l e R s m args below meth c T locs cells slots) (hx : p.tables.exec = Jvm.exec) (pc' : Nat) {o : Int} (hd : decode c.code pc = .ok (.goto o, 3)) (ho : 0 ≤ (pc : Int) + o) (hp : ((pc : Int) + o).toNat = pc') (h : Goes p e below s C S Q T (mkF m pc' Ls rest)) : Goes p e below s C S Q T (mkF m pc Ls rest) :=
  Goes.go (fun _ k => XS.goto X.here hx rfl rfl hd ho hp k) h
theorem own_ifY (X : Stand p l e R s m args below meth c T locs cells slots) (hx : p.tables.exec = Jvm.exec) (pc' : Nat) {o : Int} {cd : ClassFile.Cond} {x : Int32} (hd : decode c.code pc = .ok (.ifCond cd o, 3)) (hc : ifCond.holds cd x = true) (ho : 0 ≤ (pc : Int) + o) (hp : ((pc : Int) + o).toNat = pc') (h : Goes p e below s C S Q T (mkF m pc' Ls rest)) : Goes p e below s C S Q T (mkF m pc Ls (.int x :: rest)) :=
  Goes.go (fun _ k => XS.ifYes X.here hx rfl rfl hd rfl hc ho hp k) h
theorem own_ifN (X : Stand p l e R s m args below meth c T locs cells slots) (hx : p.tables.exec = Jvm.exec) (pc' : Nat) {o : Int} {cd : ClassFile.Cond} {x : Int32} (hd : decode c.code pc = .ok (.ifCond cd o, 3)) (hc : ifCond.holds cd x = false) (hp : pc + 3 = pc') (h : Goes p e below s C S Q T (mkF m pc' Ls rest)) : Goes p e below s C S Q T (mkF m pc Ls (.int x :: rest)) := by
  subst hp; exact Goes.go (fun _ k => XS.ifNo X.here hx rfl hd rfl hc k) h
theorem own_icmpY (X : Stand p l e R s m args below meth c T locs cells slots) (hx : p.tables.exec = Jvm.exec) (pc' : Nat) {o : Int} {cd : ClassFile.Cond} {x y : Int32} (hd : decode c.code pc = .ok (.if_icmp cd o, 3)) (hc : if_icmp.holds cd x y = true) (ho : 0 ≤ (pc : Int) + o) (hp : ((pc : Int) + o).toNat = pc') (h : Goes p e below s C S Q T (mkF m pc' Ls rest)) : Goes p e below s C S Q T (mkF m pc Ls (.int y :: .int x :: rest)) :=
  Goes.go (fun _ k => XS.icmpYes X.here hx rfl rfl hd rfl hc ho hp k) h
theorem own_icmpN (X : Stand p l e R s m args below meth c T locs cells slots) (hx : p.tables.exec = Jvm.exec) (pc' : Nat) {o : Int} {cd : ClassFile.Cond} {x y : Int32} (hd : decode c.code pc = .ok (.if_icmp cd o, 3)) (hc : if_icmp.holds cd x y = false) (hp : pc + 3 = pc') (h : Goes p e below s C S Q T (mkF m pc' Ls rest)) : Goes p e below s C S Q T (mkF m pc Ls (.int y :: .int x :: rest)) := by
  subst hp; exact Goes.go (fun _ k => XS.icmpNo X.here hx rfl hd rfl hc k) h
theorem own_acmp (X : Stand p l e R s m args below meth c T locs cells slots) (hx : p.tables.exec = Jvm.exec) (pc' : Nat) {o : Int} {cd : ACond} {x y : Value} {same : Bool} (h1 : x.isRef = true) (h2 : y.isRef = true) (hd : decode c.code pc = .ok (.if_acmp cd o, 3)) (hq : decide (x = y) = same) (ho : 0 ≤ (pc : Int) + o) (hp : pc' = if acV cd same = true then ((pc : Int) + o).toNat else pc + 3) (h : Goes p e below s C S Q T (mkF m pc' Ls rest)) : Goes p e below s C S Q T (mkF m pc Ls (y :: x :: rest)) :=
  Goes.go (fun _ k => Jvm.RoadKit.acmp (g := mkF m pc Ls (y :: x :: rest)) X hx rfl h1 h2 rfl hd rfl hq ho hp k) h
theorem own_ifnullY (X : Stand p l e R s m args below meth c T locs cells slots) (hx : p.tables.exec = Jvm.exec) (pc' : Nat) {o : Int} (hd : decode c.code pc = .ok (.ifnull o, 3)) (ho : 0 ≤ (pc : Int) + o) (hp : ((pc : Int) + o).toNat = pc') (h : Goes p e below s C S Q T (mkF m pc' Ls rest)) : Goes p e below s C S Q T (mkF m pc Ls (.null :: rest)) :=
  Goes.go (fun _ k => XS.ifnullYes X.here hx rfl rfl hd rfl ho hp k) h
theorem own_ifnullN (X : Stand p l e R s m args below meth c T locs cells slots) (hx : p.tables.exec = Jvm.exec) (pc' : Nat) {o : Int} {b : Addr} (hd : decode c.code pc = .ok (.ifnull o, 3)) (hp : pc + 3 = pc') (h : Goes p e below s C S Q T (mkF m pc' Ls rest)) : Goes p e below s C S Q T (mkF m pc Ls (.ref b :: rest)) := by
  subst hp; exact Goes.go (fun _ k => XS.ifnullNo X.here hx rfl hd rfl k) h
theorem own_ifnonnullY (X : Stand p l e R s m args below meth c T locs cells slots) (hx : p.tables.exec = Jvm.exec) (pc' : Nat) {o : Int} {b : Addr} (hd : decode c.code pc = .ok (.ifnonnull o, 3)) (ho : 0 ≤ (pc : Int) + o) (hp : ((pc : Int) + o).toNat = pc') (h : Goes p e below s C S Q T (mkF m pc' Ls rest)) : Goes p e below s C S Q T (mkF m pc Ls (.ref b :: rest)) :=
  Goes.go (fun _ k => XS.ifnonnullYes X.here hx rfl rfl hd rfl ho hp k) h
theorem own_ifnonnullN (X : Stand p l e R s m args below meth c T locs cells slots) (hx : p.tables.exec = Jvm.exec) (pc' : Nat) {o : Int} (hd : decode c.code pc = .ok (.ifnonnull o, 3)) (hp : pc + 3 = pc') (h : Goes p e below s C S Q T (mkF m pc' Ls rest)) : Goes p e below s C S Q T (mkF m pc Ls (.null :: rest)) := by
  subst hp; exact Goes.go (fun _ k => XS.ifnonnullNo X.here hx rfl hd rfl k) h
end Steps1
/-- the branches on a long comparison -/
theorem Ltlt {x y : Int64} (h : x < y) : ifCond.holds .lt (lcmpW x y) = true ∧ ifCond.holds .ge (lcmpW x y) = false ∧ ifCond.holds .gt (lcmpW y x) = true ∧ ifCond.holds .le (lcmpW y x) = false :=
  ⟨(if0 _ _).trans (tlt ((lw_lt x y).mpr h)).1, (if0 _ _).trans (tlt ((lw_lt x y).mpr h)).2.1, (if0 _ _).trans (tlt ((lw_gt y x).mpr h)).2.2.1, (if0 _ _).trans (tlt ((lw_gt y x).mpr h)).2.2.2⟩
theorem Lflt {x y : Int64} (h : ¬ x < y) : ifCond.holds .lt (lcmpW x y) = false ∧ ifCond.holds .ge (lcmpW x y) = true ∧ ifCond.holds .gt (lcmpW y x) = false ∧ ifCond.holds .le (lcmpW y x) = true :=
  ⟨(if0 _ _).trans (flt fun q => h ((lw_lt x y).mp q)).1, (if0 _ _).trans (flt fun q => h ((lw_lt x y).mp q)).2.1, (if0 _ _).trans (flt fun q => h ((lw_gt y x).mp q)).2.2.1, (if0 _ _).trans (flt fun q => h ((lw_gt y x).mp q)).2.2.2⟩
theorem Lteq {x y : Int64} (h : x = y) : ifCond.holds .eq (lcmpW x y) = true ∧ ifCond.holds .ne (lcmpW x y) = false :=
  ⟨(if0 _ _).trans (teq ((lw_eq x y).mpr h)).1, (if0 _ _).trans (teq ((lw_eq x y).mpr h)).2⟩
theorem Lfeq {x y : Int64} (h : ¬ x = y) : ifCond.holds .eq (lcmpW x y) = false ∧ ifCond.holds .ne (lcmpW x y) = true :=
  ⟨(if0 _ _).trans (feq fun q => h ((lw_eq x y).mp q)).1, (if0 _ _).trans (feq fun q => h ((lw_eq x y).mp q)).2⟩
theorem Ztlt {x y : Int32} (h : x < y) : if_icmp.holds .lt x y = true ∧ if_icmp.holds .ge x y = false ∧ if_icmp.holds .gt y x = true ∧ if_icmp.holds .le y x = false := tlt h
/-- the pieces of a memory fact -/
theorem own_lt_ne {a b n : Nat} (h : a < n) (g : b = n) : a ≠ b := by omega
end Own
theorem own_llt {x y : Int64} {k : Int} (hy : y.toInt = k) (h : x.toInt < k) : x < y := by rw [Int64.lt_iff_toInt_lt]; omega
theorem own_lge {x y : Int64} {k : Int} (hy : y.toInt = k) (h : k ≤ x.toInt) : ¬ x < y := by rw [Int64.lt_iff_toInt_lt]; omega
theorem own_lgt {x y : Int64} {k : Int} (hy : y.toInt = k) (h : k < x.toInt) : y < x := by rw [Int64.lt_iff_toInt_lt]; omega
theorem own_lle {x y : Int64} {k : Int} (hy : y.toInt = k) (h : x.toInt ≤ k) : ¬ y < x := by rw [Int64.lt_iff_toInt_lt]; omega
theorem own_po (x po : Int64) (h : po = (x &&& (2147483647 : Int64))) : 0 ≤ po.toInt ∧ po.toInt < 2147483648 := by
  have hm : (x &&& (2147483647 : Int64)).toInt = x.toInt % 2147483648 := c_maskL x (2147483647 : Int64) 31 (by decide) (by decide)
  rw [← h] at hm; omega
theorem own_ad3 (x : Int64) : 0 ≤ (x &&& (3 : Int64)).toInt ∧ (x &&& (3 : Int64)).toInt ≤ 4294967295 := by
  have hm : (x &&& (3 : Int64)).toInt = x.toInt % 4 := c_maskL x (3 : Int64) 2 (by decide) (by decide)
  omega
theorem own_ad32 (x : Int64) : 0 ≤ (x &&& (4294967295 : Int64)).toInt ∧ (x &&& (4294967295 : Int64)).toInt ≤ 4294967295 := by
  have hm : (x &&& (4294967295 : Int64)).toInt = x.toInt % 4294967296 := c_maskL x (4294967295 : Int64) 32 (by decide) (by decide)
  omega
theorem own_wi1 (x : Int32) : 0 ≤ ((4998 : Int64) + ((x &&& (3 : Int32)).toInt64)).toInt ∧ ((4998 : Int64) + ((x &&& (3 : Int32)).toInt64)).toInt ≤ 60000 := by
  have hm : (x &&& (3 : Int32)).toInt = x.toInt % 4 := c_mask x (3 : Int32) 2 (by decide) (by decide)
  have h1 := c_i2l (x &&& (3 : Int32))
  have h2 := c_ladd (4998 : Int64) ((x &&& (3 : Int32)).toInt64)
  have h3 := rng64 ((4998 : Int64) + ((x &&& (3 : Int32)).toInt64))
  have e1 : (4998 : Int64).toInt = 4998 := by decide
  omega
theorem own_wi2 (x : Int32) : 0 ≤ (((x &&& (2147483647 : Int32)) % (60001 : Int32)).toInt64).toInt ∧ (((x &&& (2147483647 : Int32)) % (60001 : Int32)).toInt64).toInt ≤ 60000 := by
  have hm : (x &&& (2147483647 : Int32)).toInt = x.toInt % 2147483648 := c_mask x (2147483647 : Int32) 31 (by decide) (by decide)
  have hr := (c_irem (x &&& (2147483647 : Int32)) (60001 : Int32) 60001 (by decide)).1 (by omega)
  have h1 := c_i2l ((x &&& (2147483647 : Int32)) % (60001 : Int32))
  omega
theorem own_d (ad : Int64) (had : 0 ≤ ad.toInt ∧ ad.toInt ≤ 4294967295) : (ad * (1000 : Int64)).toInt = ad.toInt * 1000 := by
  have h1 := c_lmul ad (1000 : Int64)
  have e1 : (1000 : Int64).toInt = 1000 := by decide
  have h2 := rng64 (ad * (1000 : Int64))
  rw [e1] at h1; omega
theorem own_nz (ad : Int64) (had : 0 ≤ ad.toInt ∧ ad.toInt ≤ 4294967295) (h : (0 : Int64) < ad) : ad * (1000 : Int64) ≠ 0 := by
  have h1 := own_d ad had
  have e0 : (0 : Int64).toInt = 0 := by decide
  rw [Int64.lt_iff_toInt_lt, e0] at h
  intro q; rw [q, e0] at h1; omega
theorem own_pos0 {ad : Int64} (h : ad = (0 : Int64)) : ¬ (0 : Int64) < ad := by subst h; decide
theorem own_posn {ad : Int64} (had : 0 ≤ ad.toInt ∧ ad.toInt ≤ 4294967295) (h : ¬ ad = (0 : Int64)) : (0 : Int64) < ad := by
  have e0 : (0 : Int64).toInt = 0 := by decide
  rw [← Int64.toInt_inj, e0] at h; rw [Int64.lt_iff_toInt_lt, e0]; omega
theorem own_pace (po wi ad s : Int64) (hpo : 0 ≤ po.toInt ∧ po.toInt < 2147483648) (hwi : 0 ≤ wi.toInt ∧ wi.toInt ≤ 60000) (had : 0 ≤ ad.toInt ∧ ad.toInt ≤ 4294967295) (hp : (0 : Int64) < ad)
    (hs : s = (((po * wi) + (ad * (1000 : Int64))) - (1 : Int64)) / (ad * (1000 : Int64))) : ¬ s < (0 : Int64) ∧ ¬ (s * (ad * (1000 : Int64))) < (po * wi) ∧ ((s - (1 : Int64)) * (ad * (1000 : Int64))) < (po * wi) := by
  have e0 : (0 : Int64).toInt = 0 := by decide
  have e1 : (1 : Int64).toInt = 1 := by decide
  rw [Int64.lt_iff_toInt_lt, e0] at hp
  have hD := own_d ad had
  have hN0 : 0 ≤ po.toInt * wi.toInt := Int.mul_nonneg hpo.1 hwi.1
  have hN1 : po.toInt * wi.toInt ≤ 2147483648 * 60000 := Int.mul_le_mul (by omega) hwi.2 hwi.1 (by omega)
  have hN : (po * wi).toInt = po.toInt * wi.toInt := by
    have h1 := c_lmul po wi
    have h2 := rng64 (po * wi)
    omega
  obtain ⟨Nn, hNn⟩ : ∃ z, z = po.toInt * wi.toInt := ⟨_, rfl⟩
  rw [← hNn] at hN hN0 hN1
  obtain ⟨n, hn⟩ : ∃ z, z = po * wi := ⟨_, rfl⟩
  obtain ⟨d, hd⟩ : ∃ z, z = ad * (1000 : Int64) := ⟨_, rfl⟩
  rw [← hn] at hN hs ⊢; rw [← hd] at hD hs ⊢
  have ha := c_ladd n d
  have hra := rng64 (n + d)
  have hb := c_lsub (n + d) (1 : Int64)
  have hrb := rng64 ((n + d) - (1 : Int64))
  have hv : ((n + d) - (1 : Int64)).toInt = Nn + d.toInt - 1 := by omega
  have hm1 : (-1 : Int64).toInt = -1 := by decide
  have hdm : d ≠ -1 := fun q => by rw [q, hm1] at hD; omega
  have hq := (c_ldiv ((n + d) - (1 : Int64)) d d.toInt rfl hdm).1 (by omega)
  rw [← hs, hv] at hq
  have hd0 : 0 < d.toInt := by omega
  have k1 : s.toInt * d.toInt ≤ Nn + d.toInt - 1 := by rw [hq]; exact Int.ediv_mul_le _ (by omega)
  have k2 : Nn + d.toInt - 1 < (s.toInt + 1) * d.toInt := by rw [hq]; exact Int.lt_ediv_add_one_mul_self _ hd0
  have k3 : (s.toInt + 1) * d.toInt = s.toInt * d.toInt + d.toInt := by rw [Int.add_mul, Int.one_mul]
  have s0 : 0 ≤ s.toInt := by rw [hq]; exact Int.ediv_nonneg (by omega) (by omega)
  have hsd0 : 0 ≤ s.toInt * d.toInt := Int.mul_nonneg s0 (by omega)
  have m1 := c_lmul s d
  have rm1' := rng64 (s * d)
  have m1' : (s * d).toInt = s.toInt * d.toInt := by omega
  have hs1 := c_lsub s (1 : Int64)
  have rs1 := rng64 (s - (1 : Int64))
  have rs := rng64 s
  have hs1' : (s - (1 : Int64)).toInt = s.toInt - 1 := by omega
  have m2 := c_lmul (s - (1 : Int64)) d
  have rm2' := rng64 ((s - (1 : Int64)) * d)
  have k4 : (s.toInt - 1) * d.toInt = s.toInt * d.toInt - d.toInt := by rw [Int.sub_mul, Int.one_mul]
  rw [hs1', k4] at m2
  simp only [Int64.lt_iff_toInt_lt, e0, m1', hN]
  generalize s.toInt * d.toInt = sd at *
  omega
theorem own_d1_0 : decode prog_4_method_1_code 0 = .ok (.aload_n 0, 1) := by decide +kernel
theorem own_d1_1 : decode prog_4_method_1_code 1 = .ok (.invokespecial 1, 3) := by decide +kernel
theorem own_d1_4 : decode prog_4_method_1_code 4 = .ok (.lload_n 1, 1) := by decide +kernel
theorem own_d1_5 : decode prog_4_method_1_code 5 = .ok (.lconst 0, 1) := by decide +kernel
theorem own_d1_6 : decode prog_4_method_1_code 6 = .ok (.lcmp, 1) := by decide +kernel
theorem own_d1_7 : decode prog_4_method_1_code 7 = .ok (.ifCond .ge 17, 3) := by decide +kernel
theorem own_d1_24 : decode prog_4_method_1_code 24 = .ok (.lload_n 3, 1) := by decide +kernel
theorem own_d1_25 : decode prog_4_method_1_code 25 = .ok (.lconst 0, 1) := by decide +kernel
theorem own_d1_26 : decode prog_4_method_1_code 26 = .ok (.lcmp, 1) := by decide +kernel
theorem own_d1_27 : decode prog_4_method_1_code 27 = .ok (.ifCond .lt 11, 3) := by decide +kernel
theorem own_d1_30 : decode prog_4_method_1_code 30 = .ok (.lload_n 3, 1) := by decide +kernel
theorem own_d1_31 : decode prog_4_method_1_code 31 = .ok (.ldc2_w 18, 3) := by decide +kernel
theorem own_d1_34 : decode prog_4_method_1_code 34 = .ok (.lcmp, 1) := by decide +kernel
theorem own_d1_35 : decode prog_4_method_1_code 35 = .ok (.ifCond .le 17, 3) := by decide +kernel
theorem own_d1_52 : decode prog_4_method_1_code 52 = .ok (.aload_n 0, 1) := by decide +kernel
theorem own_d1_53 : decode prog_4_method_1_code 53 = .ok (.lload_n 1, 1) := by decide +kernel
theorem own_d1_54 : decode prog_4_method_1_code 54 = .ok (.putfield 21, 3) := by decide +kernel
theorem own_d1_57 : decode prog_4_method_1_code 57 = .ok (.aload_n 0, 1) := by decide +kernel
theorem own_d1_58 : decode prog_4_method_1_code 58 = .ok (.lload_n 3, 1) := by decide +kernel
theorem own_d1_59 : decode prog_4_method_1_code 59 = .ok (.putfield 25, 3) := by decide +kernel
theorem own_d1_62 : decode prog_4_method_1_code 62 = .ok (.return_, 1) := by decide +kernel
theorem own_pn_com_example_narrow_gate_narrowgate_model_Pace : plainName "com/example/narrow_gate/narrowgate/model/Pace" = true := by first | (simp [plainName, overriddenIn]; done) | decide +kernel
def Q1 (Z : State) (pt : Addr) (ca : Int64) (cw : Int64) (h0 : Heap) (n0 : Nat) (v : Option Value) (h : Heap) (L : List Loc) : Prop := v = none ∧ Fr n0 L ∧ Keep h0 h [pt] ∧ Fld Z h pt "com/example/narrow_gate/narrowgate/model/Pace" "admitted" "J" (.long ca) ∧ Fld Z h pt "com/example/narrow_gate/narrowgate/model/Pace" "windowMillis" "J" (.long cw)
set_option maxRecDepth 65536 in
set_option maxHeartbeats 40000000 in
theorem rm1 (l : Launch) (Z : State) (a0 : Array Value) (hw : ∀ d ∈ tables_1, d.before a0 Z = true) (ws : List Jvm.Cond) (pt : Addr) (ca : Int64) (cw : Int64) (h0 : Heap) (n0 : Nat) (Z0 : n0 ≤ h0.size) (EP : Exa Z h0 pt "com/example/narrow_gate/narrowgate/model/Pace") (gp : n0 ≤ pt) (Fa : Fld Z h0 pt "com/example/narrow_gate/narrowgate/model/Pace" "admitted" "J" (.long (0 : Int64))) (Fw : Fld Z h0 pt "com/example/narrow_gate/narrowgate/model/Pace" "windowMillis" "J" (.long (0 : Int64))) (q1 : ¬ (ca < (0 : Int64))) (q2 : ¬ (cw < (0 : Int64))) (q3 : ¬ ((60000 : Int64) < cw)) :
    MetFree l (⟨"com/example/narrow_gate/narrowgate/model/Pace", "<init>", "(JJ)V"⟩ : MethodName) (head1 (Jvm.Cond.code (⟨"com/example/narrow_gate/narrowgate/model/Pace", "<init>", "(JJ)V"⟩ : MethodName) prog_4_method_1_code 5 none :: ws) ({ frames := 1, cells := 0, slots := 0, locals := 12 } : Room)) (fun a U => a = #[(.ref pt), (.long ca), (.long cw)] ∧ Z.Warmed39 U.vm ∧ U.heap = h0) (fun _ _ _ _ _ => True) (fun _ U o U' => ∃ v L, o = .returned v ∧ Q1 Z pt ca cw h0 n0 v U'.heap L ∧ FrameEnd U o U' L ({ frames := 1, cells := 0, slots := 0, locals := 12 } : Room).cells ({ frames := 1, cells := 0, slots := 0, locals := 12 } : Room).slots) := by
  refine MetFree.of_bodySF (plainFor_of_name own_pn_com_example_narrow_gate_narrowgate_model_Pace) hisR ?_
  intro p e s m args below meth c s₁ Bd hml0 hP hK
  obtain ⟨rfl, hZ, hh⟩ := hP
  have hx := Bd.exec
  have hby := Bd.bytes
  have hml : c.maxLocals = 5 := hml0
  have hlk := Bd.notSynchronized
  have hown : s.vm.findClass "com/example/narrow_gate/narrowgate/model/Pace" = some m.cls := findClass_of_methodNamed Bd.named
  have hnm := (name_of_methodNamed Bd.named Bd.method).1
  have X0 : Stand p l e ({ frames := 1, cells := 0, slots := 0, locals := 12 } : Room) s m #[(.ref pt), (.long ca), (.long cw)] below meth c s₁ [] 0 0 := Stand.of_body Bd
  have e0 : s₁.heap = h0 := by rw [← hh, Bd.state]; rfl
  have N0 := Fr.nil n0
  have K0 : Keep h0 h0 [pt] := Keep.refl _ _
  refine own_enter (Q := Q1 Z pt ca cw h0 n0) (Ls := #[.val (.ref pt), .val (.long ca), .second, .val (.long cw), .second]) (by first | rfl | (simp [entryFrame, mkF, argsToLocals, Value.category]; done)) ?_
  refine own_aloadN X0 hx 1 rfl (hb hby own_d1_0) rfl rfl ?_
  obtain ⟨T1, X1, e1, st1⟩ := initO X0 hx hZ hown (hw _ (List.mem_of_getElem? (i := 9) rfl)) (hw _ (List.mem_of_getElem? (i := 10) rfl)) (hw _ (List.mem_of_getElem? (i := 11) rfl)) e0 (g := (mkF m 1 #[.val (.ref pt), .val (.long ca), .second, .val (.long cw), .second] [(.ref pt)])) rfl (by rw [hml]; rfl) rfl (hb hby own_d1_1) (by decide) (W := 0) (by show 2 * 0 + _ ≤ _; exact Nat.le_of_eq rfl) (by decide)
  refine Goes.go st1 ?_
  show Goes p e below s _ _ _ T1 (mkF m 4 #[.val (.ref pt), .val (.long ca), .second, .val (.long cw), .second] [])
  refine own_lloadN X1 hx 5 rfl (hb hby own_d1_4) rfl ?_
  refine own_lconst X1 hx 6 rfl (0 : Int64) (hb hby own_d1_5) (by decide) ?_
  refine own_lcmp X1 hx 7 rfl (hb hby own_d1_6) ?_
  refine own_ifY X1 hx 24 (hb hby own_d1_7) (Lflt (q1 : ¬ (ca < (0 : Int64)))).2.1 (by decide) (by decide) ?_
  refine own_lloadN X1 hx 25 rfl (hb hby own_d1_24) rfl ?_
  refine own_lconst X1 hx 26 rfl (0 : Int64) (hb hby own_d1_25) (by decide) ?_
  refine own_lcmp X1 hx 27 rfl (hb hby own_d1_26) ?_
  refine own_ifN X1 hx 30 (hb hby own_d1_27) (Lflt (q2 : ¬ (cw < (0 : Int64)))).1 rfl ?_
  refine own_lloadN X1 hx 31 rfl (hb hby own_d1_30) rfl ?_
  refine Goes.go (X1.ldc2Long hx hown (mvT hZ (hw _ (List.mem_of_getElem? (i := 12) rfl))) (g := (mkF m 31 #[.val (.ref pt), .val (.long ca), .second, .val (.long cw), .second] [(.long cw)])) rfl (hb hby own_d1_31)) ?_
  show Goes p e below s _ _ _ T1 (mkF m 34 #[.val (.ref pt), .val (.long ca), .second, .val (.long cw), .second] [(.long (60000 : Int64)), (.long cw)])
  refine own_lcmp X1 hx 35 rfl (hb hby own_d1_34) ?_
  refine own_ifY X1 hx 52 (hb hby own_d1_35) (Lflt (q3 : ¬ ((60000 : Int64) < cw))).2.2.2 (by decide) (by decide) ?_
  refine own_aloadN X1 hx 53 rfl (hb hby own_d1_52) rfl rfl ?_
  refine own_lloadN X1 hx 54 rfl (hb hby own_d1_53) rfl ?_
  obtain ⟨T2, h2, X2, e2, W2, st2⟩ := putF X1 hx hZ hown (host := "") (Or.inl (hw _ (List.mem_of_getElem? (i := 13) rfl))) Via.refl e1 Fa EP (Or.inr ⟨(hw _ (List.mem_of_getElem? (i := 14) rfl)), rfl, hnm⟩) (hw _ (List.mem_of_getElem? (i := 4) rfl)) (ty := .long) (by decide) rfl rfl (g := (mkF m 54 #[.val (.ref pt), .val (.long ca), .second, .val (.long cw), .second] [(.long ca), (.ref pt)])) rfl rfl (hb hby own_d1_54)
  have N2 := Fr.snoc X2 N0 gp
  have f3 := EP.wr W2
  have f4 := Fa.same W2
  have f5 := Fw.other W2 (Or.inr (slot_ne (Or.inr (hw _ (List.mem_of_getElem? (i := 16) rfl))) (Or.inr (hw _ (List.mem_of_getElem? (i := 14) rfl))) (by decide) (t := .long) (t' := .long) (by decide) (by decide)))
  have K2 := K0.wr W2 (Or.inl (List.mem_of_getElem? (i := 0) rfl))
  have Z2 := Nat.le_trans Z0 (Nat.le_of_eq W2.size.symm)
  refine Goes.go st2 ?_
  show Goes p e below s _ _ _ T2 (mkF m 57 #[.val (.ref pt), .val (.long ca), .second, .val (.long cw), .second] [])
  refine own_aloadN X2 hx 58 rfl (hb hby own_d1_57) rfl rfl ?_
  refine own_lloadN X2 hx 59 rfl (hb hby own_d1_58) rfl ?_
  obtain ⟨T6, h6, X6, e6, W6, st6⟩ := putF X2 hx hZ hown (host := "") (Or.inl (hw _ (List.mem_of_getElem? (i := 15) rfl))) Via.refl e2 f5 f3 (Or.inr ⟨(hw _ (List.mem_of_getElem? (i := 16) rfl)), rfl, hnm⟩) (hw _ (List.mem_of_getElem? (i := 4) rfl)) (ty := .long) (by decide) rfl rfl (g := (mkF m 59 #[.val (.ref pt), .val (.long ca), .second, .val (.long cw), .second] [(.long cw), (.ref pt)])) rfl rfl (hb hby own_d1_59)
  have N6 := Fr.snoc X6 N2 gp
  have f7 := f3.wr W6
  have f8 := f4.other W6 (Or.inr (slot_ne (Or.inr (hw _ (List.mem_of_getElem? (i := 14) rfl))) (Or.inr (hw _ (List.mem_of_getElem? (i := 16) rfl))) (by decide) (t := .long) (t' := .long) (by decide) (by decide)))
  have f9 := f5.same W6
  have K6 := K2.wr W6 (Or.inl (List.mem_of_getElem? (i := 0) rfl))
  have Z6 := Nat.le_trans Z2 (Nat.le_of_eq W6.size.symm)
  refine Goes.go st6 ?_
  show Goes p e below s _ _ _ T6 (mkF m 62 #[.val (.ref pt), .val (.long ca), .second, .val (.long cw), .second] [])
  refine own_retV X6 hx hlk Bd.returns (hb hby own_d1_62) (by decide) (by decide) e6 ?_
  exact ⟨rfl, N6, K6, f8, f9⟩
theorem own_d3_0 : decode prog_4_method_2_code 0 = .ok (.aload_n 0, 1) := by decide +kernel
theorem own_d3_1 : decode prog_4_method_2_code 1 = .ok (.getfield 25, 3) := by decide +kernel
theorem own_d3_4 : decode prog_4_method_2_code 4 = .ok (.ldc2_w 28, 3) := by decide +kernel
theorem own_d3_7 : decode prog_4_method_2_code 7 = .ok (.lcmp, 1) := by decide +kernel
theorem own_d3_8 : decode prog_4_method_2_code 8 = .ok (.ifCond .lt 40, 3) := by decide +kernel
theorem own_d3_11 : decode prog_4_method_2_code 11 = .ok (.aload_n 0, 1) := by decide +kernel
theorem own_d3_12 : decode prog_4_method_2_code 12 = .ok (.getfield 21, 3) := by decide +kernel
theorem own_d3_15 : decode prog_4_method_2_code 15 = .ok (.lconst 0, 1) := by decide +kernel
theorem own_d3_16 : decode prog_4_method_2_code 16 = .ok (.lcmp, 1) := by decide +kernel
theorem own_d3_17 : decode prog_4_method_2_code 17 = .ok (.ifCond .le 31, 3) := by decide +kernel
theorem own_d3_20 : decode prog_4_method_2_code 20 = .ok (.aload_n 0, 1) := by decide +kernel
theorem own_d3_21 : decode prog_4_method_2_code 21 = .ok (.getfield 21, 3) := by decide +kernel
theorem own_d3_24 : decode prog_4_method_2_code 24 = .ok (.ldc2_w 30, 3) := by decide +kernel
theorem own_d3_27 : decode prog_4_method_2_code 27 = .ok (.lmul, 1) := by decide +kernel
theorem own_d3_28 : decode prog_4_method_2_code 28 = .ok (.lstore 5, 2) := by decide +kernel
theorem own_d3_30 : decode prog_4_method_2_code 30 = .ok (.lload_n 1, 1) := by decide +kernel
theorem own_d3_31 : decode prog_4_method_2_code 31 = .ok (.aload_n 0, 1) := by decide +kernel
theorem own_d3_32 : decode prog_4_method_2_code 32 = .ok (.getfield 25, 3) := by decide +kernel
theorem own_d3_35 : decode prog_4_method_2_code 35 = .ok (.lmul, 1) := by decide +kernel
theorem own_d3_36 : decode prog_4_method_2_code 36 = .ok (.lload 5, 2) := by decide +kernel
theorem own_d3_38 : decode prog_4_method_2_code 38 = .ok (.ladd, 1) := by decide +kernel
theorem own_d3_39 : decode prog_4_method_2_code 39 = .ok (.lconst 1, 1) := by decide +kernel
theorem own_d3_40 : decode prog_4_method_2_code 40 = .ok (.lsub, 1) := by decide +kernel
theorem own_d3_41 : decode prog_4_method_2_code 41 = .ok (.lload 5, 2) := by decide +kernel
theorem own_d3_43 : decode prog_4_method_2_code 43 = .ok (.ldiv, 1) := by decide +kernel
theorem own_d3_44 : decode prog_4_method_2_code 44 = .ok (.lstore_n 3, 1) := by decide +kernel
theorem own_d3_45 : decode prog_4_method_2_code 45 = .ok (.goto 9, 3) := by decide +kernel
theorem own_d3_48 : decode prog_4_method_2_code 48 = .ok (.lload_n 1, 1) := by decide +kernel
theorem own_d3_49 : decode prog_4_method_2_code 49 = .ok (.ldc2_w 32, 3) := by decide +kernel
theorem own_d3_52 : decode prog_4_method_2_code 52 = .ok (.lmul, 1) := by decide +kernel
theorem own_d3_53 : decode prog_4_method_2_code 53 = .ok (.lstore_n 3, 1) := by decide +kernel
theorem own_d3_54 : decode prog_4_method_2_code 54 = .ok (.lload_n 3, 1) := by decide +kernel
theorem own_d3_55 : decode prog_4_method_2_code 55 = .ok (.lreturn, 1) := by decide +kernel
def Q3 (Z : State) (pt : Addr) (ep : Int64) (ea : Int64) (ew : Int64) (h0 : Heap) (n0 : Nat) (v : Option Value) (h : Heap) (L : List Loc) : Prop := ∃ es : Int64, v = some (.long es) ∧ Fr n0 L ∧ h = h0 ∧ ((ew < (5000 : Int64) ∨ ¬ (0 : Int64) < ea) → es = (ep * (30 : Int64))) ∧ ((¬ ew < (5000 : Int64) ∧ (0 : Int64) < ea) → es = (((ep * ew) + (ea * (1000 : Int64))) - (1 : Int64)) / (ea * (1000 : Int64)))
set_option maxRecDepth 65536 in
set_option maxHeartbeats 40000000 in
theorem rm3 (l : Launch) (Z : State) (a0 : Array Value) (hw : ∀ d ∈ tables_1, d.before a0 Z = true) (ws : List Jvm.Cond) (pt : Addr) (ep : Int64) (ea : Int64) (ew : Int64) (h0 : Heap) (n0 : Nat) (Z0 : n0 ≤ h0.size) (Fa : Fld Z h0 pt "com/example/narrow_gate/narrowgate/model/Pace" "admitted" "J" (.long ea)) (Fw : Fld Z h0 pt "com/example/narrow_gate/narrowgate/model/Pace" "windowMillis" "J" (.long ew)) (hnz : (0 : Int64) < ea → ea * (1000 : Int64) ≠ 0) :
    MetFree l (⟨"com/example/narrow_gate/narrowgate/model/Pace", "estimateWaitSeconds", "(J)J"⟩ : MethodName) (head1 (Jvm.Cond.code (⟨"com/example/narrow_gate/narrowgate/model/Pace", "estimateWaitSeconds", "(J)J"⟩ : MethodName) prog_4_method_2_code 7 (some .long) :: ws) ({ frames := 0, cells := 0, slots := 0, locals := 0 } : Room)) (fun a U => a = #[(.ref pt), (.long ep)] ∧ Z.Warmed39 U.vm ∧ U.heap = h0) (fun _ _ _ _ _ => True) (fun _ U o U' => ∃ v L, o = .returned v ∧ Q3 Z pt ep ea ew h0 n0 v U'.heap L ∧ FrameEnd U o U' L ({ frames := 0, cells := 0, slots := 0, locals := 0 } : Room).cells ({ frames := 0, cells := 0, slots := 0, locals := 0 } : Room).slots) := by
  refine MetFree.of_bodySF (plainFor_of_name own_pn_com_example_narrow_gate_narrowgate_model_Pace) hisR ?_
  intro p e s m args below meth c s₁ Bd hml0 hP hK
  obtain ⟨rfl, hZ, hh⟩ := hP
  have hx := Bd.exec
  have hby := Bd.bytes
  have hml : c.maxLocals = 7 := hml0
  have hlk := Bd.notSynchronized
  have hown : s.vm.findClass "com/example/narrow_gate/narrowgate/model/Pace" = some m.cls := findClass_of_methodNamed Bd.named
  have hnm := (name_of_methodNamed Bd.named Bd.method).1
  have X0 : Stand p l e ({ frames := 0, cells := 0, slots := 0, locals := 0 } : Room) s m #[(.ref pt), (.long ep)] below meth c s₁ [] 0 0 := Stand.of_body Bd
  have e0 : s₁.heap = h0 := by rw [← hh, Bd.state]; rfl
  have N0 := Fr.nil n0
  refine own_enter (Q := Q3 Z pt ep ea ew h0 n0) (Ls := #[.val (.ref pt), .val (.long ep), .second, .unset, .unset, .unset, .unset]) (by first | rfl | (simp [entryFrame, mkF, argsToLocals, Value.category]; done)) ?_
  refine own_aloadN X0 hx 1 rfl (hb hby own_d3_0) rfl rfl ?_
  obtain ⟨T1, X1, e1, st1⟩ := getF X0 hx hZ hown (host := "") (Or.inl (hw _ (List.mem_of_getElem? (i := 15) rfl))) Via.refl e0 Fw (g := (mkF m 1 #[.val (.ref pt), .val (.long ep), .second, .unset, .unset, .unset, .unset] [(.ref pt)])) rfl rfl (hb hby own_d3_1)
  refine Goes.go st1 ?_
  show Goes p e below s _ _ _ T1 (mkF m 4 #[.val (.ref pt), .val (.long ep), .second, .unset, .unset, .unset, .unset] [(.long ew)])
  refine Goes.go (X1.ldc2Long hx hown (mvT hZ (hw _ (List.mem_of_getElem? (i := 22) rfl))) (g := (mkF m 4 #[.val (.ref pt), .val (.long ep), .second, .unset, .unset, .unset, .unset] [(.long ew)])) rfl (hb hby own_d3_4)) ?_
  show Goes p e below s _ _ _ T1 (mkF m 7 #[.val (.ref pt), .val (.long ep), .second, .unset, .unset, .unset, .unset] [(.long (5000 : Int64)), (.long ew)])
  refine own_lcmp X1 hx 8 rfl (hb hby own_d3_7) ?_
  by_cases hc8_2 : ew < (5000 : Int64)
  · refine own_ifY X1 hx 48 (hb hby own_d3_8) (Ltlt hc8_2).1 (by decide) (by decide) ?_
    refine own_lloadN X1 hx 49 rfl (hb hby own_d3_48) rfl ?_
    refine Goes.go (X1.ldc2Long hx hown (mvT hZ (hw _ (List.mem_of_getElem? (i := 23) rfl))) (g := (mkF m 49 #[.val (.ref pt), .val (.long ep), .second, .unset, .unset, .unset, .unset] [(.long ep)])) rfl (hb hby own_d3_49)) ?_
    show Goes p e below s _ _ _ T1 (mkF m 52 #[.val (.ref pt), .val (.long ep), .second, .unset, .unset, .unset, .unset] [(.long (30 : Int64)), (.long ep)])
    refine own_lmul X1 hx 53 rfl (hb hby own_d3_52) rfl ?_
    refine own_lstoreN X1 hx 54 rfl #[.val (.ref pt), .val (.long ep), .second, .val (.long (ep * (30 : Int64))), .second, .unset, .unset] (hb hby own_d3_53) rfl ?_
    refine own_lloadN X1 hx 55 rfl (hb hby own_d3_54) rfl ?_
    refine own_retJ X1 hx hlk Bd.returns (hb hby own_d3_55) (by decide) (by decide) e1 ?_
    exact ⟨(ep * (30 : Int64)), rfl, N0, rfl, (fun _ => rfl), (fun q => absurd q (by simp [hc8_2]))⟩
  · refine own_ifN X1 hx 11 (hb hby own_d3_8) (Lflt hc8_2).1 rfl ?_
    refine own_aloadN X1 hx 12 rfl (hb hby own_d3_11) rfl rfl ?_
    obtain ⟨T3, X3, e3, st3⟩ := getF X1 hx hZ hown (host := "") (Or.inl (hw _ (List.mem_of_getElem? (i := 13) rfl))) Via.refl e1 Fa (g := (mkF m 12 #[.val (.ref pt), .val (.long ep), .second, .unset, .unset, .unset, .unset] [(.ref pt)])) rfl rfl (hb hby own_d3_12)
    refine Goes.go st3 ?_
    show Goes p e below s _ _ _ T3 (mkF m 15 #[.val (.ref pt), .val (.long ep), .second, .unset, .unset, .unset, .unset] [(.long ea)])
    refine own_lconst X3 hx 16 rfl (0 : Int64) (hb hby own_d3_15) (by decide) ?_
    refine own_lcmp X3 hx 17 rfl (hb hby own_d3_16) ?_
    by_cases hc17_4 : (0 : Int64) < ea
    · refine own_ifN X3 hx 20 (hb hby own_d3_17) (Ltlt hc17_4).2.2.2 rfl ?_
      refine own_aloadN X3 hx 21 rfl (hb hby own_d3_20) rfl rfl ?_
      obtain ⟨T5, X5, e5, st5⟩ := getF X3 hx hZ hown (host := "") (Or.inl (hw _ (List.mem_of_getElem? (i := 13) rfl))) Via.refl e3 Fa (g := (mkF m 21 #[.val (.ref pt), .val (.long ep), .second, .unset, .unset, .unset, .unset] [(.ref pt)])) rfl rfl (hb hby own_d3_21)
      refine Goes.go st5 ?_
      show Goes p e below s _ _ _ T5 (mkF m 24 #[.val (.ref pt), .val (.long ep), .second, .unset, .unset, .unset, .unset] [(.long ea)])
      refine Goes.go (X5.ldc2Long hx hown (mvT hZ (hw _ (List.mem_of_getElem? (i := 29) rfl))) (g := (mkF m 24 #[.val (.ref pt), .val (.long ep), .second, .unset, .unset, .unset, .unset] [(.long ea)])) rfl (hb hby own_d3_24)) ?_
      show Goes p e below s _ _ _ T5 (mkF m 27 #[.val (.ref pt), .val (.long ep), .second, .unset, .unset, .unset, .unset] [(.long (1000 : Int64)), (.long ea)])
      refine own_lmul X5 hx 28 rfl (hb hby own_d3_27) rfl ?_
      refine own_lstore X5 hx 30 rfl #[.val (.ref pt), .val (.long ep), .second, .unset, .unset, .val (.long (ea * (1000 : Int64))), .second] (hb hby own_d3_28) rfl ?_
      refine own_lloadN X5 hx 31 rfl (hb hby own_d3_30) rfl ?_
      refine own_aloadN X5 hx 32 rfl (hb hby own_d3_31) rfl rfl ?_
      obtain ⟨T6, X6, e6, st6⟩ := getF X5 hx hZ hown (host := "") (Or.inl (hw _ (List.mem_of_getElem? (i := 15) rfl))) Via.refl e5 Fw (g := (mkF m 32 #[.val (.ref pt), .val (.long ep), .second, .unset, .unset, .val (.long (ea * (1000 : Int64))), .second] [(.ref pt), (.long ep)])) rfl rfl (hb hby own_d3_32)
      refine Goes.go st6 ?_
      show Goes p e below s _ _ _ T6 (mkF m 35 #[.val (.ref pt), .val (.long ep), .second, .unset, .unset, .val (.long (ea * (1000 : Int64))), .second] [(.long ew), (.long ep)])
      refine own_lmul X6 hx 36 rfl (hb hby own_d3_35) rfl ?_
      refine own_lload X6 hx 38 rfl (hb hby own_d3_36) rfl ?_
      refine own_ladd X6 hx 39 rfl (hb hby own_d3_38) rfl ?_
      refine own_lconst X6 hx 40 rfl (1 : Int64) (hb hby own_d3_39) (by decide) ?_
      refine own_lsub X6 hx 41 rfl (hb hby own_d3_40) rfl ?_
      refine own_lload X6 hx 43 rfl (hb hby own_d3_41) rfl ?_
      refine own_ldiv X6 hx 44 rfl (hb hby own_d3_43) (hnz hc17_4) rfl ?_
      refine own_lstoreN X6 hx 45 rfl #[.val (.ref pt), .val (.long ep), .second, .val (.long ((((ep * ew) + (ea * (1000 : Int64))) - (1 : Int64)) / (ea * (1000 : Int64)))), .second, .val (.long (ea * (1000 : Int64))), .second] (hb hby own_d3_44) rfl ?_
      refine own_goto X6 hx 54 (hb hby own_d3_45) (by decide) (by decide) ?_
      refine own_lloadN X6 hx 55 rfl (hb hby own_d3_54) rfl ?_
      refine own_retJ X6 hx hlk Bd.returns (hb hby own_d3_55) (by decide) (by decide) e6 ?_
      exact ⟨((((ep * ew) + (ea * (1000 : Int64))) - (1 : Int64)) / (ea * (1000 : Int64))), rfl, N0, rfl, (fun q => absurd q (by simp [hc8_2, hc17_4])), (fun _ => rfl)⟩
    · refine own_ifY X3 hx 48 (hb hby own_d3_17) (Lflt hc17_4).2.2.2 (by decide) (by decide) ?_
      refine own_lloadN X3 hx 49 rfl (hb hby own_d3_48) rfl ?_
      refine Goes.go (X3.ldc2Long hx hown (mvT hZ (hw _ (List.mem_of_getElem? (i := 23) rfl))) (g := (mkF m 49 #[.val (.ref pt), .val (.long ep), .second, .unset, .unset, .unset, .unset] [(.long ep)])) rfl (hb hby own_d3_49)) ?_
      show Goes p e below s _ _ _ T3 (mkF m 52 #[.val (.ref pt), .val (.long ep), .second, .unset, .unset, .unset, .unset] [(.long (30 : Int64)), (.long ep)])
      refine own_lmul X3 hx 53 rfl (hb hby own_d3_52) rfl ?_
      refine own_lstoreN X3 hx 54 rfl #[.val (.ref pt), .val (.long ep), .second, .val (.long (ep * (30 : Int64))), .second, .unset, .unset] (hb hby own_d3_53) rfl ?_
      refine own_lloadN X3 hx 55 rfl (hb hby own_d3_54) rfl ?_
      refine own_retJ X3 hx hlk Bd.returns (hb hby own_d3_55) (by decide) (by decide) e3 ?_
      exact ⟨(ep * (30 : Int64)), rfl, N0, rfl, (fun _ => rfl), (fun q => absurd q (by simp [hc8_2, hc17_4]))⟩
theorem own_pd0 : parseMethodDescriptor "(JJ)V" = some ⟨[.long, .long], none⟩ := by decide +kernel
theorem own_pd1 : parseMethodDescriptor "(J)J" = some ⟨[.long], some .long⟩ := by decide +kernel
theorem own_pn_com_example_narrow_gate_narrowgate_model_PaceEstimateWaitSecondsPinLaw : plainName "com/example/narrow_gate/narrowgate/model/PaceEstimateWaitSecondsPinLaw" = true := by first | (simp [plainName, overriddenIn]; done) | decide +kernel
def Q0 (Z : State) (x0 : Int64) (x1 : Int64) (x2 : Int32) (x3 : Int32) (h0 : Heap) (n0 : Nat) (v : Option Value) (h : Heap) (L : List Loc) : Prop := v = some (.int 1) ∧ Fr n0 L
set_option maxRecDepth 65536 in
set_option maxHeartbeats 40000000 in
theorem rm0 (l : Launch) (Z : State) (a0 : Array Value) (hw : ∀ d ∈ tables_1, d.before a0 Z = true) (ws : List Jvm.Cond) (x0 : Int64) (x1 : Int64) (x2 : Int32) (x3 : Int32) (h0 : Heap) (n0 : Nat) (Z0 : n0 ≤ h0.size)  :
    MetFree l x (head1 (Jvm.Cond.code x code maxLocals ret :: ws) room_1) (fun a U => a = #[(.long x0), (.long x1), (.int x2), (.int x3)] ∧ Z.Warmed39 U.vm ∧ U.heap = h0) (fun _ _ _ _ _ => True) (fun _ U o U' => ∃ v L, o = .returned v ∧ Q0 Z x0 x1 x2 x3 h0 n0 v U'.heap L ∧ FrameEnd U o U' L 1 2) := by
  refine MetFree.of_bodySF (plainFor_of_name own_pn_com_example_narrow_gate_narrowgate_model_PaceEstimateWaitSecondsPinLaw) hisR ?_
  intro p e s m args below meth c s₁ Bd hml0 hP hK
  obtain ⟨rfl, hZ, hh⟩ := hP
  have hx := Bd.exec
  have hby := Bd.bytes
  have hml : c.maxLocals = 19 := hml0
  have hlk := Bd.notSynchronized
  have hown : s.vm.findClass "com/example/narrow_gate/narrowgate/model/PaceEstimateWaitSecondsPinLaw" = some m.cls := findClass_of_methodNamed Bd.named
  have hnm := (name_of_methodNamed Bd.named Bd.method).1
  have X0 : Stand p l e room_1 s m #[(.long x0), (.long x1), (.int x2), (.int x3)] below meth c s₁ [] 0 0 := Stand.of_body Bd
  have e0 : s₁.heap = h0 := by rw [← hh, Bd.state]; rfl
  have N0 := Fr.nil n0
  have K0 : Keep h0 h0 [] := Keep.refl _ _
  refine own_enter (Q := Q0 Z x0 x1 x2 x3 h0 n0) (Ls := #[.val (.long x0), .second, .val (.long x1), .second, .val (.int x2), .val (.int x3), .unset, .unset, .unset, .unset, .unset, .unset, .unset, .unset, .unset, .unset, .unset, .unset, .unset]) (by first | rfl | (simp [entryFrame, mkF, argsToLocals, Value.category, maxLocals]; done)) ?_
  refine own_lloadN X0 hx 1 rfl (hb hby at_0) rfl ?_
  refine Goes.go (X0.ldc2Long hx hown (mvT hZ (hw _ (List.mem_of_getElem? (i := 0) rfl))) (g := (mkF m 1 #[.val (.long x0), .second, .val (.long x1), .second, .val (.int x2), .val (.int x3), .unset, .unset, .unset, .unset, .unset, .unset, .unset, .unset, .unset, .unset, .unset, .unset, .unset] [(.long x0)])) rfl (hb hby at_1)) ?_
  show Goes p e below s _ _ _ s₁ (mkF m 4 #[.val (.long x0), .second, .val (.long x1), .second, .val (.int x2), .val (.int x3), .unset, .unset, .unset, .unset, .unset, .unset, .unset, .unset, .unset, .unset, .unset, .unset, .unset] [(.long (2147483647 : Int64)), (.long x0)])
  obtain ⟨po, h_po⟩ : ∃ z, z = (x0 &&& (2147483647 : Int64)) := ⟨_, rfl⟩
  refine own_land X0 hx 5 rfl (hb hby at_4) h_po.symm ?_
  refine own_lstore X0 hx 7 rfl #[.val (.long x0), .second, .val (.long x1), .second, .val (.int x2), .val (.int x3), .val (.long po), .second, .unset, .unset, .unset, .unset, .unset, .unset, .unset, .unset, .unset, .unset, .unset] (hb hby at_5) rfl ?_
  refine own_iload X0 hx 9 rfl (hb hby at_7) rfl ?_
  refine own_iconst X0 hx 10 rfl (1 : Int32) (hb hby at_9) (by decide) ?_
  refine own_iand X0 hx 11 rfl (hb hby at_10) rfl ?_
  have hpo := own_po _ _ h_po
  have J27 : ∀ (T1 : State) (h1 : Heap) (L1 : List Loc) (ad : Int64) (had : 0 ≤ ad.toInt ∧ ad.toInt ≤ 4294967295) (X1 : Stand p l e room_1 s m #[(.long x0), (.long x1), (.int x2), (.int x3)] below meth c T1 L1 0 0) (e1 : T1.heap = h1) (N1 : Fr n0 L1) (K1 : Keep h0 h1 []) (Z1 : n0 ≤ h1.size), Goes p e below s 1 2 (Q0 Z x0 x1 x2 x3 h0 n0) T1 (mkF m 27 #[.val (.long x0), .second, .val (.long x1), .second, .val (.int x2), .val (.int x3), .val (.long po), .second, .unset, .unset, .unset, .unset, .unset, .unset, .unset, .unset, .unset, .unset, .unset] [(.long ad)]) := by
    intro T1 h1 L1 ad had X1 e1 N1 K1 Z1 
    refine own_lstore X1 hx 29 rfl #[.val (.long x0), .second, .val (.long x1), .second, .val (.int x2), .val (.int x3), .val (.long po), .second, .val (.long ad), .second, .unset, .unset, .unset, .unset, .unset, .unset, .unset, .unset, .unset] (hb hby at_27) rfl ?_
    refine own_iload X1 hx 31 rfl (hb hby at_29) rfl ?_
    refine own_iconst X1 hx 32 rfl (2 : Int32) (hb hby at_31) (by decide) ?_
    refine own_iand X1 hx 33 rfl (hb hby at_32) rfl ?_
    have J57 : ∀ (T2 : State) (h2 : Heap) (L2 : List Loc) (wi : Int64) (hwi : 0 ≤ wi.toInt ∧ wi.toInt ≤ 60000) (X2 : Stand p l e room_1 s m #[(.long x0), (.long x1), (.int x2), (.int x3)] below meth c T2 L2 0 0) (e2 : T2.heap = h2) (N2 : Fr n0 L2) (K2 : Keep h0 h2 []) (Z2 : n0 ≤ h2.size), Goes p e below s 1 2 (Q0 Z x0 x1 x2 x3 h0 n0) T2 (mkF m 57 #[.val (.long x0), .second, .val (.long x1), .second, .val (.int x2), .val (.int x3), .val (.long po), .second, .val (.long ad), .second, .unset, .unset, .unset, .unset, .unset, .unset, .unset, .unset, .unset] [(.long wi)]) := by
      intro T2 h2 L2 wi hwi X2 e2 N2 K2 Z2 
      refine own_lstore X2 hx 59 rfl #[.val (.long x0), .second, .val (.long x1), .second, .val (.int x2), .val (.int x3), .val (.long po), .second, .val (.long ad), .second, .val (.long wi), .second, .unset, .unset, .unset, .unset, .unset, .unset, .unset] (hb hby at_57) rfl ?_
      obtain ⟨T3, h3, X3, e3, E3, A3, D3, -, st3⟩ := newO X2 hx hZ hown (hw _ (List.mem_of_getElem? (i := 3) rfl)) (hw _ (List.mem_of_getElem? (i := 4) rfl)) (hw _ (List.mem_of_getElem? (i := 5) rfl)) e2 (g := (mkF m 59 #[.val (.long x0), .second, .val (.long x1), .second, .val (.int x2), .val (.int x3), .val (.long po), .second, .val (.long ad), .second, .val (.long wi), .second, .unset, .unset, .unset, .unset, .unset, .unset, .unset] [])) rfl (hb hby at_59) (by decide) (by decide)
      obtain ⟨b3, g3⟩ : ∃ z, z = h2.size := ⟨_, rfl⟩
      rw [← g3] at A3 D3 st3
      have G3 : n0 ≤ b3 := Nat.le_trans Z2 (Nat.le_of_eq g3.symm)
      have H3 : h0.size ≤ b3 := Nat.le_trans K2.1 (Nat.le_of_eq g3.symm)
      have K3 := K2.ext E3
      have Z3 := Nat.le_trans Z2 E3.1
      have f4 : Fld Z h3 b3 "com/example/narrow_gate/narrowgate/model/Pace" "admitted" "J" (.long (0 : Int64)) := D3 (Or.inr (hw _ (List.mem_of_getElem? (i := 14) rfl))) (ty := .long) (by decide)
      have f5 : Fld Z h3 b3 "com/example/narrow_gate/narrowgate/model/Pace" "windowMillis" "J" (.long (0 : Int64)) := D3 (Or.inr (hw _ (List.mem_of_getElem? (i := 16) rfl))) (ty := .long) (by decide)
      refine Goes.go st3 ?_
      show Goes p e below s _ _ _ T3 (mkF m 62 #[.val (.long x0), .second, .val (.long x1), .second, .val (.int x2), .val (.int x3), .val (.long po), .second, .val (.long ad), .second, .val (.long wi), .second, .unset, .unset, .unset, .unset, .unset, .unset, .unset] [(.ref b3)])
      refine own_dup X3 hx 63 rfl (hb hby at_62) rfl ?_
      refine own_lload X3 hx 65 rfl (hb hby at_63) rfl ?_
      refine own_lload X3 hx 67 rfl (hb hby at_65) rfl ?_
      obtain ⟨_, _, ⟨T6, L6, k6, n6⟩, -, X6, ⟨Lc6, hQ6, l6, y6, z6⟩, st6⟩ := X3.specialBack hx (y := (⟨"com/example/narrow_gate/narrowgate/model/Pace", "<init>", "(JJ)V"⟩ : MethodName)) rfl hown (mvT hZ (hw _ (List.mem_of_getElem? (i := 6) rfl))) (mvT hZ (hw _ (List.mem_of_getElem? (i := 7) rfl))) (mvT hZ (hw _ (List.mem_of_getElem? (i := 8) rfl))) (by decide) (backOf (W := 1) (rm1 l Z a0 hw [] b3 ad wi h3 n0 Z3 A3 G3 f4 f5 (own_lge (k := 0) (by decide) had.1) (own_lge (k := 0) (by decide) hwi.1) (own_lle (k := 60000) (by decide) hwi.2)) hZ (hw _ (List.mem_of_getElem? (i := 8) rfl)) (hw _ (List.mem_of_getElem? (i := 5) rfl)) (by decide) (by decide)) (g := (mkF m 67 #[.val (.long x0), .second, .val (.long x1), .second, .val (.int x2), .val (.int x3), .val (.long po), .second, .val (.long ad), .second, .val (.long wi), .second, .unset, .unset, .unset, .unset, .unset, .unset, .unset] [(.long wi), (.long ad), (.ref b3), (.ref b3)])) rfl (by rw [hml]; rfl) (Steps.refl _) (a := b3) (argsL := [(.long ad), (.long wi)]) (rest := [(.ref b3)]) (lenOf own_pd0 rfl) rfl (by show 2 * 0 + _ ≤ _; exact Nat.le_of_eq rfl) (hb hby at_67) (fun _ _ => ⟨rfl, e3, (by decide : 1 + 0 ≤ _), (by decide : 2 + 0 ≤ _)⟩)
      dsimp only [Pt.U, Pt.locs, Pt.cells, Pt.slots] at X6 l6 y6 z6 st6 hQ6
      subst l6 y6 z6
      obtain ⟨rfl, N6q, K6q, f6_0, f6_1⟩ := hQ6
      have N6 := Fr.app N2 N6q
      have f7 := A3.keep K6q
      have K6 := K3.trans K6q (allS (Or.inr H3) all0)
      have Z6 := Nat.le_trans Z3 K6q.1
      refine Goes.tr st6 ?_
      show Goes p e below s _ _ _ T6 (mkF m 70 #[.val (.long x0), .second, .val (.long x1), .second, .val (.int x2), .val (.int x3), .val (.long po), .second, .val (.long ad), .second, .val (.long wi), .second, .unset, .unset, .unset, .unset, .unset, .unset, .unset] [(.ref b3)])
      refine own_astore X6 hx 72 rfl #[.val (.long x0), .second, .val (.long x1), .second, .val (.int x2), .val (.int x3), .val (.long po), .second, .val (.long ad), .second, .val (.long wi), .second, .val (.ref b3), .unset, .unset, .unset, .unset, .unset, .unset] (hb hby at_70) rfl rfl ?_
      refine own_aload X6 hx 74 rfl (hb hby at_72) rfl rfl ?_
      refine own_lload X6 hx 76 rfl (hb hby at_74) rfl ?_
      obtain ⟨cq8, kq8, q8a, q8b, q8c⟩ := isOf hZ rfl f7
      obtain ⟨_, _, ⟨T8, L8, k8, n8⟩, -, X8, ⟨Lc8, hQ8, l8, y8, z8⟩, st8⟩ := X6.virtualBack hx (y := (⟨"com/example/narrow_gate/narrowgate/model/Pace", "estimateWaitSeconds", "(J)J"⟩ : MethodName)) (z := (⟨"com/example/narrow_gate/narrowgate/model/Pace", "estimateWaitSeconds", "(J)J"⟩ : MethodName)) hown (mvT hZ (hw _ (List.mem_of_getElem? (i := 17) rfl))) (mvT hZ (hw _ (List.mem_of_getElem? (i := 18) rfl))) (notFace_of_selects (args := #[]) (mvT hZ (hw _ (List.mem_of_getElem? (i := 20) rfl)))) (mvT hZ (hw _ (List.mem_of_getElem? (i := 20) rfl))) (mvT hZ (hw _ (List.mem_of_getElem? (i := 19) rfl))) (by decide) (backOf (W := 0) (rm3 l Z a0 hw [] b3 po ad wi T6.heap n0 Z6 f6_0 f6_1 (own_nz ad had)) hZ (hw _ (List.mem_of_getElem? (i := 21) rfl)) (hw _ (List.mem_of_getElem? (i := 5) rfl)) (by decide) (by decide)) q8a q8c (g := (mkF m 76 #[.val (.long x0), .second, .val (.long x1), .second, .val (.int x2), .val (.int x3), .val (.long po), .second, .val (.long ad), .second, .val (.long wi), .second, .val (.ref b3), .unset, .unset, .unset, .unset, .unset, .unset] [(.long po), (.ref b3)])) rfl (by rw [hml]; rfl) (Steps.refl _) (argsL := [(.long po)]) (rest := []) (lenOf own_pd1 rfl) rfl (by show 2 * 0 + _ ≤ _; exact Nat.le_of_eq rfl) (hb hby at_76) (fun _ _ => ⟨rfl, rfl, (by decide : 1 + 0 ≤ _), (by decide : 2 + 0 ≤ _)⟩)
      dsimp only [Pt.U, Pt.locs, Pt.cells, Pt.slots] at X8 l8 y8 z8 st8 hQ8
      subst l8 y8 z8
      obtain ⟨es_8, rfl, N8q, eh8, pr8_0, pr8_1⟩ := hQ8
      have N8 := Fr.app N6 N8q
      refine Goes.tr st8 ?_
      show Goes p e below s _ _ _ T8 (mkF m 79 #[.val (.long x0), .second, .val (.long x1), .second, .val (.int x2), .val (.int x3), .val (.long po), .second, .val (.long ad), .second, .val (.long wi), .second, .val (.ref b3), .unset, .unset, .unset, .unset, .unset, .unset] [(.long es_8)])
      refine own_lstore X8 hx 81 rfl #[.val (.long x0), .second, .val (.long x1), .second, .val (.int x2), .val (.int x3), .val (.long po), .second, .val (.long ad), .second, .val (.long wi), .second, .val (.ref b3), .val (.long es_8), .second, .unset, .unset, .unset, .unset] (hb hby at_79) rfl ?_
      refine own_lload X8 hx 83 rfl (hb hby at_81) rfl ?_
      refine Goes.go (X8.ldc2Long hx hown (mvT hZ (hw _ (List.mem_of_getElem? (i := 24) rfl))) (g := (mkF m 83 #[.val (.long x0), .second, .val (.long x1), .second, .val (.int x2), .val (.int x3), .val (.long po), .second, .val (.long ad), .second, .val (.long wi), .second, .val (.ref b3), .val (.long es_8), .second, .unset, .unset, .unset, .unset] [(.long wi)])) rfl (hb hby at_83)) ?_
      show Goes p e below s _ _ _ T8 (mkF m 86 #[.val (.long x0), .second, .val (.long x1), .second, .val (.int x2), .val (.int x3), .val (.long po), .second, .val (.long ad), .second, .val (.long wi), .second, .val (.ref b3), .val (.long es_8), .second, .unset, .unset, .unset, .unset] [(.long (5000 : Int64)), (.long wi)])
      refine own_lcmp X8 hx 87 rfl (hb hby at_86) ?_
      by_cases hc87_9 : wi < (5000 : Int64)
      · refine own_ifY X8 hx 97 (hb hby at_87) (Ltlt hc87_9).1 (by decide) (by decide) ?_
        refine own_lload X8 hx 99 rfl (hb hby at_97) rfl ?_
        refine own_lload X8 hx 101 rfl (hb hby at_99) rfl ?_
        refine Goes.go (X8.ldc2Long hx hown (mvT hZ (hw _ (List.mem_of_getElem? (i := 25) rfl))) (g := (mkF m 101 #[.val (.long x0), .second, .val (.long x1), .second, .val (.int x2), .val (.int x3), .val (.long po), .second, .val (.long ad), .second, .val (.long wi), .second, .val (.ref b3), .val (.long es_8), .second, .unset, .unset, .unset, .unset] [(.long po), (.long es_8)])) rfl (hb hby at_101)) ?_
        show Goes p e below s _ _ _ T8 (mkF m 104 #[.val (.long x0), .second, .val (.long x1), .second, .val (.int x2), .val (.int x3), .val (.long po), .second, .val (.long ad), .second, .val (.long wi), .second, .val (.ref b3), .val (.long es_8), .second, .unset, .unset, .unset, .unset] [(.long (30 : Int64)), (.long po), (.long es_8)])
        refine own_lmul X8 hx 105 rfl (hb hby at_104) rfl ?_
        refine own_lcmp X8 hx 106 rfl (hb hby at_105) ?_
        refine own_ifN X8 hx 109 (hb hby at_106) (Lteq (pr8_0 (Or.inl hc87_9) : es_8 = (po * (30 : Int64)))).2 rfl ?_
        refine own_iconst X8 hx 110 rfl (1 : Int32) (hb hby at_109) (by decide) ?_
        refine own_goto X8 hx 114 (hb hby at_110) (by decide) (by decide) ?_
        refine own_retZ X8 hx hlk Bd.returns (by decide) (hb hby at_114) (by decide) (by decide) eh8 ?_
        exact ⟨rfl, N8⟩
      · refine own_ifN X8 hx 90 (hb hby at_87) (Lflt hc87_9).1 rfl ?_
        refine own_lload X8 hx 92 rfl (hb hby at_90) rfl ?_
        refine own_lconst X8 hx 93 rfl (0 : Int64) (hb hby at_92) (by decide) ?_
        refine own_lcmp X8 hx 94 rfl (hb hby at_93) ?_
        by_cases hc94_10 : ad = (0 : Int64)
        · refine own_ifN X8 hx 97 (hb hby at_94) (Lteq hc94_10).2 rfl ?_
          refine own_lload X8 hx 99 rfl (hb hby at_97) rfl ?_
          refine own_lload X8 hx 101 rfl (hb hby at_99) rfl ?_
          refine Goes.go (X8.ldc2Long hx hown (mvT hZ (hw _ (List.mem_of_getElem? (i := 25) rfl))) (g := (mkF m 101 #[.val (.long x0), .second, .val (.long x1), .second, .val (.int x2), .val (.int x3), .val (.long po), .second, .val (.long ad), .second, .val (.long wi), .second, .val (.ref b3), .val (.long es_8), .second, .unset, .unset, .unset, .unset] [(.long po), (.long es_8)])) rfl (hb hby at_101)) ?_
          show Goes p e below s _ _ _ T8 (mkF m 104 #[.val (.long x0), .second, .val (.long x1), .second, .val (.int x2), .val (.int x3), .val (.long po), .second, .val (.long ad), .second, .val (.long wi), .second, .val (.ref b3), .val (.long es_8), .second, .unset, .unset, .unset, .unset] [(.long (30 : Int64)), (.long po), (.long es_8)])
          refine own_lmul X8 hx 105 rfl (hb hby at_104) rfl ?_
          refine own_lcmp X8 hx 106 rfl (hb hby at_105) ?_
          refine own_ifN X8 hx 109 (hb hby at_106) (Lteq (pr8_0 (Or.inr (own_pos0 hc94_10)) : es_8 = (po * (30 : Int64)))).2 rfl ?_
          refine own_iconst X8 hx 110 rfl (1 : Int32) (hb hby at_109) (by decide) ?_
          refine own_goto X8 hx 114 (hb hby at_110) (by decide) (by decide) ?_
          refine own_retZ X8 hx hlk Bd.returns (by decide) (hb hby at_114) (by decide) (by decide) eh8 ?_
          exact ⟨rfl, N8⟩
        · refine own_ifY X8 hx 115 (hb hby at_94) (Lfeq hc94_10).2 (by decide) (by decide) ?_
          refine own_lload X8 hx 117 rfl (hb hby at_115) rfl ?_
          refine own_lload X8 hx 119 rfl (hb hby at_117) rfl ?_
          refine own_lmul X8 hx 120 rfl (hb hby at_119) rfl ?_
          refine own_lstore X8 hx 122 rfl #[.val (.long x0), .second, .val (.long x1), .second, .val (.int x2), .val (.int x3), .val (.long po), .second, .val (.long ad), .second, .val (.long wi), .second, .val (.ref b3), .val (.long es_8), .second, .val (.long (po * wi)), .second, .unset, .unset] (hb hby at_120) rfl ?_
          refine own_lload X8 hx 124 rfl (hb hby at_122) rfl ?_
          refine Goes.go (X8.ldc2Long hx hown (mvT hZ (hw _ (List.mem_of_getElem? (i := 30) rfl))) (g := (mkF m 124 #[.val (.long x0), .second, .val (.long x1), .second, .val (.int x2), .val (.int x3), .val (.long po), .second, .val (.long ad), .second, .val (.long wi), .second, .val (.ref b3), .val (.long es_8), .second, .val (.long (po * wi)), .second, .unset, .unset] [(.long ad)])) rfl (hb hby at_124)) ?_
          show Goes p e below s _ _ _ T8 (mkF m 127 #[.val (.long x0), .second, .val (.long x1), .second, .val (.int x2), .val (.int x3), .val (.long po), .second, .val (.long ad), .second, .val (.long wi), .second, .val (.ref b3), .val (.long es_8), .second, .val (.long (po * wi)), .second, .unset, .unset] [(.long (1000 : Int64)), (.long ad)])
          refine own_lmul X8 hx 128 rfl (hb hby at_127) rfl ?_
          refine own_lstore X8 hx 130 rfl #[.val (.long x0), .second, .val (.long x1), .second, .val (.int x2), .val (.int x3), .val (.long po), .second, .val (.long ad), .second, .val (.long wi), .second, .val (.ref b3), .val (.long es_8), .second, .val (.long (po * wi)), .second, .val (.long (ad * (1000 : Int64))), .second] (hb hby at_128) rfl ?_
          have hpc := own_pace po wi ad es_8 hpo hwi had (own_posn had hc94_10) (pr8_1 ⟨hc87_9, own_posn had hc94_10⟩)
          refine own_lload X8 hx 132 rfl (hb hby at_130) rfl ?_
          refine own_lconst X8 hx 133 rfl (0 : Int64) (hb hby at_132) (by decide) ?_
          refine own_lcmp X8 hx 134 rfl (hb hby at_133) ?_
          refine own_ifN X8 hx 137 (hb hby at_134) (Lflt (hpc.1 : ¬ (es_8 < (0 : Int64)))).1 rfl ?_
          refine own_lload X8 hx 139 rfl (hb hby at_137) rfl ?_
          refine own_lload X8 hx 141 rfl (hb hby at_139) rfl ?_
          refine own_lmul X8 hx 142 rfl (hb hby at_141) rfl ?_
          refine own_lload X8 hx 144 rfl (hb hby at_142) rfl ?_
          refine own_lcmp X8 hx 145 rfl (hb hby at_144) ?_
          refine own_ifN X8 hx 148 (hb hby at_145) (Lflt (hpc.2.1 : ¬ ((es_8 * (ad * (1000 : Int64))) < (po * wi)))).1 rfl ?_
          refine own_lload X8 hx 150 rfl (hb hby at_148) rfl ?_
          refine own_lconst X8 hx 151 rfl (1 : Int64) (hb hby at_150) (by decide) ?_
          refine own_lsub X8 hx 152 rfl (hb hby at_151) rfl ?_
          refine own_lload X8 hx 154 rfl (hb hby at_152) rfl ?_
          refine own_lmul X8 hx 155 rfl (hb hby at_154) rfl ?_
          refine own_lload X8 hx 157 rfl (hb hby at_155) rfl ?_
          refine own_lcmp X8 hx 158 rfl (hb hby at_157) ?_
          refine own_ifN X8 hx 161 (hb hby at_158) (Ltlt (hpc.2.2 : ((es_8 - (1 : Int64)) * (ad * (1000 : Int64))) < (po * wi))).2.1 rfl ?_
          refine own_iconst X8 hx 162 rfl (1 : Int32) (hb hby at_161) (by decide) ?_
          refine own_goto X8 hx 166 (hb hby at_162) (by decide) (by decide) ?_
          refine own_retZ X8 hx hlk Bd.returns (by decide) (hb hby at_166) (by decide) (by decide) eh8 ?_
          exact ⟨rfl, N8⟩
    by_cases hc33_11 : (x3 &&& (2 : Int32)) = (0 : Int32)
    · refine own_ifY X1 hx 48 (hb hby at_33) ((if0 _ _).trans (teq hc33_11).1) (by decide) (by decide) ?_
      refine own_iload X1 hx 50 rfl (hb hby at_48) rfl ?_
      refine Goes.go (X1.ldcInt hx hown (mvT hZ (hw _ (List.mem_of_getElem? (i := 27) rfl))) (g := (mkF m 50 #[.val (.long x0), .second, .val (.long x1), .second, .val (.int x2), .val (.int x3), .val (.long po), .second, .val (.long ad), .second, .unset, .unset, .unset, .unset, .unset, .unset, .unset, .unset, .unset] [(.int x2)])) rfl (hb hby at_50)) ?_
      show Goes p e below s _ _ _ T1 (mkF m 52 #[.val (.long x0), .second, .val (.long x1), .second, .val (.int x2), .val (.int x3), .val (.long po), .second, .val (.long ad), .second, .unset, .unset, .unset, .unset, .unset, .unset, .unset, .unset, .unset] [(.int (2147483647 : Int32)), (.int x2)])
      refine own_iand X1 hx 53 rfl (hb hby at_52) rfl ?_
      refine Goes.go (X1.ldcInt hx hown (mvT hZ (hw _ (List.mem_of_getElem? (i := 28) rfl))) (g := (mkF m 53 #[.val (.long x0), .second, .val (.long x1), .second, .val (.int x2), .val (.int x3), .val (.long po), .second, .val (.long ad), .second, .unset, .unset, .unset, .unset, .unset, .unset, .unset, .unset, .unset] [(.int (x2 &&& (2147483647 : Int32)))])) rfl (hb hby at_53)) ?_
      show Goes p e below s _ _ _ T1 (mkF m 55 #[.val (.long x0), .second, .val (.long x1), .second, .val (.int x2), .val (.int x3), .val (.long po), .second, .val (.long ad), .second, .unset, .unset, .unset, .unset, .unset, .unset, .unset, .unset, .unset] [(.int (60001 : Int32)), (.int (x2 &&& (2147483647 : Int32)))])
      refine own_irem X1 hx 56 rfl (hb hby at_55) (by decide) rfl ?_
      refine own_i2l X1 hx 57 rfl (hb hby at_56) rfl ?_
      exact J57 T1 h1 _ (((x2 &&& (2147483647 : Int32)) % (60001 : Int32)).toInt64) (own_wi2 _) X1 e1 N1 K1 Z1 
    · refine own_ifN X1 hx 36 (hb hby at_33) ((if0 _ _).trans (feq hc33_11).1) rfl ?_
      refine Goes.go (X1.ldc2Long hx hown (mvT hZ (hw _ (List.mem_of_getElem? (i := 2) rfl))) (g := (mkF m 36 #[.val (.long x0), .second, .val (.long x1), .second, .val (.int x2), .val (.int x3), .val (.long po), .second, .val (.long ad), .second, .unset, .unset, .unset, .unset, .unset, .unset, .unset, .unset, .unset] [])) rfl (hb hby at_36)) ?_
      show Goes p e below s _ _ _ T1 (mkF m 39 #[.val (.long x0), .second, .val (.long x1), .second, .val (.int x2), .val (.int x3), .val (.long po), .second, .val (.long ad), .second, .unset, .unset, .unset, .unset, .unset, .unset, .unset, .unset, .unset] [(.long (4998 : Int64))])
      refine own_iload X1 hx 41 rfl (hb hby at_39) rfl ?_
      refine own_iconst X1 hx 42 rfl (3 : Int32) (hb hby at_41) (by decide) ?_
      refine own_iand X1 hx 43 rfl (hb hby at_42) rfl ?_
      refine own_i2l X1 hx 44 rfl (hb hby at_43) rfl ?_
      refine own_ladd X1 hx 45 rfl (hb hby at_44) rfl ?_
      refine own_goto X1 hx 57 (hb hby at_45) (by decide) (by decide) ?_
      exact J57 T1 h1 _ ((4998 : Int64) + ((x2 &&& (3 : Int32)).toInt64)) (own_wi1 _) X1 e1 N1 K1 Z1 
  by_cases hc11_12 : (x3 &&& (1 : Int32)) = (0 : Int32)
  · refine own_ifY X0 hx 22 (hb hby at_11) ((if0 _ _).trans (teq hc11_12).1) (by decide) (by decide) ?_
    refine own_lloadN X0 hx 23 rfl (hb hby at_22) rfl ?_
    refine Goes.go (X0.ldc2Long hx hown (mvT hZ (hw _ (List.mem_of_getElem? (i := 26) rfl))) (g := (mkF m 23 #[.val (.long x0), .second, .val (.long x1), .second, .val (.int x2), .val (.int x3), .val (.long po), .second, .unset, .unset, .unset, .unset, .unset, .unset, .unset, .unset, .unset, .unset, .unset] [(.long x1)])) rfl (hb hby at_23)) ?_
    show Goes p e below s _ _ _ s₁ (mkF m 26 #[.val (.long x0), .second, .val (.long x1), .second, .val (.int x2), .val (.int x3), .val (.long po), .second, .unset, .unset, .unset, .unset, .unset, .unset, .unset, .unset, .unset, .unset, .unset] [(.long (4294967295 : Int64)), (.long x1)])
    refine own_land X0 hx 27 rfl (hb hby at_26) rfl ?_
    exact J27 s₁ h0 _ (x1 &&& (4294967295 : Int64)) (own_ad32 _) X0 e0 N0 K0 Z0 
  · refine own_ifN X0 hx 14 (hb hby at_11) ((if0 _ _).trans (feq hc11_12).1) rfl ?_
    refine own_lloadN X0 hx 15 rfl (hb hby at_14) rfl ?_
    refine Goes.go (X0.ldc2Long hx hown (mvT hZ (hw _ (List.mem_of_getElem? (i := 1) rfl))) (g := (mkF m 15 #[.val (.long x0), .second, .val (.long x1), .second, .val (.int x2), .val (.int x3), .val (.long po), .second, .unset, .unset, .unset, .unset, .unset, .unset, .unset, .unset, .unset, .unset, .unset] [(.long x1)])) rfl (hb hby at_15)) ?_
    show Goes p e below s _ _ _ s₁ (mkF m 18 #[.val (.long x0), .second, .val (.long x1), .second, .val (.int x2), .val (.int x3), .val (.long po), .second, .unset, .unset, .unset, .unset, .unset, .unset, .unset, .unset, .unset, .unset, .unset] [(.long (3 : Int64)), (.long x1)])
    refine own_land X0 hx 19 rfl (hb hby at_18) rfl ?_
    refine own_goto X0 hx 27 (hb hby at_19) (by decide) (by decide) ?_
    exact J27 s₁ h0 _ (x1 &&& (3 : Int64)) (own_ad3 _) X0 e0 N0 K0 Z0 
set_option maxRecDepth 65536 in
set_option maxHeartbeats 40000000 in
theorem comes_1 {Post : Tables → Env → Array Value → State → Outcome → State → Prop} (hpost : ∀ tb e args s v u, (limb_1_1.after args s (.returned v) u = true ∧ limb_1_2.after args s (.returned v) u = true ∧ True) → FrameEnd s (.returned v) u (Jvm.fieldLocs frame_1_writes args s ++ Jvm.arrayLocs frame_1_arrays args s ++ Jvm.staticLocs frame_1_statics s) 16 128 → Post tb e args s (.returned v) u) :
    ArmFor flags0 classFile x code maxLocals ret World_1 tables_1 room_1 Calls_1 rest_1 Pre_1 Post := by
  intro l hfl _ _ p e ha hc hk s m args below hf hA hF happ hP
  obtain ⟨hcalls, hrest, hpre⟩ := hP
  obtain ⟨-, -, -, hnamed, -, -, -, hat⟩ := (Spec.applies_iff hf).mp happ
  obtain ⟨hg, hn⟩ := and_e (Cond.before_iff.mp (show (Jvm.Cond.and given_1 narrow_1).before args s = true from hpre))
  obtain ⟨gg1, gg2⟩ := and_e hg
  obtain ⟨gg3, gg4⟩ := and_e gg2
  obtain ⟨gg5, gg6⟩ := and_e gg4
  obtain ⟨gg7, gg8⟩ := and_e gg6
  obtain ⟨w0, w1, w2, w3, rfl⟩ : ∃ w0 w1 w2 w3 : Value, args = #[w0, w1, w2, w3] := by
    have hs : args.size = 4 := by simpa [Cond.value, given_1] using gg1
    obtain ⟨L⟩ := args
    match L, hs with
    | [w0, w1, w2, w3], _ => exact ⟨w0, w1, w2, w3, rfl⟩
  have hw := fun d (hd : d ∈ tables_1) => atoms_spec (ws := Jvm.Cond.code x code maxLocals ret :: tables_1) hat d (List.mem_cons_of_mem _ hd)
  have hfit : Fit s := fun {y c} hc i hi => by
    obtain ⟨ha, rfl⟩ := Array.getElem?_eq_some_iff.mp hc
    have q := List.all_eq_true.mp ((Array.all_eq_true_iff_forall_mem.mp hF) _ (Array.getElem_mem ha)) i (List.mem_range.mpr hi)
    simpa [Array.getElem?_eq_getElem hi] using q
  obtain ⟨i0, ei0⟩ := isL_v gg3
  obtain rfl : w0 = (.long i0) := Option.some.inj ei0
  obtain ⟨i1, ei1⟩ := isL_v gg5
  obtain rfl : w1 = (.long i1) := Option.some.inj ei1
  obtain ⟨i2, ei2⟩ := is_v gg7
  obtain rfl : w2 = (.int i2) := Option.some.inj ei2
  obtain ⟨i3, ei3⟩ := is_v gg8
  obtain rfl : w3 = (.int i3) := Option.some.inj ei3
  obtain ⟨n, o, h1, h2, h3, _, L, rfl, ⟨rfl, N⟩, hq⟩ := rm0 l s _ hw tables_1 i0 i1 i2 i3  s.heap s.heap.size (Nat.le_refl _)  p e ha hc hk s m _ below hf ((Spec.applies_iff_loose hf).mp happ).1 ⟨rfl, State.Warmed39.refl s, rfl⟩ trivial
  refine ⟨n, _, h1, h2, h3, hpost _ _ _ _ _ _ ⟨Cond.after_iff.mpr rfl, Cond.after_iff.mpr (eq_i res_at (Term.int_eval (1)) rfl), trivial⟩ ⟨hq.1, hq.2.1, (hq.2.2.sift fun y hy => Or.inr (N y hy)).mono (by decide) (by decide)⟩⟩
theorem main_1_1 : Claimed_1_1 := comes_1 fun _ _ _ _ _ _ h hF => ⟨h.1, hF⟩
theorem main_1_2 : Claimed_1_2 := comes_1 fun _ _ _ _ _ _ h hF => ⟨h.2.1, hF⟩
end Jvm.Pilot.@@N@@
namespace Jvm.Pilot.@@N@@
open Jvm Jvm.ClassFile Sem Op Lib Jvm.Free Jvm.Stand Jvm.Pilot.@@N@@.Jvm.D
/-! MADE BY PROGRAM (witnessworld.py) out of the Statement's table words and the real class files: 9 classes; the members and pool entries that the words name. The judged class is class 1, her method 1. -/
namespace start1
open Jvm.ClassFile
def u (s : String) : CpInfo := .utf8 (stringToUtf16 s)
/-- a pool by its gaps: so many unusable entries, then the entry; so many at the end -/
def gap : Nat → List CpInfo → List CpInfo
  | 0, r => r
  | n + 1, r => .unusable :: gap n r
def poolList (es : List (Nat × CpInfo)) (last : Nat) : List CpInfo := es.foldr (fun e r => gap e.1 (e.2 :: r)) (gap last [])
def pool (es : List (Nat × CpInfo)) (last : Nat) : Array CpInfo := ⟨poolList es last⟩
def fileOf (pool : Array CpInfo) (this : Nat) (attrs : Array Attribute := #[]) (ms : Array MethodInfo := #[]) (fl : Nat := 33) (sup : Nat := 0) (ifs : Array Nat := #[]) (fds : Array FieldInfo := #[]) : ClassFile where
  minorVersion := 0
  majorVersion := 65
  constantPool := pool
  accessFlags := fl
  thisClass := this
  superClass := sup
  interfaces := ifs
  fields := fds
  methods := ms
  attributes := attrs
def plain (name : String) (sup : Option ClassId) : Class where
  name := name
  kind := .ordinary
  loader := none
  accessFlags := 33
  super := sup
  interfaces := #[]
  cf := none
  fields := #[]
  methods := #[]
  instanceTypes := #[]
  staticTypes := #[]
  resolved := #[]
  callSites := []
  init := .initialized
  statics := none
  mirror := none

def pool0 : Array CpInfo := pool [(5, u "<init>"), (0, u "()V"), (1, .class_ 10), (1, u "java/lang/Object")] 113

def k0c0 : Code := { maxStack := 0, maxLocals := 1, code := object_method_1_code, exceptionTable := #[], attributes := #[] }
def k0m0 : Method := { name := "<init>", desc := "()V", sig := { parameters := [], returnType := none }, accessFlags := 1, code := some k0c0 }
/-- java/lang/Object -/
def k0 : Class := { plain "java/lang/Object" none with
  accessFlags := 33
  interfaces := #[]
  cf := some (fileOf pool0 8 #[] #[{ accessFlags := 1, nameIndex := 5, descriptorIndex := 6, attributes := #[] }] 33 0 #[] #[])
  fields := #[]
  methods := #[k0m0]
  instanceTypes := #[]
  staticTypes := #[]
  resolved := Array.replicate 124 none
  statics := none }

def pool1 : Array CpInfo := pool [(2, .class_ 4), (1, u "java/lang/Object"), (0, u "<init>"), (0, u "()V"), (0, .long 2147483647), (1, .long 3), (1, .long 4294967295), (1, .long 4998), (1, .integer 2147483647), (0, .integer 60001), (0, .class_ 18), (0, u "com/example/narrow_gate/narrowgate/model/Pace"), (0, .methodref 17 20), (0, .nameAndType 5 21), (0, u "(JJ)V"), (0, .methodref 17 23), (0, .nameAndType 24 25), (0, u "estimateWaitSeconds"), (0, u "(J)J"), (0, .long 5000), (1, .long 30), (1, .long 1000), (1, .class_ 33), (0, u "com/example/narrow_gate/narrowgate/model/PaceEstimateWaitSecondsPinLaw"), (2, u "law"), (0, u "(JJII)Z")] 3

def k1m0 : Method := { name := "<init>", desc := "()V", sig := { parameters := [], returnType := none }, accessFlags := 1, code := none }
def k1c1 : Code := { maxStack := 6, maxLocals := 19, code := code, exceptionTable := #[], attributes := #[] }
def k1m1 : Method := { name := "law", desc := "(JJII)Z", sig := { parameters := [.long, .long, .int, .int], returnType := some .boolean }, accessFlags := 9, code := some k1c1 }
/-- com/example/narrow_gate/narrowgate/model/PaceEstimateWaitSecondsPinLaw -/
def k1 : Class := { plain "com/example/narrow_gate/narrowgate/model/PaceEstimateWaitSecondsPinLaw" (some 0) with
  accessFlags := 49
  interfaces := #[]
  cf := some (fileOf pool1 32 #[] #[{ accessFlags := 1, nameIndex := 5, descriptorIndex := 6, attributes := #[] }, { accessFlags := 9, nameIndex := 36, descriptorIndex := 37, attributes := #[] }] 49 2 #[] #[])
  fields := #[]
  methods := #[k1m0, k1m1]
  instanceTypes := #[]
  staticTypes := #[]
  resolved := Array.replicate 41 none
  statics := none }

def pool2 : Array CpInfo := pool [(1, .methodref 2 3), (0, .class_ 4), (0, .nameAndType 5 6), (0, u "java/lang/Object"), (0, u "<init>"), (0, u "()V"), (9, .class_ 17), (0, u "com/example/narrow_gate/narrowgate/model/Pace"), (0, .long 60000), (2, .fieldref 16 22), (0, .nameAndType 23 24), (0, u "admitted"), (0, u "J"), (0, .fieldref 16 26), (0, .nameAndType 27 24), (0, u "windowMillis"), (0, .long 5000), (1, .long 1000), (1, .long 30), (1, u "WINDOW_SECONDS"), (0, u "I"), (2, u "SETTLING_SECONDS"), (1, u "SECONDS_PER_PLACE"), (1, u "(JJ)V"), (3, u "estimateWaitSeconds"), (0, u "(J)J")] 19

def k2c0 : Code := { maxStack := 4, maxLocals := 5, code := prog_4_method_1_code, exceptionTable := #[], attributes := #[] }
def k2m0 : Method := { name := "<init>", desc := "(JJ)V", sig := { parameters := [.long, .long], returnType := none }, accessFlags := 1, code := some k2c0 }
def k2c1 : Code := { maxStack := 4, maxLocals := 7, code := prog_4_method_2_code, exceptionTable := #[], attributes := #[] }
def k2m1 : Method := { name := "estimateWaitSeconds", desc := "(J)J", sig := { parameters := [.long], returnType := some .long }, accessFlags := 1, code := some k2c1 }
/-- com/example/narrow_gate/narrowgate/model/Pace -/
def k2 : Class := { plain "com/example/narrow_gate/narrowgate/model/Pace" (some 0) with
  accessFlags := 49
  interfaces := #[]
  cf := some (fileOf pool2 16 #[] #[{ accessFlags := 1, nameIndex := 5, descriptorIndex := 42, attributes := #[] }, { accessFlags := 1, nameIndex := 46, descriptorIndex := 47, attributes := #[] }] 49 2 #[] #[{ accessFlags := 25, nameIndex := 34, descriptorIndex := 35, attributes := #[] }, { accessFlags := 25, nameIndex := 38, descriptorIndex := 35, attributes := #[] }, { accessFlags := 25, nameIndex := 40, descriptorIndex := 35, attributes := #[] }, { accessFlags := 18, nameIndex := 23, descriptorIndex := 24, attributes := #[] }, { accessFlags := 18, nameIndex := 27, descriptorIndex := 24, attributes := #[] }])
  fields := #[{ name := "WINDOW_SECONDS", type := .int, accessFlags := 25, slot := 0, constantValue := 0 }, { name := "SETTLING_SECONDS", type := .int, accessFlags := 25, slot := 1, constantValue := 0 }, { name := "SECONDS_PER_PLACE", type := .int, accessFlags := 25, slot := 2, constantValue := 0 }, { name := "admitted", type := .long, accessFlags := 18, slot := 0, constantValue := 0 }, { name := "windowMillis", type := .long, accessFlags := 18, slot := 1, constantValue := 0 }]
  methods := #[k2m0, k2m1]
  instanceTypes := #[.long, .long]
  staticTypes := #[.int, .int, .int]
  resolved := Array.replicate 67 none
  statics := none }

def pool3 : Array CpInfo := pool [(1, u "java/lang/Cloneable"), (0, .class_ 1), (0, u "java/lang/Object"), (0, .class_ 3)] 3

/-- java/lang/Cloneable -/
def k3 : Class := { plain "java/lang/Cloneable" (some 0) with
  accessFlags := 1537
  interfaces := #[]
  cf := some (fileOf pool3 2 #[] #[] 1537 4 #[] #[])
  fields := #[]
  methods := #[]
  instanceTypes := #[]
  staticTypes := #[]
  resolved := Array.replicate 8 none
  statics := none }

def pool4 : Array CpInfo := pool [(1, u "java/io/Serializable"), (0, .class_ 1), (0, u "java/lang/Object"), (0, .class_ 3)] 3

/-- java/io/Serializable -/
def k4 : Class := { plain "java/io/Serializable" (some 0) with
  accessFlags := 1537
  interfaces := #[]
  cf := some (fileOf pool4 2 #[] #[] 1537 4 #[] #[])
  fields := #[]
  methods := #[]
  instanceTypes := #[]
  staticTypes := #[]
  resolved := Array.replicate 8 none
  statics := none }

/-- the primitive byte -/
def k5 : Class := { plain "byte" none with kind := .primitive 'B', accessFlags := 0x411 }
/-- [B -/
def k6 : Class := { plain "[B" (some 0) with kind := .array 5 .byte, interfaces := #[3, 4], accessFlags := 1041 }

/-- the primitive int -/
def k7 : Class := { plain "int" none with kind := .primitive 'I', accessFlags := 0x411 }
/-- [I -/
def k8 : Class := { plain "[I" (some 0) with kind := .array 7 .int, interfaces := #[3, 4], accessFlags := 1041 }

def heap : Heap := #[]
def classes : Array Class := #[k0, k1, k2, k3, k4, k5, k6, k7, k8]
def interned : List (Array UInt16 × Addr) := []
def slotsUsed : Nat := 0
def theMethod : MethodId := ⟨1, 1⟩
def args0 : Array Value := #[.long 5, .long 4, .int 3, .int 2]
def aboutOver (below : List Frame) : State where
  vm := { classes := classes, interned := interned.toArray }
  heap := heap
  slotsUsed := slotsUsed
  threads := #[{ frames := .invoking theMethod args0 :: below }]
def below0 : List Frame := [.native { method := ⟨0, 0⟩, args := #[] }]
def about1 : State := aboutOver below0
def p0 : Program := .bare "" "" ""
def e0 : Env := launch0.env 0 0 0
theorem w_frames : about1.frames = Frame.invoking theMethod args0 :: below0 := rfl
set_option maxRecDepth 65536 in
theorem w_args : argsFit about1.vm theMethod args0 = true := by decide +kernel
set_option maxRecDepth 65536 in
theorem w_heap : heapFits about1 = true := by decide +kernel
set_option maxRecDepth 65536 in
theorem w_runnable : about1.curStatus? = some .runnable := by decide +kernel
set_option maxRecDepth 65536 in
theorem w_alone : about1.alone = true := by decide +kernel
set_option maxRecDepth 65536 in
theorem w_named : about1.methodNamed? x = some theMethod := by decide +kernel
set_option maxRecDepth 65536 in
theorem w_hears : about1.hears theMethod below0 = true := by decide +kernel
set_option maxRecDepth 65536 in
theorem w_ripe : about1.ripe theMethod args0 below0 = true := by decide +kernel
theorem w_running : about1.status = .running := rfl
set_option maxRecDepth 65536 in
theorem w_room : about1.hasRoom e0.platform room_1 = true :=
  launch0.hasRoom_least _ room_1 (by decide +kernel) (by decide +kernel) (by decide +kernel) (by decide +kernel) (by decide +kernel) (by decide +kernel)
theorem allAtoms_all (ts : List Jvm.Cond) (a : Array Jvm.Value) (st : Jvm.State) : (allAtoms ts).before a st = ts.all (fun c => c.before a st) := by
  induction ts with
  | nil => rfl
  | cons c t ih =>
    show (Jvm.Cond.and c (allAtoms t)).before a st = _
    rw [Jvm.Cond.before_and, ih, List.all_cons]
def words1 : List Jvm.Cond := Jvm.Cond.code x code maxLocals ret :: tables_1
/-- a 'code' word, met by the world's own term for the bytes: nothing is compared byte by byte -/
theorem code_word {y : MethodName} {bytes : ByteArray} {mx : Nat} {rt : Option FieldType} {a : Array Value} {s : State} {m : MethodId} {meth : Method} {c : Code} (h1 : s.methodNamed? y = some m) (h2 : s.vm.method? m = some meth) (h3 : meth.code = some c) (h4 : c.code = bytes)
    (h5 : (c.maxLocals == mx && c.exceptionTable.isEmpty && decide (c.maxStack ≤ mostOperands) && decide (meth.sig.returnType = rt) && !meth.locks && decide (parseMethodDescriptor y.desc = some meth.sig)) = true) : (Jvm.Cond.code y bytes mx rt).before a s = true := by
  simp only [Bool.and_eq_true, beq_iff_eq, Bool.not_eq_true', decide_eq_true_eq] at h5
  obtain ⟨⟨⟨⟨⟨g1, g2⟩, g3⟩, g4⟩, g5⟩, g6⟩ := h5
  simp [Cond.before, Cond.holds, Cond.value, h1, h2, h3, h4, g1, g2, g3, g4, g5, g6]
def isCode : Jvm.Cond → Bool
  | .code _ _ _ _ => true
  | _ => false
theorem all_split {L : List Jvm.Cond} {P : Jvm.Cond → Bool} (h1 : L.all (fun c => isCode c || P c) = true) (h2 : ∀ c ∈ L.filter isCode, P c = true) : L.all P = true := by
  refine List.all_eq_true.mpr fun c hc => ?_
  have h := List.all_eq_true.mp h1 c hc
  rcases Bool.eq_false_or_eq_true (isCode c) with hi | hi
  · exact h2 c (List.mem_filter.mpr ⟨hc, hi⟩)
  · simpa [hi] using h
set_option maxRecDepth 65536 in
theorem w_c0 : (Jvm.Cond.code x code maxLocals ret).before args0 about1 = true := code_word (m := ⟨1, 1⟩) (meth := k1m1) (c := k1c1) (by decide +kernel) rfl rfl rfl (by decide +kernel)
set_option maxRecDepth 65536 in
theorem w_c1 : (Jvm.Cond.code ({ cls := "com/example/narrow_gate/narrowgate/model/Pace", name := "<init>", desc := "(JJ)V" } : Jvm.MethodName) prog_4_method_1_code (5 : Nat) (Option.none : Option Jvm.ClassFile.FieldType)).before args0 about1 = true := code_word (m := ⟨2, 0⟩) (meth := k2m0) (c := k2c0) (by decide +kernel) rfl rfl rfl (by decide +kernel)
set_option maxRecDepth 65536 in
theorem w_c2 : (Jvm.Cond.code ({ cls := "java/lang/Object", name := "<init>", desc := "()V" } : Jvm.MethodName) object_method_1_code (1 : Nat) (Option.none : Option Jvm.ClassFile.FieldType)).before args0 about1 = true := code_word (m := ⟨0, 0⟩) (meth := k0m0) (c := k0c0) (by decide +kernel) rfl rfl rfl (by decide +kernel)
set_option maxRecDepth 65536 in
theorem w_c3 : (Jvm.Cond.code ({ cls := "com/example/narrow_gate/narrowgate/model/Pace", name := "estimateWaitSeconds", desc := "(J)J" } : Jvm.MethodName) prog_4_method_2_code (7 : Nat) (Option.some Jvm.ClassFile.FieldType.long)).before args0 about1 = true := code_word (m := ⟨2, 1⟩) (meth := k2m1) (c := k2c1) (by decide +kernel) rfl rfl rfl (by decide +kernel)
def codes1 : List Jvm.Cond := [Jvm.Cond.code x code maxLocals ret, Jvm.Cond.code ({ cls := "com/example/narrow_gate/narrowgate/model/Pace", name := "<init>", desc := "(JJ)V" } : Jvm.MethodName) prog_4_method_1_code (5 : Nat) (Option.none : Option Jvm.ClassFile.FieldType), Jvm.Cond.code ({ cls := "java/lang/Object", name := "<init>", desc := "()V" } : Jvm.MethodName) object_method_1_code (1 : Nat) (Option.none : Option Jvm.ClassFile.FieldType), Jvm.Cond.code ({ cls := "com/example/narrow_gate/narrowgate/model/Pace", name := "estimateWaitSeconds", desc := "(J)J" } : Jvm.MethodName) prog_4_method_2_code (7 : Nat) (Option.some Jvm.ClassFile.FieldType.long)]
set_option maxRecDepth 65536 in
theorem codes_eq : words1.filter isCode = codes1 := rfl
theorem w_codes : ∀ c ∈ words1.filter isCode, c.before args0 about1 = true := by
  rw [codes_eq]
  intro c hc
  simp only [codes1, List.mem_cons, List.not_mem_nil, or_false] at hc
  rcases hc with rfl | rfl | rfl | rfl
  · exact w_c0
  · exact w_c1
  · exact w_c2
  · exact w_c3
set_option maxRecDepth 65536 in
theorem w_t1 : (words1.take 24).all (fun c => isCode c || c.before args0 about1) = true := by decide +kernel
set_option maxRecDepth 65536 in
theorem w_t2 : (words1.drop 24).all (fun c => isCode c || c.before args0 about1) = true := by decide +kernel
theorem w_tables : (allAtoms (Jvm.Cond.code x code maxLocals ret :: tables_1)).before args0 about1 = true := by
  rw [allAtoms_all]
  show words1.all (fun c => c.before args0 about1) = true
  refine all_split ?_ w_codes
  rw [← List.take_append_drop 24 words1, List.all_append, w_t1, w_t2]
  rfl
set_option maxRecDepth 65536 in
theorem w_case : (Jvm.Cond.and given_1 narrow_1).before args0 about1 = true := by decide +kernel
theorem w_applies : (headSpec (Jvm.Cond.code x code maxLocals ret :: tables_1) room_1).applies x e0.platform about1 = true :=
  (Spec.applies_iff w_frames).mpr ⟨w_running, w_runnable, w_alone, w_named, w_hears, w_ripe, w_room, w_tables⟩
theorem atStart : AtStart classFile x code maxLocals ret World_1 tables_1 room_1 Calls_1 rest_1 Pre_1 launch0 p0 e0 about1 theMethod args0 below0 :=
  ⟨lists_1, trivial, launch0.admits_env _ _ _, launch0.least_env, fairChoices_fair.cas, fairChoices_fair.clock, w_frames, w_args, w_heap, w_applies, trivial, trivial, w_case⟩
end start1
theorem witness_1 : WitnessClaimed_1 := ⟨start1.p0, start1.e0, start1.about1, start1.theMethod, start1.args0, start1.below0, start1.atStart⟩
end Jvm.Pilot.@@N@@
