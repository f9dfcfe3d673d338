import JvmDerived
import JvmDerived.Pilot.@@N@@Statement
import JvmDerived.Pilot.@@N@@Code
set_option linter.unusedVariables false
set_option linter.unusedSimpArgs false
namespace Jvm.Pilot.@@N@@
open Jvm Jvm.ClassFile Sem Op Lib Jvm.Free Jvm.Stand Jvm.LawKit Jvm.RoadKit Bundle Jvm.Pilot.@@N@@.Jvm.D
section Own
variable {p : Program} {l : Launch} {e : Env} {R : Room} {s : State} {m : MethodId} {args : Array Value} {below : List Frame} {meth : Method} {c : Code} {T : State} {locs : List Loc} {cells slots : Nat} {C S : Nat} {Q : Option Value → Heap → List Loc → Prop}
/-- from the state T with the frame g on top the run comes to the method's end, and Q holds there -/
def Goes (p : Program) (e : Env) (below : List Frame) (s : State) (C S : Nat) (Q : Option Value → Heap → List Loc → Prop) (T : State) (g : JFrame) : Prop :=
  ∃ s₂ o, Steps p.tables e below (T.setTop g) s₂ ∧ s₂.status = .running ∧ Ended s₂ below o ∧ ∃ v L, o = .returned v ∧ Q v s₂.heap L ∧ FrameEnd s o s₂ L C S
theorem Goes.go {T' : State} {g g' : JFrame} (st : ∀ t, Steps p.tables e below (T'.setTop g') t → Steps p.tables e below (T.setTop g) t) (h : Goes p e below s C S Q T' g') : Goes p e below s C S Q T g := by
  obtain ⟨s₂, o, h1, h2⟩ := h; exact ⟨s₂, o, st _ h1, h2⟩
theorem Goes.tr {T' : State} {g g' : JFrame} (st : Steps p.tables e below (T.setTop g) (T'.setTop g')) (h : Goes p e below s C S Q T' g') : Goes p e below s C S Q T g := Goes.go (fun _ k => st.trans k) h
/-- a value comes back -/
theorem own_ret (X : Stand p l e R s m args below meth c T locs cells slots) (hx : p.tables.exec = Jvm.exec) (hlk : meth.locks = false) {t : FieldType} (hret : meth.sig.returnType = some t) {i : Instr} {w : Value} (hn : narrow t w = w)
    (hi : (i = .ireturn ∧ (t = .int ∨ t = .boolean ∨ t = .byte ∨ t = .char ∨ t = .short) ∧ ∃ z, w = .int z) ∨ (i = .lreturn ∧ t = .long ∧ ∃ z, w = .long z) ∨ (i = .dreturn ∧ t = .double ∧ ∃ z, w = .double z) ∨ (i = .freturn ∧ t = .float ∧ ∃ z, w = .float z) ∨ (i = .areturn ∧ t.isReference = true ∧ w.isRef = true))
    {pc : Nat} {Ls : Array Slot} {rest : List Value} (hd : decode c.code pc = .ok (i, 1)) (hC : cells ≤ C) (hS : slots ≤ S) {h : Heap} (eT : T.heap = h) (hQ : Q (some w) h locs) : Goes p e below s C S Q T (mkF m pc Ls (w :: rest)) := by
  obtain ⟨fs, hr, hrun, hended, hW, hsame⟩ := X.leave (v := some w) (fun h => by rw [hret] at h; cases h)
  subst eT
  exact ⟨_, _, retOut X hx hret hn hi hd hr, hrun, hended, _, _, rfl, hQ, ⟨_, rfl⟩, hW, hsame.mono hC hS⟩
theorem own_retI (X : Stand p l e R s m args below meth c T locs cells slots) (hx : p.tables.exec = Jvm.exec) (hlk : meth.locks = false) (hret : meth.sig.returnType = some .int) {z : Int32}
    {pc : Nat} {Ls : Array Slot} {rest : List Value} (hd : decode c.code pc = .ok (.ireturn, 1)) (hC : cells ≤ C) (hS : slots ≤ S) {h : Heap} (eT : T.heap = h) (hQ : Q (some (.int z)) h locs) : Goes p e below s C S Q T (mkF m pc Ls (.int z :: rest)) :=
  own_ret X hx hlk hret rfl (Or.inl ⟨rfl, Or.inl rfl, z, rfl⟩) hd hC hS eT hQ
theorem own_retZ (X : Stand p l e R s m args below meth c T locs cells slots) (hx : p.tables.exec = Jvm.exec) (hlk : meth.locks = false) (hret : meth.sig.returnType = some .boolean) {z : Int32} (hn : narrow .boolean (.int z) = .int z)
    {pc : Nat} {Ls : Array Slot} {rest : List Value} (hd : decode c.code pc = .ok (.ireturn, 1)) (hC : cells ≤ C) (hS : slots ≤ S) {h : Heap} (eT : T.heap = h) (hQ : Q (some (.int z)) h locs) : Goes p e below s C S Q T (mkF m pc Ls (.int z :: rest)) :=
  own_ret X hx hlk hret hn (Or.inl ⟨rfl, Or.inr (Or.inl rfl), z, rfl⟩) hd hC hS eT hQ
theorem own_retJ (X : Stand p l e R s m args below meth c T locs cells slots) (hx : p.tables.exec = Jvm.exec) (hlk : meth.locks = false) (hret : meth.sig.returnType = some .long) {z : Int64}
    {pc : Nat} {Ls : Array Slot} {rest : List Value} (hd : decode c.code pc = .ok (.lreturn, 1)) (hC : cells ≤ C) (hS : slots ≤ S) {h : Heap} (eT : T.heap = h) (hQ : Q (some (.long z)) h locs) : Goes p e below s C S Q T (mkF m pc Ls (.long z :: rest)) :=
  own_ret X hx hlk hret rfl (Or.inr (Or.inl ⟨rfl, rfl, z, rfl⟩)) hd hC hS eT hQ
theorem own_narR {t : FieldType} {w : Value} (hw : w.isRef = true) : narrow t w = w := by
  rcases ref_cases hw with rfl | ⟨a, rfl⟩ <;> cases t <;> rfl
theorem own_retR (X : Stand p l e R s m args below meth c T locs cells slots) (hx : p.tables.exec = Jvm.exec) (hlk : meth.locks = false) {t : FieldType} (hret : meth.sig.returnType = some t) (ht : t.isReference = true) {w : Value} (hw : w.isRef = true)
    {pc : Nat} {Ls : Array Slot} {rest : List Value} (hd : decode c.code pc = .ok (.areturn, 1)) (hC : cells ≤ C) (hS : slots ≤ S) {h : Heap} (eT : T.heap = h) (hQ : Q (some w) h locs) : Goes p e below s C S Q T (mkF m pc Ls (w :: rest)) :=
  own_ret X hx hlk hret (own_narR hw) (Or.inr (Or.inr (Or.inr (Or.inr ⟨rfl, ht, hw⟩)))) hd hC hS eT hQ
theorem own_retV (X : Stand p l e R s m args below meth c T locs cells slots) (hx : p.tables.exec = Jvm.exec) (hlk : meth.locks = false) (hret : meth.sig.returnType = none)
    {pc : Nat} {Ls : Array Slot} (hd : decode c.code pc = .ok (.return_, 1)) (hC : cells ≤ C) (hS : slots ≤ S) {h : Heap} (eT : T.heap = h) (hQ : Q none h locs) : Goes p e below s C S Q T (mkF m pc Ls []) := by
  obtain ⟨fs, hr, hrun, hended, hW, hsame⟩ := X.leave (v := none) (fun _ => rfl)
  subst eT
  exact ⟨_, _, X.returnOut hx hret hd hr, hrun, hended, _, _, rfl, hQ, ⟨_, rfl⟩, hW, hsame.mono hC hS⟩
/-- the entry -/
theorem own_enter {s₁ : State} {maxL : Nat} {as' : Array Value} {Ls : Array Slot} (hE : entryFrame m as' maxL = mkF m 0 Ls []) (h : Goes p e below s C S Q s₁ (mkF m 0 Ls [])) :
    ∃ s₂ o, Steps p.tables e below (s₁.setTop (entryFrame m as' maxL)) s₂ ∧ s₂.status = .running ∧ Ended s₂ below o ∧ ∃ v L, o = .returned v ∧ Q v s₂.heap L ∧ FrameEnd s o s₂ L C S := by
  rw [hE]; exact h
section Steps1
variable {pc : Nat} {Ls : Array Slot} {rest : List Value}
theorem own_iadd (X : Stand p l e R s m args below meth c T locs cells slots) (hx : p.tables.exec = Jvm.exec) (pc' : Nat) (hp : pc + 1 = pc') {x y z : Int32} (hd : decode c.code pc = .ok (.iadd, 1)) (hz : x + y = z) (h : Goes p e below s C S Q T (mkF m pc' Ls (.int z :: rest))) : Goes p e below s C S Q T (mkF m pc Ls (.int y :: .int x :: rest)) := by
  subst hp; subst hz; exact Goes.go (fun _ k => XS.iadd X.here hx rfl hd rfl k) h
theorem own_isub (X : Stand p l e R s m args below meth c T locs cells slots) (hx : p.tables.exec = Jvm.exec) (pc' : Nat) (hp : pc + 1 = pc') {x y z : Int32} (hd : decode c.code pc = .ok (.isub, 1)) (hz : x - y = z) (h : Goes p e below s C S Q T (mkF m pc' Ls (.int z :: rest))) : Goes p e below s C S Q T (mkF m pc Ls (.int y :: .int x :: rest)) := by
  subst hp; subst hz; exact Goes.go (fun _ k => XS.isub X.here hx rfl hd rfl k) h
theorem own_imul (X : Stand p l e R s m args below meth c T locs cells slots) (hx : p.tables.exec = Jvm.exec) (pc' : Nat) (hp : pc + 1 = pc') {x y z : Int32} (hd : decode c.code pc = .ok (.imul, 1)) (hz : x * y = z) (h : Goes p e below s C S Q T (mkF m pc' Ls (.int z :: rest))) : Goes p e below s C S Q T (mkF m pc Ls (.int y :: .int x :: rest)) := by
  subst hp; subst hz; exact Goes.go (fun _ k => XS.imul X.here hx rfl hd rfl k) h
theorem own_iand (X : Stand p l e R s m args below meth c T locs cells slots) (hx : p.tables.exec = Jvm.exec) (pc' : Nat) (hp : pc + 1 = pc') {x y z : Int32} (hd : decode c.code pc = .ok (.iand, 1)) (hz : x &&& y = z) (h : Goes p e below s C S Q T (mkF m pc' Ls (.int z :: rest))) : Goes p e below s C S Q T (mkF m pc Ls (.int y :: .int x :: rest)) := by
  subst hp; subst hz; exact Goes.go (fun _ k => XS.iand X.here hx rfl hd rfl k) h
theorem own_ior (X : Stand p l e R s m args below meth c T locs cells slots) (hx : p.tables.exec = Jvm.exec) (pc' : Nat) (hp : pc + 1 = pc') {x y z : Int32} (hd : decode c.code pc = .ok (.ior, 1)) (hz : x ||| y = z) (h : Goes p e below s C S Q T (mkF m pc' Ls (.int z :: rest))) : Goes p e below s C S Q T (mkF m pc Ls (.int y :: .int x :: rest)) := by
  subst hp; subst hz; exact Goes.go (fun _ k => XS.ior X.here hx rfl hd rfl k) h
theorem own_ixor (X : Stand p l e R s m args below meth c T locs cells slots) (hx : p.tables.exec = Jvm.exec) (pc' : Nat) (hp : pc + 1 = pc') {x y z : Int32} (hd : decode c.code pc = .ok (.ixor, 1)) (hz : x ^^^ y = z) (h : Goes p e below s C S Q T (mkF m pc' Ls (.int z :: rest))) : Goes p e below s C S Q T (mkF m pc Ls (.int y :: .int x :: rest)) := by
  subst hp; subst hz; exact Goes.go (fun _ k => XS.ixor X.here hx rfl hd rfl k) h
theorem own_idiv (X : Stand p l e R s m args below meth c T locs cells slots) (hx : p.tables.exec = Jvm.exec) (pc' : Nat) (hp : pc + 1 = pc') {x y z : Int32} (hd : decode c.code pc = .ok (.idiv, 1)) (hy : y ≠ 0) (hz : x / y = z) (h : Goes p e below s C S Q T (mkF m pc' Ls (.int z :: rest))) : Goes p e below s C S Q T (mkF m pc Ls (.int y :: .int x :: rest)) := by
  subst hp; subst hz; exact Goes.go (fun _ k => XS.idiv X.here hx rfl hd rfl hy k) h
theorem own_ishl (X : Stand p l e R s m args below meth c T locs cells slots) (hx : p.tables.exec = Jvm.exec) (pc' : Nat) (hp : pc + 1 = pc') {x z : Int32} {y : Int32} (hd : decode c.code pc = .ok (.ishl, 1)) (hz : (x <<< (y &&& 31)) = z) (h : Goes p e below s C S Q T (mkF m pc' Ls (.int z :: rest))) : Goes p e below s C S Q T (mkF m pc Ls (.int y :: .int x :: rest)) := by
  subst hp; subst hz; exact Goes.go (fun _ k => XS.ishl X.here hx rfl hd rfl k) h
theorem own_ishr (X : Stand p l e R s m args below meth c T locs cells slots) (hx : p.tables.exec = Jvm.exec) (pc' : Nat) (hp : pc + 1 = pc') {x z : Int32} {y : Int32} (hd : decode c.code pc = .ok (.ishr, 1)) (hz : (x >>> (y &&& 31)) = z) (h : Goes p e below s C S Q T (mkF m pc' Ls (.int z :: rest))) : Goes p e below s C S Q T (mkF m pc Ls (.int y :: .int x :: rest)) := by
  subst hp; subst hz; exact Goes.go (fun _ k => XS.ishr X.here hx rfl hd rfl k) h
theorem own_iushr (X : Stand p l e R s m args below meth c T locs cells slots) (hx : p.tables.exec = Jvm.exec) (pc' : Nat) (hp : pc + 1 = pc') {x z : Int32} {y : Int32} (hd : decode c.code pc = .ok (.iushr, 1)) (hz : ((x.toUInt32 >>> (y &&& 31).toUInt32).toInt32) = z) (h : Goes p e below s C S Q T (mkF m pc' Ls (.int z :: rest))) : Goes p e below s C S Q T (mkF m pc Ls (.int y :: .int x :: rest)) := by
  subst hp; subst hz; exact Goes.go (fun _ k => XS.iushr X.here hx rfl hd rfl k) h
theorem own_ladd (X : Stand p l e R s m args below meth c T locs cells slots) (hx : p.tables.exec = Jvm.exec) (pc' : Nat) (hp : pc + 1 = pc') {x y z : Int64} (hd : decode c.code pc = .ok (.ladd, 1)) (hz : x + y = z) (h : Goes p e below s C S Q T (mkF m pc' Ls (.long z :: rest))) : Goes p e below s C S Q T (mkF m pc Ls (.long y :: .long x :: rest)) := by
  subst hp; subst hz; exact Goes.go (fun _ k => XS.ladd X.here hx rfl hd rfl k) h
theorem own_lsub (X : Stand p l e R s m args below meth c T locs cells slots) (hx : p.tables.exec = Jvm.exec) (pc' : Nat) (hp : pc + 1 = pc') {x y z : Int64} (hd : decode c.code pc = .ok (.lsub, 1)) (hz : x - y = z) (h : Goes p e below s C S Q T (mkF m pc' Ls (.long z :: rest))) : Goes p e below s C S Q T (mkF m pc Ls (.long y :: .long x :: rest)) := by
  subst hp; subst hz; exact Goes.go (fun _ k => XS.lsub X.here hx rfl hd rfl k) h
theorem own_lmul (X : Stand p l e R s m args below meth c T locs cells slots) (hx : p.tables.exec = Jvm.exec) (pc' : Nat) (hp : pc + 1 = pc') {x y z : Int64} (hd : decode c.code pc = .ok (.lmul, 1)) (hz : x * y = z) (h : Goes p e below s C S Q T (mkF m pc' Ls (.long z :: rest))) : Goes p e below s C S Q T (mkF m pc Ls (.long y :: .long x :: rest)) := by
  subst hp; subst hz; exact Goes.go (fun _ k => XS.lmul X.here hx rfl hd rfl k) h
theorem own_land (X : Stand p l e R s m args below meth c T locs cells slots) (hx : p.tables.exec = Jvm.exec) (pc' : Nat) (hp : pc + 1 = pc') {x y z : Int64} (hd : decode c.code pc = .ok (.land, 1)) (hz : x &&& y = z) (h : Goes p e below s C S Q T (mkF m pc' Ls (.long z :: rest))) : Goes p e below s C S Q T (mkF m pc Ls (.long y :: .long x :: rest)) := by
  subst hp; subst hz; exact Goes.go (fun _ k => XS.land X.here hx rfl hd rfl k) h
theorem own_lor (X : Stand p l e R s m args below meth c T locs cells slots) (hx : p.tables.exec = Jvm.exec) (pc' : Nat) (hp : pc + 1 = pc') {x y z : Int64} (hd : decode c.code pc = .ok (.lor, 1)) (hz : x ||| y = z) (h : Goes p e below s C S Q T (mkF m pc' Ls (.long z :: rest))) : Goes p e below s C S Q T (mkF m pc Ls (.long y :: .long x :: rest)) := by
  subst hp; subst hz; exact Goes.go (fun _ k => XS.lor X.here hx rfl hd rfl k) h
theorem own_lxor (X : Stand p l e R s m args below meth c T locs cells slots) (hx : p.tables.exec = Jvm.exec) (pc' : Nat) (hp : pc + 1 = pc') {x y z : Int64} (hd : decode c.code pc = .ok (.lxor, 1)) (hz : x ^^^ y = z) (h : Goes p e below s C S Q T (mkF m pc' Ls (.long z :: rest))) : Goes p e below s C S Q T (mkF m pc Ls (.long y :: .long x :: rest)) := by
  subst hp; subst hz; exact Goes.go (fun _ k => XS.lxor X.here hx rfl hd rfl k) h
theorem own_ldiv (X : Stand p l e R s m args below meth c T locs cells slots) (hx : p.tables.exec = Jvm.exec) (pc' : Nat) (hp : pc + 1 = pc') {x y z : Int64} (hd : decode c.code pc = .ok (.ldiv, 1)) (hy : y ≠ 0) (hz : x / y = z) (h : Goes p e below s C S Q T (mkF m pc' Ls (.long z :: rest))) : Goes p e below s C S Q T (mkF m pc Ls (.long y :: .long x :: rest)) := by
  subst hp; subst hz; exact Goes.go (fun _ k => XS.ldiv X.here hx rfl hd rfl hy k) h
theorem own_lshl (X : Stand p l e R s m args below meth c T locs cells slots) (hx : p.tables.exec = Jvm.exec) (pc' : Nat) (hp : pc + 1 = pc') {x z : Int64} {y : Int32} (hd : decode c.code pc = .ok (.lshl, 1)) (hz : (x <<< (y &&& 0x3f).toInt64) = z) (h : Goes p e below s C S Q T (mkF m pc' Ls (.long z :: rest))) : Goes p e below s C S Q T (mkF m pc Ls (.int y :: .long x :: rest)) := by
  subst hp; subst hz; exact Goes.go (fun _ k => XS.lshl X.here hx rfl hd rfl k) h
theorem own_lshr (X : Stand p l e R s m args below meth c T locs cells slots) (hx : p.tables.exec = Jvm.exec) (pc' : Nat) (hp : pc + 1 = pc') {x z : Int64} {y : Int32} (hd : decode c.code pc = .ok (.lshr, 1)) (hz : (x >>> (y &&& 0x3f).toInt64) = z) (h : Goes p e below s C S Q T (mkF m pc' Ls (.long z :: rest))) : Goes p e below s C S Q T (mkF m pc Ls (.int y :: .long x :: rest)) := by
  subst hp; subst hz; exact Goes.go (fun _ k => XS.lshr X.here hx rfl hd rfl k) h
theorem own_lushr (X : Stand p l e R s m args below meth c T locs cells slots) (hx : p.tables.exec = Jvm.exec) (pc' : Nat) (hp : pc + 1 = pc') {x z : Int64} {y : Int32} (hd : decode c.code pc = .ok (.lushr, 1)) (hz : ((x.toUInt64 >>> (y &&& 0x3f).toInt64.toUInt64).toInt64) = z) (h : Goes p e below s C S Q T (mkF m pc' Ls (.long z :: rest))) : Goes p e below s C S Q T (mkF m pc Ls (.int y :: .long x :: rest)) := by
  subst hp; subst hz; exact Goes.go (fun _ k => XS.lushr X.here hx rfl hd rfl k) h
theorem own_irem (X : Stand p l e R s m args below meth c T locs cells slots) (hx : p.tables.exec = Jvm.exec) (pc' : Nat) (hp : pc + 1 = pc') {x y z : Int32} (hd : decode c.code pc = .ok (.irem, 1)) (hy : y ≠ 0) (hz : x % y = z) (h : Goes p e below s C S Q T (mkF m pc' Ls (.int z :: rest))) : Goes p e below s C S Q T (mkF m pc Ls (.int y :: .int x :: rest)) := by
  subst hp; subst hz; exact Goes.go (fun _ k => iremM X hx rfl hd rfl hy k) h
theorem own_lrem (X : Stand p l e R s m args below meth c T locs cells slots) (hx : p.tables.exec = Jvm.exec) (pc' : Nat) (hp : pc + 1 = pc') {x y z : Int64} (hd : decode c.code pc = .ok (.lrem, 1)) (hy : y ≠ 0) (hz : x % y = z) (h : Goes p e below s C S Q T (mkF m pc' Ls (.long z :: rest))) : Goes p e below s C S Q T (mkF m pc Ls (.long y :: .long x :: rest)) := by
  subst hp; subst hz; exact Goes.go (fun _ k => XS.lrem X.here hx rfl hd rfl hy (by rw [lrem_mod]; exact k)) h
theorem own_ineg (X : Stand p l e R s m args below meth c T locs cells slots) (hx : p.tables.exec = Jvm.exec) (pc' : Nat) (hp : pc + 1 = pc') {x : Int32} {z : Int32} (hd : decode c.code pc = .ok (.ineg, 1)) (hz : -x = z) (h : Goes p e below s C S Q T (mkF m pc' Ls (.int z :: rest))) : Goes p e below s C S Q T (mkF m pc Ls (.int x :: rest)) := by
  subst hp; subst hz; exact Goes.go (fun _ k => XS.ineg X.here hx rfl hd rfl k) h
theorem own_lneg (X : Stand p l e R s m args below meth c T locs cells slots) (hx : p.tables.exec = Jvm.exec) (pc' : Nat) (hp : pc + 1 = pc') {x : Int64} {z : Int64} (hd : decode c.code pc = .ok (.lneg, 1)) (hz : -x = z) (h : Goes p e below s C S Q T (mkF m pc' Ls (.long z :: rest))) : Goes p e below s C S Q T (mkF m pc Ls (.long x :: rest)) := by
  subst hp; subst hz; exact Goes.go (fun _ k => XS.lneg X.here hx rfl hd rfl k) h
theorem own_i2l (X : Stand p l e R s m args below meth c T locs cells slots) (hx : p.tables.exec = Jvm.exec) (pc' : Nat) (hp : pc + 1 = pc') {x : Int32} {z : Int64} (hd : decode c.code pc = .ok (.i2l, 1)) (hz : x.toInt64 = z) (h : Goes p e below s C S Q T (mkF m pc' Ls (.long z :: rest))) : Goes p e below s C S Q T (mkF m pc Ls (.int x :: rest)) := by
  subst hp; subst hz; exact Goes.go (fun _ k => XS.i2l X.here hx rfl hd rfl k) h
theorem own_l2i (X : Stand p l e R s m args below meth c T locs cells slots) (hx : p.tables.exec = Jvm.exec) (pc' : Nat) (hp : pc + 1 = pc') {x : Int64} {z : Int32} (hd : decode c.code pc = .ok (.l2i, 1)) (hz : x.toInt32 = z) (h : Goes p e below s C S Q T (mkF m pc' Ls (.int z :: rest))) : Goes p e below s C S Q T (mkF m pc Ls (.long x :: rest)) := by
  subst hp; subst hz; exact Goes.go (fun _ k => XS.l2i X.here hx rfl hd rfl k) h
theorem own_i2b (X : Stand p l e R s m args below meth c T locs cells slots) (hx : p.tables.exec = Jvm.exec) (pc' : Nat) (hp : pc + 1 = pc') {x : Int32} {z : Int32} (hd : decode c.code pc = .ok (.i2b, 1)) (hz : x.toInt8.toInt32 = z) (h : Goes p e below s C S Q T (mkF m pc' Ls (.int z :: rest))) : Goes p e below s C S Q T (mkF m pc Ls (.int x :: rest)) := by
  subst hp; subst hz; exact Goes.go (fun _ k => XS.i2b X.here hx rfl hd rfl k) h
theorem own_i2s (X : Stand p l e R s m args below meth c T locs cells slots) (hx : p.tables.exec = Jvm.exec) (pc' : Nat) (hp : pc + 1 = pc') {x : Int32} {z : Int32} (hd : decode c.code pc = .ok (.i2s, 1)) (hz : x.toInt16.toInt32 = z) (h : Goes p e below s C S Q T (mkF m pc' Ls (.int z :: rest))) : Goes p e below s C S Q T (mkF m pc Ls (.int x :: rest)) := by
  subst hp; subst hz; exact Goes.go (fun _ k => XS.i2s X.here hx rfl hd rfl k) h
theorem own_i2c (X : Stand p l e R s m args below meth c T locs cells slots) (hx : p.tables.exec = Jvm.exec) (pc' : Nat) (hp : pc + 1 = pc') {x : Int32} {z : Int32} (hd : decode c.code pc = .ok (.i2c, 1)) (hz : x.toUInt32.toUInt16.toUInt32.toInt32 = z) (h : Goes p e below s C S Q T (mkF m pc' Ls (.int z :: rest))) : Goes p e below s C S Q T (mkF m pc Ls (.int x :: rest)) := by
  subst hp; subst hz; exact Goes.go (fun _ k => XS.i2c X.here hx rfl hd rfl k) h
theorem own_lcmp (X : Stand p l e R s m args below meth c T locs cells slots) (hx : p.tables.exec = Jvm.exec) (pc' : Nat) (hp : pc + 1 = pc') {x y : Int64} (hd : decode c.code pc = .ok (.lcmp, 1))  (h : Goes p e below s C S Q T (mkF m pc' Ls (.int (lcmpW x y) :: rest))) : Goes p e below s C S Q T (mkF m pc Ls (.long y :: .long x :: rest)) := by
  subst hp; exact Goes.go (fun _ k => XS.lcmp X.here hx rfl hd rfl k) h
theorem own_iload (X : Stand p l e R s m args below meth c T locs cells slots) (hx : p.tables.exec = Jvm.exec) (pc' : Nat) (hp : pc + 2 = pc') {k : Nat} {v : Int32} (hd : decode c.code pc = .ok (.iload k, 2)) (hl : Ls[k]? = some (.val (.int v))) (h : Goes p e below s C S Q T (mkF m pc' Ls ((.int v) :: rest))) : Goes p e below s C S Q T (mkF m pc Ls rest) := by
  subst hp; exact Goes.go (fun _ k => XS.iload X.here hx rfl hd hl k) h
theorem own_iloadN (X : Stand p l e R s m args below meth c T locs cells slots) (hx : p.tables.exec = Jvm.exec) (pc' : Nat) (hp : pc + 1 = pc') {k : Fin 4} {v : Int32} (hd : decode c.code pc = .ok (.iload_n k, 1)) (hl : Ls[k.val]? = some (.val (.int v))) (h : Goes p e below s C S Q T (mkF m pc' Ls ((.int v) :: rest))) : Goes p e below s C S Q T (mkF m pc Ls rest) := by
  subst hp; exact Goes.go (fun _ k => XS.iloadN X.here hx rfl hd hl k) h
theorem own_istore (X : Stand p l e R s m args below meth c T locs cells slots) (hx : p.tables.exec = Jvm.exec) (pc' : Nat) (hp : pc + 2 = pc') {k : Nat} {v : Int32} (Ls' : Array Slot) (hd : decode c.code pc = .ok (.istore k, 2)) (hl : storeLocals Ls k (.int v) = some Ls') (h : Goes p e below s C S Q T (mkF m pc' Ls' rest)) : Goes p e below s C S Q T (mkF m pc Ls ((.int v) :: rest)) := by
  subst hp; exact Goes.go (fun _ k => XS.istore X.here hx rfl hd rfl hl k) h
theorem own_istoreN (X : Stand p l e R s m args below meth c T locs cells slots) (hx : p.tables.exec = Jvm.exec) (pc' : Nat) (hp : pc + 1 = pc') {k : Fin 4} {v : Int32} (Ls' : Array Slot) (hd : decode c.code pc = .ok (.istore_n k, 1)) (hl : storeLocals Ls k.val (.int v) = some Ls') (h : Goes p e below s C S Q T (mkF m pc' Ls' rest)) : Goes p e below s C S Q T (mkF m pc Ls ((.int v) :: rest)) := by
  subst hp; exact Goes.go (fun _ k => XS.istoreN X.here hx rfl hd rfl hl k) h
theorem own_lload (X : Stand p l e R s m args below meth c T locs cells slots) (hx : p.tables.exec = Jvm.exec) (pc' : Nat) (hp : pc + 2 = pc') {k : Nat} {v : Int64} (hd : decode c.code pc = .ok (.lload k, 2)) (hl : Ls[k]? = some (.val (.long v))) (h : Goes p e below s C S Q T (mkF m pc' Ls ((.long v) :: rest))) : Goes p e below s C S Q T (mkF m pc Ls rest) := by
  subst hp; exact Goes.go (fun _ k => XS.lload X.here hx rfl hd hl k) h
theorem own_lloadN (X : Stand p l e R s m args below meth c T locs cells slots) (hx : p.tables.exec = Jvm.exec) (pc' : Nat) (hp : pc + 1 = pc') {k : Fin 4} {v : Int64} (hd : decode c.code pc = .ok (.lload_n k, 1)) (hl : Ls[k.val]? = some (.val (.long v))) (h : Goes p e below s C S Q T (mkF m pc' Ls ((.long v) :: rest))) : Goes p e below s C S Q T (mkF m pc Ls rest) := by
  subst hp; exact Goes.go (fun _ k => XS.lloadN X.here hx rfl hd hl k) h
theorem own_lstore (X : Stand p l e R s m args below meth c T locs cells slots) (hx : p.tables.exec = Jvm.exec) (pc' : Nat) (hp : pc + 2 = pc') {k : Nat} {v : Int64} (Ls' : Array Slot) (hd : decode c.code pc = .ok (.lstore k, 2)) (hl : storeLocals Ls k (.long v) = some Ls') (h : Goes p e below s C S Q T (mkF m pc' Ls' rest)) : Goes p e below s C S Q T (mkF m pc Ls ((.long v) :: rest)) := by
  subst hp; exact Goes.go (fun _ k => XS.lstore X.here hx rfl hd rfl hl k) h
theorem own_lstoreN (X : Stand p l e R s m args below meth c T locs cells slots) (hx : p.tables.exec = Jvm.exec) (pc' : Nat) (hp : pc + 1 = pc') {k : Fin 4} {v : Int64} (Ls' : Array Slot) (hd : decode c.code pc = .ok (.lstore_n k, 1)) (hl : storeLocals Ls k.val (.long v) = some Ls') (h : Goes p e below s C S Q T (mkF m pc' Ls' rest)) : Goes p e below s C S Q T (mkF m pc Ls ((.long v) :: rest)) := by
  subst hp; exact Goes.go (fun _ k => XS.lstoreN X.here hx rfl hd rfl hl k) h
theorem own_aload (X : Stand p l e R s m args below meth c T locs cells slots) (hx : p.tables.exec = Jvm.exec) (pc' : Nat) (hp : pc + 2 = pc') {k : Nat} {v : Value} (hd : decode c.code pc = .ok (.aload k, 2)) (hl : Ls[k]? = some (.val v)) (hv : v.isRef = true) (h : Goes p e below s C S Q T (mkF m pc' Ls (v :: rest))) : Goes p e below s C S Q T (mkF m pc Ls rest) := by
  subst hp; exact Goes.go (fun _ k => XS.aload X.here hx rfl hd hl hv k) h
theorem own_aloadN (X : Stand p l e R s m args below meth c T locs cells slots) (hx : p.tables.exec = Jvm.exec) (pc' : Nat) (hp : pc + 1 = pc') {k : Fin 4} {v : Value} (hd : decode c.code pc = .ok (.aload_n k, 1)) (hl : Ls[k.val]? = some (.val v)) (hv : v.isRef = true) (h : Goes p e below s C S Q T (mkF m pc' Ls (v :: rest))) : Goes p e below s C S Q T (mkF m pc Ls rest) := by
  subst hp; exact Goes.go (fun _ k => XS.aloadN X.here hx rfl hd hl hv k) h
theorem own_astore (X : Stand p l e R s m args below meth c T locs cells slots) (hx : p.tables.exec = Jvm.exec) (pc' : Nat) (hp : pc + 2 = pc') {k : Nat} {v : Value} (Ls' : Array Slot) (hd : decode c.code pc = .ok (.astore k, 2)) (hl : storeLocals Ls k v = some Ls') (hv : v.isRef = true) (h : Goes p e below s C S Q T (mkF m pc' Ls' rest)) : Goes p e below s C S Q T (mkF m pc Ls (v :: rest)) := by
  subst hp; exact Goes.go (fun _ k => XS.astore X.here hx rfl hd rfl hv hl k) h
theorem own_astoreN (X : Stand p l e R s m args below meth c T locs cells slots) (hx : p.tables.exec = Jvm.exec) (pc' : Nat) (hp : pc + 1 = pc') {k : Fin 4} {v : Value} (Ls' : Array Slot) (hd : decode c.code pc = .ok (.astore_n k, 1)) (hl : storeLocals Ls k.val v = some Ls') (hv : v.isRef = true) (h : Goes p e below s C S Q T (mkF m pc' Ls' rest)) : Goes p e below s C S Q T (mkF m pc Ls (v :: rest)) := by
  subst hp; exact Goes.go (fun _ k => XS.astoreN X.here hx rfl hd rfl hv hl k) h
theorem own_iconst (X : Stand p l e R s m args below meth c T locs cells slots) (hx : p.tables.exec = Jvm.exec) (pc' : Nat) (hp : pc + 1 = pc') {i : Int} (v : Int32) (hd : decode c.code pc = .ok (.iconst i, 1)) (hv : Int32.ofInt i = v) (h : Goes p e below s C S Q T (mkF m pc' Ls (.int v :: rest))) : Goes p e below s C S Q T (mkF m pc Ls rest) := by
  subst hp; subst hv; exact Goes.go (fun _ k => XS.iconst X.here hx rfl hd k) h
theorem own_bipush (X : Stand p l e R s m args below meth c T locs cells slots) (hx : p.tables.exec = Jvm.exec) (pc' : Nat) (hp : pc + 2 = pc') {i : Int} (v : Int32) (hd : decode c.code pc = .ok (.bipush i, 2)) (hv : (Int8.ofInt i).toInt32 = v) (h : Goes p e below s C S Q T (mkF m pc' Ls (.int v :: rest))) : Goes p e below s C S Q T (mkF m pc Ls rest) := by
  subst hp; subst hv; exact Goes.go (fun _ k => XS.bipush X.here hx rfl hd k) h
theorem own_sipush (X : Stand p l e R s m args below meth c T locs cells slots) (hx : p.tables.exec = Jvm.exec) (pc' : Nat) (hp : pc + 3 = pc') {i : Int} (v : Int32) (hd : decode c.code pc = .ok (.sipush i, 3)) (hv : (Int16.ofInt i).toInt32 = v) (h : Goes p e below s C S Q T (mkF m pc' Ls (.int v :: rest))) : Goes p e below s C S Q T (mkF m pc Ls rest) := by
  subst hp; subst hv; exact Goes.go (fun _ k => XS.sipush X.here hx rfl hd k) h
theorem own_lconst (X : Stand p l e R s m args below meth c T locs cells slots) (hx : p.tables.exec = Jvm.exec) (pc' : Nat) (hp : pc + 1 = pc') {i : Fin 2} (v : Int64) (hd : decode c.code pc = .ok (.lconst i, 1)) (hv : Int64.ofNat i = v) (h : Goes p e below s C S Q T (mkF m pc' Ls (.long v :: rest))) : Goes p e below s C S Q T (mkF m pc Ls rest) := by
  subst hp; subst hv; exact Goes.go (fun _ k => XS.lconst X.here hx rfl hd k) h
theorem own_aconst_null (X : Stand p l e R s m args below meth c T locs cells slots) (hx : p.tables.exec = Jvm.exec) (pc' : Nat) (hp : pc + 1 = pc')  (hd : decode c.code pc = .ok (.aconst_null, 1))  (h : Goes p e below s C S Q T (mkF m pc' Ls (.null :: rest))) : Goes p e below s C S Q T (mkF m pc Ls rest) := by
  subst hp; exact Goes.go (fun _ k => XS.aconstNull X.here hx rfl hd k) h
theorem own_dup (X : Stand p l e R s m args below meth c T locs cells slots) (hx : p.tables.exec = Jvm.exec) (pc' : Nat) (hp : pc + 1 = pc') {v : Value} (hd : decode c.code pc = .ok (.dup, 1)) (hc : v.category = 1) (h : Goes p e below s C S Q T (mkF m pc' Ls (v :: v :: rest))) : Goes p e below s C S Q T (mkF m pc Ls (v :: rest)) := by
  subst hp; exact Goes.go (fun _ k => XS.dup X.here hx rfl hd rfl hc k) h
theorem own_pop (X : Stand p l e R s m args below meth c T locs cells slots) (hx : p.tables.exec = Jvm.exec) (pc' : Nat) (hp : pc + 1 = pc') {v : Value} (hd : decode c.code pc = .ok (.pop, 1)) (hc : v.category = 1) (h : Goes p e below s C S Q T (mkF m pc' Ls rest)) : Goes p e below s C S Q T (mkF m pc Ls (v :: rest)) := by
  subst hp; exact Goes.go (fun _ k => XS.pop X.here hx rfl hd rfl hc k) h
theorem own_dup_x1 (X : Stand p l e R s m args below meth c T locs cells slots) (hx : p.tables.exec = Jvm.exec) (pc' : Nat) (hp : pc + 1 = pc') {v w : Value} (hd : decode c.code pc = .ok (.dup_x1, 1)) (hc : v.category = 1) (hc' : w.category = 1) (h : Goes p e below s C S Q T (mkF m pc' Ls (v :: w :: v :: rest))) : Goes p e below s C S Q T (mkF m pc Ls (v :: w :: rest)) := by
  subst hp; exact Goes.go (fun _ k => XS.dupX1 X.here hx rfl hd rfl hc hc' k) h
theorem own_dup2L (X : Stand p l e R s m args below meth c T locs cells slots) (hx : p.tables.exec = Jvm.exec) (pc' : Nat) (hp : pc + 1 = pc') {v : Int64} (hd : decode c.code pc = .ok (.dup2, 1))  (h : Goes p e below s C S Q T (mkF m pc' Ls (.long v :: .long v :: rest))) : Goes p e below s C S Q T (mkF m pc Ls (.long v :: rest)) := by
  subst hp; exact Goes.go (fun _ k => Jvm.Free.XT.dup2L X.here hx rfl hd rfl k) h
theorem own_dup2 (X : Stand p l e R s m args below meth c T locs cells slots) (hx : p.tables.exec = Jvm.exec) (pc' : Nat) (hp : pc + 1 = pc') {v w : Value} (hd : decode c.code pc = .ok (.dup2, 1)) (hc : v.category = 1) (hc' : w.category = 1) (h : Goes p e below s C S Q T (mkF m pc' Ls (v :: w :: v :: w :: rest))) : Goes p e below s C S Q T (mkF m pc Ls (v :: w :: rest)) := by
  subst hp; exact Goes.go (fun _ k => Jvm.Free.XT.dup2 X.here hx rfl hd rfl hc hc' k) h
theorem own_iinc (X : Stand p l e R s m args below meth c T locs cells slots) (hx : p.tables.exec = Jvm.exec) (pc' : Nat) (hp : pc + 3 = pc') {k : Nat} {cst : Int} {x z : Int32} (Ls' : Array Slot) (hd : decode c.code pc = .ok (.iinc k cst, 3)) (hl : Ls[k]? = some (.val (.int x))) (hz : x + Int32.ofInt cst = z) (hl' : storeLocals Ls k (.int z) = some Ls') (h : Goes p e below s C S Q T (mkF m pc' Ls' rest)) : Goes p e below s C S Q T (mkF m pc Ls rest) := by
  subst hp; subst hz; exact Goes.go (fun _ k => XS.iinc X.here hx rfl hd hl hl' k) h
theorem own_goto (X : Stand p l e R s m args below meth c T locs cells slots) (hx : p.tables.exec = Jvm.exec) (pc' : Nat) {o : Int} (hd : decode c.code pc = .ok (.goto o, 3)) (ho : 0 ≤ (pc : Int) + o) (hp : ((pc : Int) + o).toNat = pc') (h : Goes p e below s C S Q T (mkF m pc' Ls rest)) : Goes p e below s C S Q T (mkF m pc Ls rest) :=
  Goes.go (fun _ k => XS.goto X.here hx rfl rfl hd ho hp k) h
theorem own_ifY (X : Stand p l e R s m args below meth c T locs cells slots) (hx : p.tables.exec = Jvm.exec) (pc' : Nat) {o : Int} {cd : ClassFile.Cond} {x : Int32} (hd : decode c.code pc = .ok (.ifCond cd o, 3)) (hc : ifCond.holds cd x = true) (ho : 0 ≤ (pc : Int) + o) (hp : ((pc : Int) + o).toNat = pc') (h : Goes p e below s C S Q T (mkF m pc' Ls rest)) : Goes p e below s C S Q T (mkF m pc Ls (.int x :: rest)) :=
  Goes.go (fun _ k => XS.ifYes X.here hx rfl rfl hd rfl hc ho hp k) h
theorem own_ifN (X : Stand p l e R s m args below meth c T locs cells slots) (hx : p.tables.exec = Jvm.exec) (pc' : Nat) {o : Int} {cd : ClassFile.Cond} {x : Int32} (hd : decode c.code pc = .ok (.ifCond cd o, 3)) (hc : ifCond.holds cd x = false) (hp : pc + 3 = pc') (h : Goes p e below s C S Q T (mkF m pc' Ls rest)) : Goes p e below s C S Q T (mkF m pc Ls (.int x :: rest)) := by
  subst hp; exact Goes.go (fun _ k => XS.ifNo X.here hx rfl hd rfl hc k) h
theorem own_icmpY (X : Stand p l e R s m args below meth c T locs cells slots) (hx : p.tables.exec = Jvm.exec) (pc' : Nat) {o : Int} {cd : ClassFile.Cond} {x y : Int32} (hd : decode c.code pc = .ok (.if_icmp cd o, 3)) (hc : if_icmp.holds cd x y = true) (ho : 0 ≤ (pc : Int) + o) (hp : ((pc : Int) + o).toNat = pc') (h : Goes p e below s C S Q T (mkF m pc' Ls rest)) : Goes p e below s C S Q T (mkF m pc Ls (.int y :: .int x :: rest)) :=
  Goes.go (fun _ k => XS.icmpYes X.here hx rfl rfl hd rfl hc ho hp k) h
theorem own_icmpN (X : Stand p l e R s m args below meth c T locs cells slots) (hx : p.tables.exec = Jvm.exec) (pc' : Nat) {o : Int} {cd : ClassFile.Cond} {x y : Int32} (hd : decode c.code pc = .ok (.if_icmp cd o, 3)) (hc : if_icmp.holds cd x y = false) (hp : pc + 3 = pc') (h : Goes p e below s C S Q T (mkF m pc' Ls rest)) : Goes p e below s C S Q T (mkF m pc Ls (.int y :: .int x :: rest)) := by
  subst hp; exact Goes.go (fun _ k => XS.icmpNo X.here hx rfl hd rfl hc k) h
theorem own_acmp (X : Stand p l e R s m args below meth c T locs cells slots) (hx : p.tables.exec = Jvm.exec) (pc' : Nat) {o : Int} {cd : ACond} {x y : Value} {same : Bool} (h1 : x.isRef = true) (h2 : y.isRef = true) (hd : decode c.code pc = .ok (.if_acmp cd o, 3)) (hq : decide (x = y) = same) (ho : 0 ≤ (pc : Int) + o) (hp : pc' = if acV cd same = true then ((pc : Int) + o).toNat else pc + 3) (h : Goes p e below s C S Q T (mkF m pc' Ls rest)) : Goes p e below s C S Q T (mkF m pc Ls (y :: x :: rest)) :=
  Goes.go (fun _ k => Jvm.RoadKit.acmp (g := mkF m pc Ls (y :: x :: rest)) X hx rfl h1 h2 rfl hd rfl hq ho hp k) h
theorem own_ifnullY (X : Stand p l e R s m args below meth c T locs cells slots) (hx : p.tables.exec = Jvm.exec) (pc' : Nat) {o : Int} (hd : decode c.code pc = .ok (.ifnull o, 3)) (ho : 0 ≤ (pc : Int) + o) (hp : ((pc : Int) + o).toNat = pc') (h : Goes p e below s C S Q T (mkF m pc' Ls rest)) : Goes p e below s C S Q T (mkF m pc Ls (.null :: rest)) :=
  Goes.go (fun _ k => XS.ifnullYes X.here hx rfl rfl hd rfl ho hp k) h
theorem own_ifnullN (X : Stand p l e R s m args below meth c T locs cells slots) (hx : p.tables.exec = Jvm.exec) (pc' : Nat) {o : Int} {b : Addr} (hd : decode c.code pc = .ok (.ifnull o, 3)) (hp : pc + 3 = pc') (h : Goes p e below s C S Q T (mkF m pc' Ls rest)) : Goes p e below s C S Q T (mkF m pc Ls (.ref b :: rest)) := by
  subst hp; exact Goes.go (fun _ k => XS.ifnullNo X.here hx rfl hd rfl k) h
theorem own_ifnonnullY (X : Stand p l e R s m args below meth c T locs cells slots) (hx : p.tables.exec = Jvm.exec) (pc' : Nat) {o : Int} {b : Addr} (hd : decode c.code pc = .ok (.ifnonnull o, 3)) (ho : 0 ≤ (pc : Int) + o) (hp : ((pc : Int) + o).toNat = pc') (h : Goes p e below s C S Q T (mkF m pc' Ls rest)) : Goes p e below s C S Q T (mkF m pc Ls (.ref b :: rest)) :=
  Goes.go (fun _ k => XS.ifnonnullYes X.here hx rfl rfl hd rfl ho hp k) h
theorem own_ifnonnullN (X : Stand p l e R s m args below meth c T locs cells slots) (hx : p.tables.exec = Jvm.exec) (pc' : Nat) {o : Int} (hd : decode c.code pc = .ok (.ifnonnull o, 3)) (hp : pc + 3 = pc') (h : Goes p e below s C S Q T (mkF m pc' Ls rest)) : Goes p e below s C S Q T (mkF m pc Ls (.null :: rest)) := by
  subst hp; exact Goes.go (fun _ k => XS.ifnonnullNo X.here hx rfl hd rfl k) h
end Steps1
/-- the branches on a long comparison -/
theorem Ltlt {x y : Int64} (h : x < y) : ifCond.holds .lt (lcmpW x y) = true ∧ ifCond.holds .ge (lcmpW x y) = false ∧ ifCond.holds .gt (lcmpW y x) = true ∧ ifCond.holds .le (lcmpW y x) = false :=
  ⟨(if0 _ _).trans (tlt ((lw_lt x y).mpr h)).1, (if0 _ _).trans (tlt ((lw_lt x y).mpr h)).2.1, (if0 _ _).trans (tlt ((lw_gt y x).mpr h)).2.2.1, (if0 _ _).trans (tlt ((lw_gt y x).mpr h)).2.2.2⟩
theorem Lflt {x y : Int64} (h : ¬ x < y) : ifCond.holds .lt (lcmpW x y) = false ∧ ifCond.holds .ge (lcmpW x y) = true ∧ ifCond.holds .gt (lcmpW y x) = false ∧ ifCond.holds .le (lcmpW y x) = true :=
  ⟨(if0 _ _).trans (flt fun q => h ((lw_lt x y).mp q)).1, (if0 _ _).trans (flt fun q => h ((lw_lt x y).mp q)).2.1, (if0 _ _).trans (flt fun q => h ((lw_gt y x).mp q)).2.2.1, (if0 _ _).trans (flt fun q => h ((lw_gt y x).mp q)).2.2.2⟩
theorem Lteq {x y : Int64} (h : x = y) : ifCond.holds .eq (lcmpW x y) = true ∧ ifCond.holds .ne (lcmpW x y) = false :=
  ⟨(if0 _ _).trans (teq ((lw_eq x y).mpr h)).1, (if0 _ _).trans (teq ((lw_eq x y).mpr h)).2⟩
theorem Lfeq {x y : Int64} (h : ¬ x = y) : ifCond.holds .eq (lcmpW x y) = false ∧ ifCond.holds .ne (lcmpW x y) = true :=
  ⟨(if0 _ _).trans (feq fun q => h ((lw_eq x y).mp q)).1, (if0 _ _).trans (feq fun q => h ((lw_eq x y).mp q)).2⟩
theorem Ztlt {x y : Int32} (h : x < y) : if_icmp.holds .lt x y = true ∧ if_icmp.holds .ge x y = false ∧ if_icmp.holds .gt y x = true ∧ if_icmp.holds .le y x = false := tlt h
/-- the pieces of a memory fact -/
theorem own_lt_ne {a b n : Nat} (h : a < n) (g : b = n) : a ≠ b := by omega
end Own
theorem own_eqv {args : Array Value} {s : State} {t u : Term} {v : Value} (hu : u.eval args s none [] s = some v) (h : (Jvm.Cond.eq t u).value args s none s [] = some true) : t.eval args s none [] s = some v := by
  cases ht : t.eval args s none [] s with
  | none => simp [Cond.value, ht] at h
  | some x =>
    simp only [Cond.value, ht, hu] at h
    cases x <;> cases v <;> simp_all
theorem own_fldv {args : Array Value} {s : State} {t u : Term} {a : Addr} {C n d : String} {v : Value} (ev : t.eval args s none [] s = some (.ref a)) (hu : u.eval args s none [] s = some v) (h : (Jvm.Cond.eq (Term.field t C n d) u).value args s none s [] = some true) : s.fieldOf? a C n d = some v :=
  (fld_at ev).symm.trans (own_eqv hu h)
theorem own_sta_keep {Z : State} {h h' : Heap} {C n d : String} {v : Value} {ws : List Addr} (F : Sta Z h C n d v) (K : Keep h h' ws) (q : ∀ x ∈ ws, ∀ cell : Cell, h[x]? = some cell → cell.vm.isStatics = false) : Sta Z h' C n d v := by
  obtain ⟨cf, i, k, f, st, cell, h1, h2, h3, h4, h5, h6, h7⟩ := F
  refine ⟨cf, i, k, f, st, cell, h1, h2, h3, h4, K.2.1 _ _ h5 (fun hm => ?_), h6, h7⟩
  have q1 := q _ hm cell h5
  rw [h6] at q1; cases q1
theorem own_eplain {Z : State} {h : Heap} {a : Addr} {C : String} (F : Exa Z h a C) : ∀ cell : Cell, h[a]? = some cell → cell.vm.isStatics = false := fun cell hc => by
  obtain ⟨c, k, h1, -, -, h4, -⟩ := F; cases h1.symm.trans hc; exact h4
theorem own_rplain {Z : State} {h : Heap} {a : Addr} {c : Cell} {ty : FieldType} (F : Arr Z h a c ty) : ∀ cell : Cell, h[a]? = some cell → cell.vm.isStatics = false := fun cell hc => by
  cases F.1.symm.trans hc; exact F.plain
theorem own_aplain {Z : State} {h : Heap} {a : Addr} {k : ClassId} {ty : FieldType} {n : Int32} {vs : List Value} {dv : Value} (F : Arv Z h a k ty n vs dv) : ∀ cell : Cell, h[a]? = some cell → cell.vm.isStatics = false := by
  obtain ⟨c, A, -⟩ := F; exact own_rplain A
theorem own_selP {s : State} {args : Array Value} {y : MethodName} {n : Nat} (wi : (Jvm.Cond.instantiable y.cls n).before args s = true) (wp : (Jvm.Cond.privateMethod y).before args s = true) (wn : (Jvm.Cond.instanceMethod y).before args s = true) (hy : y.cls ≠ "java/lang/invoke/MethodHandle" ∧ y.cls ≠ "java/lang/invoke/VarHandle") : (Jvm.Cond.selects y.cls y y).before args s = true := by
  obtain ⟨c, k, hc, hk, -, hniab, -, -⟩ := Cond.instantiable_spec wi
  exact Jvm.Stand.selects_self_of_private hc hk (Bool.or_eq_false_iff.mp hniab).1 (Cond.privateMethod_at wp) wn hy
section Refs
variable {p : Program} {l : Launch} {e : Env} {R : Room} {s : State} {m : MethodId} {args : Array Value} {below : List Frame} {meth : Method} {c : Code} {T : State} {locs : List Loc} {cells slots : Nat} {Z : State} {a0 : Array Value} {h : Heap}
/-- getfield where the sheet says that the entry has been resolved -/
theorem own_getFR (X : Stand p l e R s m args below meth c T locs cells slots) (hx : p.tables.exec = Jvm.exec) (hZ : Z.Warmed39 s.vm) {own O n d : String} {index : Nat} (hown : s.vm.findClass own = some m.cls) (w : (Jvm.Cond.fieldRef own index O n d).before a0 Z = true)
    (eT : T.heap = h) {a : Addr} {v : Value} (F : Fld Z h a O n d v) {g : JFrame} (hg : g.method = m) {rest : List Value} (hs : g.stack = .ref a :: rest) (hd : decode c.code g.pc = .ok (.getfield index, 3)) : ∀ target, Steps p.tables e below (T.setTop { g with pc := g.pc + 3, stack := v :: rest }) target → Steps p.tables e below (T.setTop g) target := by
  obtain ⟨cell, cf, k, i, f, h1, h2, h3, h4, -, -, h7⟩ := F
  have hU : Z.Warmed39 T.vm := wtrans hZ X.warmed
  have ho : (Z.setVm T.vm).vm.findClass own = some m.cls := by
    show T.vm.findClass own = _
    rw [X.warmed.alike.findClass]; exact hown
  obtain ⟨c', k', i', f', g1, g2⟩ := Cond.fieldRef_spec ho (Cond.fieldRef_warmed39 hU w)
  obtain ⟨k'', g3, -⟩ := State.fieldFound?_setVm (s := Z) hU.alike h2
  cases g1.symm.trans g3
  intro target hrest
  subst hg
  have g2' : T.vm.fieldReady g.method.cls index cf f := g2
  jvm_step X.here [hx, hd, getfield.wp_ready (e := e) (s := T) (f := g) X.here.top g2' h3 hs (show T.heap[a]? = some cell by rw [eT]; exact h1) h4 h7]
  exact hrest
/-- a constructor's call where the sheet says that the entry has been resolved -/
theorem own_specialRef (X : Stand p l e R s m args below meth c T locs cells slots) (hx : p.tables.exec = Jvm.exec) (hZ : Z.Warmed39 s.vm) {own : String} {index : Nat} {y : MethodName} (hy1 : y.name = "<init>")
    (hown : s.vm.findClass own = some m.cls) (w : (Jvm.Cond.methodRef own index y).before a0 Z = true) (hinst : (Jvm.Cond.instanceMethod y).before args s = true)
    {bytes : ByteArray} {maxL : Nat} (hcode : (Jvm.Cond.code y bytes maxL none).before args s = true)
    (hy : y.cls ≠ "java/lang/invoke/MethodHandle" ∧ y.cls ≠ "java/lang/invoke/VarHandle")
    {W : Nat} {Pre : Pt → Array Value → Prop} {Post : Pt → Array Value → Option Value → Pt → Prop} (hK : Back l R p e below s args y 3 W Pre Post)
    {g : JFrame} (hg : g.method = m) (hsize : g.locals.size = c.maxLocals) {s₀ : State} (hcome : Steps p.tables e below s₀ (T.setTop g)) {a : Addr} {argsL rest : List Value}
    (hlen : ∀ sig, parseMethodDescriptor y.desc = some sig → argsL.length = sig.parameters.length) (hstack : g.stack = argsL.reverse ++ .ref a :: rest) (hW : 2 * g.monitorRoom + (rest.map fun v => v.category).sum ≤ W)
    (hdg : decode c.code g.pc = .ok (.invokespecial index, 3)) (hpre : ∀ vm₁, s.WarmedH vm₁ → Pre ⟨T.setVm vm₁, locs, cells, slots⟩ (.ref a :: argsL).toArray) :
    ∃ (v : Option Value) (vm₁ : Vm) (B : Pt), s.WarmedH vm₁ ∧ Stand p l e R s m args below meth c B.U B.locs B.cells B.slots ∧ Post ⟨T.setVm vm₁, locs, cells, slots⟩ (.ref a :: argsL).toArray v B ∧
      Steps p.tables e below s₀ (B.U.setTop { g with pc := g.pc + 3, stack := v.toList ++ rest }) := by
  obtain ⟨obj, methO, hnO, hmO, hstO, habO⟩ := Cond.instanceMethod_spec hinst
  obtain ⟨methO', cO, hmO', hcO, -, -, -, -, -, hsigO⟩ := Cond.code_spec hnO hcode
  cases hmO.symm.trans hmO'
  obtain ⟨kO, hkO, -⟩ := className_of_methodNamed hnO
  obtain ⟨hnameMO, hdescO⟩ := name_of_methodNamed hnO hmO
  have hU : Z.Warmed39 T.vm := wtrans hZ X.warmed
  have ho : (Z.setVm T.vm).vm.findClass own = some m.cls := by
    show T.vm.findClass own = _
    rw [X.warmed.alike.findClass]; exact hown
  have hn' : (Z.setVm T.vm).methodNamed? y = some obj := X.named hnO
  have hnZ : Z.methodNamed? y = some obj := by
    have q := State.methodNamed?_setVm (s := Z) hU.alike y
    rw [← q]; exact hn'
  obtain ⟨mf, c', hfound, hready, hfind, hnamed⟩ := Cond.methodRef_named e ho (Cond.methodRef_warmed39 hU hnZ hy w)
  cases hfound.symm.trans (State.methodFound?_of_named hn' hy)
  cases hfind.symm.trans (findClass_of_methodNamed hn')
  obtain ⟨kO₂, hkO₂, -⟩ := X.warmed.alike.2.2 _ _ hkO
  have hmO₂ : T.vm.method? obj = some methO := by rw [X.warmed.alike.method?]; exact hmO
  have hfoundS : lookupSpecial T.vm obj.cls "<init>" methO.desc = .method obj := by
    rw [X.warmed.alike.lookupSpecial, hdescO, ← hy1]; exact lookupSpecial_of_named hnO hmO hstO
  have hstep : ∀ target, (∀ acts, Steps p.tables e below (doInvoke e (T.setTop { g with stack := rest }) acts obj (.ref a :: argsL).toArray).1 target) → Steps p.tables e below (T.setTop g) target := by
    intro target hrest
    subst hg
    have hnamed' : namesResolved T.vm g.method.cls index obj.cls := hnamed
    have hready' : T.vm.methodReady g.method.cls index obj := hready
    jvm_step X.here [hx, hdg, invokespecial.wp_init (e := e) (s := T) (k := kO₂) (meth := methO) (m := obj) (a := a) (args := argsL) (rest := rest) (f := g) X.here.top hnamed' hready' hkO₂ hmO₂ (by rw [hnameMO]; exact hy1) hstO habO hfoundS (hlen _ hsigO) hstack]
    exact hrest
  obtain ⟨v, B, X', hpost, hsteps⟩ := hK m meth c ⟨T.setVm T.vm, locs, cells, slots⟩ { g with stack := rest } (.invokespecial index) obj (Value.ref a :: argsL).toArray (show Stand p l e R s m args below meth c T locs cells slots from X) hg hsize hdg hW (X.named hnO) (hpre T.vm X.warmed)
  exact ⟨v, T.vm, B, X.warmed, X', hpost, (hcome.trans (hstep _ fun acts => by rw [doInvoke_state]; exact Steps.refl _)).trans hsteps⟩
end Refs
/-- an array of fifteen longs -/
def own_LA (Z : State) (h : Heap) (a : Addr) : Prop := ∃ cl : Cell, Arr Z h a cl .long ∧ cl.slots.size = 15
theorem own_LA.lt {Z : State} {h : Heap} {a : Addr} (F : own_LA Z h a) : a < h.size := by obtain ⟨cl, A, -⟩ := F; exact A.lt
theorem own_LA.plain {Z : State} {h : Heap} {a : Addr} (F : own_LA Z h a) : ∀ cell : Cell, h[a]? = some cell → cell.vm.isStatics = false := by obtain ⟨cl, A, -⟩ := F; exact own_rplain A
theorem own_LA.ext {Z : State} {h h' : Heap} {a : Addr} (F : own_LA Z h a) (E : Ext h h') : own_LA Z h' a := by obtain ⟨cl, A, r⟩ := F; exact ⟨cl, A.ext E, r⟩
theorem own_LA.other {Z : State} {h h' : Heap} {a b : Addr} {sl : Nat} {v : Value} (F : own_LA Z h a) (W : Wr h h' b sl v) (q : a ≠ b) : own_LA Z h' a := by obtain ⟨cl, A, r⟩ := F; exact ⟨cl, A.other W q, r⟩
theorem own_LA.keep {Z : State} {h h' : Heap} {a : Addr} {ws : List Addr} (F : own_LA Z h a) (K : Keep h h' ws) (q : a ∉ ws) : own_LA Z h' a := by obtain ⟨cl, A, r⟩ := F; exact ⟨cl, ⟨K.2.1 a cl A.1 q, A.2⟩, r⟩
theorem own_LA.of {Z : State} {h : Heap} {a : Addr} {k : ClassId} {vs : List Value} {dv : Value} (F : Arv Z h a k .long (15 : Int32) vs dv) : own_LA Z h a := by obtain ⟨cl, A, -, S, -⟩ := F; exact ⟨cl, A, S⟩
/-- the switch's table -/
def own_SM (Z : State) (h : Heap) (a : Addr) : Prop := ∃ cl : Cell, Arr Z h a cl .int ∧ cl.slots.size = 4 ∧ cl.slots[0]? = some (.int (1 : Int32)) ∧ cl.slots[3]? = some (.int (4 : Int32))
theorem own_SM.lt {Z : State} {h : Heap} {a : Addr} (F : own_SM Z h a) : a < h.size := by obtain ⟨cl, A, -⟩ := F; exact A.lt
theorem own_SM.ext {Z : State} {h h' : Heap} {a : Addr} (F : own_SM Z h a) (E : Ext h h') : own_SM Z h' a := by obtain ⟨cl, A, r⟩ := F; exact ⟨cl, A.ext E, r⟩
theorem own_SM.other {Z : State} {h h' : Heap} {a b : Addr} {sl : Nat} {v : Value} (F : own_SM Z h a) (W : Wr h h' b sl v) (q : a ≠ b) : own_SM Z h' a := by obtain ⟨cl, A, r⟩ := F; exact ⟨cl, A.other W q, r⟩
theorem own_SM.keep {Z : State} {h h' : Heap} {a : Addr} {ws : List Addr} (F : own_SM Z h a) (K : Keep h h' ws) (q : a ∉ ws) : own_SM Z h' a := by obtain ⟨cl, A, r⟩ := F; exact ⟨cl, ⟨K.2.1 a cl A.1 q, A.2⟩, r⟩
theorem own_sub0 (x : Int64) : ¬ (0 : Int64) < (x - x) := by
  have h := c_lsub x x
  have r := rng64 (x - x)
  have e0 : (0 : Int64).toInt = 0 := by decide
  rw [Int64.lt_iff_toInt_lt, e0]; omega
theorem own_due {A pa pn : Int64} (h : (pa = A ∧ ¬ (A - pn) < (0 : Int64)) ∨ (pa = pn ∧ (A - pn) < (0 : Int64))) (hd : pn = A ∨ (A - pn) < (0 : Int64)) : ¬ (0 : Int64) < (pa - pn) := by
  rcases h with ⟨rfl, h⟩ | ⟨rfl, h⟩
  · rcases hd with rfl | hd
    · exact own_sub0 _
    · exact absurd hd h
  · exact own_sub0 _
theorem own_hd {A d n : Int64} (h : (d = A ∧ ¬ (A - n) < (0 : Int64)) ∨ (d = n ∧ (A - n) < (0 : Int64))) : d = A ∨ (A - d) < (0 : Int64) := by
  rcases h with ⟨h, -⟩ | ⟨rfl, h⟩
  · exact Or.inl h
  · exact Or.inr h
theorem own_two {A d t n : Int64} (h : (d = A ∧ ¬ (A - n) < (0 : Int64)) ∨ (d = n ∧ (A - n) < (0 : Int64))) (k : (t = A ∧ ¬ (A - n) < (0 : Int64)) ∨ (t = n ∧ (A - n) < (0 : Int64))) : d = t := by
  rcases h with h | h <;> rcases k with k | k
  · rw [h.1, k.1]
  · exact absurd k.2 h.2
  · exact absurd h.2 k.2
  · rw [h.1, k.1]
theorem own_d7_0 : decode jdk_30_method_1_code 0 = .ok (.aload_n 0, 1) := by decide +kernel
theorem own_d7_1 : decode jdk_30_method_1_code 1 = .ok (.invokespecial 1, 3) := by decide +kernel
theorem own_d7_4 : decode jdk_30_method_1_code 4 = .ok (.return_, 1) := by decide +kernel
theorem own_pn_java_lang_Record : plainName "java/lang/Record" = true := by first | (simp [plainName, overriddenIn]; done) | decide +kernel
def Q7 (Z : State) (rt : Addr) (h0 : Heap) (n0 : Nat) (v : Option Value) (h : Heap) (L : List Loc) : Prop := v = none ∧ Fr n0 L ∧ h = h0
set_option maxRecDepth 65536 in
set_option maxHeartbeats 40000000 in
theorem rm7 (l : Launch) (Z : State) (a0 : Array Value) (hw : ∀ d ∈ tables_1, d.before a0 Z = true) (ws : List Jvm.Cond) (rt : Addr) (h0 : Heap) (n0 : Nat) (Z0 : n0 ≤ h0.size)  :
    MetFree l (⟨"java/lang/Record", "<init>", "()V"⟩ : MethodName) (head1 (Jvm.Cond.code (⟨"java/lang/Record", "<init>", "()V"⟩ : MethodName) jdk_30_method_1_code 1 none :: ws) ({ frames := 1, cells := 0, slots := 0, locals := 12 } : Room)) (fun a U => a = #[(.ref rt)] ∧ Z.Warmed39 U.vm ∧ U.heap = h0) (fun _ _ _ _ _ => True) (fun _ U o U' => ∃ v L, o = .returned v ∧ Q7 Z rt h0 n0 v U'.heap L ∧ FrameEnd U o U' L ({ frames := 1, cells := 0, slots := 0, locals := 12 } : Room).cells ({ frames := 1, cells := 0, slots := 0, locals := 12 } : Room).slots) := by
  refine MetFree.of_bodySF (plainFor_of_name own_pn_java_lang_Record) hisR ?_
  intro p e s m args below meth c s₁ Bd hml0 hP hK
  obtain ⟨rfl, hZ, hh⟩ := hP
  have hx := Bd.exec
  have hby := Bd.bytes
  have hml : c.maxLocals = 1 := hml0
  have hlk := Bd.notSynchronized
  have hown : s.vm.findClass "java/lang/Record" = some m.cls := findClass_of_methodNamed Bd.named
  have hnm := (name_of_methodNamed Bd.named Bd.method).1
  have X0 : Stand p l e ({ frames := 1, cells := 0, slots := 0, locals := 12 } : Room) s m #[(.ref rt)] below meth c s₁ [] 0 0 := Stand.of_body Bd
  have e0 : s₁.heap = h0 := by rw [← hh, Bd.state]; rfl
  have N0 := Fr.nil n0
  refine own_enter (Q := Q7 Z rt h0 n0) (Ls := #[.val (.ref rt)]) (by first | (simp [entryFrame, mkF, argsToLocals, Value.category]; done) | rfl) ?_
  refine own_aloadN X0 hx 1 rfl (hb hby own_d7_0) rfl rfl ?_
  obtain ⟨T1, X1, e1, st1⟩ := initO X0 hx hZ hown (hw _ (List.mem_of_getElem? (i := 53) rfl)) (hw _ (List.mem_of_getElem? (i := 7) rfl)) (hw _ (List.mem_of_getElem? (i := 8) rfl)) e0 (g := (mkF m 1 #[.val (.ref rt)] [(.ref rt)])) rfl (by rw [hml]; rfl) rfl (hb hby own_d7_1) (by decide) (W := 0) (by show 2 * 0 + _ ≤ _; exact Nat.le_of_eq rfl) (by decide)
  refine Goes.go st1 ?_
  show Goes p e below s _ _ _ T1 (mkF m 4 #[.val (.ref rt)] [])
  refine own_retV X1 hx hlk Bd.returns (hb hby own_d7_4) (by decide) (by decide) e1 ?_
  exact ⟨rfl, N0, rfl⟩
theorem own_d8_0 : decode jdk_37_method_2_code 0 = .ok (.aload_n 0, 1) := by decide +kernel
theorem own_d8_1 : decode jdk_37_method_2_code 1 = .ok (.getfield 7, 3) := by decide +kernel
theorem own_d8_4 : decode jdk_37_method_2_code 4 = .ok (.ireturn, 1) := by decide +kernel
theorem own_pn_java_lang_Enum : plainName "java/lang/Enum" = true := by first | (simp [plainName, overriddenIn]; done) | decide +kernel
def Q8 (Z : State) (eo : Addr) (eu : Int32) (h0 : Heap) (n0 : Nat) (v : Option Value) (h : Heap) (L : List Loc) : Prop := v = some (.int eu) ∧ Fr n0 L ∧ h = h0
set_option maxRecDepth 65536 in
set_option maxHeartbeats 40000000 in
theorem rm8 (l : Launch) (Z : State) (a0 : Array Value) (hw : ∀ d ∈ tables_1, d.before a0 Z = true) (ws : List Jvm.Cond) (eo : Addr) (eu : Int32) (h0 : Heap) (n0 : Nat) (Z0 : n0 ≤ h0.size) (Fo : Fld Z h0 eo "java/lang/Enum" "ordinal" "I" (.int eu)) :
    MetFree l (⟨"java/lang/Enum", "ordinal", "()I"⟩ : MethodName) (head1 (Jvm.Cond.code (⟨"java/lang/Enum", "ordinal", "()I"⟩ : MethodName) jdk_37_method_2_code 1 (some .int) :: ws) ({ frames := 0, cells := 0, slots := 0, locals := 0 } : Room)) (fun a U => a = #[(.ref eo)] ∧ Z.Warmed39 U.vm ∧ U.heap = h0) (fun _ _ _ _ _ => True) (fun _ U o U' => ∃ v L, o = .returned v ∧ Q8 Z eo eu h0 n0 v U'.heap L ∧ FrameEnd U o U' L ({ frames := 0, cells := 0, slots := 0, locals := 0 } : Room).cells ({ frames := 0, cells := 0, slots := 0, locals := 0 } : Room).slots) := by
  refine MetFree.of_bodySF (plainFor_of_name own_pn_java_lang_Enum) hisR ?_
  intro p e s m args below meth c s₁ Bd hml0 hP hK
  obtain ⟨rfl, hZ, hh⟩ := hP
  have hx := Bd.exec
  have hby := Bd.bytes
  have hml : c.maxLocals = 1 := hml0
  have hlk := Bd.notSynchronized
  have hown : s.vm.findClass "java/lang/Enum" = some m.cls := findClass_of_methodNamed Bd.named
  have hnm := (name_of_methodNamed Bd.named Bd.method).1
  have X0 : Stand p l e ({ frames := 0, cells := 0, slots := 0, locals := 0 } : Room) s m #[(.ref eo)] below meth c s₁ [] 0 0 := Stand.of_body Bd
  have e0 : s₁.heap = h0 := by rw [← hh, Bd.state]; rfl
  have N0 := Fr.nil n0
  refine own_enter (Q := Q8 Z eo eu h0 n0) (Ls := #[.val (.ref eo)]) (by first | (simp [entryFrame, mkF, argsToLocals, Value.category]; done) | rfl) ?_
  refine own_aloadN X0 hx 1 rfl (hb hby own_d8_0) rfl rfl ?_
  obtain ⟨T1, X1, e1, st1⟩ := getF X0 hx hZ hown (host := "") (Or.inl (hw _ (List.mem_of_getElem? (i := 70) rfl))) Via.refl e0 Fo (g := (mkF m 1 #[.val (.ref eo)] [(.ref eo)])) rfl rfl (hb hby own_d8_1)
  refine Goes.go st1 ?_
  show Goes p e below s _ _ _ T1 (mkF m 4 #[.val (.ref eo)] [(.int eu)])
  refine own_retI X1 hx hlk Bd.returns (hb hby own_d8_4) (by decide) (by decide) e1 ?_
  exact ⟨rfl, N0, rfl⟩
theorem own_d11_0 : decode prog_18_method_9_code 0 = .ok (.lload_n 0, 1) := by decide +kernel
theorem own_d11_1 : decode prog_18_method_9_code 1 = .ok (.lload_n 2, 1) := by decide +kernel
theorem own_d11_2 : decode prog_18_method_9_code 2 = .ok (.lsub, 1) := by decide +kernel
theorem own_d11_3 : decode prog_18_method_9_code 3 = .ok (.lconst 0, 1) := by decide +kernel
theorem own_d11_4 : decode prog_18_method_9_code 4 = .ok (.lcmp, 1) := by decide +kernel
theorem own_d11_5 : decode prog_18_method_9_code 5 = .ok (.ifCond .lt 7, 3) := by decide +kernel
theorem own_d11_8 : decode prog_18_method_9_code 8 = .ok (.lload_n 0, 1) := by decide +kernel
theorem own_d11_9 : decode prog_18_method_9_code 9 = .ok (.goto 4, 3) := by decide +kernel
theorem own_d11_12 : decode prog_18_method_9_code 12 = .ok (.lload_n 2, 1) := by decide +kernel
theorem own_d11_13 : decode prog_18_method_9_code 13 = .ok (.lreturn, 1) := by decide +kernel
theorem own_pn_com_example_tallywire_tallywire_flaps_Pacer : plainName "com/example/tallywire/tallywire/flaps/Pacer" = true := by first | (simp [plainName, overriddenIn]; done) | decide +kernel
def Q11 (Z : State) (lx : Int64) (ly : Int64) (h0 : Heap) (n0 : Nat) (v : Option Value) (h : Heap) (L : List Loc) : Prop := ∃ lr : Int64, v = some (.long lr) ∧ Fr n0 L ∧ h = h0 ∧ ((lr = lx ∧ ¬ ((lx - ly) < (0 : Int64))) ∨ (lr = ly ∧ (lx - ly) < (0 : Int64)))
set_option maxRecDepth 65536 in
set_option maxHeartbeats 40000000 in
theorem rm11 (l : Launch) (Z : State) (a0 : Array Value) (hw : ∀ d ∈ tables_1, d.before a0 Z = true) (ws : List Jvm.Cond) (lx : Int64) (ly : Int64) (h0 : Heap) (n0 : Nat) (Z0 : n0 ≤ h0.size)  :
    MetFree l (⟨"com/example/tallywire/tallywire/flaps/Pacer", "later", "(JJ)J"⟩ : MethodName) (head1 (Jvm.Cond.code (⟨"com/example/tallywire/tallywire/flaps/Pacer", "later", "(JJ)J"⟩ : MethodName) prog_18_method_9_code 4 (some .long) :: ws) ({ frames := 0, cells := 0, slots := 0, locals := 0 } : Room)) (fun a U => a = #[(.long lx), (.long ly)] ∧ Z.Warmed39 U.vm ∧ U.heap = h0) (fun _ _ _ _ _ => True) (fun _ U o U' => ∃ v L, o = .returned v ∧ Q11 Z lx ly h0 n0 v U'.heap L ∧ FrameEnd U o U' L ({ frames := 0, cells := 0, slots := 0, locals := 0 } : Room).cells ({ frames := 0, cells := 0, slots := 0, locals := 0 } : Room).slots) := by
  refine MetFree.of_bodySF (plainFor_of_name own_pn_com_example_tallywire_tallywire_flaps_Pacer) hisR ?_
  intro p e s m args below meth c s₁ Bd hml0 hP hK
  obtain ⟨rfl, hZ, hh⟩ := hP
  have hx := Bd.exec
  have hby := Bd.bytes
  have hml : c.maxLocals = 4 := hml0
  have hlk := Bd.notSynchronized
  have hown : s.vm.findClass "com/example/tallywire/tallywire/flaps/Pacer" = some m.cls := findClass_of_methodNamed Bd.named
  have hnm := (name_of_methodNamed Bd.named Bd.method).1
  have X0 : Stand p l e ({ frames := 0, cells := 0, slots := 0, locals := 0 } : Room) s m #[(.long lx), (.long ly)] below meth c s₁ [] 0 0 := Stand.of_body Bd
  have e0 : s₁.heap = h0 := by rw [← hh, Bd.state]; rfl
  have N0 := Fr.nil n0
  refine own_enter (Q := Q11 Z lx ly h0 n0) (Ls := #[.val (.long lx), .second, .val (.long ly), .second]) (by first | (simp [entryFrame, mkF, argsToLocals, Value.category]; done) | rfl) ?_
  refine own_lloadN X0 hx 1 rfl (hb hby own_d11_0) rfl ?_
  refine own_lloadN X0 hx 2 rfl (hb hby own_d11_1) rfl ?_
  refine own_lsub X0 hx 3 rfl (hb hby own_d11_2) rfl ?_
  refine own_lconst X0 hx 4 rfl (0 : Int64) (hb hby own_d11_3) (by decide) ?_
  refine own_lcmp X0 hx 5 rfl (hb hby own_d11_4) ?_
  by_cases hc5_1 : (lx - ly) < (0 : Int64)
  · refine own_ifY X0 hx 12 (hb hby own_d11_5) (Ltlt hc5_1).1 (by decide) (by decide) ?_
    refine own_lloadN X0 hx 13 rfl (hb hby own_d11_12) rfl ?_
    refine own_retJ X0 hx hlk Bd.returns (hb hby own_d11_13) (by decide) (by decide) e0 ?_
    exact ⟨ly, rfl, N0, rfl, (by simp +decide [hc5_1])⟩
  · refine own_ifN X0 hx 8 (hb hby own_d11_5) (Lflt hc5_1).1 rfl ?_
    refine own_lloadN X0 hx 9 rfl (hb hby own_d11_8) rfl ?_
    refine own_goto X0 hx 13 (hb hby own_d11_9) (by decide) (by decide) ?_
    refine own_retJ X0 hx hlk Bd.returns (hb hby own_d11_13) (by decide) (by decide) e0 ?_
    exact ⟨lx, rfl, N0, rfl, (by simp +decide [hc5_1])⟩
theorem own_d12_0 : decode method_3_code 0 = .ok (.lload_n 0, 1) := by decide +kernel
theorem own_d12_1 : decode method_3_code 1 = .ok (.lload_n 2, 1) := by decide +kernel
theorem own_d12_2 : decode method_3_code 2 = .ok (.lsub, 1) := by decide +kernel
theorem own_d12_3 : decode method_3_code 3 = .ok (.lconst 0, 1) := by decide +kernel
theorem own_d12_4 : decode method_3_code 4 = .ok (.lcmp, 1) := by decide +kernel
theorem own_d12_5 : decode method_3_code 5 = .ok (.ifCond .lt 7, 3) := by decide +kernel
theorem own_d12_8 : decode method_3_code 8 = .ok (.lload_n 0, 1) := by decide +kernel
theorem own_d12_9 : decode method_3_code 9 = .ok (.goto 4, 3) := by decide +kernel
theorem own_d12_12 : decode method_3_code 12 = .ok (.lload_n 2, 1) := by decide +kernel
theorem own_d12_13 : decode method_3_code 13 = .ok (.lreturn, 1) := by decide +kernel
theorem own_pn_com_example_tallywire_tallywire_flaps_PacerAnsweredPinLaw : plainName "com/example/tallywire/tallywire/flaps/PacerAnsweredPinLaw" = true := by first | (simp [plainName, overriddenIn]; done) | decide +kernel
def Q12 (Z : State) (lx : Int64) (ly : Int64) (h0 : Heap) (n0 : Nat) (v : Option Value) (h : Heap) (L : List Loc) : Prop := ∃ lr : Int64, v = some (.long lr) ∧ Fr n0 L ∧ h = h0 ∧ ((lr = lx ∧ ¬ ((lx - ly) < (0 : Int64))) ∨ (lr = ly ∧ (lx - ly) < (0 : Int64)))
set_option maxRecDepth 65536 in
set_option maxHeartbeats 40000000 in
theorem rm12 (l : Launch) (Z : State) (a0 : Array Value) (hw : ∀ d ∈ tables_1, d.before a0 Z = true) (ws : List Jvm.Cond) (lx : Int64) (ly : Int64) (h0 : Heap) (n0 : Nat) (Z0 : n0 ≤ h0.size)  :
    MetFree l (⟨"com/example/tallywire/tallywire/flaps/PacerAnsweredPinLaw", "laterOf", "(JJ)J"⟩ : MethodName) (head1 (Jvm.Cond.code (⟨"com/example/tallywire/tallywire/flaps/PacerAnsweredPinLaw", "laterOf", "(JJ)J"⟩ : MethodName) method_3_code 4 (some .long) :: ws) ({ frames := 0, cells := 0, slots := 0, locals := 0 } : Room)) (fun a U => a = #[(.long lx), (.long ly)] ∧ Z.Warmed39 U.vm ∧ U.heap = h0) (fun _ _ _ _ _ => True) (fun _ U o U' => ∃ v L, o = .returned v ∧ Q12 Z lx ly h0 n0 v U'.heap L ∧ FrameEnd U o U' L ({ frames := 0, cells := 0, slots := 0, locals := 0 } : Room).cells ({ frames := 0, cells := 0, slots := 0, locals := 0 } : Room).slots) := by
  refine MetFree.of_bodySF (plainFor_of_name own_pn_com_example_tallywire_tallywire_flaps_PacerAnsweredPinLaw) hisR ?_
  intro p e s m args below meth c s₁ Bd hml0 hP hK
  obtain ⟨rfl, hZ, hh⟩ := hP
  have hx := Bd.exec
  have hby := Bd.bytes
  have hml : c.maxLocals = 4 := hml0
  have hlk := Bd.notSynchronized
  have hown : s.vm.findClass "com/example/tallywire/tallywire/flaps/PacerAnsweredPinLaw" = some m.cls := findClass_of_methodNamed Bd.named
  have hnm := (name_of_methodNamed Bd.named Bd.method).1
  have X0 : Stand p l e ({ frames := 0, cells := 0, slots := 0, locals := 0 } : Room) s m #[(.long lx), (.long ly)] below meth c s₁ [] 0 0 := Stand.of_body Bd
  have e0 : s₁.heap = h0 := by rw [← hh, Bd.state]; rfl
  have N0 := Fr.nil n0
  refine own_enter (Q := Q12 Z lx ly h0 n0) (Ls := #[.val (.long lx), .second, .val (.long ly), .second]) (by first | (simp [entryFrame, mkF, argsToLocals, Value.category]; done) | rfl) ?_
  refine own_lloadN X0 hx 1 rfl (hb hby own_d12_0) rfl ?_
  refine own_lloadN X0 hx 2 rfl (hb hby own_d12_1) rfl ?_
  refine own_lsub X0 hx 3 rfl (hb hby own_d12_2) rfl ?_
  refine own_lconst X0 hx 4 rfl (0 : Int64) (hb hby own_d12_3) (by decide) ?_
  refine own_lcmp X0 hx 5 rfl (hb hby own_d12_4) ?_
  by_cases hc5_1 : (lx - ly) < (0 : Int64)
  · refine own_ifY X0 hx 12 (hb hby own_d12_5) (Ltlt hc5_1).1 (by decide) (by decide) ?_
    refine own_lloadN X0 hx 13 rfl (hb hby own_d12_12) rfl ?_
    refine own_retJ X0 hx hlk Bd.returns (hb hby own_d12_13) (by decide) (by decide) e0 ?_
    exact ⟨ly, rfl, N0, rfl, (by simp +decide [hc5_1])⟩
  · refine own_ifN X0 hx 8 (hb hby own_d12_5) (Lflt hc5_1).1 rfl ?_
    refine own_lloadN X0 hx 9 rfl (hb hby own_d12_8) rfl ?_
    refine own_goto X0 hx 13 (hb hby own_d12_9) (by decide) (by decide) ?_
    refine own_retJ X0 hx hlk Bd.returns (hb hby own_d12_13) (by decide) (by decide) e0 ?_
    exact ⟨lx, rfl, N0, rfl, (by simp +decide [hc5_1])⟩
theorem own_pd0 : parseMethodDescriptor "()V" = some ⟨[], none⟩ := by decide +kernel
theorem own_d6_0 : decode prog_20_method_1_code 0 = .ok (.aload_n 0, 1) := by decide +kernel
theorem own_d6_1 : decode prog_20_method_1_code 1 = .ok (.invokespecial 1, 3) := by decide +kernel
theorem own_d6_4 : decode prog_20_method_1_code 4 = .ok (.aload_n 0, 1) := by decide +kernel
theorem own_d6_5 : decode prog_20_method_1_code 5 = .ok (.aload_n 1, 1) := by decide +kernel
theorem own_d6_6 : decode prog_20_method_1_code 6 = .ok (.putfield 7, 3) := by decide +kernel
theorem own_d6_9 : decode prog_20_method_1_code 9 = .ok (.aload_n 0, 1) := by decide +kernel
theorem own_d6_10 : decode prog_20_method_1_code 10 = .ok (.lload_n 2, 1) := by decide +kernel
theorem own_d6_11 : decode prog_20_method_1_code 11 = .ok (.putfield 13, 3) := by decide +kernel
theorem own_d6_14 : decode prog_20_method_1_code 14 = .ok (.return_, 1) := by decide +kernel
theorem own_pn_com_example_tallywire_tallywire_flaps_Pacer_Plan : plainName "com/example/tallywire/tallywire/flaps/Pacer$Plan" = true := by first | (simp [plainName, overriddenIn]; done) | decide +kernel
def Q6 (Z : State) (gt : Addr) (gc : Addr) (ga : Int64) (h0 : Heap) (n0 : Nat) (v : Option Value) (h : Heap) (L : List Loc) : Prop := v = none ∧ Fr n0 L ∧ Keep h0 h [gt] ∧ Fld Z h gt "com/example/tallywire/tallywire/flaps/Pacer$Plan" "command" "Lcom/example/tallywire/tallywire/flaps/Command;" (.ref gc) ∧ Fld Z h gt "com/example/tallywire/tallywire/flaps/Pacer$Plan" "at" "J" (.long ga)
set_option maxRecDepth 65536 in
set_option maxHeartbeats 40000000 in
theorem rm6 (l : Launch) (Z : State) (a0 : Array Value) (hw : ∀ d ∈ tables_1, d.before a0 Z = true) (ws : List Jvm.Cond) (gt : Addr) (gc : Addr) (ga : Int64) (h0 : Heap) (n0 : Nat) (Z0 : n0 ≤ h0.size) (EG : Exa Z h0 gt "com/example/tallywire/tallywire/flaps/Pacer$Plan") (gg : n0 ≤ gt) (Fc : Fld Z h0 gt "com/example/tallywire/tallywire/flaps/Pacer$Plan" "command" "Lcom/example/tallywire/tallywire/flaps/Command;" .null) (Fa : Fld Z h0 gt "com/example/tallywire/tallywire/flaps/Pacer$Plan" "at" "J" (.long (0 : Int64))) :
    MetFree l (⟨"com/example/tallywire/tallywire/flaps/Pacer$Plan", "<init>", "(Lcom/example/tallywire/tallywire/flaps/Command;J)V"⟩ : MethodName) (head1 (Jvm.Cond.code (⟨"com/example/tallywire/tallywire/flaps/Pacer$Plan", "<init>", "(Lcom/example/tallywire/tallywire/flaps/Command;J)V"⟩ : MethodName) prog_20_method_1_code 4 none :: ws) ({ frames := 2, cells := 0, slots := 0, locals := 24 } : Room)) (fun a U => a = #[(.ref gt), (.ref gc), (.long ga)] ∧ Z.Warmed39 U.vm ∧ U.heap = h0) (fun _ _ _ _ _ => True) (fun _ U o U' => ∃ v L, o = .returned v ∧ Q6 Z gt gc ga h0 n0 v U'.heap L ∧ FrameEnd U o U' L ({ frames := 2, cells := 0, slots := 0, locals := 24 } : Room).cells ({ frames := 2, cells := 0, slots := 0, locals := 24 } : Room).slots) := by
  refine MetFree.of_bodySF (plainFor_of_name own_pn_com_example_tallywire_tallywire_flaps_Pacer_Plan) hisR ?_
  intro p e s m args below meth c s₁ Bd hml0 hP hK
  obtain ⟨rfl, hZ, hh⟩ := hP
  have hx := Bd.exec
  have hby := Bd.bytes
  have hml : c.maxLocals = 4 := hml0
  have hlk := Bd.notSynchronized
  have hown : s.vm.findClass "com/example/tallywire/tallywire/flaps/Pacer$Plan" = some m.cls := findClass_of_methodNamed Bd.named
  have hnm := (name_of_methodNamed Bd.named Bd.method).1
  have X0 : Stand p l e ({ frames := 2, cells := 0, slots := 0, locals := 24 } : Room) s m #[(.ref gt), (.ref gc), (.long ga)] below meth c s₁ [] 0 0 := Stand.of_body Bd
  have e0 : s₁.heap = h0 := by rw [← hh, Bd.state]; rfl
  have N0 := Fr.nil n0
  have K0 : Keep h0 h0 [gt] := Keep.refl _ _
  refine own_enter (Q := Q6 Z gt gc ga h0 n0) (Ls := #[.val (.ref gt), .val (.ref gc), .val (.long ga), .second]) (by first | (simp [entryFrame, mkF, argsToLocals, Value.category]; done) | rfl) ?_
  refine own_aloadN X0 hx 1 rfl (hb hby own_d6_0) rfl rfl ?_
  obtain ⟨_, _, ⟨T1, L1, k1, n1⟩, -, X1, ⟨Lc1, hQ1, l1, y1, z1⟩, st1⟩ := X0.specialBack hx (y := (⟨"java/lang/Record", "<init>", "()V"⟩ : MethodName)) rfl hown (mvT hZ (hw _ (List.mem_of_getElem? (i := 48) rfl))) (mvT hZ (hw _ (List.mem_of_getElem? (i := 49) rfl))) (mvT hZ (hw _ (List.mem_of_getElem? (i := 52) rfl))) (by decide) (backOf (W := 0) (rm7 l Z a0 hw [] gt h0 n0 Z0 ) hZ (hw _ (List.mem_of_getElem? (i := 52) rfl)) (hw _ (List.mem_of_getElem? (i := 51) rfl)) (by decide) (by decide)) (g := (mkF m 1 #[.val (.ref gt), .val (.ref gc), .val (.long ga), .second] [(.ref gt)])) rfl (by rw [hml]; rfl) (Steps.refl _) (a := gt) (argsL := []) (rest := []) (lenOf own_pd0 rfl) rfl (by show 2 * 0 + _ ≤ _; exact Nat.le_of_eq rfl) (hb hby own_d6_1) (fun _ _ => ⟨rfl, e0, (by decide : 0 + 0 ≤ _), (by decide : 0 + 0 ≤ _)⟩)
  dsimp only [Pt.U, Pt.locs, Pt.cells, Pt.slots] at X1 l1 y1 z1 st1 hQ1
  subst l1 y1 z1
  obtain ⟨rfl, N1q, eh1⟩ := hQ1
  have N1 := Fr.app N0 N1q
  refine Goes.tr st1 ?_
  show Goes p e below s _ _ _ T1 (mkF m 4 #[.val (.ref gt), .val (.ref gc), .val (.long ga), .second] [])
  refine own_aloadN X1 hx 5 rfl (hb hby own_d6_4) rfl rfl ?_
  refine own_aloadN X1 hx 6 rfl (hb hby own_d6_5) rfl rfl ?_
  obtain ⟨T2, h2, X2, e2, W2, st2⟩ := putF X1 hx hZ hown (host := "") (Or.inl (hw _ (List.mem_of_getElem? (i := 54) rfl))) Via.refl eh1 Fc EG (Or.inr ⟨(hw _ (List.mem_of_getElem? (i := 55) rfl)), rfl, hnm⟩) (hw _ (List.mem_of_getElem? (i := 34) rfl)) (ty := (.object "com/example/tallywire/tallywire/flaps/Command")) (by decide) rfl rfl (g := (mkF m 6 #[.val (.ref gt), .val (.ref gc), .val (.long ga), .second] [(.ref gc), (.ref gt)])) rfl rfl (hb hby own_d6_6)
  have N2 := Fr.snoc X2 N1 gg
  have f3 := EG.wr W2
  have f4 := Fc.same W2
  have f5 := Fa.other W2 (Or.inr (slot_ne (Or.inr (hw _ (List.mem_of_getElem? (i := 57) rfl))) (Or.inr (hw _ (List.mem_of_getElem? (i := 55) rfl))) (by decide) (t := .long) (t' := (.object "com/example/tallywire/tallywire/flaps/Command")) (by decide) (by decide)))
  have K2 := K0.wr W2 (Or.inl (List.mem_of_getElem? (i := 0) rfl))
  have Z2 := Nat.le_trans Z0 (Nat.le_of_eq W2.size.symm)
  refine Goes.go st2 ?_
  show Goes p e below s _ _ _ T2 (mkF m 9 #[.val (.ref gt), .val (.ref gc), .val (.long ga), .second] [])
  refine own_aloadN X2 hx 10 rfl (hb hby own_d6_9) rfl rfl ?_
  refine own_lloadN X2 hx 11 rfl (hb hby own_d6_10) rfl ?_
  obtain ⟨T6, h6, X6, e6, W6, st6⟩ := putF X2 hx hZ hown (host := "") (Or.inl (hw _ (List.mem_of_getElem? (i := 56) rfl))) Via.refl e2 f5 f3 (Or.inr ⟨(hw _ (List.mem_of_getElem? (i := 57) rfl)), rfl, hnm⟩) (hw _ (List.mem_of_getElem? (i := 34) rfl)) (ty := .long) (by decide) rfl rfl (g := (mkF m 11 #[.val (.ref gt), .val (.ref gc), .val (.long ga), .second] [(.long ga), (.ref gt)])) rfl rfl (hb hby own_d6_11)
  have N6 := Fr.snoc X6 N2 gg
  have f7 := f3.wr W6
  have f8 := f4.other W6 (Or.inr (slot_ne (Or.inr (hw _ (List.mem_of_getElem? (i := 55) rfl))) (Or.inr (hw _ (List.mem_of_getElem? (i := 57) rfl))) (by decide) (t := (.object "com/example/tallywire/tallywire/flaps/Command")) (t' := .long) (by decide) (by decide)))
  have f9 := f5.same W6
  have K6 := K2.wr W6 (Or.inl (List.mem_of_getElem? (i := 0) rfl))
  have Z6 := Nat.le_trans Z2 (Nat.le_of_eq W6.size.symm)
  refine Goes.go st6 ?_
  show Goes p e below s _ _ _ T6 (mkF m 14 #[.val (.ref gt), .val (.ref gc), .val (.long ga), .second] [])
  refine own_retV X6 hx hlk Bd.returns (hb hby own_d6_14) (by decide) (by decide) e6 ?_
  exact ⟨rfl, N6, K6, f8, f9⟩
theorem own_d5_0 : decode prog_18_method_8_code 0 = .ok (.bipush 15, 2) := by decide +kernel
theorem own_d5_2 : decode prog_18_method_8_code 2 = .ok (.iload_n 1, 1) := by decide +kernel
theorem own_d5_3 : decode prog_18_method_8_code 3 = .ok (.isub, 1) := by decide +kernel
theorem own_d5_4 : decode prog_18_method_8_code 4 = .ok (.istore 4, 2) := by decide +kernel
theorem own_d5_6 : decode prog_18_method_8_code 6 = .ok (.aload_n 0, 1) := by decide +kernel
theorem own_d5_7 : decode prog_18_method_8_code 7 = .ok (.getfield 80, 3) := by decide +kernel
theorem own_d5_10 : decode prog_18_method_8_code 10 = .ok (.iload 4, 2) := by decide +kernel
theorem own_d5_12 : decode prog_18_method_8_code 12 = .ok (.i2l, 1) := by decide +kernel
theorem own_d5_13 : decode prog_18_method_8_code 13 = .ok (.lcmp, 1) := by decide +kernel
theorem own_d5_14 : decode prog_18_method_8_code 14 = .ok (.ifCond .gt 7, 3) := by decide +kernel
theorem own_d5_17 : decode prog_18_method_8_code 17 = .ok (.lload_n 2, 1) := by decide +kernel
theorem own_d5_18 : decode prog_18_method_8_code 18 = .ok (.goto 27, 3) := by decide +kernel
theorem own_d5_45 : decode prog_18_method_8_code 45 = .ok (.lreturn, 1) := by decide +kernel
def Qro0 (Z : State) (pt : Addr) (rf : Int64) (h0 : Heap) (n0 : Nat) (v : Option Value) (h : Heap) (L : List Loc) : Prop := v = some (.long rf) ∧ Fr n0 L ∧ h = h0
set_option maxRecDepth 65536 in
set_option maxHeartbeats 40000000 in
theorem rmro0 (l : Launch) (Z : State) (a0 : Array Value) (hw : ∀ d ∈ tables_1, d.before a0 Z = true) (ws : List Jvm.Cond) (pt : Addr) (rf : Int64) (h0 : Heap) (n0 : Nat) (Z0 : n0 ≤ h0.size) (Fn : Fld Z h0 pt "com/example/tallywire/tallywire/flaps/Pacer" "answered" "J" (.long (0 : Int64))) :
    MetFree l (⟨"com/example/tallywire/tallywire/flaps/Pacer", "roomFor", "(IJ)J"⟩ : MethodName) (head1 (Jvm.Cond.code (⟨"com/example/tallywire/tallywire/flaps/Pacer", "roomFor", "(IJ)J"⟩ : MethodName) prog_18_method_8_code 5 (some .long) :: ws) ({ frames := 0, cells := 0, slots := 0, locals := 0 } : Room)) (fun a U => a = #[(.ref pt), (.int (1 : Int32)), (.long rf)] ∧ Z.Warmed39 U.vm ∧ U.heap = h0) (fun _ _ _ _ _ => True) (fun _ U o U' => ∃ v L, o = .returned v ∧ Qro0 Z pt rf h0 n0 v U'.heap L ∧ FrameEnd U o U' L ({ frames := 0, cells := 0, slots := 0, locals := 0 } : Room).cells ({ frames := 0, cells := 0, slots := 0, locals := 0 } : Room).slots) := by
  refine MetFree.of_bodySF (plainFor_of_name own_pn_com_example_tallywire_tallywire_flaps_Pacer) hisR ?_
  intro p e s m args below meth c s₁ Bd hml0 hP hK
  obtain ⟨rfl, hZ, hh⟩ := hP
  have hx := Bd.exec
  have hby := Bd.bytes
  have hml : c.maxLocals = 5 := hml0
  have hlk := Bd.notSynchronized
  have hown : s.vm.findClass "com/example/tallywire/tallywire/flaps/Pacer" = some m.cls := findClass_of_methodNamed Bd.named
  have hnm := (name_of_methodNamed Bd.named Bd.method).1
  have X0 : Stand p l e ({ frames := 0, cells := 0, slots := 0, locals := 0 } : Room) s m #[(.ref pt), (.int (1 : Int32)), (.long rf)] below meth c s₁ [] 0 0 := Stand.of_body Bd
  have e0 : s₁.heap = h0 := by rw [← hh, Bd.state]; rfl
  have N0 := Fr.nil n0
  refine own_enter (Q := Qro0 Z pt rf h0 n0) (Ls := #[.val (.ref pt), .val (.int (1 : Int32)), .val (.long rf), .second, .unset]) (by first | (simp [entryFrame, mkF, argsToLocals, Value.category]; done) | rfl) ?_
  refine own_bipush X0 hx 2 rfl (15 : Int32) (hb hby own_d5_0) (by decide) ?_
  refine own_iloadN X0 hx 3 rfl (hb hby own_d5_2) rfl ?_
  refine own_isub X0 hx 4 rfl (z := (14 : Int32)) (hb hby own_d5_3) (by decide) ?_
  refine own_istore X0 hx 6 rfl #[.val (.ref pt), .val (.int (1 : Int32)), .val (.long rf), .second, .val (.int (14 : Int32))] (hb hby own_d5_4) rfl ?_
  refine own_aloadN X0 hx 7 rfl (hb hby own_d5_6) rfl rfl ?_
  obtain ⟨T1, X1, e1, st1⟩ := getF X0 hx hZ hown (host := "") (Or.inl (hw _ (List.mem_of_getElem? (i := 43) rfl))) Via.refl e0 Fn (g := (mkF m 7 #[.val (.ref pt), .val (.int (1 : Int32)), .val (.long rf), .second, .val (.int (14 : Int32))] [(.ref pt)])) rfl rfl (hb hby own_d5_7)
  refine Goes.go st1 ?_
  show Goes p e below s _ _ _ T1 (mkF m 10 #[.val (.ref pt), .val (.int (1 : Int32)), .val (.long rf), .second, .val (.int (14 : Int32))] [(.long (0 : Int64))])
  refine own_iload X1 hx 12 rfl (hb hby own_d5_10) rfl ?_
  refine own_i2l X1 hx 13 rfl (z := (14 : Int64)) (hb hby own_d5_12) (by decide) ?_
  refine own_lcmp X1 hx 14 rfl (hb hby own_d5_13) ?_
  refine own_ifN X1 hx 17 (hb hby own_d5_14) (Lflt ((by decide) : ¬ ((14 : Int64) < (0 : Int64)))).2.2.1 rfl ?_
  refine own_lloadN X1 hx 18 rfl (hb hby own_d5_17) rfl ?_
  refine own_goto X1 hx 45 (hb hby own_d5_18) (by decide) (by decide) ?_
  refine own_retJ X1 hx hlk Bd.returns (hb hby own_d5_45) (by decide) (by decide) e1 ?_
  exact ⟨rfl, N0, rfl⟩
def Qro1 (Z : State) (pt : Addr) (rf : Int64) (h0 : Heap) (n0 : Nat) (v : Option Value) (h : Heap) (L : List Loc) : Prop := v = some (.long rf) ∧ Fr n0 L ∧ h = h0
set_option maxRecDepth 65536 in
set_option maxHeartbeats 40000000 in
theorem rmro1 (l : Launch) (Z : State) (a0 : Array Value) (hw : ∀ d ∈ tables_1, d.before a0 Z = true) (ws : List Jvm.Cond) (pt : Addr) (rf : Int64) (h0 : Heap) (n0 : Nat) (Z0 : n0 ≤ h0.size) (Fn : Fld Z h0 pt "com/example/tallywire/tallywire/flaps/Pacer" "answered" "J" (.long (1 : Int64))) :
    MetFree l (⟨"com/example/tallywire/tallywire/flaps/Pacer", "roomFor", "(IJ)J"⟩ : MethodName) (head1 (Jvm.Cond.code (⟨"com/example/tallywire/tallywire/flaps/Pacer", "roomFor", "(IJ)J"⟩ : MethodName) prog_18_method_8_code 5 (some .long) :: ws) ({ frames := 0, cells := 0, slots := 0, locals := 0 } : Room)) (fun a U => a = #[(.ref pt), (.int (1 : Int32)), (.long rf)] ∧ Z.Warmed39 U.vm ∧ U.heap = h0) (fun _ _ _ _ _ => True) (fun _ U o U' => ∃ v L, o = .returned v ∧ Qro1 Z pt rf h0 n0 v U'.heap L ∧ FrameEnd U o U' L ({ frames := 0, cells := 0, slots := 0, locals := 0 } : Room).cells ({ frames := 0, cells := 0, slots := 0, locals := 0 } : Room).slots) := by
  refine MetFree.of_bodySF (plainFor_of_name own_pn_com_example_tallywire_tallywire_flaps_Pacer) hisR ?_
  intro p e s m args below meth c s₁ Bd hml0 hP hK
  obtain ⟨rfl, hZ, hh⟩ := hP
  have hx := Bd.exec
  have hby := Bd.bytes
  have hml : c.maxLocals = 5 := hml0
  have hlk := Bd.notSynchronized
  have hown : s.vm.findClass "com/example/tallywire/tallywire/flaps/Pacer" = some m.cls := findClass_of_methodNamed Bd.named
  have hnm := (name_of_methodNamed Bd.named Bd.method).1
  have X0 : Stand p l e ({ frames := 0, cells := 0, slots := 0, locals := 0 } : Room) s m #[(.ref pt), (.int (1 : Int32)), (.long rf)] below meth c s₁ [] 0 0 := Stand.of_body Bd
  have e0 : s₁.heap = h0 := by rw [← hh, Bd.state]; rfl
  have N0 := Fr.nil n0
  refine own_enter (Q := Qro1 Z pt rf h0 n0) (Ls := #[.val (.ref pt), .val (.int (1 : Int32)), .val (.long rf), .second, .unset]) (by first | (simp [entryFrame, mkF, argsToLocals, Value.category]; done) | rfl) ?_
  refine own_bipush X0 hx 2 rfl (15 : Int32) (hb hby own_d5_0) (by decide) ?_
  refine own_iloadN X0 hx 3 rfl (hb hby own_d5_2) rfl ?_
  refine own_isub X0 hx 4 rfl (z := (14 : Int32)) (hb hby own_d5_3) (by decide) ?_
  refine own_istore X0 hx 6 rfl #[.val (.ref pt), .val (.int (1 : Int32)), .val (.long rf), .second, .val (.int (14 : Int32))] (hb hby own_d5_4) rfl ?_
  refine own_aloadN X0 hx 7 rfl (hb hby own_d5_6) rfl rfl ?_
  obtain ⟨T1, X1, e1, st1⟩ := getF X0 hx hZ hown (host := "") (Or.inl (hw _ (List.mem_of_getElem? (i := 43) rfl))) Via.refl e0 Fn (g := (mkF m 7 #[.val (.ref pt), .val (.int (1 : Int32)), .val (.long rf), .second, .val (.int (14 : Int32))] [(.ref pt)])) rfl rfl (hb hby own_d5_7)
  refine Goes.go st1 ?_
  show Goes p e below s _ _ _ T1 (mkF m 10 #[.val (.ref pt), .val (.int (1 : Int32)), .val (.long rf), .second, .val (.int (14 : Int32))] [(.long (1 : Int64))])
  refine own_iload X1 hx 12 rfl (hb hby own_d5_10) rfl ?_
  refine own_i2l X1 hx 13 rfl (z := (14 : Int64)) (hb hby own_d5_12) (by decide) ?_
  refine own_lcmp X1 hx 14 rfl (hb hby own_d5_13) ?_
  refine own_ifN X1 hx 17 (hb hby own_d5_14) (Lflt ((by decide) : ¬ ((14 : Int64) < (1 : Int64)))).2.2.1 rfl ?_
  refine own_lloadN X1 hx 18 rfl (hb hby own_d5_17) rfl ?_
  refine own_goto X1 hx 45 (hb hby own_d5_18) (by decide) (by decide) ?_
  refine own_retJ X1 hx hlk Bd.returns (hb hby own_d5_45) (by decide) (by decide) e1 ?_
  exact ⟨rfl, N0, rfl⟩
def Qro2 (Z : State) (pt : Addr) (rf : Int64) (h0 : Heap) (n0 : Nat) (v : Option Value) (h : Heap) (L : List Loc) : Prop := v = some (.long rf) ∧ Fr n0 L ∧ h = h0
set_option maxRecDepth 65536 in
set_option maxHeartbeats 40000000 in
theorem rmro2 (l : Launch) (Z : State) (a0 : Array Value) (hw : ∀ d ∈ tables_1, d.before a0 Z = true) (ws : List Jvm.Cond) (pt : Addr) (rf : Int64) (h0 : Heap) (n0 : Nat) (Z0 : n0 ≤ h0.size) (Fn : Fld Z h0 pt "com/example/tallywire/tallywire/flaps/Pacer" "answered" "J" (.long (2 : Int64))) :
    MetFree l (⟨"com/example/tallywire/tallywire/flaps/Pacer", "roomFor", "(IJ)J"⟩ : MethodName) (head1 (Jvm.Cond.code (⟨"com/example/tallywire/tallywire/flaps/Pacer", "roomFor", "(IJ)J"⟩ : MethodName) prog_18_method_8_code 5 (some .long) :: ws) ({ frames := 0, cells := 0, slots := 0, locals := 0 } : Room)) (fun a U => a = #[(.ref pt), (.int (1 : Int32)), (.long rf)] ∧ Z.Warmed39 U.vm ∧ U.heap = h0) (fun _ _ _ _ _ => True) (fun _ U o U' => ∃ v L, o = .returned v ∧ Qro2 Z pt rf h0 n0 v U'.heap L ∧ FrameEnd U o U' L ({ frames := 0, cells := 0, slots := 0, locals := 0 } : Room).cells ({ frames := 0, cells := 0, slots := 0, locals := 0 } : Room).slots) := by
  refine MetFree.of_bodySF (plainFor_of_name own_pn_com_example_tallywire_tallywire_flaps_Pacer) hisR ?_
  intro p e s m args below meth c s₁ Bd hml0 hP hK
  obtain ⟨rfl, hZ, hh⟩ := hP
  have hx := Bd.exec
  have hby := Bd.bytes
  have hml : c.maxLocals = 5 := hml0
  have hlk := Bd.notSynchronized
  have hown : s.vm.findClass "com/example/tallywire/tallywire/flaps/Pacer" = some m.cls := findClass_of_methodNamed Bd.named
  have hnm := (name_of_methodNamed Bd.named Bd.method).1
  have X0 : Stand p l e ({ frames := 0, cells := 0, slots := 0, locals := 0 } : Room) s m #[(.ref pt), (.int (1 : Int32)), (.long rf)] below meth c s₁ [] 0 0 := Stand.of_body Bd
  have e0 : s₁.heap = h0 := by rw [← hh, Bd.state]; rfl
  have N0 := Fr.nil n0
  refine own_enter (Q := Qro2 Z pt rf h0 n0) (Ls := #[.val (.ref pt), .val (.int (1 : Int32)), .val (.long rf), .second, .unset]) (by first | (simp [entryFrame, mkF, argsToLocals, Value.category]; done) | rfl) ?_
  refine own_bipush X0 hx 2 rfl (15 : Int32) (hb hby own_d5_0) (by decide) ?_
  refine own_iloadN X0 hx 3 rfl (hb hby own_d5_2) rfl ?_
  refine own_isub X0 hx 4 rfl (z := (14 : Int32)) (hb hby own_d5_3) (by decide) ?_
  refine own_istore X0 hx 6 rfl #[.val (.ref pt), .val (.int (1 : Int32)), .val (.long rf), .second, .val (.int (14 : Int32))] (hb hby own_d5_4) rfl ?_
  refine own_aloadN X0 hx 7 rfl (hb hby own_d5_6) rfl rfl ?_
  obtain ⟨T1, X1, e1, st1⟩ := getF X0 hx hZ hown (host := "") (Or.inl (hw _ (List.mem_of_getElem? (i := 43) rfl))) Via.refl e0 Fn (g := (mkF m 7 #[.val (.ref pt), .val (.int (1 : Int32)), .val (.long rf), .second, .val (.int (14 : Int32))] [(.ref pt)])) rfl rfl (hb hby own_d5_7)
  refine Goes.go st1 ?_
  show Goes p e below s _ _ _ T1 (mkF m 10 #[.val (.ref pt), .val (.int (1 : Int32)), .val (.long rf), .second, .val (.int (14 : Int32))] [(.long (2 : Int64))])
  refine own_iload X1 hx 12 rfl (hb hby own_d5_10) rfl ?_
  refine own_i2l X1 hx 13 rfl (z := (14 : Int64)) (hb hby own_d5_12) (by decide) ?_
  refine own_lcmp X1 hx 14 rfl (hb hby own_d5_13) ?_
  refine own_ifN X1 hx 17 (hb hby own_d5_14) (Lflt ((by decide) : ¬ ((14 : Int64) < (2 : Int64)))).2.2.1 rfl ?_
  refine own_lloadN X1 hx 18 rfl (hb hby own_d5_17) rfl ?_
  refine own_goto X1 hx 45 (hb hby own_d5_18) (by decide) (by decide) ?_
  refine own_retJ X1 hx hlk Bd.returns (hb hby own_d5_45) (by decide) (by decide) e1 ?_
  exact ⟨rfl, N0, rfl⟩
theorem own_d1_0 : decode prog_18_method_1_code 0 = .ok (.aload_n 0, 1) := by decide +kernel
theorem own_d1_1 : decode prog_18_method_1_code 1 = .ok (.invokespecial 1, 3) := by decide +kernel
theorem own_d1_4 : decode prog_18_method_1_code 4 = .ok (.aload_n 0, 1) := by decide +kernel
theorem own_d1_5 : decode prog_18_method_1_code 5 = .ok (.bipush 15, 2) := by decide +kernel
theorem own_d1_7 : decode prog_18_method_1_code 7 = .ok (.newarray .long, 2) := by decide +kernel
theorem own_d1_9 : decode prog_18_method_1_code 9 = .ok (.putfield 9, 3) := by decide +kernel
theorem own_d1_12 : decode prog_18_method_1_code 12 = .ok (.aload_n 0, 1) := by decide +kernel
theorem own_d1_13 : decode prog_18_method_1_code 13 = .ok (.bipush 15, 2) := by decide +kernel
theorem own_d1_15 : decode prog_18_method_1_code 15 = .ok (.newarray .long, 2) := by decide +kernel
theorem own_d1_17 : decode prog_18_method_1_code 17 = .ok (.putfield 13, 3) := by decide +kernel
theorem own_d1_20 : decode prog_18_method_1_code 20 = .ok (.aload_n 0, 1) := by decide +kernel
theorem own_d1_21 : decode prog_18_method_1_code 21 = .ok (.lload_n 1, 1) := by decide +kernel
theorem own_d1_22 : decode prog_18_method_1_code 22 = .ok (.lconst 0, 1) := by decide +kernel
theorem own_d1_23 : decode prog_18_method_1_code 23 = .ok (.lcmp, 1) := by decide +kernel
theorem own_d1_24 : decode prog_18_method_1_code 24 = .ok (.ifCond .ne 7, 3) := by decide +kernel
theorem own_d1_27 : decode prog_18_method_1_code 27 = .ok (.lconst 0, 1) := by decide +kernel
theorem own_d1_28 : decode prog_18_method_1_code 28 = .ok (.goto 10, 3) := by decide +kernel
theorem own_d1_38 : decode prog_18_method_1_code 38 = .ok (.putfield 26, 3) := by decide +kernel
theorem own_d1_41 : decode prog_18_method_1_code 41 = .ok (.aload_n 0, 1) := by decide +kernel
theorem own_d1_42 : decode prog_18_method_1_code 42 = .ok (.lload_n 3, 1) := by decide +kernel
theorem own_d1_43 : decode prog_18_method_1_code 43 = .ok (.putfield 29, 3) := by decide +kernel
theorem own_d1_46 : decode prog_18_method_1_code 46 = .ok (.lload_n 1, 1) := by decide +kernel
theorem own_d1_47 : decode prog_18_method_1_code 47 = .ok (.lconst 0, 1) := by decide +kernel
theorem own_d1_48 : decode prog_18_method_1_code 48 = .ok (.lcmp, 1) := by decide +kernel
theorem own_d1_49 : decode prog_18_method_1_code 49 = .ok (.ifCond .ne 7, 3) := by decide +kernel
theorem own_d1_52 : decode prog_18_method_1_code 52 = .ok (.lconst 0, 1) := by decide +kernel
theorem own_d1_53 : decode prog_18_method_1_code 53 = .ok (.goto 18, 3) := by decide +kernel
theorem own_d1_71 : decode prog_18_method_1_code 71 = .ok (.lstore 5, 2) := by decide +kernel
theorem own_d1_73 : decode prog_18_method_1_code 73 = .ok (.aload_n 0, 1) := by decide +kernel
theorem own_d1_74 : decode prog_18_method_1_code 74 = .ok (.ldc2_w 35, 3) := by decide +kernel
theorem own_d1_77 : decode prog_18_method_1_code 77 = .ok (.lload 5, 2) := by decide +kernel
theorem own_d1_79 : decode prog_18_method_1_code 79 = .ok (.lmul, 1) := by decide +kernel
theorem own_d1_80 : decode prog_18_method_1_code 80 = .ok (.ldc2_w 37, 3) := by decide +kernel
theorem own_d1_83 : decode prog_18_method_1_code 83 = .ok (.lcmp, 1) := by decide +kernel
theorem own_d1_84 : decode prog_18_method_1_code 84 = .ok (.ifCond .ge 7, 3) := by decide +kernel
theorem own_d1_87 : decode prog_18_method_1_code 87 = .ok (.iconst 1, 1) := by decide +kernel
theorem own_d1_88 : decode prog_18_method_1_code 88 = .ok (.goto 4, 3) := by decide +kernel
theorem own_d1_92 : decode prog_18_method_1_code 92 = .ok (.putfield 39, 3) := by decide +kernel
theorem own_d1_95 : decode prog_18_method_1_code 95 = .ok (.return_, 1) := by decide +kernel
def Q1 (Z : State) (pt : Addr) (pk : Int64) (h0 : Heap) (n0 : Nat) (v : Option Value) (h : Heap) (L : List Loc) : Prop := ∃ aa : Addr, ∃ sa : Addr, v = none ∧ Fr n0 L ∧ Keep h0 h [pt] ∧ h0.size ≤ aa ∧ h0.size ≤ sa ∧ Fld Z h pt "com/example/tallywire/tallywire/flaps/Pacer" "answers" "[J" (.ref aa) ∧ Fld Z h pt "com/example/tallywire/tallywire/flaps/Pacer" "sent" "[J" (.ref sa) ∧ Fld Z h pt "com/example/tallywire/tallywire/flaps/Pacer" "pollNanos" "J" (.long (0 : Int64)) ∧ Fld Z h pt "com/example/tallywire/tallywire/flaps/Pacer" "keepaliveNanos" "J" (.long pk) ∧ Fld Z h pt "com/example/tallywire/tallywire/flaps/Pacer" "answered" "J" (.long (0 : Int64)) ∧ Fld Z h pt "com/example/tallywire/tallywire/flaps/Pacer" "lastAnswer" "J" (.long (0 : Int64)) ∧ Fld Z h pt "com/example/tallywire/tallywire/flaps/Pacer" "taken" "Lcom/example/tallywire/tallywire/flaps/Command;" .null ∧ Fld Z h pt "com/example/tallywire/tallywire/flaps/Pacer" "nextPoll" "J" (.long (0 : Int64)) ∧ own_LA Z h aa  ∧ own_LA Z h sa  ∧ aa ≠ sa
set_option maxRecDepth 65536 in
set_option maxHeartbeats 40000000 in
theorem rm1 (l : Launch) (Z : State) (a0 : Array Value) (hw : ∀ d ∈ tables_1, d.before a0 Z = true) (ws : List Jvm.Cond) (pt : Addr) (pk : Int64) (h0 : Heap) (n0 : Nat) (Z0 : n0 ≤ h0.size) (EP : Exa Z h0 pt "com/example/tallywire/tallywire/flaps/Pacer") (gp : n0 ≤ pt) (Fanswers : Fld Z h0 pt "com/example/tallywire/tallywire/flaps/Pacer" "answers" "[J" .null) (Fsent : Fld Z h0 pt "com/example/tallywire/tallywire/flaps/Pacer" "sent" "[J" .null) (FpollNanos : Fld Z h0 pt "com/example/tallywire/tallywire/flaps/Pacer" "pollNanos" "J" (.long (0 : Int64))) (FkeepaliveNanos : Fld Z h0 pt "com/example/tallywire/tallywire/flaps/Pacer" "keepaliveNanos" "J" (.long (0 : Int64))) (FpingsBesidePolls : Fld Z h0 pt "com/example/tallywire/tallywire/flaps/Pacer" "pingsBesidePolls" "Z" (.int (0 : Int32))) (Fanswered : Fld Z h0 pt "com/example/tallywire/tallywire/flaps/Pacer" "answered" "J" (.long (0 : Int64))) (FlastAnswer : Fld Z h0 pt "com/example/tallywire/tallywire/flaps/Pacer" "lastAnswer" "J" (.long (0 : Int64))) (Ftaken : Fld Z h0 pt "com/example/tallywire/tallywire/flaps/Pacer" "taken" "Lcom/example/tallywire/tallywire/flaps/Command;" .null) (FnextPoll : Fld Z h0 pt "com/example/tallywire/tallywire/flaps/Pacer" "nextPoll" "J" (.long (0 : Int64))) :
    MetFree l (⟨"com/example/tallywire/tallywire/flaps/Pacer", "<init>", "(JJ)V"⟩ : MethodName) (head1 (Jvm.Cond.code (⟨"com/example/tallywire/tallywire/flaps/Pacer", "<init>", "(JJ)V"⟩ : MethodName) prog_18_method_1_code 7 none :: ws) ({ frames := 1, cells := 2, slots := 30, locals := 12 } : Room)) (fun a U => a = #[(.ref pt), (.long (0 : Int64)), (.long pk)] ∧ Z.Warmed39 U.vm ∧ U.heap = h0) (fun _ _ _ _ _ => True) (fun _ U o U' => ∃ v L, o = .returned v ∧ Q1 Z pt pk h0 n0 v U'.heap L ∧ FrameEnd U o U' L ({ frames := 1, cells := 2, slots := 30, locals := 12 } : Room).cells ({ frames := 1, cells := 2, slots := 30, locals := 12 } : Room).slots) := by
  refine MetFree.of_bodySF (plainFor_of_name own_pn_com_example_tallywire_tallywire_flaps_Pacer) hisR ?_
  intro p e s m args below meth c s₁ Bd hml0 hP hK
  obtain ⟨rfl, hZ, hh⟩ := hP
  have hx := Bd.exec
  have hby := Bd.bytes
  have hml : c.maxLocals = 7 := hml0
  have hlk := Bd.notSynchronized
  have hown : s.vm.findClass "com/example/tallywire/tallywire/flaps/Pacer" = some m.cls := findClass_of_methodNamed Bd.named
  have hnm := (name_of_methodNamed Bd.named Bd.method).1
  have X0 : Stand p l e ({ frames := 1, cells := 2, slots := 30, locals := 12 } : Room) s m #[(.ref pt), (.long (0 : Int64)), (.long pk)] below meth c s₁ [] 0 0 := Stand.of_body Bd
  have e0 : s₁.heap = h0 := by rw [← hh, Bd.state]; rfl
  have N0 := Fr.nil n0
  have K0 : Keep h0 h0 [pt] := Keep.refl _ _
  refine own_enter (Q := Q1 Z pt pk h0 n0) (Ls := #[.val (.ref pt), .val (.long (0 : Int64)), .second, .val (.long pk), .second, .unset, .unset]) (by first | (simp [entryFrame, mkF, argsToLocals, Value.category]; done) | rfl) ?_
  refine own_aloadN X0 hx 1 rfl (hb hby own_d1_0) rfl rfl ?_
  obtain ⟨T1, X1, e1, st1⟩ := initO X0 hx hZ hown (hw _ (List.mem_of_getElem? (i := 6) rfl)) (hw _ (List.mem_of_getElem? (i := 7) rfl)) (hw _ (List.mem_of_getElem? (i := 8) rfl)) e0 (g := (mkF m 1 #[.val (.ref pt), .val (.long (0 : Int64)), .second, .val (.long pk), .second, .unset, .unset] [(.ref pt)])) rfl (by rw [hml]; rfl) rfl (hb hby own_d1_1) (by decide) (W := 0) (by show 2 * 0 + _ ≤ _; exact Nat.le_of_eq rfl) (by decide)
  refine Goes.go st1 ?_
  show Goes p e below s _ _ _ T1 (mkF m 4 #[.val (.ref pt), .val (.long (0 : Int64)), .second, .val (.long pk), .second, .unset, .unset] [])
  refine own_aloadN X1 hx 5 rfl (hb hby own_d1_4) rfl rfl ?_
  refine own_bipush X1 hx 7 rfl (15 : Int32) (hb hby own_d1_5) (by decide) ?_
  obtain ⟨T2, h2, k2, X2, e2, E2, A2, st2⟩ := newP X1 hx hZ (hw _ (List.mem_of_getElem? (i := 9) rfl)) e1 (g := (mkF m 7 #[.val (.ref pt), .val (.long (0 : Int64)), .second, .val (.long pk), .second, .unset, .unset] [(.int (15 : Int32)), (.ref pt)])) rfl (hb hby own_d1_7) rfl (by decide) (cap := 15) (by decide) (by decide) (by decide) (by decide)
  obtain ⟨b2, g2⟩ : ∃ z, z = h0.size := ⟨_, rfl⟩
  rw [← g2] at A2 st2
  have ne3 : pt ≠ b2 := own_lt_ne EP.lt g2
  have G2 : n0 ≤ b2 := Nat.le_trans Z0 (Nat.le_of_eq g2.symm)
  have H2 : h0.size ≤ b2 := Nat.le_trans K0.1 (Nat.le_of_eq g2.symm)
  have f4 := EP.ext E2
  have f5 := Fanswers.ext E2
  have f6 := Fsent.ext E2
  have f7 := FpollNanos.ext E2
  have f8 := FkeepaliveNanos.ext E2
  have f9 := FpingsBesidePolls.ext E2
  have f10 := Fanswered.ext E2
  have f11 := FlastAnswer.ext E2
  have f12 := Ftaken.ext E2
  have f13 := FnextPoll.ext E2
  have K2 := K0.ext E2
  have Z2 := Nat.le_trans Z0 E2.1
  have V2 : Arv Z h2 b2 k2 .long (15 : Int32) [(.long (0 : Int64)), (.long (0 : Int64)), (.long (0 : Int64)), (.long (0 : Int64)), (.long (0 : Int64)), (.long (0 : Int64)), (.long (0 : Int64)), (.long (0 : Int64)), (.long (0 : Int64)), (.long (0 : Int64)), (.long (0 : Int64)), (.long (0 : Int64)), (.long (0 : Int64)), (.long (0 : Int64)), (.long (0 : Int64))] (.long (0 : Int64)) := (Arv.new A2 (by decide)).pad (pad_rep [] (.long (0 : Int64)) 15)
  refine Goes.go st2 ?_
  show Goes p e below s _ _ _ T2 (mkF m 9 #[.val (.ref pt), .val (.long (0 : Int64)), .second, .val (.long pk), .second, .unset, .unset] [(.ref b2), (.ref pt)])
  have la14 := own_LA.of V2
  obtain ⟨T15, h15, X15, e15, W15, st15⟩ := putF X2 hx hZ hown (host := "") (Or.inl (hw _ (List.mem_of_getElem? (i := 10) rfl))) Via.refl e2 f5 f4 (Or.inr ⟨(hw _ (List.mem_of_getElem? (i := 11) rfl)), rfl, hnm⟩) (hw _ (List.mem_of_getElem? (i := 1) rfl)) (ty := (.array .long)) (by decide) rfl rfl (g := (mkF m 9 #[.val (.ref pt), .val (.long (0 : Int64)), .second, .val (.long pk), .second, .unset, .unset] [(.ref b2), (.ref pt)])) rfl rfl (hb hby own_d1_9)
  have N15 := Fr.snoc X15 N0 gp
  have f16 := f4.wr W15
  have f17 := f5.same W15
  have f18 := f6.other W15 (Or.inr (slot_ne (Or.inr (hw _ (List.mem_of_getElem? (i := 13) rfl))) (Or.inr (hw _ (List.mem_of_getElem? (i := 11) rfl))) (by decide) (t := (.array .long)) (t' := (.array .long)) (by decide) (by decide)))
  have f19 := f7.other W15 (Or.inr (slot_ne (Or.inr (hw _ (List.mem_of_getElem? (i := 15) rfl))) (Or.inr (hw _ (List.mem_of_getElem? (i := 11) rfl))) (by decide) (t := .long) (t' := (.array .long)) (by decide) (by decide)))
  have f20 := f8.other W15 (Or.inr (slot_ne (Or.inr (hw _ (List.mem_of_getElem? (i := 17) rfl))) (Or.inr (hw _ (List.mem_of_getElem? (i := 11) rfl))) (by decide) (t := .long) (t' := (.array .long)) (by decide) (by decide)))
  have f21 := f9.other W15 (Or.inr (slot_ne (Or.inr (hw _ (List.mem_of_getElem? (i := 21) rfl))) (Or.inr (hw _ (List.mem_of_getElem? (i := 11) rfl))) (by decide) (t := .boolean) (t' := (.array .long)) (by decide) (by decide)))
  have f22 := f10.other W15 (Or.inr (slot_ne (Or.inl (hw _ (List.mem_of_getElem? (i := 44) rfl))) (Or.inr (hw _ (List.mem_of_getElem? (i := 11) rfl))) (by decide) (t := .long) (t' := (.array .long)) (by decide) (by decide)))
  have f23 := f11.other W15 (Or.inr (slot_ne (Or.inl (hw _ (List.mem_of_getElem? (i := 81) rfl))) (Or.inr (hw _ (List.mem_of_getElem? (i := 11) rfl))) (by decide) (t := .long) (t' := (.array .long)) (by decide) (by decide)))
  have f24 := f12.other W15 (Or.inr (slot_ne (Or.inl (hw _ (List.mem_of_getElem? (i := 32) rfl))) (Or.inr (hw _ (List.mem_of_getElem? (i := 11) rfl))) (by decide) (t := (.object "com/example/tallywire/tallywire/flaps/Command")) (t' := (.array .long)) (by decide) (by decide)))
  have f25 := f13.other W15 (Or.inr (slot_ne (Or.inl (hw _ (List.mem_of_getElem? (i := 73) rfl))) (Or.inr (hw _ (List.mem_of_getElem? (i := 11) rfl))) (by decide) (t := .long) (t' := (.array .long)) (by decide) (by decide)))
  have f26 := la14.other W15 (Ne.symm ne3)
  have K15 := K2.wr W15 (Or.inl (List.mem_of_getElem? (i := 0) rfl))
  have Z15 := Nat.le_trans Z2 (Nat.le_of_eq W15.size.symm)
  refine Goes.go st15 ?_
  show Goes p e below s _ _ _ T15 (mkF m 12 #[.val (.ref pt), .val (.long (0 : Int64)), .second, .val (.long pk), .second, .unset, .unset] [])
  refine own_aloadN X15 hx 13 rfl (hb hby own_d1_12) rfl rfl ?_
  refine own_bipush X15 hx 15 rfl (15 : Int32) (hb hby own_d1_13) (by decide) ?_
  obtain ⟨T27, h27, k27, X27, e27, E27, A27, st27⟩ := newP X15 hx hZ (hw _ (List.mem_of_getElem? (i := 9) rfl)) e15 (g := (mkF m 15 #[.val (.ref pt), .val (.long (0 : Int64)), .second, .val (.long pk), .second, .unset, .unset] [(.int (15 : Int32)), (.ref pt)])) rfl (hb hby own_d1_15) rfl (by decide) (cap := 15) (by decide) (by decide) (by decide) (by decide)
  obtain ⟨b27, g27⟩ : ∃ z, z = h15.size := ⟨_, rfl⟩
  rw [← g27] at A27 st27
  have ne28 : pt ≠ b27 := own_lt_ne f16.lt g27
  have ne29 : b2 ≠ b27 := own_lt_ne f26.lt g27
  have G27 : n0 ≤ b27 := Nat.le_trans Z15 (Nat.le_of_eq g27.symm)
  have H27 : h0.size ≤ b27 := Nat.le_trans K15.1 (Nat.le_of_eq g27.symm)
  have f30 := f16.ext E27
  have f31 := f17.ext E27
  have f32 := f18.ext E27
  have f33 := f19.ext E27
  have f34 := f20.ext E27
  have f35 := f21.ext E27
  have f36 := f22.ext E27
  have f37 := f23.ext E27
  have f38 := f24.ext E27
  have f39 := f25.ext E27
  have f40 := f26.ext E27
  have K27 := K15.ext E27
  have Z27 := Nat.le_trans Z15 E27.1
  have V27 : Arv Z h27 b27 k27 .long (15 : Int32) [(.long (0 : Int64)), (.long (0 : Int64)), (.long (0 : Int64)), (.long (0 : Int64)), (.long (0 : Int64)), (.long (0 : Int64)), (.long (0 : Int64)), (.long (0 : Int64)), (.long (0 : Int64)), (.long (0 : Int64)), (.long (0 : Int64)), (.long (0 : Int64)), (.long (0 : Int64)), (.long (0 : Int64)), (.long (0 : Int64))] (.long (0 : Int64)) := (Arv.new A27 (by decide)).pad (pad_rep [] (.long (0 : Int64)) 15)
  refine Goes.go st27 ?_
  show Goes p e below s _ _ _ T27 (mkF m 17 #[.val (.ref pt), .val (.long (0 : Int64)), .second, .val (.long pk), .second, .unset, .unset] [(.ref b27), (.ref pt)])
  have la41 := own_LA.of V27
  obtain ⟨T42, h42, X42, e42, W42, st42⟩ := putF X27 hx hZ hown (host := "") (Or.inl (hw _ (List.mem_of_getElem? (i := 12) rfl))) Via.refl e27 f32 f30 (Or.inr ⟨(hw _ (List.mem_of_getElem? (i := 13) rfl)), rfl, hnm⟩) (hw _ (List.mem_of_getElem? (i := 1) rfl)) (ty := (.array .long)) (by decide) rfl rfl (g := (mkF m 17 #[.val (.ref pt), .val (.long (0 : Int64)), .second, .val (.long pk), .second, .unset, .unset] [(.ref b27), (.ref pt)])) rfl rfl (hb hby own_d1_17)
  have N42 := Fr.snoc X42 N15 gp
  have f43 := f30.wr W42
  have f44 := f31.other W42 (Or.inr (slot_ne (Or.inr (hw _ (List.mem_of_getElem? (i := 11) rfl))) (Or.inr (hw _ (List.mem_of_getElem? (i := 13) rfl))) (by decide) (t := (.array .long)) (t' := (.array .long)) (by decide) (by decide)))
  have f45 := f32.same W42
  have f46 := f33.other W42 (Or.inr (slot_ne (Or.inr (hw _ (List.mem_of_getElem? (i := 15) rfl))) (Or.inr (hw _ (List.mem_of_getElem? (i := 13) rfl))) (by decide) (t := .long) (t' := (.array .long)) (by decide) (by decide)))
  have f47 := f34.other W42 (Or.inr (slot_ne (Or.inr (hw _ (List.mem_of_getElem? (i := 17) rfl))) (Or.inr (hw _ (List.mem_of_getElem? (i := 13) rfl))) (by decide) (t := .long) (t' := (.array .long)) (by decide) (by decide)))
  have f48 := f35.other W42 (Or.inr (slot_ne (Or.inr (hw _ (List.mem_of_getElem? (i := 21) rfl))) (Or.inr (hw _ (List.mem_of_getElem? (i := 13) rfl))) (by decide) (t := .boolean) (t' := (.array .long)) (by decide) (by decide)))
  have f49 := f36.other W42 (Or.inr (slot_ne (Or.inl (hw _ (List.mem_of_getElem? (i := 44) rfl))) (Or.inr (hw _ (List.mem_of_getElem? (i := 13) rfl))) (by decide) (t := .long) (t' := (.array .long)) (by decide) (by decide)))
  have f50 := f37.other W42 (Or.inr (slot_ne (Or.inl (hw _ (List.mem_of_getElem? (i := 81) rfl))) (Or.inr (hw _ (List.mem_of_getElem? (i := 13) rfl))) (by decide) (t := .long) (t' := (.array .long)) (by decide) (by decide)))
  have f51 := f38.other W42 (Or.inr (slot_ne (Or.inl (hw _ (List.mem_of_getElem? (i := 32) rfl))) (Or.inr (hw _ (List.mem_of_getElem? (i := 13) rfl))) (by decide) (t := (.object "com/example/tallywire/tallywire/flaps/Command")) (t' := (.array .long)) (by decide) (by decide)))
  have f52 := f39.other W42 (Or.inr (slot_ne (Or.inl (hw _ (List.mem_of_getElem? (i := 73) rfl))) (Or.inr (hw _ (List.mem_of_getElem? (i := 13) rfl))) (by decide) (t := .long) (t' := (.array .long)) (by decide) (by decide)))
  have f53 := f40.other W42 (Ne.symm ne3)
  have f54 := la41.other W42 (Ne.symm ne28)
  have K42 := K27.wr W42 (Or.inl (List.mem_of_getElem? (i := 0) rfl))
  have Z42 := Nat.le_trans Z27 (Nat.le_of_eq W42.size.symm)
  refine Goes.go st42 ?_
  show Goes p e below s _ _ _ T42 (mkF m 20 #[.val (.ref pt), .val (.long (0 : Int64)), .second, .val (.long pk), .second, .unset, .unset] [])
  refine own_aloadN X42 hx 21 rfl (hb hby own_d1_20) rfl rfl ?_
  refine own_lloadN X42 hx 22 rfl (hb hby own_d1_21) rfl ?_
  refine own_lconst X42 hx 23 rfl (0 : Int64) (hb hby own_d1_22) (by decide) ?_
  refine own_lcmp X42 hx 24 rfl (hb hby own_d1_23) ?_
  refine own_ifN X42 hx 27 (hb hby own_d1_24) (Lteq ((by decide) : (0 : Int64) = (0 : Int64))).2 rfl ?_
  refine own_lconst X42 hx 28 rfl (0 : Int64) (hb hby own_d1_27) (by decide) ?_
  refine own_goto X42 hx 38 (hb hby own_d1_28) (by decide) (by decide) ?_
  obtain ⟨T55, h55, X55, e55, W55, st55⟩ := putF X42 hx hZ hown (host := "") (Or.inl (hw _ (List.mem_of_getElem? (i := 14) rfl))) Via.refl e42 f46 f43 (Or.inr ⟨(hw _ (List.mem_of_getElem? (i := 15) rfl)), rfl, hnm⟩) (hw _ (List.mem_of_getElem? (i := 1) rfl)) (ty := .long) (by decide) rfl rfl (g := (mkF m 38 #[.val (.ref pt), .val (.long (0 : Int64)), .second, .val (.long pk), .second, .unset, .unset] [(.long (0 : Int64)), (.ref pt)])) rfl rfl (hb hby own_d1_38)
  have N55 := Fr.snoc X55 N42 gp
  have f56 := f43.wr W55
  have f57 := f44.other W55 (Or.inr (slot_ne (Or.inr (hw _ (List.mem_of_getElem? (i := 11) rfl))) (Or.inr (hw _ (List.mem_of_getElem? (i := 15) rfl))) (by decide) (t := (.array .long)) (t' := .long) (by decide) (by decide)))
  have f58 := f45.other W55 (Or.inr (slot_ne (Or.inr (hw _ (List.mem_of_getElem? (i := 13) rfl))) (Or.inr (hw _ (List.mem_of_getElem? (i := 15) rfl))) (by decide) (t := (.array .long)) (t' := .long) (by decide) (by decide)))
  have f59 := f46.same W55
  have f60 := f47.other W55 (Or.inr (slot_ne (Or.inr (hw _ (List.mem_of_getElem? (i := 17) rfl))) (Or.inr (hw _ (List.mem_of_getElem? (i := 15) rfl))) (by decide) (t := .long) (t' := .long) (by decide) (by decide)))
  have f61 := f48.other W55 (Or.inr (slot_ne (Or.inr (hw _ (List.mem_of_getElem? (i := 21) rfl))) (Or.inr (hw _ (List.mem_of_getElem? (i := 15) rfl))) (by decide) (t := .boolean) (t' := .long) (by decide) (by decide)))
  have f62 := f49.other W55 (Or.inr (slot_ne (Or.inl (hw _ (List.mem_of_getElem? (i := 44) rfl))) (Or.inr (hw _ (List.mem_of_getElem? (i := 15) rfl))) (by decide) (t := .long) (t' := .long) (by decide) (by decide)))
  have f63 := f50.other W55 (Or.inr (slot_ne (Or.inl (hw _ (List.mem_of_getElem? (i := 81) rfl))) (Or.inr (hw _ (List.mem_of_getElem? (i := 15) rfl))) (by decide) (t := .long) (t' := .long) (by decide) (by decide)))
  have f64 := f51.other W55 (Or.inr (slot_ne (Or.inl (hw _ (List.mem_of_getElem? (i := 32) rfl))) (Or.inr (hw _ (List.mem_of_getElem? (i := 15) rfl))) (by decide) (t := (.object "com/example/tallywire/tallywire/flaps/Command")) (t' := .long) (by decide) (by decide)))
  have f65 := f52.other W55 (Or.inr (slot_ne (Or.inl (hw _ (List.mem_of_getElem? (i := 73) rfl))) (Or.inr (hw _ (List.mem_of_getElem? (i := 15) rfl))) (by decide) (t := .long) (t' := .long) (by decide) (by decide)))
  have f66 := f53.other W55 (Ne.symm ne3)
  have f67 := f54.other W55 (Ne.symm ne28)
  have K55 := K42.wr W55 (Or.inl (List.mem_of_getElem? (i := 0) rfl))
  have Z55 := Nat.le_trans Z42 (Nat.le_of_eq W55.size.symm)
  refine Goes.go st55 ?_
  show Goes p e below s _ _ _ T55 (mkF m 41 #[.val (.ref pt), .val (.long (0 : Int64)), .second, .val (.long pk), .second, .unset, .unset] [])
  refine own_aloadN X55 hx 42 rfl (hb hby own_d1_41) rfl rfl ?_
  refine own_lloadN X55 hx 43 rfl (hb hby own_d1_42) rfl ?_
  obtain ⟨T68, h68, X68, e68, W68, st68⟩ := putF X55 hx hZ hown (host := "") (Or.inl (hw _ (List.mem_of_getElem? (i := 16) rfl))) Via.refl e55 f60 f56 (Or.inr ⟨(hw _ (List.mem_of_getElem? (i := 17) rfl)), rfl, hnm⟩) (hw _ (List.mem_of_getElem? (i := 1) rfl)) (ty := .long) (by decide) rfl rfl (g := (mkF m 43 #[.val (.ref pt), .val (.long (0 : Int64)), .second, .val (.long pk), .second, .unset, .unset] [(.long pk), (.ref pt)])) rfl rfl (hb hby own_d1_43)
  have N68 := Fr.snoc X68 N55 gp
  have f69 := f56.wr W68
  have f70 := f57.other W68 (Or.inr (slot_ne (Or.inr (hw _ (List.mem_of_getElem? (i := 11) rfl))) (Or.inr (hw _ (List.mem_of_getElem? (i := 17) rfl))) (by decide) (t := (.array .long)) (t' := .long) (by decide) (by decide)))
  have f71 := f58.other W68 (Or.inr (slot_ne (Or.inr (hw _ (List.mem_of_getElem? (i := 13) rfl))) (Or.inr (hw _ (List.mem_of_getElem? (i := 17) rfl))) (by decide) (t := (.array .long)) (t' := .long) (by decide) (by decide)))
  have f72 := f59.other W68 (Or.inr (slot_ne (Or.inr (hw _ (List.mem_of_getElem? (i := 15) rfl))) (Or.inr (hw _ (List.mem_of_getElem? (i := 17) rfl))) (by decide) (t := .long) (t' := .long) (by decide) (by decide)))
  have f73 := f60.same W68
  have f74 := f61.other W68 (Or.inr (slot_ne (Or.inr (hw _ (List.mem_of_getElem? (i := 21) rfl))) (Or.inr (hw _ (List.mem_of_getElem? (i := 17) rfl))) (by decide) (t := .boolean) (t' := .long) (by decide) (by decide)))
  have f75 := f62.other W68 (Or.inr (slot_ne (Or.inl (hw _ (List.mem_of_getElem? (i := 44) rfl))) (Or.inr (hw _ (List.mem_of_getElem? (i := 17) rfl))) (by decide) (t := .long) (t' := .long) (by decide) (by decide)))
  have f76 := f63.other W68 (Or.inr (slot_ne (Or.inl (hw _ (List.mem_of_getElem? (i := 81) rfl))) (Or.inr (hw _ (List.mem_of_getElem? (i := 17) rfl))) (by decide) (t := .long) (t' := .long) (by decide) (by decide)))
  have f77 := f64.other W68 (Or.inr (slot_ne (Or.inl (hw _ (List.mem_of_getElem? (i := 32) rfl))) (Or.inr (hw _ (List.mem_of_getElem? (i := 17) rfl))) (by decide) (t := (.object "com/example/tallywire/tallywire/flaps/Command")) (t' := .long) (by decide) (by decide)))
  have f78 := f65.other W68 (Or.inr (slot_ne (Or.inl (hw _ (List.mem_of_getElem? (i := 73) rfl))) (Or.inr (hw _ (List.mem_of_getElem? (i := 17) rfl))) (by decide) (t := .long) (t' := .long) (by decide) (by decide)))
  have f79 := f66.other W68 (Ne.symm ne3)
  have f80 := f67.other W68 (Ne.symm ne28)
  have K68 := K55.wr W68 (Or.inl (List.mem_of_getElem? (i := 0) rfl))
  have Z68 := Nat.le_trans Z55 (Nat.le_of_eq W68.size.symm)
  refine Goes.go st68 ?_
  show Goes p e below s _ _ _ T68 (mkF m 46 #[.val (.ref pt), .val (.long (0 : Int64)), .second, .val (.long pk), .second, .unset, .unset] [])
  refine own_lloadN X68 hx 47 rfl (hb hby own_d1_46) rfl ?_
  refine own_lconst X68 hx 48 rfl (0 : Int64) (hb hby own_d1_47) (by decide) ?_
  refine own_lcmp X68 hx 49 rfl (hb hby own_d1_48) ?_
  refine own_ifN X68 hx 52 (hb hby own_d1_49) (Lteq ((by decide) : (0 : Int64) = (0 : Int64))).2 rfl ?_
  refine own_lconst X68 hx 53 rfl (0 : Int64) (hb hby own_d1_52) (by decide) ?_
  refine own_goto X68 hx 71 (hb hby own_d1_53) (by decide) (by decide) ?_
  refine own_lstore X68 hx 73 rfl #[.val (.ref pt), .val (.long (0 : Int64)), .second, .val (.long pk), .second, .val (.long (0 : Int64)), .second] (hb hby own_d1_71) rfl ?_
  refine own_aloadN X68 hx 74 rfl (hb hby own_d1_73) rfl rfl ?_
  refine Goes.go (X68.ldc2Long hx hown (mvT hZ (hw _ (List.mem_of_getElem? (i := 18) rfl))) (g := (mkF m 74 #[.val (.ref pt), .val (.long (0 : Int64)), .second, .val (.long pk), .second, .val (.long (0 : Int64)), .second] [(.ref pt)])) rfl (hb hby own_d1_74)) ?_
  show Goes p e below s _ _ _ T68 (mkF m 77 #[.val (.ref pt), .val (.long (0 : Int64)), .second, .val (.long pk), .second, .val (.long (0 : Int64)), .second] [(.long (2 : Int64)), (.ref pt)])
  refine own_lload X68 hx 79 rfl (hb hby own_d1_77) rfl ?_
  refine own_lmul X68 hx 80 rfl (z := (0 : Int64)) (hb hby own_d1_79) (by decide) ?_
  refine Goes.go (X68.ldc2Long hx hown (mvT hZ (hw _ (List.mem_of_getElem? (i := 19) rfl))) (g := (mkF m 80 #[.val (.ref pt), .val (.long (0 : Int64)), .second, .val (.long pk), .second, .val (.long (0 : Int64)), .second] [(.long (0 : Int64)), (.ref pt)])) rfl (hb hby own_d1_80)) ?_
  show Goes p e below s _ _ _ T68 (mkF m 83 #[.val (.ref pt), .val (.long (0 : Int64)), .second, .val (.long pk), .second, .val (.long (0 : Int64)), .second] [(.long (14 : Int64)), (.long (0 : Int64)), (.ref pt)])
  refine own_lcmp X68 hx 84 rfl (hb hby own_d1_83) ?_
  refine own_ifN X68 hx 87 (hb hby own_d1_84) (Ltlt ((by decide) : (0 : Int64) < (14 : Int64))).2.1 rfl ?_
  refine own_iconst X68 hx 88 rfl (1 : Int32) (hb hby own_d1_87) (by decide) ?_
  refine own_goto X68 hx 92 (hb hby own_d1_88) (by decide) (by decide) ?_
  obtain ⟨T81, h81, X81, e81, W81, st81⟩ := putFN X68 hx hZ hown (hw _ (List.mem_of_getElem? (i := 20) rfl)) Via.refl e68 f74 f69 (Or.inr ⟨(hw _ (List.mem_of_getElem? (i := 21) rfl)), rfl, hnm⟩) (hw _ (List.mem_of_getElem? (i := 1) rfl)) (ty := .boolean) (v' := (.int (1 : Int32))) (by decide) rfl (by decide) (g := (mkF m 92 #[.val (.ref pt), .val (.long (0 : Int64)), .second, .val (.long pk), .second, .val (.long (0 : Int64)), .second] [(.int (1 : Int32)), (.ref pt)])) rfl rfl (hb hby own_d1_92)
  have N81 := Fr.snoc X81 N68 gp
  have f82 := f69.wr W81
  have f83 := f70.other W81 (Or.inr (slot_ne (Or.inr (hw _ (List.mem_of_getElem? (i := 11) rfl))) (Or.inr (hw _ (List.mem_of_getElem? (i := 21) rfl))) (by decide) (t := (.array .long)) (t' := .boolean) (by decide) (by decide)))
  have f84 := f71.other W81 (Or.inr (slot_ne (Or.inr (hw _ (List.mem_of_getElem? (i := 13) rfl))) (Or.inr (hw _ (List.mem_of_getElem? (i := 21) rfl))) (by decide) (t := (.array .long)) (t' := .boolean) (by decide) (by decide)))
  have f85 := f72.other W81 (Or.inr (slot_ne (Or.inr (hw _ (List.mem_of_getElem? (i := 15) rfl))) (Or.inr (hw _ (List.mem_of_getElem? (i := 21) rfl))) (by decide) (t := .long) (t' := .boolean) (by decide) (by decide)))
  have f86 := f73.other W81 (Or.inr (slot_ne (Or.inr (hw _ (List.mem_of_getElem? (i := 17) rfl))) (Or.inr (hw _ (List.mem_of_getElem? (i := 21) rfl))) (by decide) (t := .long) (t' := .boolean) (by decide) (by decide)))
  have f87 := f74.same W81
  have f88 := f75.other W81 (Or.inr (slot_ne (Or.inl (hw _ (List.mem_of_getElem? (i := 44) rfl))) (Or.inr (hw _ (List.mem_of_getElem? (i := 21) rfl))) (by decide) (t := .long) (t' := .boolean) (by decide) (by decide)))
  have f89 := f76.other W81 (Or.inr (slot_ne (Or.inl (hw _ (List.mem_of_getElem? (i := 81) rfl))) (Or.inr (hw _ (List.mem_of_getElem? (i := 21) rfl))) (by decide) (t := .long) (t' := .boolean) (by decide) (by decide)))
  have f90 := f77.other W81 (Or.inr (slot_ne (Or.inl (hw _ (List.mem_of_getElem? (i := 32) rfl))) (Or.inr (hw _ (List.mem_of_getElem? (i := 21) rfl))) (by decide) (t := (.object "com/example/tallywire/tallywire/flaps/Command")) (t' := .boolean) (by decide) (by decide)))
  have f91 := f78.other W81 (Or.inr (slot_ne (Or.inl (hw _ (List.mem_of_getElem? (i := 73) rfl))) (Or.inr (hw _ (List.mem_of_getElem? (i := 21) rfl))) (by decide) (t := .long) (t' := .boolean) (by decide) (by decide)))
  have f92 := f79.other W81 (Ne.symm ne3)
  have f93 := f80.other W81 (Ne.symm ne28)
  have K81 := K68.wr W81 (Or.inl (List.mem_of_getElem? (i := 0) rfl))
  have Z81 := Nat.le_trans Z68 (Nat.le_of_eq W81.size.symm)
  refine Goes.go st81 ?_
  show Goes p e below s _ _ _ T81 (mkF m 95 #[.val (.ref pt), .val (.long (0 : Int64)), .second, .val (.long pk), .second, .val (.long (0 : Int64)), .second] [])
  refine own_retV X81 hx hlk Bd.returns (hb hby own_d1_95) (by decide) (by decide) e81 ?_
  exact ⟨b2, b27, rfl, N81, K81, H2, H27, f83, f84, f85, f86, f88, f89, f90, f91, f92, f93, ne29⟩
theorem own_pd1 : parseMethodDescriptor "(IJ)J" = some ⟨[.int, .long], some .long⟩ := by decide +kernel
theorem own_pd2 : parseMethodDescriptor "(Lcom/example/tallywire/tallywire/flaps/Command;J)V" = some ⟨[(.object "com/example/tallywire/tallywire/flaps/Command"), .long], none⟩ := by decide +kernel
theorem own_d4_0 : decode prog_18_method_5_code 0 = .ok (.aload_n 0, 1) := by decide +kernel
theorem own_d4_1 : decode prog_18_method_5_code 1 = .ok (.getfield 71, 3) := by decide +kernel
theorem own_d4_4 : decode prog_18_method_5_code 4 = .ok (.ifnonnull 23, 3) := by decide +kernel
theorem own_d4_7 : decode prog_18_method_5_code 7 = .ok (.new 48, 3) := by decide +kernel
theorem own_d4_10 : decode prog_18_method_5_code 10 = .ok (.dup, 1) := by decide +kernel
theorem own_d4_11 : decode prog_18_method_5_code 11 = .ok (.getstatic 74, 3) := by decide +kernel
theorem own_d4_14 : decode prog_18_method_5_code 14 = .ok (.aload_n 0, 1) := by decide +kernel
theorem own_d4_15 : decode prog_18_method_5_code 15 = .ok (.iconst 1, 1) := by decide +kernel
theorem own_d4_16 : decode prog_18_method_5_code 16 = .ok (.lload_n 1, 1) := by decide +kernel
theorem own_d4_17 : decode prog_18_method_5_code 17 = .ok (.invokevirtual 88, 3) := by decide +kernel
theorem own_d4_20 : decode prog_18_method_5_code 20 = .ok (.invokespecial 92, 3) := by decide +kernel
theorem own_d4_23 : decode prog_18_method_5_code 23 = .ok (.astore_n 3, 1) := by decide +kernel
theorem own_d4_24 : decode prog_18_method_5_code 24 = .ok (.goto 233, 3) := by decide +kernel
theorem own_d4_257 : decode prog_18_method_5_code 257 = .ok (.aload_n 3, 1) := by decide +kernel
theorem own_d4_258 : decode prog_18_method_5_code 258 = .ok (.areturn, 1) := by decide +kernel
def QplA (Z : State) (pt : Addr) (pn : Int64) (zc : Addr) (h0 : Heap) (n0 : Nat) (v : Option Value) (h : Heap) (L : List Loc) : Prop := ∃ pb : Addr, v = some (.ref pb) ∧ Fr n0 L ∧ Keep h0 h [] ∧ h0.size ≤ pb ∧ Exa Z h pb "com/example/tallywire/tallywire/flaps/Pacer$Plan" ∧ Fld Z h pb "com/example/tallywire/tallywire/flaps/Pacer$Plan" "command" "Lcom/example/tallywire/tallywire/flaps/Command;" (.ref zc) ∧ Fld Z h pb "com/example/tallywire/tallywire/flaps/Pacer$Plan" "at" "J" (.long pn)
set_option maxRecDepth 65536 in
set_option maxHeartbeats 40000000 in
theorem rmplA (l : Launch) (Z : State) (a0 : Array Value) (hw : ∀ d ∈ tables_1, d.before a0 Z = true) (ws : List Jvm.Cond) (pt : Addr) (pn : Int64) (zc : Addr) (h0 : Heap) (n0 : Nat) (Z0 : n0 ≤ h0.size) (EP : Exa Z h0 pt "com/example/tallywire/tallywire/flaps/Pacer") (Ft : Fld Z h0 pt "com/example/tallywire/tallywire/flaps/Pacer" "taken" "Lcom/example/tallywire/tallywire/flaps/Command;" .null) (Fn : Fld Z h0 pt "com/example/tallywire/tallywire/flaps/Pacer" "answered" "J" (.long (0 : Int64))) (Sc : Sta Z h0 "com/example/tallywire/tallywire/flaps/Command" "CAPABILITIES" "Lcom/example/tallywire/tallywire/flaps/Command;" (.ref zc)) :
    MetFree l (⟨"com/example/tallywire/tallywire/flaps/Pacer", "plan", "(J)Lcom/example/tallywire/tallywire/flaps/Pacer$Plan;"⟩ : MethodName) (head1 (Jvm.Cond.code (⟨"com/example/tallywire/tallywire/flaps/Pacer", "plan", "(J)Lcom/example/tallywire/tallywire/flaps/Pacer$Plan;"⟩ : MethodName) prog_18_method_5_code 13 (some (.object "com/example/tallywire/tallywire/flaps/Pacer$Plan")) :: ws) ({ frames := 3, cells := 1, slots := 2, locals := 40 } : Room)) (fun a U => a = #[(.ref pt), (.long pn)] ∧ Z.Warmed39 U.vm ∧ U.heap = h0) (fun _ _ _ _ _ => True) (fun _ U o U' => ∃ v L, o = .returned v ∧ QplA Z pt pn zc h0 n0 v U'.heap L ∧ FrameEnd U o U' L ({ frames := 3, cells := 1, slots := 2, locals := 40 } : Room).cells ({ frames := 3, cells := 1, slots := 2, locals := 40 } : Room).slots) := by
  refine MetFree.of_bodySF (plainFor_of_name own_pn_com_example_tallywire_tallywire_flaps_Pacer) hisR ?_
  intro p e s m args below meth c s₁ Bd hml0 hP hK
  obtain ⟨rfl, hZ, hh⟩ := hP
  have hx := Bd.exec
  have hby := Bd.bytes
  have hml : c.maxLocals = 13 := hml0
  have hlk := Bd.notSynchronized
  have hown : s.vm.findClass "com/example/tallywire/tallywire/flaps/Pacer" = some m.cls := findClass_of_methodNamed Bd.named
  have hnm := (name_of_methodNamed Bd.named Bd.method).1
  have X0 : Stand p l e ({ frames := 3, cells := 1, slots := 2, locals := 40 } : Room) s m #[(.ref pt), (.long pn)] below meth c s₁ [] 0 0 := Stand.of_body Bd
  have e0 : s₁.heap = h0 := by rw [← hh, Bd.state]; rfl
  have N0 := Fr.nil n0
  have K0 : Keep h0 h0 [] := Keep.refl _ _
  refine own_enter (Q := QplA Z pt pn zc h0 n0) (Ls := #[.val (.ref pt), .val (.long pn), .second, .unset, .unset, .unset, .unset, .unset, .unset, .unset, .unset, .unset, .unset]) (by first | (simp [entryFrame, mkF, argsToLocals, Value.category]; done) | rfl) ?_
  refine own_aloadN X0 hx 1 rfl (hb hby own_d4_0) rfl rfl ?_
  obtain ⟨T1, X1, e1, st1⟩ := getF X0 hx hZ hown (host := "") (Or.inl (hw _ (List.mem_of_getElem? (i := 31) rfl))) Via.refl e0 Ft (g := (mkF m 1 #[.val (.ref pt), .val (.long pn), .second, .unset, .unset, .unset, .unset, .unset, .unset, .unset, .unset, .unset, .unset] [(.ref pt)])) rfl rfl (hb hby own_d4_1)
  refine Goes.go st1 ?_
  show Goes p e below s _ _ _ T1 (mkF m 4 #[.val (.ref pt), .val (.long pn), .second, .unset, .unset, .unset, .unset, .unset, .unset, .unset, .unset, .unset, .unset] [.null])
  refine own_ifnonnullN X1 hx 7 (hb hby own_d4_4) rfl ?_
  obtain ⟨T2, h2, X2, e2, E2, A2, D2, -, st2⟩ := newO X1 hx hZ hown (hw _ (List.mem_of_getElem? (i := 33) rfl)) (hw _ (List.mem_of_getElem? (i := 34) rfl)) (hw _ (List.mem_of_getElem? (i := 35) rfl)) e1 (g := (mkF m 7 #[.val (.ref pt), .val (.long pn), .second, .unset, .unset, .unset, .unset, .unset, .unset, .unset, .unset, .unset, .unset] [])) rfl (hb hby own_d4_7) (by decide) (by decide)
  obtain ⟨b2, g2⟩ : ∃ z, z = h0.size := ⟨_, rfl⟩
  rw [← g2] at A2 D2 st2
  have ne3 : pt ≠ b2 := own_lt_ne EP.lt g2
  have G2 : n0 ≤ b2 := Nat.le_trans Z0 (Nat.le_of_eq g2.symm)
  have H2 : h0.size ≤ b2 := Nat.le_trans K0.1 (Nat.le_of_eq g2.symm)
  have f4 := EP.ext E2
  have f5 := Ft.ext E2
  have f6 := Fn.ext E2
  have f7 := Sc.ext E2
  have K2 := K0.ext E2
  have Z2 := Nat.le_trans Z0 E2.1
  have f8 : Fld Z h2 b2 "com/example/tallywire/tallywire/flaps/Pacer$Plan" "command" "Lcom/example/tallywire/tallywire/flaps/Command;" .null := D2 (Or.inr (hw _ (List.mem_of_getElem? (i := 55) rfl))) (ty := (.object "com/example/tallywire/tallywire/flaps/Command")) (by decide)
  have f9 : Fld Z h2 b2 "com/example/tallywire/tallywire/flaps/Pacer$Plan" "at" "J" (.long (0 : Int64)) := D2 (Or.inr (hw _ (List.mem_of_getElem? (i := 57) rfl))) (ty := .long) (by decide)
  refine Goes.go st2 ?_
  show Goes p e below s _ _ _ T2 (mkF m 10 #[.val (.ref pt), .val (.long pn), .second, .unset, .unset, .unset, .unset, .unset, .unset, .unset, .unset, .unset, .unset] [(.ref b2)])
  refine own_dup X2 hx 11 rfl (hb hby own_d4_10) rfl ?_
  obtain ⟨T10, X10, e10, st10⟩ := getS2 X2 hx hZ hown (host := "") (Or.inl (hw _ (List.mem_of_getElem? (i := 36) rfl))) Via.refl e2 f7 (g := (mkF m 11 #[.val (.ref pt), .val (.long pn), .second, .unset, .unset, .unset, .unset, .unset, .unset, .unset, .unset, .unset, .unset] [(.ref b2), (.ref b2)])) rfl (hb hby own_d4_11)
  refine Goes.go st10 ?_
  show Goes p e below s _ _ _ T10 (mkF m 14 #[.val (.ref pt), .val (.long pn), .second, .unset, .unset, .unset, .unset, .unset, .unset, .unset, .unset, .unset, .unset] [(.ref zc), (.ref b2), (.ref b2)])
  refine own_aloadN X10 hx 15 rfl (hb hby own_d4_14) rfl rfl ?_
  refine own_iconst X10 hx 16 rfl (1 : Int32) (hb hby own_d4_15) (by decide) ?_
  refine own_lloadN X10 hx 17 rfl (hb hby own_d4_16) rfl ?_
  obtain ⟨cq11, q11, q11'⟩ := f4.cell
  obtain ⟨_, _, ⟨T11, L11, k11, n11⟩, -, X11, ⟨Lc11, hQ11, l11, y11, z11⟩, st11⟩ := X10.privateBack hx (y := (⟨"com/example/tallywire/tallywire/flaps/Pacer", "roomFor", "(IJ)J"⟩ : MethodName)) hown (mvT hZ (hw _ (List.mem_of_getElem? (i := 39) rfl))) (mvT hZ (hw _ (List.mem_of_getElem? (i := 40) rfl))) (own_selP (mvT hZ (hw _ (List.mem_of_getElem? (i := 1) rfl))) (mvP hZ (hw _ (List.mem_of_getElem? (i := 41) rfl))) (mvT hZ (hw _ (List.mem_of_getElem? (i := 40) rfl))) (by decide)) (Cond.privateMethod_at (mvP hZ (hw _ (List.mem_of_getElem? (i := 41) rfl)) (args := #[]))) (mvT hZ (hw _ (List.mem_of_getElem? (i := 42) rfl))) (by decide) (backOf (W := 3) (rmro0 l Z a0 hw [] pt pn h2 n0 Z2 f6) hZ (hw _ (List.mem_of_getElem? (i := 42) rfl)) (hw _ (List.mem_of_getElem? (i := 2) rfl)) (by decide) (by decide)) (g := (mkF m 17 #[.val (.ref pt), .val (.long pn), .second, .unset, .unset, .unset, .unset, .unset, .unset, .unset, .unset, .unset, .unset] [(.long pn), (.int (1 : Int32)), (.ref pt), (.ref zc), (.ref b2), (.ref b2)])) rfl (by rw [hml]; rfl) (Steps.refl _) (a := pt) (by rw [e10]; exact q11) q11' (argsL := [(.int (1 : Int32)), (.long pn)]) (rest := [(.ref zc), (.ref b2), (.ref b2)]) (lenOf own_pd1 rfl) rfl (by show 2 * 0 + _ ≤ _; exact Nat.le_of_eq rfl) (hb hby own_d4_17) (fun _ _ => ⟨rfl, e10, (by decide : 1 + 0 ≤ _), (by decide : 2 + 0 ≤ _)⟩)
  dsimp only [Pt.U, Pt.locs, Pt.cells, Pt.slots] at X11 l11 y11 z11 st11 hQ11
  subst l11 y11 z11
  obtain ⟨rfl, N11q, eh11⟩ := hQ11
  have N11 := Fr.app N0 N11q
  refine Goes.tr st11 ?_
  show Goes p e below s _ _ _ T11 (mkF m 20 #[.val (.ref pt), .val (.long pn), .second, .unset, .unset, .unset, .unset, .unset, .unset, .unset, .unset, .unset, .unset] [(.long pn), (.ref zc), (.ref b2), (.ref b2)])
  obtain ⟨_, _, ⟨T12, L12, k12, n12⟩, -, X12, ⟨Lc12, hQ12, l12, y12, z12⟩, st12⟩ := own_specialRef X11 hx hZ (y := (⟨"com/example/tallywire/tallywire/flaps/Pacer$Plan", "<init>", "(Lcom/example/tallywire/tallywire/flaps/Command;J)V"⟩ : MethodName)) rfl hown (hw _ (List.mem_of_getElem? (i := 45) rfl)) (mvT hZ (hw _ (List.mem_of_getElem? (i := 46) rfl))) (mvT hZ (hw _ (List.mem_of_getElem? (i := 47) rfl))) (by decide) (backOf (W := 1) (rm6 l Z a0 hw [] b2 zc pn h2 n0 Z2 A2 G2 f8 f9) hZ (hw _ (List.mem_of_getElem? (i := 47) rfl)) (hw _ (List.mem_of_getElem? (i := 35) rfl)) (by decide) (by decide)) (g := (mkF m 20 #[.val (.ref pt), .val (.long pn), .second, .unset, .unset, .unset, .unset, .unset, .unset, .unset, .unset, .unset, .unset] [(.long pn), (.ref zc), (.ref b2), (.ref b2)])) rfl (by rw [hml]; rfl) (Steps.refl _) (a := b2) (argsL := [(.ref zc), (.long pn)]) (rest := [(.ref b2)]) (lenOf own_pd2 rfl) rfl (by show 2 * 0 + _ ≤ _; exact Nat.le_of_eq rfl) (hb hby own_d4_20) (fun _ _ => ⟨rfl, eh11, (by decide : 1 + 0 ≤ _), (by decide : 2 + 0 ≤ _)⟩)
  dsimp only [Pt.U, Pt.locs, Pt.cells, Pt.slots] at X12 l12 y12 z12 st12 hQ12
  subst l12 y12 z12
  obtain ⟨rfl, N12q, K12q, f12_0, f12_1⟩ := hQ12
  have N12 := Fr.app N11 N12q
  have f13 := f4.keep K12q
  have f14 := f5.keep K12q (ninS ne3 nin0)
  have f15 := f6.keep K12q (ninS ne3 nin0)
  have f16 := own_sta_keep f7 K12q (allS (own_eplain A2) all0)
  have f17 := A2.keep K12q
  have K12 := K2.trans K12q (allS (Or.inr H2) all0)
  have Z12 := Nat.le_trans Z2 K12q.1
  refine Goes.tr st12 ?_
  show Goes p e below s _ _ _ T12 (mkF m 23 #[.val (.ref pt), .val (.long pn), .second, .unset, .unset, .unset, .unset, .unset, .unset, .unset, .unset, .unset, .unset] [(.ref b2)])
  refine own_astoreN X12 hx 24 rfl #[.val (.ref pt), .val (.long pn), .second, .val (.ref b2), .unset, .unset, .unset, .unset, .unset, .unset, .unset, .unset, .unset] (hb hby own_d4_23) rfl rfl ?_
  refine own_goto X12 hx 257 (hb hby own_d4_24) (by decide) (by decide) ?_
  refine own_aloadN X12 hx 258 rfl (hb hby own_d4_257) rfl rfl ?_
  refine own_retR X12 hx hlk Bd.returns rfl rfl (hb hby own_d4_258) (by decide) (by decide) rfl ?_
  exact ⟨b2, rfl, N12, K12, H2, f17, f12_0, f12_1⟩
theorem own_pd3 : parseMethodDescriptor "(JJ)J" = some ⟨[.long, .long], some .long⟩ := by decide +kernel
theorem own_d4_27 : decode prog_18_method_5_code 27 = .ok (.aload_n 0, 1) := by decide +kernel
theorem own_d4_28 : decode prog_18_method_5_code 28 = .ok (.getfield 71, 3) := by decide +kernel
theorem own_d4_31 : decode prog_18_method_5_code 31 = .ok (.getstatic 95, 3) := by decide +kernel
theorem own_d4_34 : decode prog_18_method_5_code 34 = .ok (.if_acmp .ne 23, 3) := by decide +kernel
theorem own_d4_57 : decode prog_18_method_5_code 57 = .ok (.aload_n 0, 1) := by decide +kernel
theorem own_d4_58 : decode prog_18_method_5_code 58 = .ok (.getfield 26, 3) := by decide +kernel
theorem own_d4_61 : decode prog_18_method_5_code 61 = .ok (.lconst 0, 1) := by decide +kernel
theorem own_d4_62 : decode prog_18_method_5_code 62 = .ok (.lcmp, 1) := by decide +kernel
theorem own_d4_63 : decode prog_18_method_5_code 63 = .ok (.ifCond .ne 35, 3) := by decide +kernel
theorem own_d4_66 : decode prog_18_method_5_code 66 = .ok (.new 48, 3) := by decide +kernel
theorem own_d4_69 : decode prog_18_method_5_code 69 = .ok (.dup, 1) := by decide +kernel
theorem own_d4_70 : decode prog_18_method_5_code 70 = .ok (.getstatic 101, 3) := by decide +kernel
theorem own_d4_73 : decode prog_18_method_5_code 73 = .ok (.aload_n 0, 1) := by decide +kernel
theorem own_d4_74 : decode prog_18_method_5_code 74 = .ok (.getfield 85, 3) := by decide +kernel
theorem own_d4_77 : decode prog_18_method_5_code 77 = .ok (.aload_n 0, 1) := by decide +kernel
theorem own_d4_78 : decode prog_18_method_5_code 78 = .ok (.getfield 29, 3) := by decide +kernel
theorem own_d4_81 : decode prog_18_method_5_code 81 = .ok (.ladd, 1) := by decide +kernel
theorem own_d4_82 : decode prog_18_method_5_code 82 = .ok (.aload_n 0, 1) := by decide +kernel
theorem own_d4_83 : decode prog_18_method_5_code 83 = .ok (.iconst 1, 1) := by decide +kernel
theorem own_d4_84 : decode prog_18_method_5_code 84 = .ok (.lload_n 1, 1) := by decide +kernel
theorem own_d4_85 : decode prog_18_method_5_code 85 = .ok (.invokevirtual 88, 3) := by decide +kernel
theorem own_d4_88 : decode prog_18_method_5_code 88 = .ok (.invokestatic 77, 3) := by decide +kernel
theorem own_d4_91 : decode prog_18_method_5_code 91 = .ok (.invokespecial 92, 3) := by decide +kernel
theorem own_d4_94 : decode prog_18_method_5_code 94 = .ok (.astore_n 3, 1) := by decide +kernel
theorem own_d4_95 : decode prog_18_method_5_code 95 = .ok (.goto 162, 3) := by decide +kernel
def QplB1 (Z : State) (pt : Addr) (pn : Int64) (zt : Addr) (zq : Addr) (zp : Addr) (la : Int64) (ka : Int64) (h0 : Heap) (n0 : Nat) (v : Option Value) (h : Heap) (L : List Loc) : Prop := ∃ pb : Addr, ∃ pa : Int64, v = some (.ref pb) ∧ Fr n0 L ∧ Keep h0 h [] ∧ h0.size ≤ pb ∧ Exa Z h pb "com/example/tallywire/tallywire/flaps/Pacer$Plan" ∧ Fld Z h pb "com/example/tallywire/tallywire/flaps/Pacer$Plan" "command" "Lcom/example/tallywire/tallywire/flaps/Command;" (.ref zp) ∧ Fld Z h pb "com/example/tallywire/tallywire/flaps/Pacer$Plan" "at" "J" (.long pa) ∧ ((pa = (la + ka) ∧ ¬ (((la + ka) - pn) < (0 : Int64))) ∨ (pa = pn ∧ ((la + ka) - pn) < (0 : Int64)))
set_option maxRecDepth 65536 in
set_option maxHeartbeats 40000000 in
theorem rmplB1 (l : Launch) (Z : State) (a0 : Array Value) (hw : ∀ d ∈ tables_1, d.before a0 Z = true) (ws : List Jvm.Cond) (pt : Addr) (pn : Int64) (zt : Addr) (zq : Addr) (zp : Addr) (la : Int64) (ka : Int64) (h0 : Heap) (n0 : Nat) (Z0 : n0 ≤ h0.size) (EP : Exa Z h0 pt "com/example/tallywire/tallywire/flaps/Pacer") (Ft : Fld Z h0 pt "com/example/tallywire/tallywire/flaps/Pacer" "taken" "Lcom/example/tallywire/tallywire/flaps/Command;" (.ref zt)) (Sa : Sta Z h0 "com/example/tallywire/tallywire/flaps/Command" "ACTIVE_FLAPS" "Lcom/example/tallywire/tallywire/flaps/Command;" (.ref zq)) (nta : zt ≠ zq) (Sp : Sta Z h0 "com/example/tallywire/tallywire/flaps/Command" "PING" "Lcom/example/tallywire/tallywire/flaps/Command;" (.ref zp)) (Fo : Fld Z h0 pt "com/example/tallywire/tallywire/flaps/Pacer" "pollNanos" "J" (.long (0 : Int64))) (Fl : Fld Z h0 pt "com/example/tallywire/tallywire/flaps/Pacer" "lastAnswer" "J" (.long la)) (Fk : Fld Z h0 pt "com/example/tallywire/tallywire/flaps/Pacer" "keepaliveNanos" "J" (.long ka)) (Fn : Fld Z h0 pt "com/example/tallywire/tallywire/flaps/Pacer" "answered" "J" (.long (1 : Int64))) :
    MetFree l (⟨"com/example/tallywire/tallywire/flaps/Pacer", "plan", "(J)Lcom/example/tallywire/tallywire/flaps/Pacer$Plan;"⟩ : MethodName) (head1 (Jvm.Cond.code (⟨"com/example/tallywire/tallywire/flaps/Pacer", "plan", "(J)Lcom/example/tallywire/tallywire/flaps/Pacer$Plan;"⟩ : MethodName) prog_18_method_5_code 13 (some (.object "com/example/tallywire/tallywire/flaps/Pacer$Plan")) :: ws) ({ frames := 3, cells := 1, slots := 2, locals := 40 } : Room)) (fun a U => a = #[(.ref pt), (.long pn)] ∧ Z.Warmed39 U.vm ∧ U.heap = h0) (fun _ _ _ _ _ => True) (fun _ U o U' => ∃ v L, o = .returned v ∧ QplB1 Z pt pn zt zq zp la ka h0 n0 v U'.heap L ∧ FrameEnd U o U' L ({ frames := 3, cells := 1, slots := 2, locals := 40 } : Room).cells ({ frames := 3, cells := 1, slots := 2, locals := 40 } : Room).slots) := by
  refine MetFree.of_bodySF (plainFor_of_name own_pn_com_example_tallywire_tallywire_flaps_Pacer) hisR ?_
  intro p e s m args below meth c s₁ Bd hml0 hP hK
  obtain ⟨rfl, hZ, hh⟩ := hP
  have hx := Bd.exec
  have hby := Bd.bytes
  have hml : c.maxLocals = 13 := hml0
  have hlk := Bd.notSynchronized
  have hown : s.vm.findClass "com/example/tallywire/tallywire/flaps/Pacer" = some m.cls := findClass_of_methodNamed Bd.named
  have hnm := (name_of_methodNamed Bd.named Bd.method).1
  have X0 : Stand p l e ({ frames := 3, cells := 1, slots := 2, locals := 40 } : Room) s m #[(.ref pt), (.long pn)] below meth c s₁ [] 0 0 := Stand.of_body Bd
  have e0 : s₁.heap = h0 := by rw [← hh, Bd.state]; rfl
  have N0 := Fr.nil n0
  have K0 : Keep h0 h0 [] := Keep.refl _ _
  refine own_enter (Q := QplB1 Z pt pn zt zq zp la ka h0 n0) (Ls := #[.val (.ref pt), .val (.long pn), .second, .unset, .unset, .unset, .unset, .unset, .unset, .unset, .unset, .unset, .unset]) (by first | (simp [entryFrame, mkF, argsToLocals, Value.category]; done) | rfl) ?_
  refine own_aloadN X0 hx 1 rfl (hb hby own_d4_0) rfl rfl ?_
  obtain ⟨T1, X1, e1, st1⟩ := getF X0 hx hZ hown (host := "") (Or.inl (hw _ (List.mem_of_getElem? (i := 31) rfl))) Via.refl e0 Ft (g := (mkF m 1 #[.val (.ref pt), .val (.long pn), .second, .unset, .unset, .unset, .unset, .unset, .unset, .unset, .unset, .unset, .unset] [(.ref pt)])) rfl rfl (hb hby own_d4_1)
  refine Goes.go st1 ?_
  show Goes p e below s _ _ _ T1 (mkF m 4 #[.val (.ref pt), .val (.long pn), .second, .unset, .unset, .unset, .unset, .unset, .unset, .unset, .unset, .unset, .unset] [(.ref zt)])
  refine own_ifnonnullY X1 hx 27 (hb hby own_d4_4) (by decide) (by decide) ?_
  refine own_aloadN X1 hx 28 rfl (hb hby own_d4_27) rfl rfl ?_
  obtain ⟨T2, X2, e2, st2⟩ := getF X1 hx hZ hown (host := "") (Or.inl (hw _ (List.mem_of_getElem? (i := 31) rfl))) Via.refl e1 Ft (g := (mkF m 28 #[.val (.ref pt), .val (.long pn), .second, .unset, .unset, .unset, .unset, .unset, .unset, .unset, .unset, .unset, .unset] [(.ref pt)])) rfl rfl (hb hby own_d4_28)
  refine Goes.go st2 ?_
  show Goes p e below s _ _ _ T2 (mkF m 31 #[.val (.ref pt), .val (.long pn), .second, .unset, .unset, .unset, .unset, .unset, .unset, .unset, .unset, .unset, .unset] [(.ref zt)])
  obtain ⟨T3, X3, e3, st3⟩ := getS2 X2 hx hZ hown (host := "") (Or.inl (hw _ (List.mem_of_getElem? (i := 87) rfl))) Via.refl e2 Sa (g := (mkF m 31 #[.val (.ref pt), .val (.long pn), .second, .unset, .unset, .unset, .unset, .unset, .unset, .unset, .unset, .unset, .unset] [(.ref zt)])) rfl (hb hby own_d4_31)
  refine Goes.go st3 ?_
  show Goes p e below s _ _ _ T3 (mkF m 34 #[.val (.ref pt), .val (.long pn), .second, .unset, .unset, .unset, .unset, .unset, .unset, .unset, .unset, .unset, .unset] [(.ref zq), (.ref zt)])
  refine own_acmp X3 hx 57 (same := false) rfl rfl (hb hby own_d4_34) (decide_eq_false fun q => nta (Value.ref.inj q)) (by decide) (by decide) ?_
  refine own_aloadN X3 hx 58 rfl (hb hby own_d4_57) rfl rfl ?_
  obtain ⟨T4, X4, e4, st4⟩ := getF X3 hx hZ hown (host := "") (Or.inl (hw _ (List.mem_of_getElem? (i := 14) rfl))) Via.refl e3 Fo (g := (mkF m 58 #[.val (.ref pt), .val (.long pn), .second, .unset, .unset, .unset, .unset, .unset, .unset, .unset, .unset, .unset, .unset] [(.ref pt)])) rfl rfl (hb hby own_d4_58)
  refine Goes.go st4 ?_
  show Goes p e below s _ _ _ T4 (mkF m 61 #[.val (.ref pt), .val (.long pn), .second, .unset, .unset, .unset, .unset, .unset, .unset, .unset, .unset, .unset, .unset] [(.long (0 : Int64))])
  refine own_lconst X4 hx 62 rfl (0 : Int64) (hb hby own_d4_61) (by decide) ?_
  refine own_lcmp X4 hx 63 rfl (hb hby own_d4_62) ?_
  refine own_ifN X4 hx 66 (hb hby own_d4_63) (Lteq ((by decide) : (0 : Int64) = (0 : Int64))).2 rfl ?_
  obtain ⟨T5, h5, X5, e5, E5, A5, D5, -, st5⟩ := newO X4 hx hZ hown (hw _ (List.mem_of_getElem? (i := 33) rfl)) (hw _ (List.mem_of_getElem? (i := 34) rfl)) (hw _ (List.mem_of_getElem? (i := 35) rfl)) e4 (g := (mkF m 66 #[.val (.ref pt), .val (.long pn), .second, .unset, .unset, .unset, .unset, .unset, .unset, .unset, .unset, .unset, .unset] [])) rfl (hb hby own_d4_66) (by decide) (by decide)
  obtain ⟨b5, g5⟩ : ∃ z, z = h0.size := ⟨_, rfl⟩
  rw [← g5] at A5 D5 st5
  have ne6 : pt ≠ b5 := own_lt_ne EP.lt g5
  have G5 : n0 ≤ b5 := Nat.le_trans Z0 (Nat.le_of_eq g5.symm)
  have H5 : h0.size ≤ b5 := Nat.le_trans K0.1 (Nat.le_of_eq g5.symm)
  have f7 := EP.ext E5
  have f8 := Ft.ext E5
  have f9 := Sa.ext E5
  have f10 := Sp.ext E5
  have f11 := Fo.ext E5
  have f12 := Fl.ext E5
  have f13 := Fk.ext E5
  have f14 := Fn.ext E5
  have K5 := K0.ext E5
  have Z5 := Nat.le_trans Z0 E5.1
  have f15 : Fld Z h5 b5 "com/example/tallywire/tallywire/flaps/Pacer$Plan" "command" "Lcom/example/tallywire/tallywire/flaps/Command;" .null := D5 (Or.inr (hw _ (List.mem_of_getElem? (i := 55) rfl))) (ty := (.object "com/example/tallywire/tallywire/flaps/Command")) (by decide)
  have f16 : Fld Z h5 b5 "com/example/tallywire/tallywire/flaps/Pacer$Plan" "at" "J" (.long (0 : Int64)) := D5 (Or.inr (hw _ (List.mem_of_getElem? (i := 57) rfl))) (ty := .long) (by decide)
  refine Goes.go st5 ?_
  show Goes p e below s _ _ _ T5 (mkF m 69 #[.val (.ref pt), .val (.long pn), .second, .unset, .unset, .unset, .unset, .unset, .unset, .unset, .unset, .unset, .unset] [(.ref b5)])
  refine own_dup X5 hx 70 rfl (hb hby own_d4_69) rfl ?_
  obtain ⟨T17, X17, e17, st17⟩ := getS2 X5 hx hZ hown (host := "") (Or.inl (hw _ (List.mem_of_getElem? (i := 89) rfl))) Via.refl e5 f10 (g := (mkF m 70 #[.val (.ref pt), .val (.long pn), .second, .unset, .unset, .unset, .unset, .unset, .unset, .unset, .unset, .unset, .unset] [(.ref b5), (.ref b5)])) rfl (hb hby own_d4_70)
  refine Goes.go st17 ?_
  show Goes p e below s _ _ _ T17 (mkF m 73 #[.val (.ref pt), .val (.long pn), .second, .unset, .unset, .unset, .unset, .unset, .unset, .unset, .unset, .unset, .unset] [(.ref zp), (.ref b5), (.ref b5)])
  refine own_aloadN X17 hx 74 rfl (hb hby own_d4_73) rfl rfl ?_
  obtain ⟨T18, X18, e18, st18⟩ := getF X17 hx hZ hown (host := "") (Or.inl (hw _ (List.mem_of_getElem? (i := 80) rfl))) Via.refl e17 f12 (g := (mkF m 74 #[.val (.ref pt), .val (.long pn), .second, .unset, .unset, .unset, .unset, .unset, .unset, .unset, .unset, .unset, .unset] [(.ref pt), (.ref zp), (.ref b5), (.ref b5)])) rfl rfl (hb hby own_d4_74)
  refine Goes.go st18 ?_
  show Goes p e below s _ _ _ T18 (mkF m 77 #[.val (.ref pt), .val (.long pn), .second, .unset, .unset, .unset, .unset, .unset, .unset, .unset, .unset, .unset, .unset] [(.long la), (.ref zp), (.ref b5), (.ref b5)])
  refine own_aloadN X18 hx 78 rfl (hb hby own_d4_77) rfl rfl ?_
  obtain ⟨T19, X19, e19, st19⟩ := getF X18 hx hZ hown (host := "") (Or.inl (hw _ (List.mem_of_getElem? (i := 16) rfl))) Via.refl e18 f13 (g := (mkF m 78 #[.val (.ref pt), .val (.long pn), .second, .unset, .unset, .unset, .unset, .unset, .unset, .unset, .unset, .unset, .unset] [(.ref pt), (.long la), (.ref zp), (.ref b5), (.ref b5)])) rfl rfl (hb hby own_d4_78)
  refine Goes.go st19 ?_
  show Goes p e below s _ _ _ T19 (mkF m 81 #[.val (.ref pt), .val (.long pn), .second, .unset, .unset, .unset, .unset, .unset, .unset, .unset, .unset, .unset, .unset] [(.long ka), (.long la), (.ref zp), (.ref b5), (.ref b5)])
  refine own_ladd X19 hx 82 rfl (hb hby own_d4_81) rfl ?_
  refine own_aloadN X19 hx 83 rfl (hb hby own_d4_82) rfl rfl ?_
  refine own_iconst X19 hx 84 rfl (1 : Int32) (hb hby own_d4_83) (by decide) ?_
  refine own_lloadN X19 hx 85 rfl (hb hby own_d4_84) rfl ?_
  obtain ⟨cq20, q20, q20'⟩ := f7.cell
  obtain ⟨_, _, ⟨T20, L20, k20, n20⟩, -, X20, ⟨Lc20, hQ20, l20, y20, z20⟩, st20⟩ := X19.privateBack hx (y := (⟨"com/example/tallywire/tallywire/flaps/Pacer", "roomFor", "(IJ)J"⟩ : MethodName)) hown (mvT hZ (hw _ (List.mem_of_getElem? (i := 39) rfl))) (mvT hZ (hw _ (List.mem_of_getElem? (i := 40) rfl))) (own_selP (mvT hZ (hw _ (List.mem_of_getElem? (i := 1) rfl))) (mvP hZ (hw _ (List.mem_of_getElem? (i := 41) rfl))) (mvT hZ (hw _ (List.mem_of_getElem? (i := 40) rfl))) (by decide)) (Cond.privateMethod_at (mvP hZ (hw _ (List.mem_of_getElem? (i := 41) rfl)) (args := #[]))) (mvT hZ (hw _ (List.mem_of_getElem? (i := 42) rfl))) (by decide) (backOf (W := 5) (rmro1 l Z a0 hw [] pt pn h5 n0 Z5 f14) hZ (hw _ (List.mem_of_getElem? (i := 42) rfl)) (hw _ (List.mem_of_getElem? (i := 2) rfl)) (by decide) (by decide)) (g := (mkF m 85 #[.val (.ref pt), .val (.long pn), .second, .unset, .unset, .unset, .unset, .unset, .unset, .unset, .unset, .unset, .unset] [(.long pn), (.int (1 : Int32)), (.ref pt), (.long (la + ka)), (.ref zp), (.ref b5), (.ref b5)])) rfl (by rw [hml]; rfl) (Steps.refl _) (a := pt) (by rw [e19]; exact q20) q20' (argsL := [(.int (1 : Int32)), (.long pn)]) (rest := [(.long (la + ka)), (.ref zp), (.ref b5), (.ref b5)]) (lenOf own_pd1 rfl) rfl (by show 2 * 0 + _ ≤ _; exact Nat.le_of_eq rfl) (hb hby own_d4_85) (fun _ _ => ⟨rfl, e19, (by decide : 1 + 0 ≤ _), (by decide : 2 + 0 ≤ _)⟩)
  dsimp only [Pt.U, Pt.locs, Pt.cells, Pt.slots] at X20 l20 y20 z20 st20 hQ20
  subst l20 y20 z20
  obtain ⟨rfl, N20q, eh20⟩ := hQ20
  have N20 := Fr.app N0 N20q
  refine Goes.tr st20 ?_
  show Goes p e below s _ _ _ T20 (mkF m 88 #[.val (.ref pt), .val (.long pn), .second, .unset, .unset, .unset, .unset, .unset, .unset, .unset, .unset, .unset, .unset] [(.long pn), (.long (la + ka)), (.ref zp), (.ref b5), (.ref b5)])
  obtain ⟨_, _, ⟨T21, L21, k21, n21⟩, -, X21, ⟨Lc21, hQ21, l21, y21, z21⟩, st21⟩ := Jvm.LawKit.callS X20 hx (y := (⟨"com/example/tallywire/tallywire/flaps/Pacer", "later", "(JJ)J"⟩ : MethodName)) hown (mvT hZ (hw _ (List.mem_of_getElem? (i := 91) rfl))) (mvT hZ (hw _ (List.mem_of_getElem? (i := 92) rfl))) (mvT hZ (hw _ (List.mem_of_getElem? (i := 2) rfl))) (mvT hZ (hw _ (List.mem_of_getElem? (i := 93) rfl))) (by decide) (backOf (W := 3) (rm11 l Z a0 hw [] (la + ka) pn h5 n0 Z5 ) hZ (hw _ (List.mem_of_getElem? (i := 93) rfl)) (hw _ (List.mem_of_getElem? (i := 2) rfl)) (by decide) (by decide)) (g := (mkF m 88 #[.val (.ref pt), .val (.long pn), .second, .unset, .unset, .unset, .unset, .unset, .unset, .unset, .unset, .unset, .unset] [(.long pn), (.long (la + ka)), (.ref zp), (.ref b5), (.ref b5)])) rfl (by rw [hml]; rfl) (argsL := [(.long (la + ka)), (.long pn)]) (rest := [(.ref zp), (.ref b5), (.ref b5)]) (lenOf own_pd3 rfl) rfl (by show 2 * 0 + _ ≤ _; exact Nat.le_of_eq rfl) (hb hby own_d4_88) (fun _ _ => ⟨rfl, eh20, (by decide : 1 + 0 ≤ _), (by decide : 2 + 0 ≤ _)⟩)
  dsimp only [Pt.U, Pt.locs, Pt.cells, Pt.slots] at X21 l21 y21 z21 st21 hQ21
  subst l21 y21 z21
  obtain ⟨lr_21, rfl, N21q, eh21, pr21_0⟩ := hQ21
  have N21 := Fr.app N20 N21q
  refine Goes.go st21 ?_
  show Goes p e below s _ _ _ T21 (mkF m 91 #[.val (.ref pt), .val (.long pn), .second, .unset, .unset, .unset, .unset, .unset, .unset, .unset, .unset, .unset, .unset] [(.long lr_21), (.ref zp), (.ref b5), (.ref b5)])
  obtain ⟨_, _, ⟨T22, L22, k22, n22⟩, -, X22, ⟨Lc22, hQ22, l22, y22, z22⟩, st22⟩ := own_specialRef X21 hx hZ (y := (⟨"com/example/tallywire/tallywire/flaps/Pacer$Plan", "<init>", "(Lcom/example/tallywire/tallywire/flaps/Command;J)V"⟩ : MethodName)) rfl hown (hw _ (List.mem_of_getElem? (i := 45) rfl)) (mvT hZ (hw _ (List.mem_of_getElem? (i := 46) rfl))) (mvT hZ (hw _ (List.mem_of_getElem? (i := 47) rfl))) (by decide) (backOf (W := 1) (rm6 l Z a0 hw [] b5 zp lr_21 h5 n0 Z5 A5 G5 f15 f16) hZ (hw _ (List.mem_of_getElem? (i := 47) rfl)) (hw _ (List.mem_of_getElem? (i := 35) rfl)) (by decide) (by decide)) (g := (mkF m 91 #[.val (.ref pt), .val (.long pn), .second, .unset, .unset, .unset, .unset, .unset, .unset, .unset, .unset, .unset, .unset] [(.long lr_21), (.ref zp), (.ref b5), (.ref b5)])) rfl (by rw [hml]; rfl) (Steps.refl _) (a := b5) (argsL := [(.ref zp), (.long lr_21)]) (rest := [(.ref b5)]) (lenOf own_pd2 rfl) rfl (by show 2 * 0 + _ ≤ _; exact Nat.le_of_eq rfl) (hb hby own_d4_91) (fun _ _ => ⟨rfl, eh21, (by decide : 1 + 0 ≤ _), (by decide : 2 + 0 ≤ _)⟩)
  dsimp only [Pt.U, Pt.locs, Pt.cells, Pt.slots] at X22 l22 y22 z22 st22 hQ22
  subst l22 y22 z22
  obtain ⟨rfl, N22q, K22q, f22_0, f22_1⟩ := hQ22
  have N22 := Fr.app N21 N22q
  have f23 := f7.keep K22q
  have f24 := f8.keep K22q (ninS ne6 nin0)
  have f25 := own_sta_keep f9 K22q (allS (own_eplain A5) all0)
  have f26 := own_sta_keep f10 K22q (allS (own_eplain A5) all0)
  have f27 := f11.keep K22q (ninS ne6 nin0)
  have f28 := f12.keep K22q (ninS ne6 nin0)
  have f29 := f13.keep K22q (ninS ne6 nin0)
  have f30 := f14.keep K22q (ninS ne6 nin0)
  have f31 := A5.keep K22q
  have K22 := K5.trans K22q (allS (Or.inr H5) all0)
  have Z22 := Nat.le_trans Z5 K22q.1
  refine Goes.tr st22 ?_
  show Goes p e below s _ _ _ T22 (mkF m 94 #[.val (.ref pt), .val (.long pn), .second, .unset, .unset, .unset, .unset, .unset, .unset, .unset, .unset, .unset, .unset] [(.ref b5)])
  refine own_astoreN X22 hx 95 rfl #[.val (.ref pt), .val (.long pn), .second, .val (.ref b5), .unset, .unset, .unset, .unset, .unset, .unset, .unset, .unset, .unset] (hb hby own_d4_94) rfl rfl ?_
  refine own_goto X22 hx 257 (hb hby own_d4_95) (by decide) (by decide) ?_
  refine own_aloadN X22 hx 258 rfl (hb hby own_d4_257) rfl rfl ?_
  refine own_retR X22 hx hlk Bd.returns rfl rfl (hb hby own_d4_258) (by decide) (by decide) rfl ?_
  exact ⟨b5, lr_21, rfl, N22, K22, H5, f31, f22_0, f22_1, pr21_0⟩
def QplB2 (Z : State) (pt : Addr) (pn : Int64) (zt : Addr) (zq : Addr) (zp : Addr) (la : Int64) (ka : Int64) (h0 : Heap) (n0 : Nat) (v : Option Value) (h : Heap) (L : List Loc) : Prop := ∃ pb : Addr, ∃ pa : Int64, v = some (.ref pb) ∧ Fr n0 L ∧ Keep h0 h [] ∧ h0.size ≤ pb ∧ Exa Z h pb "com/example/tallywire/tallywire/flaps/Pacer$Plan" ∧ Fld Z h pb "com/example/tallywire/tallywire/flaps/Pacer$Plan" "command" "Lcom/example/tallywire/tallywire/flaps/Command;" (.ref zp) ∧ Fld Z h pb "com/example/tallywire/tallywire/flaps/Pacer$Plan" "at" "J" (.long pa) ∧ ((pa = (la + ka) ∧ ¬ (((la + ka) - pn) < (0 : Int64))) ∨ (pa = pn ∧ ((la + ka) - pn) < (0 : Int64)))
set_option maxRecDepth 65536 in
set_option maxHeartbeats 40000000 in
theorem rmplB2 (l : Launch) (Z : State) (a0 : Array Value) (hw : ∀ d ∈ tables_1, d.before a0 Z = true) (ws : List Jvm.Cond) (pt : Addr) (pn : Int64) (zt : Addr) (zq : Addr) (zp : Addr) (la : Int64) (ka : Int64) (h0 : Heap) (n0 : Nat) (Z0 : n0 ≤ h0.size) (EP : Exa Z h0 pt "com/example/tallywire/tallywire/flaps/Pacer") (Ft : Fld Z h0 pt "com/example/tallywire/tallywire/flaps/Pacer" "taken" "Lcom/example/tallywire/tallywire/flaps/Command;" (.ref zt)) (Sa : Sta Z h0 "com/example/tallywire/tallywire/flaps/Command" "ACTIVE_FLAPS" "Lcom/example/tallywire/tallywire/flaps/Command;" (.ref zq)) (nta : zt ≠ zq) (Sp : Sta Z h0 "com/example/tallywire/tallywire/flaps/Command" "PING" "Lcom/example/tallywire/tallywire/flaps/Command;" (.ref zp)) (Fo : Fld Z h0 pt "com/example/tallywire/tallywire/flaps/Pacer" "pollNanos" "J" (.long (0 : Int64))) (Fl : Fld Z h0 pt "com/example/tallywire/tallywire/flaps/Pacer" "lastAnswer" "J" (.long la)) (Fk : Fld Z h0 pt "com/example/tallywire/tallywire/flaps/Pacer" "keepaliveNanos" "J" (.long ka)) (Fn : Fld Z h0 pt "com/example/tallywire/tallywire/flaps/Pacer" "answered" "J" (.long (2 : Int64))) :
    MetFree l (⟨"com/example/tallywire/tallywire/flaps/Pacer", "plan", "(J)Lcom/example/tallywire/tallywire/flaps/Pacer$Plan;"⟩ : MethodName) (head1 (Jvm.Cond.code (⟨"com/example/tallywire/tallywire/flaps/Pacer", "plan", "(J)Lcom/example/tallywire/tallywire/flaps/Pacer$Plan;"⟩ : MethodName) prog_18_method_5_code 13 (some (.object "com/example/tallywire/tallywire/flaps/Pacer$Plan")) :: ws) ({ frames := 3, cells := 1, slots := 2, locals := 40 } : Room)) (fun a U => a = #[(.ref pt), (.long pn)] ∧ Z.Warmed39 U.vm ∧ U.heap = h0) (fun _ _ _ _ _ => True) (fun _ U o U' => ∃ v L, o = .returned v ∧ QplB2 Z pt pn zt zq zp la ka h0 n0 v U'.heap L ∧ FrameEnd U o U' L ({ frames := 3, cells := 1, slots := 2, locals := 40 } : Room).cells ({ frames := 3, cells := 1, slots := 2, locals := 40 } : Room).slots) := by
  refine MetFree.of_bodySF (plainFor_of_name own_pn_com_example_tallywire_tallywire_flaps_Pacer) hisR ?_
  intro p e s m args below meth c s₁ Bd hml0 hP hK
  obtain ⟨rfl, hZ, hh⟩ := hP
  have hx := Bd.exec
  have hby := Bd.bytes
  have hml : c.maxLocals = 13 := hml0
  have hlk := Bd.notSynchronized
  have hown : s.vm.findClass "com/example/tallywire/tallywire/flaps/Pacer" = some m.cls := findClass_of_methodNamed Bd.named
  have hnm := (name_of_methodNamed Bd.named Bd.method).1
  have X0 : Stand p l e ({ frames := 3, cells := 1, slots := 2, locals := 40 } : Room) s m #[(.ref pt), (.long pn)] below meth c s₁ [] 0 0 := Stand.of_body Bd
  have e0 : s₁.heap = h0 := by rw [← hh, Bd.state]; rfl
  have N0 := Fr.nil n0
  have K0 : Keep h0 h0 [] := Keep.refl _ _
  refine own_enter (Q := QplB2 Z pt pn zt zq zp la ka h0 n0) (Ls := #[.val (.ref pt), .val (.long pn), .second, .unset, .unset, .unset, .unset, .unset, .unset, .unset, .unset, .unset, .unset]) (by first | (simp [entryFrame, mkF, argsToLocals, Value.category]; done) | rfl) ?_
  refine own_aloadN X0 hx 1 rfl (hb hby own_d4_0) rfl rfl ?_
  obtain ⟨T1, X1, e1, st1⟩ := getF X0 hx hZ hown (host := "") (Or.inl (hw _ (List.mem_of_getElem? (i := 31) rfl))) Via.refl e0 Ft (g := (mkF m 1 #[.val (.ref pt), .val (.long pn), .second, .unset, .unset, .unset, .unset, .unset, .unset, .unset, .unset, .unset, .unset] [(.ref pt)])) rfl rfl (hb hby own_d4_1)
  refine Goes.go st1 ?_
  show Goes p e below s _ _ _ T1 (mkF m 4 #[.val (.ref pt), .val (.long pn), .second, .unset, .unset, .unset, .unset, .unset, .unset, .unset, .unset, .unset, .unset] [(.ref zt)])
  refine own_ifnonnullY X1 hx 27 (hb hby own_d4_4) (by decide) (by decide) ?_
  refine own_aloadN X1 hx 28 rfl (hb hby own_d4_27) rfl rfl ?_
  obtain ⟨T2, X2, e2, st2⟩ := getF X1 hx hZ hown (host := "") (Or.inl (hw _ (List.mem_of_getElem? (i := 31) rfl))) Via.refl e1 Ft (g := (mkF m 28 #[.val (.ref pt), .val (.long pn), .second, .unset, .unset, .unset, .unset, .unset, .unset, .unset, .unset, .unset, .unset] [(.ref pt)])) rfl rfl (hb hby own_d4_28)
  refine Goes.go st2 ?_
  show Goes p e below s _ _ _ T2 (mkF m 31 #[.val (.ref pt), .val (.long pn), .second, .unset, .unset, .unset, .unset, .unset, .unset, .unset, .unset, .unset, .unset] [(.ref zt)])
  obtain ⟨T3, X3, e3, st3⟩ := getS2 X2 hx hZ hown (host := "") (Or.inl (hw _ (List.mem_of_getElem? (i := 87) rfl))) Via.refl e2 Sa (g := (mkF m 31 #[.val (.ref pt), .val (.long pn), .second, .unset, .unset, .unset, .unset, .unset, .unset, .unset, .unset, .unset, .unset] [(.ref zt)])) rfl (hb hby own_d4_31)
  refine Goes.go st3 ?_
  show Goes p e below s _ _ _ T3 (mkF m 34 #[.val (.ref pt), .val (.long pn), .second, .unset, .unset, .unset, .unset, .unset, .unset, .unset, .unset, .unset, .unset] [(.ref zq), (.ref zt)])
  refine own_acmp X3 hx 57 (same := false) rfl rfl (hb hby own_d4_34) (decide_eq_false fun q => nta (Value.ref.inj q)) (by decide) (by decide) ?_
  refine own_aloadN X3 hx 58 rfl (hb hby own_d4_57) rfl rfl ?_
  obtain ⟨T4, X4, e4, st4⟩ := getF X3 hx hZ hown (host := "") (Or.inl (hw _ (List.mem_of_getElem? (i := 14) rfl))) Via.refl e3 Fo (g := (mkF m 58 #[.val (.ref pt), .val (.long pn), .second, .unset, .unset, .unset, .unset, .unset, .unset, .unset, .unset, .unset, .unset] [(.ref pt)])) rfl rfl (hb hby own_d4_58)
  refine Goes.go st4 ?_
  show Goes p e below s _ _ _ T4 (mkF m 61 #[.val (.ref pt), .val (.long pn), .second, .unset, .unset, .unset, .unset, .unset, .unset, .unset, .unset, .unset, .unset] [(.long (0 : Int64))])
  refine own_lconst X4 hx 62 rfl (0 : Int64) (hb hby own_d4_61) (by decide) ?_
  refine own_lcmp X4 hx 63 rfl (hb hby own_d4_62) ?_
  refine own_ifN X4 hx 66 (hb hby own_d4_63) (Lteq ((by decide) : (0 : Int64) = (0 : Int64))).2 rfl ?_
  obtain ⟨T5, h5, X5, e5, E5, A5, D5, -, st5⟩ := newO X4 hx hZ hown (hw _ (List.mem_of_getElem? (i := 33) rfl)) (hw _ (List.mem_of_getElem? (i := 34) rfl)) (hw _ (List.mem_of_getElem? (i := 35) rfl)) e4 (g := (mkF m 66 #[.val (.ref pt), .val (.long pn), .second, .unset, .unset, .unset, .unset, .unset, .unset, .unset, .unset, .unset, .unset] [])) rfl (hb hby own_d4_66) (by decide) (by decide)
  obtain ⟨b5, g5⟩ : ∃ z, z = h0.size := ⟨_, rfl⟩
  rw [← g5] at A5 D5 st5
  have ne6 : pt ≠ b5 := own_lt_ne EP.lt g5
  have G5 : n0 ≤ b5 := Nat.le_trans Z0 (Nat.le_of_eq g5.symm)
  have H5 : h0.size ≤ b5 := Nat.le_trans K0.1 (Nat.le_of_eq g5.symm)
  have f7 := EP.ext E5
  have f8 := Ft.ext E5
  have f9 := Sa.ext E5
  have f10 := Sp.ext E5
  have f11 := Fo.ext E5
  have f12 := Fl.ext E5
  have f13 := Fk.ext E5
  have f14 := Fn.ext E5
  have K5 := K0.ext E5
  have Z5 := Nat.le_trans Z0 E5.1
  have f15 : Fld Z h5 b5 "com/example/tallywire/tallywire/flaps/Pacer$Plan" "command" "Lcom/example/tallywire/tallywire/flaps/Command;" .null := D5 (Or.inr (hw _ (List.mem_of_getElem? (i := 55) rfl))) (ty := (.object "com/example/tallywire/tallywire/flaps/Command")) (by decide)
  have f16 : Fld Z h5 b5 "com/example/tallywire/tallywire/flaps/Pacer$Plan" "at" "J" (.long (0 : Int64)) := D5 (Or.inr (hw _ (List.mem_of_getElem? (i := 57) rfl))) (ty := .long) (by decide)
  refine Goes.go st5 ?_
  show Goes p e below s _ _ _ T5 (mkF m 69 #[.val (.ref pt), .val (.long pn), .second, .unset, .unset, .unset, .unset, .unset, .unset, .unset, .unset, .unset, .unset] [(.ref b5)])
  refine own_dup X5 hx 70 rfl (hb hby own_d4_69) rfl ?_
  obtain ⟨T17, X17, e17, st17⟩ := getS2 X5 hx hZ hown (host := "") (Or.inl (hw _ (List.mem_of_getElem? (i := 89) rfl))) Via.refl e5 f10 (g := (mkF m 70 #[.val (.ref pt), .val (.long pn), .second, .unset, .unset, .unset, .unset, .unset, .unset, .unset, .unset, .unset, .unset] [(.ref b5), (.ref b5)])) rfl (hb hby own_d4_70)
  refine Goes.go st17 ?_
  show Goes p e below s _ _ _ T17 (mkF m 73 #[.val (.ref pt), .val (.long pn), .second, .unset, .unset, .unset, .unset, .unset, .unset, .unset, .unset, .unset, .unset] [(.ref zp), (.ref b5), (.ref b5)])
  refine own_aloadN X17 hx 74 rfl (hb hby own_d4_73) rfl rfl ?_
  obtain ⟨T18, X18, e18, st18⟩ := getF X17 hx hZ hown (host := "") (Or.inl (hw _ (List.mem_of_getElem? (i := 80) rfl))) Via.refl e17 f12 (g := (mkF m 74 #[.val (.ref pt), .val (.long pn), .second, .unset, .unset, .unset, .unset, .unset, .unset, .unset, .unset, .unset, .unset] [(.ref pt), (.ref zp), (.ref b5), (.ref b5)])) rfl rfl (hb hby own_d4_74)
  refine Goes.go st18 ?_
  show Goes p e below s _ _ _ T18 (mkF m 77 #[.val (.ref pt), .val (.long pn), .second, .unset, .unset, .unset, .unset, .unset, .unset, .unset, .unset, .unset, .unset] [(.long la), (.ref zp), (.ref b5), (.ref b5)])
  refine own_aloadN X18 hx 78 rfl (hb hby own_d4_77) rfl rfl ?_
  obtain ⟨T19, X19, e19, st19⟩ := getF X18 hx hZ hown (host := "") (Or.inl (hw _ (List.mem_of_getElem? (i := 16) rfl))) Via.refl e18 f13 (g := (mkF m 78 #[.val (.ref pt), .val (.long pn), .second, .unset, .unset, .unset, .unset, .unset, .unset, .unset, .unset, .unset, .unset] [(.ref pt), (.long la), (.ref zp), (.ref b5), (.ref b5)])) rfl rfl (hb hby own_d4_78)
  refine Goes.go st19 ?_
  show Goes p e below s _ _ _ T19 (mkF m 81 #[.val (.ref pt), .val (.long pn), .second, .unset, .unset, .unset, .unset, .unset, .unset, .unset, .unset, .unset, .unset] [(.long ka), (.long la), (.ref zp), (.ref b5), (.ref b5)])
  refine own_ladd X19 hx 82 rfl (hb hby own_d4_81) rfl ?_
  refine own_aloadN X19 hx 83 rfl (hb hby own_d4_82) rfl rfl ?_
  refine own_iconst X19 hx 84 rfl (1 : Int32) (hb hby own_d4_83) (by decide) ?_
  refine own_lloadN X19 hx 85 rfl (hb hby own_d4_84) rfl ?_
  obtain ⟨cq20, q20, q20'⟩ := f7.cell
  obtain ⟨_, _, ⟨T20, L20, k20, n20⟩, -, X20, ⟨Lc20, hQ20, l20, y20, z20⟩, st20⟩ := X19.privateBack hx (y := (⟨"com/example/tallywire/tallywire/flaps/Pacer", "roomFor", "(IJ)J"⟩ : MethodName)) hown (mvT hZ (hw _ (List.mem_of_getElem? (i := 39) rfl))) (mvT hZ (hw _ (List.mem_of_getElem? (i := 40) rfl))) (own_selP (mvT hZ (hw _ (List.mem_of_getElem? (i := 1) rfl))) (mvP hZ (hw _ (List.mem_of_getElem? (i := 41) rfl))) (mvT hZ (hw _ (List.mem_of_getElem? (i := 40) rfl))) (by decide)) (Cond.privateMethod_at (mvP hZ (hw _ (List.mem_of_getElem? (i := 41) rfl)) (args := #[]))) (mvT hZ (hw _ (List.mem_of_getElem? (i := 42) rfl))) (by decide) (backOf (W := 5) (rmro2 l Z a0 hw [] pt pn h5 n0 Z5 f14) hZ (hw _ (List.mem_of_getElem? (i := 42) rfl)) (hw _ (List.mem_of_getElem? (i := 2) rfl)) (by decide) (by decide)) (g := (mkF m 85 #[.val (.ref pt), .val (.long pn), .second, .unset, .unset, .unset, .unset, .unset, .unset, .unset, .unset, .unset, .unset] [(.long pn), (.int (1 : Int32)), (.ref pt), (.long (la + ka)), (.ref zp), (.ref b5), (.ref b5)])) rfl (by rw [hml]; rfl) (Steps.refl _) (a := pt) (by rw [e19]; exact q20) q20' (argsL := [(.int (1 : Int32)), (.long pn)]) (rest := [(.long (la + ka)), (.ref zp), (.ref b5), (.ref b5)]) (lenOf own_pd1 rfl) rfl (by show 2 * 0 + _ ≤ _; exact Nat.le_of_eq rfl) (hb hby own_d4_85) (fun _ _ => ⟨rfl, e19, (by decide : 1 + 0 ≤ _), (by decide : 2 + 0 ≤ _)⟩)
  dsimp only [Pt.U, Pt.locs, Pt.cells, Pt.slots] at X20 l20 y20 z20 st20 hQ20
  subst l20 y20 z20
  obtain ⟨rfl, N20q, eh20⟩ := hQ20
  have N20 := Fr.app N0 N20q
  refine Goes.tr st20 ?_
  show Goes p e below s _ _ _ T20 (mkF m 88 #[.val (.ref pt), .val (.long pn), .second, .unset, .unset, .unset, .unset, .unset, .unset, .unset, .unset, .unset, .unset] [(.long pn), (.long (la + ka)), (.ref zp), (.ref b5), (.ref b5)])
  obtain ⟨_, _, ⟨T21, L21, k21, n21⟩, -, X21, ⟨Lc21, hQ21, l21, y21, z21⟩, st21⟩ := Jvm.LawKit.callS X20 hx (y := (⟨"com/example/tallywire/tallywire/flaps/Pacer", "later", "(JJ)J"⟩ : MethodName)) hown (mvT hZ (hw _ (List.mem_of_getElem? (i := 91) rfl))) (mvT hZ (hw _ (List.mem_of_getElem? (i := 92) rfl))) (mvT hZ (hw _ (List.mem_of_getElem? (i := 2) rfl))) (mvT hZ (hw _ (List.mem_of_getElem? (i := 93) rfl))) (by decide) (backOf (W := 3) (rm11 l Z a0 hw [] (la + ka) pn h5 n0 Z5 ) hZ (hw _ (List.mem_of_getElem? (i := 93) rfl)) (hw _ (List.mem_of_getElem? (i := 2) rfl)) (by decide) (by decide)) (g := (mkF m 88 #[.val (.ref pt), .val (.long pn), .second, .unset, .unset, .unset, .unset, .unset, .unset, .unset, .unset, .unset, .unset] [(.long pn), (.long (la + ka)), (.ref zp), (.ref b5), (.ref b5)])) rfl (by rw [hml]; rfl) (argsL := [(.long (la + ka)), (.long pn)]) (rest := [(.ref zp), (.ref b5), (.ref b5)]) (lenOf own_pd3 rfl) rfl (by show 2 * 0 + _ ≤ _; exact Nat.le_of_eq rfl) (hb hby own_d4_88) (fun _ _ => ⟨rfl, eh20, (by decide : 1 + 0 ≤ _), (by decide : 2 + 0 ≤ _)⟩)
  dsimp only [Pt.U, Pt.locs, Pt.cells, Pt.slots] at X21 l21 y21 z21 st21 hQ21
  subst l21 y21 z21
  obtain ⟨lr_21, rfl, N21q, eh21, pr21_0⟩ := hQ21
  have N21 := Fr.app N20 N21q
  refine Goes.go st21 ?_
  show Goes p e below s _ _ _ T21 (mkF m 91 #[.val (.ref pt), .val (.long pn), .second, .unset, .unset, .unset, .unset, .unset, .unset, .unset, .unset, .unset, .unset] [(.long lr_21), (.ref zp), (.ref b5), (.ref b5)])
  obtain ⟨_, _, ⟨T22, L22, k22, n22⟩, -, X22, ⟨Lc22, hQ22, l22, y22, z22⟩, st22⟩ := own_specialRef X21 hx hZ (y := (⟨"com/example/tallywire/tallywire/flaps/Pacer$Plan", "<init>", "(Lcom/example/tallywire/tallywire/flaps/Command;J)V"⟩ : MethodName)) rfl hown (hw _ (List.mem_of_getElem? (i := 45) rfl)) (mvT hZ (hw _ (List.mem_of_getElem? (i := 46) rfl))) (mvT hZ (hw _ (List.mem_of_getElem? (i := 47) rfl))) (by decide) (backOf (W := 1) (rm6 l Z a0 hw [] b5 zp lr_21 h5 n0 Z5 A5 G5 f15 f16) hZ (hw _ (List.mem_of_getElem? (i := 47) rfl)) (hw _ (List.mem_of_getElem? (i := 35) rfl)) (by decide) (by decide)) (g := (mkF m 91 #[.val (.ref pt), .val (.long pn), .second, .unset, .unset, .unset, .unset, .unset, .unset, .unset, .unset, .unset, .unset] [(.long lr_21), (.ref zp), (.ref b5), (.ref b5)])) rfl (by rw [hml]; rfl) (Steps.refl _) (a := b5) (argsL := [(.ref zp), (.long lr_21)]) (rest := [(.ref b5)]) (lenOf own_pd2 rfl) rfl (by show 2 * 0 + _ ≤ _; exact Nat.le_of_eq rfl) (hb hby own_d4_91) (fun _ _ => ⟨rfl, eh21, (by decide : 1 + 0 ≤ _), (by decide : 2 + 0 ≤ _)⟩)
  dsimp only [Pt.U, Pt.locs, Pt.cells, Pt.slots] at X22 l22 y22 z22 st22 hQ22
  subst l22 y22 z22
  obtain ⟨rfl, N22q, K22q, f22_0, f22_1⟩ := hQ22
  have N22 := Fr.app N21 N22q
  have f23 := f7.keep K22q
  have f24 := f8.keep K22q (ninS ne6 nin0)
  have f25 := own_sta_keep f9 K22q (allS (own_eplain A5) all0)
  have f26 := own_sta_keep f10 K22q (allS (own_eplain A5) all0)
  have f27 := f11.keep K22q (ninS ne6 nin0)
  have f28 := f12.keep K22q (ninS ne6 nin0)
  have f29 := f13.keep K22q (ninS ne6 nin0)
  have f30 := f14.keep K22q (ninS ne6 nin0)
  have f31 := A5.keep K22q
  have K22 := K5.trans K22q (allS (Or.inr H5) all0)
  have Z22 := Nat.le_trans Z5 K22q.1
  refine Goes.tr st22 ?_
  show Goes p e below s _ _ _ T22 (mkF m 94 #[.val (.ref pt), .val (.long pn), .second, .unset, .unset, .unset, .unset, .unset, .unset, .unset, .unset, .unset, .unset] [(.ref b5)])
  refine own_astoreN X22 hx 95 rfl #[.val (.ref pt), .val (.long pn), .second, .val (.ref b5), .unset, .unset, .unset, .unset, .unset, .unset, .unset, .unset, .unset] (hb hby own_d4_94) rfl rfl ?_
  refine own_goto X22 hx 257 (hb hby own_d4_95) (by decide) (by decide) ?_
  refine own_aloadN X22 hx 258 rfl (hb hby own_d4_257) rfl rfl ?_
  refine own_retR X22 hx hlk Bd.returns rfl rfl (hb hby own_d4_258) (by decide) (by decide) rfl ?_
  exact ⟨b5, lr_21, rfl, N22, K22, H5, f31, f22_0, f22_1, pr21_0⟩
theorem own_pd4 : parseMethodDescriptor "(J)Lcom/example/tallywire/tallywire/flaps/Pacer$Plan;" = some ⟨[.long], some (.object "com/example/tallywire/tallywire/flaps/Pacer$Plan")⟩ := by decide +kernel
theorem own_d10_0 : decode prog_18_method_3_code 0 = .ok (.aload_n 0, 1) := by decide +kernel
theorem own_d10_1 : decode prog_18_method_3_code 1 = .ok (.lload_n 1, 1) := by decide +kernel
theorem own_d10_2 : decode prog_18_method_3_code 2 = .ok (.invokevirtual 43, 3) := by decide +kernel
theorem own_d10_5 : decode prog_18_method_3_code 5 = .ok (.getfield 47, 3) := by decide +kernel
theorem own_d10_8 : decode prog_18_method_3_code 8 = .ok (.lreturn, 1) := by decide +kernel
def Qdu1 (Z : State) (pt : Addr) (pn : Int64) (zt : Addr) (zq : Addr) (zp : Addr) (la : Int64) (ka : Int64) (h0 : Heap) (n0 : Nat) (v : Option Value) (h : Heap) (L : List Loc) : Prop := ∃ pa : Int64, v = some (.long pa) ∧ Fr n0 L ∧ Keep h0 h [] ∧ ((pa = (la + ka) ∧ ¬ (((la + ka) - pn) < (0 : Int64))) ∨ (pa = pn ∧ ((la + ka) - pn) < (0 : Int64)))
set_option maxRecDepth 65536 in
set_option maxHeartbeats 40000000 in
theorem rmdu1 (l : Launch) (Z : State) (a0 : Array Value) (hw : ∀ d ∈ tables_1, d.before a0 Z = true) (ws : List Jvm.Cond) (pt : Addr) (pn : Int64) (zt : Addr) (zq : Addr) (zp : Addr) (la : Int64) (ka : Int64) (h0 : Heap) (n0 : Nat) (Z0 : n0 ≤ h0.size) (EP : Exa Z h0 pt "com/example/tallywire/tallywire/flaps/Pacer") (Ft : Fld Z h0 pt "com/example/tallywire/tallywire/flaps/Pacer" "taken" "Lcom/example/tallywire/tallywire/flaps/Command;" (.ref zt)) (Sa : Sta Z h0 "com/example/tallywire/tallywire/flaps/Command" "ACTIVE_FLAPS" "Lcom/example/tallywire/tallywire/flaps/Command;" (.ref zq)) (nta : zt ≠ zq) (Sp : Sta Z h0 "com/example/tallywire/tallywire/flaps/Command" "PING" "Lcom/example/tallywire/tallywire/flaps/Command;" (.ref zp)) (Fo : Fld Z h0 pt "com/example/tallywire/tallywire/flaps/Pacer" "pollNanos" "J" (.long (0 : Int64))) (Fl : Fld Z h0 pt "com/example/tallywire/tallywire/flaps/Pacer" "lastAnswer" "J" (.long la)) (Fk : Fld Z h0 pt "com/example/tallywire/tallywire/flaps/Pacer" "keepaliveNanos" "J" (.long ka)) (Fn : Fld Z h0 pt "com/example/tallywire/tallywire/flaps/Pacer" "answered" "J" (.long (1 : Int64))) :
    MetFree l (⟨"com/example/tallywire/tallywire/flaps/Pacer", "dueAt", "(J)J"⟩ : MethodName) (head1 (Jvm.Cond.code (⟨"com/example/tallywire/tallywire/flaps/Pacer", "dueAt", "(J)J"⟩ : MethodName) prog_18_method_3_code 3 (some .long) :: ws) ({ frames := 4, cells := 1, slots := 2, locals := 64 } : Room)) (fun a U => a = #[(.ref pt), (.long pn)] ∧ Z.Warmed39 U.vm ∧ U.heap = h0) (fun _ _ _ _ _ => True) (fun _ U o U' => ∃ v L, o = .returned v ∧ Qdu1 Z pt pn zt zq zp la ka h0 n0 v U'.heap L ∧ FrameEnd U o U' L ({ frames := 4, cells := 1, slots := 2, locals := 64 } : Room).cells ({ frames := 4, cells := 1, slots := 2, locals := 64 } : Room).slots) := by
  refine MetFree.of_bodySF (plainFor_of_name own_pn_com_example_tallywire_tallywire_flaps_Pacer) hisR ?_
  intro p e s m args below meth c s₁ Bd hml0 hP hK
  obtain ⟨rfl, hZ, hh⟩ := hP
  have hx := Bd.exec
  have hby := Bd.bytes
  have hml : c.maxLocals = 3 := hml0
  have hlk := Bd.notSynchronized
  have hown : s.vm.findClass "com/example/tallywire/tallywire/flaps/Pacer" = some m.cls := findClass_of_methodNamed Bd.named
  have hnm := (name_of_methodNamed Bd.named Bd.method).1
  have X0 : Stand p l e ({ frames := 4, cells := 1, slots := 2, locals := 64 } : Room) s m #[(.ref pt), (.long pn)] below meth c s₁ [] 0 0 := Stand.of_body Bd
  have e0 : s₁.heap = h0 := by rw [← hh, Bd.state]; rfl
  have N0 := Fr.nil n0
  have K0 : Keep h0 h0 [] := Keep.refl _ _
  refine own_enter (Q := Qdu1 Z pt pn zt zq zp la ka h0 n0) (Ls := #[.val (.ref pt), .val (.long pn), .second]) (by first | (simp [entryFrame, mkF, argsToLocals, Value.category]; done) | rfl) ?_
  refine own_aloadN X0 hx 1 rfl (hb hby own_d10_0) rfl rfl ?_
  refine own_lloadN X0 hx 2 rfl (hb hby own_d10_1) rfl ?_
  obtain ⟨cq1, q1, q1'⟩ := EP.cell
  obtain ⟨_, _, ⟨T1, L1, k1, n1⟩, -, X1, ⟨Lc1, hQ1, l1, y1, z1⟩, st1⟩ := X0.privateBack hx (y := (⟨"com/example/tallywire/tallywire/flaps/Pacer", "plan", "(J)Lcom/example/tallywire/tallywire/flaps/Pacer$Plan;"⟩ : MethodName)) hown (mvT hZ (hw _ (List.mem_of_getElem? (i := 27) rfl))) (mvT hZ (hw _ (List.mem_of_getElem? (i := 28) rfl))) (own_selP (mvT hZ (hw _ (List.mem_of_getElem? (i := 1) rfl))) (mvP hZ (hw _ (List.mem_of_getElem? (i := 29) rfl))) (mvT hZ (hw _ (List.mem_of_getElem? (i := 28) rfl))) (by decide)) (Cond.privateMethod_at (mvP hZ (hw _ (List.mem_of_getElem? (i := 29) rfl)) (args := #[]))) (mvT hZ (hw _ (List.mem_of_getElem? (i := 30) rfl))) (by decide) (backOf (W := 0) (rmplB1 l Z a0 hw [] pt pn zt zq zp la ka h0 n0 Z0 EP Ft Sa nta Sp Fo Fl Fk Fn) hZ (hw _ (List.mem_of_getElem? (i := 30) rfl)) (hw _ (List.mem_of_getElem? (i := 2) rfl)) (by decide) (by decide)) (g := (mkF m 2 #[.val (.ref pt), .val (.long pn), .second] [(.long pn), (.ref pt)])) rfl (by rw [hml]; rfl) (Steps.refl _) (a := pt) (by rw [e0]; exact q1) q1' (argsL := [(.long pn)]) (rest := []) (lenOf own_pd4 rfl) rfl (by show 2 * 0 + _ ≤ _; exact Nat.le_of_eq rfl) (hb hby own_d10_2) (fun _ _ => ⟨rfl, e0, (by decide : 0 + 1 ≤ _), (by decide : 0 + 2 ≤ _)⟩)
  dsimp only [Pt.U, Pt.locs, Pt.cells, Pt.slots] at X1 l1 y1 z1 st1 hQ1
  subst l1 y1 z1
  obtain ⟨pb_1, pa_1, rfl, N1q, K1q, f1_0, f1_1, f1_2, f1_3, pr1_0⟩ := hQ1
  have N1 := Fr.app N0 N1q
  have ne2 : pt ≠ pb_1 := Nat.ne_of_lt (Nat.lt_of_lt_of_le EP.lt f1_0)
  have GG3 : n0 ≤ pb_1 := Nat.le_trans Z0 f1_0
  have HG3 : h0.size ≤ pb_1 := Nat.le_trans K0.1 f1_0
  have f4 := EP.keep K1q
  have f5 := Ft.keep K1q nin0
  have f6 := own_sta_keep Sa K1q all0
  have f7 := own_sta_keep Sp K1q all0
  have f8 := Fo.keep K1q nin0
  have f9 := Fl.keep K1q nin0
  have f10 := Fk.keep K1q nin0
  have f11 := Fn.keep K1q nin0
  have K1 := K0.trans K1q all0
  have Z1 := Nat.le_trans Z0 K1q.1
  refine Goes.tr st1 ?_
  show Goes p e below s _ _ _ T1 (mkF m 5 #[.val (.ref pt), .val (.long pn), .second] [(.ref pb_1)])
  refine Goes.go (own_getFR X1 hx hZ hown (hw _ (List.mem_of_getElem? (i := 58) rfl)) rfl f1_3 (g := (mkF m 5 #[.val (.ref pt), .val (.long pn), .second] [(.ref pb_1)])) rfl rfl (hb hby own_d10_5)) ?_
  show Goes p e below s _ _ _ T1 (mkF m 8 #[.val (.ref pt), .val (.long pn), .second] [(.long pa_1)])
  refine own_retJ X1 hx hlk Bd.returns (hb hby own_d10_8) (by decide) (by decide) rfl ?_
  exact ⟨pa_1, rfl, N1, K1, pr1_0⟩
def Qdu2 (Z : State) (pt : Addr) (pn : Int64) (zt : Addr) (zq : Addr) (zp : Addr) (la : Int64) (ka : Int64) (h0 : Heap) (n0 : Nat) (v : Option Value) (h : Heap) (L : List Loc) : Prop := ∃ pa : Int64, v = some (.long pa) ∧ Fr n0 L ∧ Keep h0 h [] ∧ ((pa = (la + ka) ∧ ¬ (((la + ka) - pn) < (0 : Int64))) ∨ (pa = pn ∧ ((la + ka) - pn) < (0 : Int64)))
set_option maxRecDepth 65536 in
set_option maxHeartbeats 40000000 in
theorem rmdu2 (l : Launch) (Z : State) (a0 : Array Value) (hw : ∀ d ∈ tables_1, d.before a0 Z = true) (ws : List Jvm.Cond) (pt : Addr) (pn : Int64) (zt : Addr) (zq : Addr) (zp : Addr) (la : Int64) (ka : Int64) (h0 : Heap) (n0 : Nat) (Z0 : n0 ≤ h0.size) (EP : Exa Z h0 pt "com/example/tallywire/tallywire/flaps/Pacer") (Ft : Fld Z h0 pt "com/example/tallywire/tallywire/flaps/Pacer" "taken" "Lcom/example/tallywire/tallywire/flaps/Command;" (.ref zt)) (Sa : Sta Z h0 "com/example/tallywire/tallywire/flaps/Command" "ACTIVE_FLAPS" "Lcom/example/tallywire/tallywire/flaps/Command;" (.ref zq)) (nta : zt ≠ zq) (Sp : Sta Z h0 "com/example/tallywire/tallywire/flaps/Command" "PING" "Lcom/example/tallywire/tallywire/flaps/Command;" (.ref zp)) (Fo : Fld Z h0 pt "com/example/tallywire/tallywire/flaps/Pacer" "pollNanos" "J" (.long (0 : Int64))) (Fl : Fld Z h0 pt "com/example/tallywire/tallywire/flaps/Pacer" "lastAnswer" "J" (.long la)) (Fk : Fld Z h0 pt "com/example/tallywire/tallywire/flaps/Pacer" "keepaliveNanos" "J" (.long ka)) (Fn : Fld Z h0 pt "com/example/tallywire/tallywire/flaps/Pacer" "answered" "J" (.long (2 : Int64))) :
    MetFree l (⟨"com/example/tallywire/tallywire/flaps/Pacer", "dueAt", "(J)J"⟩ : MethodName) (head1 (Jvm.Cond.code (⟨"com/example/tallywire/tallywire/flaps/Pacer", "dueAt", "(J)J"⟩ : MethodName) prog_18_method_3_code 3 (some .long) :: ws) ({ frames := 4, cells := 1, slots := 2, locals := 64 } : Room)) (fun a U => a = #[(.ref pt), (.long pn)] ∧ Z.Warmed39 U.vm ∧ U.heap = h0) (fun _ _ _ _ _ => True) (fun _ U o U' => ∃ v L, o = .returned v ∧ Qdu2 Z pt pn zt zq zp la ka h0 n0 v U'.heap L ∧ FrameEnd U o U' L ({ frames := 4, cells := 1, slots := 2, locals := 64 } : Room).cells ({ frames := 4, cells := 1, slots := 2, locals := 64 } : Room).slots) := by
  refine MetFree.of_bodySF (plainFor_of_name own_pn_com_example_tallywire_tallywire_flaps_Pacer) hisR ?_
  intro p e s m args below meth c s₁ Bd hml0 hP hK
  obtain ⟨rfl, hZ, hh⟩ := hP
  have hx := Bd.exec
  have hby := Bd.bytes
  have hml : c.maxLocals = 3 := hml0
  have hlk := Bd.notSynchronized
  have hown : s.vm.findClass "com/example/tallywire/tallywire/flaps/Pacer" = some m.cls := findClass_of_methodNamed Bd.named
  have hnm := (name_of_methodNamed Bd.named Bd.method).1
  have X0 : Stand p l e ({ frames := 4, cells := 1, slots := 2, locals := 64 } : Room) s m #[(.ref pt), (.long pn)] below meth c s₁ [] 0 0 := Stand.of_body Bd
  have e0 : s₁.heap = h0 := by rw [← hh, Bd.state]; rfl
  have N0 := Fr.nil n0
  have K0 : Keep h0 h0 [] := Keep.refl _ _
  refine own_enter (Q := Qdu2 Z pt pn zt zq zp la ka h0 n0) (Ls := #[.val (.ref pt), .val (.long pn), .second]) (by first | (simp [entryFrame, mkF, argsToLocals, Value.category]; done) | rfl) ?_
  refine own_aloadN X0 hx 1 rfl (hb hby own_d10_0) rfl rfl ?_
  refine own_lloadN X0 hx 2 rfl (hb hby own_d10_1) rfl ?_
  obtain ⟨cq1, q1, q1'⟩ := EP.cell
  obtain ⟨_, _, ⟨T1, L1, k1, n1⟩, -, X1, ⟨Lc1, hQ1, l1, y1, z1⟩, st1⟩ := X0.privateBack hx (y := (⟨"com/example/tallywire/tallywire/flaps/Pacer", "plan", "(J)Lcom/example/tallywire/tallywire/flaps/Pacer$Plan;"⟩ : MethodName)) hown (mvT hZ (hw _ (List.mem_of_getElem? (i := 27) rfl))) (mvT hZ (hw _ (List.mem_of_getElem? (i := 28) rfl))) (own_selP (mvT hZ (hw _ (List.mem_of_getElem? (i := 1) rfl))) (mvP hZ (hw _ (List.mem_of_getElem? (i := 29) rfl))) (mvT hZ (hw _ (List.mem_of_getElem? (i := 28) rfl))) (by decide)) (Cond.privateMethod_at (mvP hZ (hw _ (List.mem_of_getElem? (i := 29) rfl)) (args := #[]))) (mvT hZ (hw _ (List.mem_of_getElem? (i := 30) rfl))) (by decide) (backOf (W := 0) (rmplB2 l Z a0 hw [] pt pn zt zq zp la ka h0 n0 Z0 EP Ft Sa nta Sp Fo Fl Fk Fn) hZ (hw _ (List.mem_of_getElem? (i := 30) rfl)) (hw _ (List.mem_of_getElem? (i := 2) rfl)) (by decide) (by decide)) (g := (mkF m 2 #[.val (.ref pt), .val (.long pn), .second] [(.long pn), (.ref pt)])) rfl (by rw [hml]; rfl) (Steps.refl _) (a := pt) (by rw [e0]; exact q1) q1' (argsL := [(.long pn)]) (rest := []) (lenOf own_pd4 rfl) rfl (by show 2 * 0 + _ ≤ _; exact Nat.le_of_eq rfl) (hb hby own_d10_2) (fun _ _ => ⟨rfl, e0, (by decide : 0 + 1 ≤ _), (by decide : 0 + 2 ≤ _)⟩)
  dsimp only [Pt.U, Pt.locs, Pt.cells, Pt.slots] at X1 l1 y1 z1 st1 hQ1
  subst l1 y1 z1
  obtain ⟨pb_1, pa_1, rfl, N1q, K1q, f1_0, f1_1, f1_2, f1_3, pr1_0⟩ := hQ1
  have N1 := Fr.app N0 N1q
  have ne2 : pt ≠ pb_1 := Nat.ne_of_lt (Nat.lt_of_lt_of_le EP.lt f1_0)
  have GG3 : n0 ≤ pb_1 := Nat.le_trans Z0 f1_0
  have HG3 : h0.size ≤ pb_1 := Nat.le_trans K0.1 f1_0
  have f4 := EP.keep K1q
  have f5 := Ft.keep K1q nin0
  have f6 := own_sta_keep Sa K1q all0
  have f7 := own_sta_keep Sp K1q all0
  have f8 := Fo.keep K1q nin0
  have f9 := Fl.keep K1q nin0
  have f10 := Fk.keep K1q nin0
  have f11 := Fn.keep K1q nin0
  have K1 := K0.trans K1q all0
  have Z1 := Nat.le_trans Z0 K1q.1
  refine Goes.tr st1 ?_
  show Goes p e below s _ _ _ T1 (mkF m 5 #[.val (.ref pt), .val (.long pn), .second] [(.ref pb_1)])
  refine Goes.go (own_getFR X1 hx hZ hown (hw _ (List.mem_of_getElem? (i := 58) rfl)) rfl f1_3 (g := (mkF m 5 #[.val (.ref pt), .val (.long pn), .second] [(.ref pb_1)])) rfl rfl (hb hby own_d10_5)) ?_
  show Goes p e below s _ _ _ T1 (mkF m 8 #[.val (.ref pt), .val (.long pn), .second] [(.long pa_1)])
  refine own_retJ X1 hx hlk Bd.returns (hb hby own_d10_8) (by decide) (by decide) rfl ?_
  exact ⟨pa_1, rfl, N1, K1, pr1_0⟩
theorem own_pd5 : parseMethodDescriptor "()I" = some ⟨[], some .int⟩ := by decide +kernel
theorem own_d3_0 : decode prog_18_method_2_code 0 = .ok (.aload_n 0, 1) := by decide +kernel
theorem own_d3_1 : decode prog_18_method_2_code 1 = .ok (.lload_n 1, 1) := by decide +kernel
theorem own_d3_2 : decode prog_18_method_2_code 2 = .ok (.invokevirtual 43, 3) := by decide +kernel
theorem own_d3_5 : decode prog_18_method_2_code 5 = .ok (.astore_n 3, 1) := by decide +kernel
theorem own_d3_6 : decode prog_18_method_2_code 6 = .ok (.aload_n 3, 1) := by decide +kernel
theorem own_d3_7 : decode prog_18_method_2_code 7 = .ok (.getfield 47, 3) := by decide +kernel
theorem own_d3_10 : decode prog_18_method_2_code 10 = .ok (.lload_n 1, 1) := by decide +kernel
theorem own_d3_11 : decode prog_18_method_2_code 11 = .ok (.lsub, 1) := by decide +kernel
theorem own_d3_12 : decode prog_18_method_2_code 12 = .ok (.lconst 0, 1) := by decide +kernel
theorem own_d3_13 : decode prog_18_method_2_code 13 = .ok (.lcmp, 1) := by decide +kernel
theorem own_d3_14 : decode prog_18_method_2_code 14 = .ok (.ifCond .le 5, 3) := by decide +kernel
theorem own_d3_19 : decode prog_18_method_2_code 19 = .ok (.getstatic 52, 3) := by decide +kernel
theorem own_d3_22 : decode prog_18_method_2_code 22 = .ok (.aload_n 3, 1) := by decide +kernel
theorem own_d3_23 : decode prog_18_method_2_code 23 = .ok (.getfield 58, 3) := by decide +kernel
theorem own_d3_26 : decode prog_18_method_2_code 26 = .ok (.invokevirtual 62, 3) := by decide +kernel
theorem own_d3_29 : decode prog_18_method_2_code 29 = .ok (.iaload, 1) := by decide +kernel
theorem own_d3_30 : decode prog_18_method_2_code 30 = .ok (.tableswitch 85 1 4 #[30, 38, 85, 85], 30) := by decide +kernel
theorem own_d3_60 : decode prog_18_method_2_code 60 = .ok (.aload_n 0, 1) := by decide +kernel
theorem own_d3_61 : decode prog_18_method_2_code 61 = .ok (.lload_n 1, 1) := by decide +kernel
theorem own_d3_62 : decode prog_18_method_2_code 62 = .ok (.putfield 68, 3) := by decide +kernel
theorem own_d3_65 : decode prog_18_method_2_code 65 = .ok (.goto 50, 3) := by decide +kernel
theorem own_d3_115 : decode prog_18_method_2_code 115 = .ok (.aload_n 0, 1) := by decide +kernel
theorem own_d3_116 : decode prog_18_method_2_code 116 = .ok (.aload_n 3, 1) := by decide +kernel
theorem own_d3_117 : decode prog_18_method_2_code 117 = .ok (.getfield 58, 3) := by decide +kernel
theorem own_d3_120 : decode prog_18_method_2_code 120 = .ok (.putfield 71, 3) := by decide +kernel
theorem own_d3_123 : decode prog_18_method_2_code 123 = .ok (.aload_n 0, 1) := by decide +kernel
theorem own_d3_124 : decode prog_18_method_2_code 124 = .ok (.getfield 13, 3) := by decide +kernel
theorem own_d3_127 : decode prog_18_method_2_code 127 = .ok (.aload_n 0, 1) := by decide +kernel
theorem own_d3_128 : decode prog_18_method_2_code 128 = .ok (.getfield 80, 3) := by decide +kernel
theorem own_d3_131 : decode prog_18_method_2_code 131 = .ok (.ldc2_w 83, 3) := by decide +kernel
theorem own_d3_134 : decode prog_18_method_2_code 134 = .ok (.lrem, 1) := by decide +kernel
theorem own_d3_135 : decode prog_18_method_2_code 135 = .ok (.l2i, 1) := by decide +kernel
theorem own_d3_136 : decode prog_18_method_2_code 136 = .ok (.lload_n 1, 1) := by decide +kernel
theorem own_d3_137 : decode prog_18_method_2_code 137 = .ok (.lastore, 1) := by decide +kernel
theorem own_d3_138 : decode prog_18_method_2_code 138 = .ok (.aload_n 3, 1) := by decide +kernel
theorem own_d3_139 : decode prog_18_method_2_code 139 = .ok (.getfield 58, 3) := by decide +kernel
theorem own_d3_142 : decode prog_18_method_2_code 142 = .ok (.areturn, 1) := by decide +kernel
def QtkA (Z : State) (pt : Addr) (pn : Int64) (zc : Addr) (aa : Addr) (sa : Addr) (sm : Addr) (ka : Int64) (h0 : Heap) (n0 : Nat) (v : Option Value) (h : Heap) (L : List Loc) : Prop := v = some (.ref zc) ∧ Fr n0 L ∧ Keep h0 h [pt, sa] ∧ Fld Z h pt "com/example/tallywire/tallywire/flaps/Pacer" "answers" "[J" (.ref aa) ∧ Fld Z h pt "com/example/tallywire/tallywire/flaps/Pacer" "sent" "[J" (.ref sa) ∧ Fld Z h pt "com/example/tallywire/tallywire/flaps/Pacer" "pollNanos" "J" (.long (0 : Int64)) ∧ Fld Z h pt "com/example/tallywire/tallywire/flaps/Pacer" "keepaliveNanos" "J" (.long ka) ∧ Fld Z h pt "com/example/tallywire/tallywire/flaps/Pacer" "answered" "J" (.long (0 : Int64)) ∧ Fld Z h pt "com/example/tallywire/tallywire/flaps/Pacer" "lastAnswer" "J" (.long (0 : Int64)) ∧ Fld Z h pt "com/example/tallywire/tallywire/flaps/Pacer" "taken" "Lcom/example/tallywire/tallywire/flaps/Command;" (.ref zc) ∧ Fld Z h pt "com/example/tallywire/tallywire/flaps/Pacer" "nextPoll" "J" (.long pn) ∧ own_LA Z h aa  ∧ own_LA Z h sa 
set_option maxRecDepth 65536 in
set_option maxHeartbeats 40000000 in
theorem rmtkA (l : Launch) (Z : State) (a0 : Array Value) (hw : ∀ d ∈ tables_1, d.before a0 Z = true) (ws : List Jvm.Cond) (pt : Addr) (pn : Int64) (zc : Addr) (aa : Addr) (sa : Addr) (sm : Addr) (ka : Int64) (h0 : Heap) (n0 : Nat) (Z0 : n0 ≤ h0.size) (EP : Exa Z h0 pt "com/example/tallywire/tallywire/flaps/Pacer") (gp : n0 ≤ pt) (f_0 : Fld Z h0 pt "com/example/tallywire/tallywire/flaps/Pacer" "answers" "[J" (.ref aa)) (f_1 : Fld Z h0 pt "com/example/tallywire/tallywire/flaps/Pacer" "sent" "[J" (.ref sa)) (f_2 : Fld Z h0 pt "com/example/tallywire/tallywire/flaps/Pacer" "pollNanos" "J" (.long (0 : Int64))) (f_3 : Fld Z h0 pt "com/example/tallywire/tallywire/flaps/Pacer" "keepaliveNanos" "J" (.long ka)) (f_4 : Fld Z h0 pt "com/example/tallywire/tallywire/flaps/Pacer" "answered" "J" (.long (0 : Int64))) (f_5 : Fld Z h0 pt "com/example/tallywire/tallywire/flaps/Pacer" "lastAnswer" "J" (.long (0 : Int64))) (f_6 : Fld Z h0 pt "com/example/tallywire/tallywire/flaps/Pacer" "taken" "Lcom/example/tallywire/tallywire/flaps/Command;" .null) (f_7 : Fld Z h0 pt "com/example/tallywire/tallywire/flaps/Pacer" "nextPoll" "J" (.long (0 : Int64))) (f_8 : own_LA Z h0 aa ) (f_9 : own_LA Z h0 sa ) (nas : aa ≠ sa) (nps : pt ≠ sa) (npa : pt ≠ aa) (nms : sm ≠ sa) (nmp : sm ≠ pt) (nma : sm ≠ aa) (gs : n0 ≤ sa) (gA : n0 ≤ aa) (Ssm : Sta Z h0 "com/example/tallywire/tallywire/flaps/Pacer$1" "$SwitchMap$com$example$tallywire$tallywire$flaps$Command" "[I" (.ref sm)) (Xsm : own_SM Z h0 sm ) (Sc : Sta Z h0 "com/example/tallywire/tallywire/flaps/Command" "CAPABILITIES" "Lcom/example/tallywire/tallywire/flaps/Command;" (.ref zc)) (Ezzc : Exa Z h0 zc "com/example/tallywire/tallywire/flaps/Command") (Ozzc : Fld Z h0 zc "java/lang/Enum" "ordinal" "I" (.int (0 : Int32))) (nz1zc : zc ≠ pt) (nz2zc : zc ≠ sa) :
    MetFree l (⟨"com/example/tallywire/tallywire/flaps/Pacer", "take", "(J)Lcom/example/tallywire/tallywire/flaps/Command;"⟩ : MethodName) (head1 (Jvm.Cond.code (⟨"com/example/tallywire/tallywire/flaps/Pacer", "take", "(J)Lcom/example/tallywire/tallywire/flaps/Command;"⟩ : MethodName) prog_18_method_2_code 4 (some (.object "com/example/tallywire/tallywire/flaps/Command")) :: ws) ({ frames := 4, cells := 1, slots := 2, locals := 64 } : Room)) (fun a U => a = #[(.ref pt), (.long pn)] ∧ Z.Warmed39 U.vm ∧ U.heap = h0) (fun _ _ _ _ _ => True) (fun _ U o U' => ∃ v L, o = .returned v ∧ QtkA Z pt pn zc aa sa sm ka h0 n0 v U'.heap L ∧ FrameEnd U o U' L ({ frames := 4, cells := 1, slots := 2, locals := 64 } : Room).cells ({ frames := 4, cells := 1, slots := 2, locals := 64 } : Room).slots) := by
  refine MetFree.of_bodySF (plainFor_of_name own_pn_com_example_tallywire_tallywire_flaps_Pacer) hisR ?_
  intro p e s m args below meth c s₁ Bd hml0 hP hK
  obtain ⟨rfl, hZ, hh⟩ := hP
  have hx := Bd.exec
  have hby := Bd.bytes
  have hml : c.maxLocals = 4 := hml0
  have hlk := Bd.notSynchronized
  have hown : s.vm.findClass "com/example/tallywire/tallywire/flaps/Pacer" = some m.cls := findClass_of_methodNamed Bd.named
  have hnm := (name_of_methodNamed Bd.named Bd.method).1
  have X0 : Stand p l e ({ frames := 4, cells := 1, slots := 2, locals := 64 } : Room) s m #[(.ref pt), (.long pn)] below meth c s₁ [] 0 0 := Stand.of_body Bd
  have e0 : s₁.heap = h0 := by rw [← hh, Bd.state]; rfl
  have N0 := Fr.nil n0
  have K0 : Keep h0 h0 [pt, sa] := Keep.refl _ _
  refine own_enter (Q := QtkA Z pt pn zc aa sa sm ka h0 n0) (Ls := #[.val (.ref pt), .val (.long pn), .second, .unset]) (by first | (simp [entryFrame, mkF, argsToLocals, Value.category]; done) | rfl) ?_
  refine own_aloadN X0 hx 1 rfl (hb hby own_d3_0) rfl rfl ?_
  refine own_lloadN X0 hx 2 rfl (hb hby own_d3_1) rfl ?_
  obtain ⟨cq1, q1, q1'⟩ := EP.cell
  obtain ⟨_, _, ⟨T1, L1, k1, n1⟩, -, X1, ⟨Lc1, hQ1, l1, y1, z1⟩, st1⟩ := X0.privateBack hx (y := (⟨"com/example/tallywire/tallywire/flaps/Pacer", "plan", "(J)Lcom/example/tallywire/tallywire/flaps/Pacer$Plan;"⟩ : MethodName)) hown (mvT hZ (hw _ (List.mem_of_getElem? (i := 27) rfl))) (mvT hZ (hw _ (List.mem_of_getElem? (i := 28) rfl))) (own_selP (mvT hZ (hw _ (List.mem_of_getElem? (i := 1) rfl))) (mvP hZ (hw _ (List.mem_of_getElem? (i := 29) rfl))) (mvT hZ (hw _ (List.mem_of_getElem? (i := 28) rfl))) (by decide)) (Cond.privateMethod_at (mvP hZ (hw _ (List.mem_of_getElem? (i := 29) rfl)) (args := #[]))) (mvT hZ (hw _ (List.mem_of_getElem? (i := 30) rfl))) (by decide) (backOf (W := 0) (rmplA l Z a0 hw [] pt pn zc h0 n0 Z0 EP f_6 f_4 Sc) hZ (hw _ (List.mem_of_getElem? (i := 30) rfl)) (hw _ (List.mem_of_getElem? (i := 2) rfl)) (by decide) (by decide)) (g := (mkF m 2 #[.val (.ref pt), .val (.long pn), .second, .unset] [(.long pn), (.ref pt)])) rfl (by rw [hml]; rfl) (Steps.refl _) (a := pt) (by rw [e0]; exact q1) q1' (argsL := [(.long pn)]) (rest := []) (lenOf own_pd4 rfl) rfl (by show 2 * 0 + _ ≤ _; exact Nat.le_of_eq rfl) (hb hby own_d3_2) (fun _ _ => ⟨rfl, e0, (by decide : 0 + 1 ≤ _), (by decide : 0 + 2 ≤ _)⟩)
  dsimp only [Pt.U, Pt.locs, Pt.cells, Pt.slots] at X1 l1 y1 z1 st1 hQ1
  subst l1 y1 z1
  obtain ⟨pb_1, rfl, N1q, K1q, f1_0, f1_1, f1_2, f1_3⟩ := hQ1
  have N1 := Fr.app N0 N1q
  have ne2 : pt ≠ pb_1 := Nat.ne_of_lt (Nat.lt_of_lt_of_le EP.lt f1_0)
  have ne3 : aa ≠ pb_1 := Nat.ne_of_lt (Nat.lt_of_lt_of_le f_8.lt f1_0)
  have ne4 : sa ≠ pb_1 := Nat.ne_of_lt (Nat.lt_of_lt_of_le f_9.lt f1_0)
  have ne5 : sm ≠ pb_1 := Nat.ne_of_lt (Nat.lt_of_lt_of_le Xsm.lt f1_0)
  have ne6 : zc ≠ pb_1 := Nat.ne_of_lt (Nat.lt_of_lt_of_le Ezzc.lt f1_0)
  have GG7 : n0 ≤ pb_1 := Nat.le_trans Z0 f1_0
  have HG7 : h0.size ≤ pb_1 := Nat.le_trans K0.1 f1_0
  have f8 := EP.keep K1q
  have f9 := f_0.keep K1q nin0
  have f10 := f_1.keep K1q nin0
  have f11 := f_2.keep K1q nin0
  have f12 := f_3.keep K1q nin0
  have f13 := f_4.keep K1q nin0
  have f14 := f_5.keep K1q nin0
  have f15 := f_6.keep K1q nin0
  have f16 := f_7.keep K1q nin0
  have f17 := f_8.keep K1q nin0
  have f18 := f_9.keep K1q nin0
  have f19 := own_sta_keep Ssm K1q all0
  have f20 := Xsm.keep K1q nin0
  have f21 := own_sta_keep Sc K1q all0
  have f22 := Ezzc.keep K1q
  have f23 := Ozzc.keep K1q nin0
  have K1 := K0.trans K1q all0
  have Z1 := Nat.le_trans Z0 K1q.1
  refine Goes.tr st1 ?_
  show Goes p e below s _ _ _ T1 (mkF m 5 #[.val (.ref pt), .val (.long pn), .second, .unset] [(.ref pb_1)])
  refine own_astoreN X1 hx 6 rfl #[.val (.ref pt), .val (.long pn), .second, .val (.ref pb_1)] (hb hby own_d3_5) rfl rfl ?_
  refine own_aloadN X1 hx 7 rfl (hb hby own_d3_6) rfl rfl ?_
  refine Goes.go (own_getFR X1 hx hZ hown (hw _ (List.mem_of_getElem? (i := 58) rfl)) rfl f1_3 (g := (mkF m 7 #[.val (.ref pt), .val (.long pn), .second, .val (.ref pb_1)] [(.ref pb_1)])) rfl rfl (hb hby own_d3_7)) ?_
  show Goes p e below s _ _ _ T1 (mkF m 10 #[.val (.ref pt), .val (.long pn), .second, .val (.ref pb_1)] [(.long pn)])
  refine own_lloadN X1 hx 11 rfl (hb hby own_d3_10) rfl ?_
  refine own_lsub X1 hx 12 rfl (hb hby own_d3_11) rfl ?_
  refine own_lconst X1 hx 13 rfl (0 : Int64) (hb hby own_d3_12) (by decide) ?_
  refine own_lcmp X1 hx 14 rfl (hb hby own_d3_13) ?_
  refine own_ifY X1 hx 19 (hb hby own_d3_14) (Lflt (own_sub0 _ : ¬ ((0 : Int64) < (pn - pn)))).2.2.2 (by decide) (by decide) ?_
  obtain ⟨T24, X24, e24, st24⟩ := getS2 X1 hx hZ hown (host := "") (Or.inl (hw _ (List.mem_of_getElem? (i := 59) rfl))) Via.refl rfl f19 (g := (mkF m 19 #[.val (.ref pt), .val (.long pn), .second, .val (.ref pb_1)] [])) rfl (hb hby own_d3_19)
  refine Goes.go st24 ?_
  show Goes p e below s _ _ _ T24 (mkF m 22 #[.val (.ref pt), .val (.long pn), .second, .val (.ref pb_1)] [(.ref sm)])
  refine own_aloadN X24 hx 23 rfl (hb hby own_d3_22) rfl rfl ?_
  refine Goes.go (own_getFR X24 hx hZ hown (hw _ (List.mem_of_getElem? (i := 62) rfl)) e24 f1_2 (g := (mkF m 23 #[.val (.ref pt), .val (.long pn), .second, .val (.ref pb_1)] [(.ref pb_1), (.ref sm)])) rfl rfl (hb hby own_d3_23)) ?_
  show Goes p e below s _ _ _ T24 (mkF m 26 #[.val (.ref pt), .val (.long pn), .second, .val (.ref pb_1)] [(.ref zc), (.ref sm)])
  obtain ⟨cq25, kq25, q25a, q25b, q25c⟩ := isOf hZ e24 f22
  obtain ⟨_, _, ⟨T25, L25, k25, n25⟩, -, X25, ⟨Lc25, hQ25, l25, y25, z25⟩, st25⟩ := X24.virtualBackUp hx (x := (⟨"com/example/tallywire/tallywire/flaps/Command", "ordinal", "()I"⟩ : MethodName)) (y := (⟨"java/lang/Enum", "ordinal", "()I"⟩ : MethodName)) hown (mvT hZ (hw _ (List.mem_of_getElem? (i := 63) rfl))) (mvT hZ (hw _ (List.mem_of_getElem? (i := 64) rfl))) (mvT hZ (hw _ (List.mem_of_getElem? (i := 65) rfl))) (by decide) (mvT hZ (hw _ (List.mem_of_getElem? (i := 67) rfl))) (mvT hZ (hw _ (List.mem_of_getElem? (i := 66) rfl))) (backOf (W := 1) (rm8 l Z a0 hw [] zc (0 : Int32) T1.heap n0 Z1 f23) hZ (hw _ (List.mem_of_getElem? (i := 69) rfl)) (hw _ (List.mem_of_getElem? (i := 68) rfl)) (by decide) (by decide)) q25a q25c (g := (mkF m 26 #[.val (.ref pt), .val (.long pn), .second, .val (.ref pb_1)] [(.ref zc), (.ref sm)])) rfl (by rw [hml]; rfl) (Steps.refl _) (argsL := []) (rest := [(.ref sm)]) (lenOf own_pd5 rfl) rfl (by show 2 * 0 + _ ≤ _; exact Nat.le_of_eq rfl) (hb hby own_d3_26) (fun _ _ => ⟨rfl, e24, (by decide : 1 + 0 ≤ _), (by decide : 2 + 0 ≤ _)⟩)
  dsimp only [Pt.U, Pt.locs, Pt.cells, Pt.slots] at X25 l25 y25 z25 st25 hQ25
  subst l25 y25 z25
  obtain ⟨rfl, N25q, eh25⟩ := hQ25
  have N25 := Fr.app N1 N25q
  refine Goes.tr st25 ?_
  show Goes p e below s _ _ _ T25 (mkF m 29 #[.val (.ref pt), .val (.long pn), .second, .val (.ref pb_1)] [(.int (0 : Int32)), (.ref sm)])
  obtain ⟨cl26, Ar26, S26, e0_26, e3_26⟩ := id f20
  have hin26 : ¬ ((0 : Int32) < 0 ∨ cl26.slots.size ≤ ((0 : Int32)).toNatClampNeg) := by rw [S26]; decide
  refine Goes.go (X25.iaload hx (j := (0 : Int32)) (v := .int (1 : Int32)) (by rw [eh25]; exact Ar26.1) (State.isArrayOf_alike hZ.alike Ar26.2.1) Ar26.2.2 hin26 e0_26 (g := (mkF m 29 #[.val (.ref pt), .val (.long pn), .second, .val (.ref pb_1)] [(.int (0 : Int32)), (.ref sm)])) rfl rfl (hb hby own_d3_29)) ?_
  show Goes p e below s _ _ _ T25 (mkF m 30 #[.val (.ref pt), .val (.long pn), .second, .val (.ref pb_1)] [(.int (1 : Int32))])
  refine Goes.go (fun _ k => XS.tswIn X25.here hx rfl (g := (mkF m 30 #[.val (.ref pt), .val (.long pn), .second, .val (.ref pb_1)] [(.int (1 : Int32))])) (pc0 := 30) (pc' := 60) rfl (hb hby own_d3_30) rfl (by decide) rfl (by decide) (by decide) k) ?_
  show Goes p e below s _ _ _ T25 (mkF m 60 #[.val (.ref pt), .val (.long pn), .second, .val (.ref pb_1)] [])
  refine own_aloadN X25 hx 61 rfl (hb hby own_d3_60) rfl rfl ?_
  refine own_lloadN X25 hx 62 rfl (hb hby own_d3_61) rfl ?_
  obtain ⟨T27, h27, X27, e27, W27, st27⟩ := putF X25 hx hZ hown (host := "") (Or.inl (hw _ (List.mem_of_getElem? (i := 72) rfl))) Via.refl eh25 f16 f8 (Or.inl (hw _ (List.mem_of_getElem? (i := 73) rfl))) (hw _ (List.mem_of_getElem? (i := 1) rfl)) (ty := .long) (by decide) rfl rfl (g := (mkF m 62 #[.val (.ref pt), .val (.long pn), .second, .val (.ref pb_1)] [(.long pn), (.ref pt)])) rfl rfl (hb hby own_d3_62)
  have N27 := Fr.snoc X27 N25 gp
  have f28 := f8.wr W27
  have f29 := f9.other W27 (Or.inr (slot_ne (Or.inr (hw _ (List.mem_of_getElem? (i := 11) rfl))) (Or.inl (hw _ (List.mem_of_getElem? (i := 73) rfl))) (by decide) (t := (.array .long)) (t' := .long) (by decide) (by decide)))
  have f30 := f10.other W27 (Or.inr (slot_ne (Or.inr (hw _ (List.mem_of_getElem? (i := 13) rfl))) (Or.inl (hw _ (List.mem_of_getElem? (i := 73) rfl))) (by decide) (t := (.array .long)) (t' := .long) (by decide) (by decide)))
  have f31 := f11.other W27 (Or.inr (slot_ne (Or.inr (hw _ (List.mem_of_getElem? (i := 15) rfl))) (Or.inl (hw _ (List.mem_of_getElem? (i := 73) rfl))) (by decide) (t := .long) (t' := .long) (by decide) (by decide)))
  have f32 := f12.other W27 (Or.inr (slot_ne (Or.inr (hw _ (List.mem_of_getElem? (i := 17) rfl))) (Or.inl (hw _ (List.mem_of_getElem? (i := 73) rfl))) (by decide) (t := .long) (t' := .long) (by decide) (by decide)))
  have f33 := f13.other W27 (Or.inr (slot_ne (Or.inl (hw _ (List.mem_of_getElem? (i := 44) rfl))) (Or.inl (hw _ (List.mem_of_getElem? (i := 73) rfl))) (by decide) (t := .long) (t' := .long) (by decide) (by decide)))
  have f34 := f14.other W27 (Or.inr (slot_ne (Or.inl (hw _ (List.mem_of_getElem? (i := 81) rfl))) (Or.inl (hw _ (List.mem_of_getElem? (i := 73) rfl))) (by decide) (t := .long) (t' := .long) (by decide) (by decide)))
  have f35 := f15.other W27 (Or.inr (slot_ne (Or.inl (hw _ (List.mem_of_getElem? (i := 32) rfl))) (Or.inl (hw _ (List.mem_of_getElem? (i := 73) rfl))) (by decide) (t := (.object "com/example/tallywire/tallywire/flaps/Command")) (t' := .long) (by decide) (by decide)))
  have f36 := f16.same W27
  have f37 := f17.other W27 (Ne.symm npa)
  have f38 := f18.other W27 (Ne.symm nps)
  have f39 := f19.wr W27
  have f40 := f20.other W27 nmp
  have f41 := f21.wr W27
  have f42 := f22.wr W27
  have f43 := f23.other W27 (Or.inl nz1zc)
  have f44 := f1_1.wr W27
  have f45 := f1_2.other W27 (Or.inl (Ne.symm ne2))
  have f46 := f1_3.other W27 (Or.inl (Ne.symm ne2))
  have K27 := K1.wr W27 (Or.inl (List.mem_of_getElem? (i := 0) rfl))
  have Z27 := Nat.le_trans Z1 (Nat.le_of_eq W27.size.symm)
  refine Goes.go st27 ?_
  show Goes p e below s _ _ _ T27 (mkF m 65 #[.val (.ref pt), .val (.long pn), .second, .val (.ref pb_1)] [])
  refine own_goto X27 hx 115 (hb hby own_d3_65) (by decide) (by decide) ?_
  refine own_aloadN X27 hx 116 rfl (hb hby own_d3_115) rfl rfl ?_
  refine own_aloadN X27 hx 117 rfl (hb hby own_d3_116) rfl rfl ?_
  refine Goes.go (own_getFR X27 hx hZ hown (hw _ (List.mem_of_getElem? (i := 62) rfl)) e27 f45 (g := (mkF m 117 #[.val (.ref pt), .val (.long pn), .second, .val (.ref pb_1)] [(.ref pb_1), (.ref pt)])) rfl rfl (hb hby own_d3_117)) ?_
  show Goes p e below s _ _ _ T27 (mkF m 120 #[.val (.ref pt), .val (.long pn), .second, .val (.ref pb_1)] [(.ref zc), (.ref pt)])
  obtain ⟨T47, h47, X47, e47, W47, st47⟩ := putF X27 hx hZ hown (host := "") (Or.inl (hw _ (List.mem_of_getElem? (i := 31) rfl))) Via.refl e27 f35 f28 (Or.inl (hw _ (List.mem_of_getElem? (i := 32) rfl))) (hw _ (List.mem_of_getElem? (i := 1) rfl)) (ty := (.object "com/example/tallywire/tallywire/flaps/Command")) (by decide) rfl rfl (g := (mkF m 120 #[.val (.ref pt), .val (.long pn), .second, .val (.ref pb_1)] [(.ref zc), (.ref pt)])) rfl rfl (hb hby own_d3_120)
  have N47 := Fr.snoc X47 N27 gp
  have f48 := f28.wr W47
  have f49 := f29.other W47 (Or.inr (slot_ne (Or.inr (hw _ (List.mem_of_getElem? (i := 11) rfl))) (Or.inl (hw _ (List.mem_of_getElem? (i := 32) rfl))) (by decide) (t := (.array .long)) (t' := (.object "com/example/tallywire/tallywire/flaps/Command")) (by decide) (by decide)))
  have f50 := f30.other W47 (Or.inr (slot_ne (Or.inr (hw _ (List.mem_of_getElem? (i := 13) rfl))) (Or.inl (hw _ (List.mem_of_getElem? (i := 32) rfl))) (by decide) (t := (.array .long)) (t' := (.object "com/example/tallywire/tallywire/flaps/Command")) (by decide) (by decide)))
  have f51 := f31.other W47 (Or.inr (slot_ne (Or.inr (hw _ (List.mem_of_getElem? (i := 15) rfl))) (Or.inl (hw _ (List.mem_of_getElem? (i := 32) rfl))) (by decide) (t := .long) (t' := (.object "com/example/tallywire/tallywire/flaps/Command")) (by decide) (by decide)))
  have f52 := f32.other W47 (Or.inr (slot_ne (Or.inr (hw _ (List.mem_of_getElem? (i := 17) rfl))) (Or.inl (hw _ (List.mem_of_getElem? (i := 32) rfl))) (by decide) (t := .long) (t' := (.object "com/example/tallywire/tallywire/flaps/Command")) (by decide) (by decide)))
  have f53 := f33.other W47 (Or.inr (slot_ne (Or.inl (hw _ (List.mem_of_getElem? (i := 44) rfl))) (Or.inl (hw _ (List.mem_of_getElem? (i := 32) rfl))) (by decide) (t := .long) (t' := (.object "com/example/tallywire/tallywire/flaps/Command")) (by decide) (by decide)))
  have f54 := f34.other W47 (Or.inr (slot_ne (Or.inl (hw _ (List.mem_of_getElem? (i := 81) rfl))) (Or.inl (hw _ (List.mem_of_getElem? (i := 32) rfl))) (by decide) (t := .long) (t' := (.object "com/example/tallywire/tallywire/flaps/Command")) (by decide) (by decide)))
  have f55 := f35.same W47
  have f56 := f36.other W47 (Or.inr (slot_ne (Or.inl (hw _ (List.mem_of_getElem? (i := 73) rfl))) (Or.inl (hw _ (List.mem_of_getElem? (i := 32) rfl))) (by decide) (t := .long) (t' := (.object "com/example/tallywire/tallywire/flaps/Command")) (by decide) (by decide)))
  have f57 := f37.other W47 (Ne.symm npa)
  have f58 := f38.other W47 (Ne.symm nps)
  have f59 := f39.wr W47
  have f60 := f40.other W47 nmp
  have f61 := f41.wr W47
  have f62 := f42.wr W47
  have f63 := f43.other W47 (Or.inl nz1zc)
  have f64 := f44.wr W47
  have f65 := f45.other W47 (Or.inl (Ne.symm ne2))
  have f66 := f46.other W47 (Or.inl (Ne.symm ne2))
  have K47 := K27.wr W47 (Or.inl (List.mem_of_getElem? (i := 0) rfl))
  have Z47 := Nat.le_trans Z27 (Nat.le_of_eq W47.size.symm)
  refine Goes.go st47 ?_
  show Goes p e below s _ _ _ T47 (mkF m 123 #[.val (.ref pt), .val (.long pn), .second, .val (.ref pb_1)] [])
  refine own_aloadN X47 hx 124 rfl (hb hby own_d3_123) rfl rfl ?_
  obtain ⟨T67, X67, e67, st67⟩ := getF X47 hx hZ hown (host := "") (Or.inl (hw _ (List.mem_of_getElem? (i := 12) rfl))) Via.refl e47 f50 (g := (mkF m 124 #[.val (.ref pt), .val (.long pn), .second, .val (.ref pb_1)] [(.ref pt)])) rfl rfl (hb hby own_d3_124)
  refine Goes.go st67 ?_
  show Goes p e below s _ _ _ T67 (mkF m 127 #[.val (.ref pt), .val (.long pn), .second, .val (.ref pb_1)] [(.ref sa)])
  refine own_aloadN X67 hx 128 rfl (hb hby own_d3_127) rfl rfl ?_
  obtain ⟨T68, X68, e68, st68⟩ := getF X67 hx hZ hown (host := "") (Or.inl (hw _ (List.mem_of_getElem? (i := 43) rfl))) Via.refl e67 f53 (g := (mkF m 128 #[.val (.ref pt), .val (.long pn), .second, .val (.ref pb_1)] [(.ref pt), (.ref sa)])) rfl rfl (hb hby own_d3_128)
  refine Goes.go st68 ?_
  show Goes p e below s _ _ _ T68 (mkF m 131 #[.val (.ref pt), .val (.long pn), .second, .val (.ref pb_1)] [(.long (0 : Int64)), (.ref sa)])
  refine Goes.go (X68.ldc2Long hx hown (mvT hZ (hw _ (List.mem_of_getElem? (i := 74) rfl))) (g := (mkF m 131 #[.val (.ref pt), .val (.long pn), .second, .val (.ref pb_1)] [(.long (0 : Int64)), (.ref sa)])) rfl (hb hby own_d3_131)) ?_
  show Goes p e below s _ _ _ T68 (mkF m 134 #[.val (.ref pt), .val (.long pn), .second, .val (.ref pb_1)] [(.long (15 : Int64)), (.long (0 : Int64)), (.ref sa)])
  refine own_lrem X68 hx 135 rfl (z := (0 : Int64)) (hb hby own_d3_134) (by decide) (by decide) ?_
  refine own_l2i X68 hx 136 rfl (z := (0 : Int32)) (hb hby own_d3_135) (by decide) ?_
  refine own_lloadN X68 hx 137 rfl (hb hby own_d3_136) rfl ?_
  obtain ⟨cl69, Ar69, S69⟩ := f58
  have hin69 : ¬ ((0 : Int32) < 0 ∨ cl69.slots.size ≤ ((0 : Int32)).toNatClampNeg) := by rw [S69]; decide
  obtain ⟨T69, h69, X69, e69, W69, st69⟩ := stJ X68 hx hZ e68 Ar69 (j := (0 : Int32)) hin69 (g := (mkF m 137 #[.val (.ref pt), .val (.long pn), .second, .val (.ref pb_1)] [(.long pn), (.int (0 : Int32)), (.ref sa)])) rfl rfl (hb hby own_d3_137)
  have V69 : own_LA Z h69 sa := ⟨_, Ar69.same W69, by rw [sz_set]; exact S69⟩
  have N69 := Fr.snoc X69 N47 gs
  have f70 := f48.wr W69
  have f71 := f49.other W69 (Or.inl nps)
  have f72 := f50.other W69 (Or.inl nps)
  have f73 := f51.other W69 (Or.inl nps)
  have f74 := f52.other W69 (Or.inl nps)
  have f75 := f53.other W69 (Or.inl nps)
  have f76 := f54.other W69 (Or.inl nps)
  have f77 := f55.other W69 (Or.inl nps)
  have f78 := f56.other W69 (Or.inl nps)
  have f79 := f57.other W69 nas
  have f80 := f59.wr W69
  have f81 := f60.other W69 nms
  have f82 := f61.wr W69
  have f83 := f62.wr W69
  have f84 := f63.other W69 (Or.inl nz2zc)
  have f85 := f64.wr W69
  have f86 := f65.other W69 (Or.inl (Ne.symm ne4))
  have f87 := f66.other W69 (Or.inl (Ne.symm ne4))
  have K69 := K47.wr W69 (Or.inl (List.mem_of_getElem? (i := 1) rfl))
  have Z69 := Nat.le_trans Z47 (Nat.le_of_eq W69.size.symm)
  refine Goes.go st69 ?_
  show Goes p e below s _ _ _ T69 (mkF m 138 #[.val (.ref pt), .val (.long pn), .second, .val (.ref pb_1)] [])
  refine own_aloadN X69 hx 139 rfl (hb hby own_d3_138) rfl rfl ?_
  refine Goes.go (own_getFR X69 hx hZ hown (hw _ (List.mem_of_getElem? (i := 62) rfl)) e69 f86 (g := (mkF m 139 #[.val (.ref pt), .val (.long pn), .second, .val (.ref pb_1)] [(.ref pb_1)])) rfl rfl (hb hby own_d3_139)) ?_
  show Goes p e below s _ _ _ T69 (mkF m 142 #[.val (.ref pt), .val (.long pn), .second, .val (.ref pb_1)] [(.ref zc)])
  refine own_retR X69 hx hlk Bd.returns rfl rfl (hb hby own_d3_142) (by decide) (by decide) e69 ?_
  exact ⟨rfl, N69, K69, f71, f72, f73, f74, f75, f76, f77, f78, f79, V69⟩
def QtkB (Z : State) (pt : Addr) (pn : Int64) (zt : Addr) (zq : Addr) (zp : Addr) (aa : Addr) (sa : Addr) (sm : Addr) (la : Int64) (ka : Int64) (np : Int64) (h0 : Heap) (n0 : Nat) (v : Option Value) (h : Heap) (L : List Loc) : Prop := v = some (.ref zp) ∧ Fr n0 L ∧ Keep h0 h [pt, sa] ∧ Fld Z h pt "com/example/tallywire/tallywire/flaps/Pacer" "answers" "[J" (.ref aa) ∧ Fld Z h pt "com/example/tallywire/tallywire/flaps/Pacer" "sent" "[J" (.ref sa) ∧ Fld Z h pt "com/example/tallywire/tallywire/flaps/Pacer" "pollNanos" "J" (.long (0 : Int64)) ∧ Fld Z h pt "com/example/tallywire/tallywire/flaps/Pacer" "keepaliveNanos" "J" (.long ka) ∧ Fld Z h pt "com/example/tallywire/tallywire/flaps/Pacer" "answered" "J" (.long (1 : Int64)) ∧ Fld Z h pt "com/example/tallywire/tallywire/flaps/Pacer" "lastAnswer" "J" (.long la) ∧ Fld Z h pt "com/example/tallywire/tallywire/flaps/Pacer" "taken" "Lcom/example/tallywire/tallywire/flaps/Command;" (.ref zp) ∧ Fld Z h pt "com/example/tallywire/tallywire/flaps/Pacer" "nextPoll" "J" (.long np) ∧ own_LA Z h aa  ∧ own_LA Z h sa 
set_option maxRecDepth 65536 in
set_option maxHeartbeats 40000000 in
theorem rmtkB (l : Launch) (Z : State) (a0 : Array Value) (hw : ∀ d ∈ tables_1, d.before a0 Z = true) (ws : List Jvm.Cond) (pt : Addr) (pn : Int64) (zt : Addr) (zq : Addr) (zp : Addr) (aa : Addr) (sa : Addr) (sm : Addr) (la : Int64) (ka : Int64) (np : Int64) (h0 : Heap) (n0 : Nat) (Z0 : n0 ≤ h0.size) (EP : Exa Z h0 pt "com/example/tallywire/tallywire/flaps/Pacer") (gp : n0 ≤ pt) (f_0 : Fld Z h0 pt "com/example/tallywire/tallywire/flaps/Pacer" "answers" "[J" (.ref aa)) (f_1 : Fld Z h0 pt "com/example/tallywire/tallywire/flaps/Pacer" "sent" "[J" (.ref sa)) (f_2 : Fld Z h0 pt "com/example/tallywire/tallywire/flaps/Pacer" "pollNanos" "J" (.long (0 : Int64))) (f_3 : Fld Z h0 pt "com/example/tallywire/tallywire/flaps/Pacer" "keepaliveNanos" "J" (.long ka)) (f_4 : Fld Z h0 pt "com/example/tallywire/tallywire/flaps/Pacer" "answered" "J" (.long (1 : Int64))) (f_5 : Fld Z h0 pt "com/example/tallywire/tallywire/flaps/Pacer" "lastAnswer" "J" (.long la)) (f_6 : Fld Z h0 pt "com/example/tallywire/tallywire/flaps/Pacer" "taken" "Lcom/example/tallywire/tallywire/flaps/Command;" (.ref zt)) (f_7 : Fld Z h0 pt "com/example/tallywire/tallywire/flaps/Pacer" "nextPoll" "J" (.long np)) (f_8 : own_LA Z h0 aa ) (f_9 : own_LA Z h0 sa ) (nas : aa ≠ sa) (nps : pt ≠ sa) (npa : pt ≠ aa) (nms : sm ≠ sa) (nmp : sm ≠ pt) (nma : sm ≠ aa) (gs : n0 ≤ sa) (gA : n0 ≤ aa) (Ssm : Sta Z h0 "com/example/tallywire/tallywire/flaps/Pacer$1" "$SwitchMap$com$example$tallywire$tallywire$flaps$Command" "[I" (.ref sm)) (Xsm : own_SM Z h0 sm ) (Sa : Sta Z h0 "com/example/tallywire/tallywire/flaps/Command" "ACTIVE_FLAPS" "Lcom/example/tallywire/tallywire/flaps/Command;" (.ref zq)) (nta : zt ≠ zq) (Sp : Sta Z h0 "com/example/tallywire/tallywire/flaps/Command" "PING" "Lcom/example/tallywire/tallywire/flaps/Command;" (.ref zp)) (hd : pn = (la + ka) ∨ ((la + ka) - pn) < (0 : Int64)) (Ezzp : Exa Z h0 zp "com/example/tallywire/tallywire/flaps/Command") (Ozzp : Fld Z h0 zp "java/lang/Enum" "ordinal" "I" (.int (3 : Int32))) (nz1zp : zp ≠ pt) (nz2zp : zp ≠ sa) :
    MetFree l (⟨"com/example/tallywire/tallywire/flaps/Pacer", "take", "(J)Lcom/example/tallywire/tallywire/flaps/Command;"⟩ : MethodName) (head1 (Jvm.Cond.code (⟨"com/example/tallywire/tallywire/flaps/Pacer", "take", "(J)Lcom/example/tallywire/tallywire/flaps/Command;"⟩ : MethodName) prog_18_method_2_code 4 (some (.object "com/example/tallywire/tallywire/flaps/Command")) :: ws) ({ frames := 4, cells := 1, slots := 2, locals := 64 } : Room)) (fun a U => a = #[(.ref pt), (.long pn)] ∧ Z.Warmed39 U.vm ∧ U.heap = h0) (fun _ _ _ _ _ => True) (fun _ U o U' => ∃ v L, o = .returned v ∧ QtkB Z pt pn zt zq zp aa sa sm la ka np h0 n0 v U'.heap L ∧ FrameEnd U o U' L ({ frames := 4, cells := 1, slots := 2, locals := 64 } : Room).cells ({ frames := 4, cells := 1, slots := 2, locals := 64 } : Room).slots) := by
  refine MetFree.of_bodySF (plainFor_of_name own_pn_com_example_tallywire_tallywire_flaps_Pacer) hisR ?_
  intro p e s m args below meth c s₁ Bd hml0 hP hK
  obtain ⟨rfl, hZ, hh⟩ := hP
  have hx := Bd.exec
  have hby := Bd.bytes
  have hml : c.maxLocals = 4 := hml0
  have hlk := Bd.notSynchronized
  have hown : s.vm.findClass "com/example/tallywire/tallywire/flaps/Pacer" = some m.cls := findClass_of_methodNamed Bd.named
  have hnm := (name_of_methodNamed Bd.named Bd.method).1
  have X0 : Stand p l e ({ frames := 4, cells := 1, slots := 2, locals := 64 } : Room) s m #[(.ref pt), (.long pn)] below meth c s₁ [] 0 0 := Stand.of_body Bd
  have e0 : s₁.heap = h0 := by rw [← hh, Bd.state]; rfl
  have N0 := Fr.nil n0
  have K0 : Keep h0 h0 [pt, sa] := Keep.refl _ _
  refine own_enter (Q := QtkB Z pt pn zt zq zp aa sa sm la ka np h0 n0) (Ls := #[.val (.ref pt), .val (.long pn), .second, .unset]) (by first | (simp [entryFrame, mkF, argsToLocals, Value.category]; done) | rfl) ?_
  refine own_aloadN X0 hx 1 rfl (hb hby own_d3_0) rfl rfl ?_
  refine own_lloadN X0 hx 2 rfl (hb hby own_d3_1) rfl ?_
  obtain ⟨cq1, q1, q1'⟩ := EP.cell
  obtain ⟨_, _, ⟨T1, L1, k1, n1⟩, -, X1, ⟨Lc1, hQ1, l1, y1, z1⟩, st1⟩ := X0.privateBack hx (y := (⟨"com/example/tallywire/tallywire/flaps/Pacer", "plan", "(J)Lcom/example/tallywire/tallywire/flaps/Pacer$Plan;"⟩ : MethodName)) hown (mvT hZ (hw _ (List.mem_of_getElem? (i := 27) rfl))) (mvT hZ (hw _ (List.mem_of_getElem? (i := 28) rfl))) (own_selP (mvT hZ (hw _ (List.mem_of_getElem? (i := 1) rfl))) (mvP hZ (hw _ (List.mem_of_getElem? (i := 29) rfl))) (mvT hZ (hw _ (List.mem_of_getElem? (i := 28) rfl))) (by decide)) (Cond.privateMethod_at (mvP hZ (hw _ (List.mem_of_getElem? (i := 29) rfl)) (args := #[]))) (mvT hZ (hw _ (List.mem_of_getElem? (i := 30) rfl))) (by decide) (backOf (W := 0) (rmplB1 l Z a0 hw [] pt pn zt zq zp la ka h0 n0 Z0 EP f_6 Sa nta Sp f_2 f_5 f_3 f_4) hZ (hw _ (List.mem_of_getElem? (i := 30) rfl)) (hw _ (List.mem_of_getElem? (i := 2) rfl)) (by decide) (by decide)) (g := (mkF m 2 #[.val (.ref pt), .val (.long pn), .second, .unset] [(.long pn), (.ref pt)])) rfl (by rw [hml]; rfl) (Steps.refl _) (a := pt) (by rw [e0]; exact q1) q1' (argsL := [(.long pn)]) (rest := []) (lenOf own_pd4 rfl) rfl (by show 2 * 0 + _ ≤ _; exact Nat.le_of_eq rfl) (hb hby own_d3_2) (fun _ _ => ⟨rfl, e0, (by decide : 0 + 1 ≤ _), (by decide : 0 + 2 ≤ _)⟩)
  dsimp only [Pt.U, Pt.locs, Pt.cells, Pt.slots] at X1 l1 y1 z1 st1 hQ1
  subst l1 y1 z1
  obtain ⟨pb_1, pa_1, rfl, N1q, K1q, f1_0, f1_1, f1_2, f1_3, pr1_0⟩ := hQ1
  have N1 := Fr.app N0 N1q
  have ne2 : pt ≠ pb_1 := Nat.ne_of_lt (Nat.lt_of_lt_of_le EP.lt f1_0)
  have ne3 : aa ≠ pb_1 := Nat.ne_of_lt (Nat.lt_of_lt_of_le f_8.lt f1_0)
  have ne4 : sa ≠ pb_1 := Nat.ne_of_lt (Nat.lt_of_lt_of_le f_9.lt f1_0)
  have ne5 : sm ≠ pb_1 := Nat.ne_of_lt (Nat.lt_of_lt_of_le Xsm.lt f1_0)
  have ne6 : zp ≠ pb_1 := Nat.ne_of_lt (Nat.lt_of_lt_of_le Ezzp.lt f1_0)
  have GG7 : n0 ≤ pb_1 := Nat.le_trans Z0 f1_0
  have HG7 : h0.size ≤ pb_1 := Nat.le_trans K0.1 f1_0
  have f8 := EP.keep K1q
  have f9 := f_0.keep K1q nin0
  have f10 := f_1.keep K1q nin0
  have f11 := f_2.keep K1q nin0
  have f12 := f_3.keep K1q nin0
  have f13 := f_4.keep K1q nin0
  have f14 := f_5.keep K1q nin0
  have f15 := f_6.keep K1q nin0
  have f16 := f_7.keep K1q nin0
  have f17 := f_8.keep K1q nin0
  have f18 := f_9.keep K1q nin0
  have f19 := own_sta_keep Ssm K1q all0
  have f20 := Xsm.keep K1q nin0
  have f21 := own_sta_keep Sa K1q all0
  have f22 := own_sta_keep Sp K1q all0
  have f23 := Ezzp.keep K1q
  have f24 := Ozzp.keep K1q nin0
  have K1 := K0.trans K1q all0
  have Z1 := Nat.le_trans Z0 K1q.1
  refine Goes.tr st1 ?_
  show Goes p e below s _ _ _ T1 (mkF m 5 #[.val (.ref pt), .val (.long pn), .second, .unset] [(.ref pb_1)])
  refine own_astoreN X1 hx 6 rfl #[.val (.ref pt), .val (.long pn), .second, .val (.ref pb_1)] (hb hby own_d3_5) rfl rfl ?_
  refine own_aloadN X1 hx 7 rfl (hb hby own_d3_6) rfl rfl ?_
  refine Goes.go (own_getFR X1 hx hZ hown (hw _ (List.mem_of_getElem? (i := 58) rfl)) rfl f1_3 (g := (mkF m 7 #[.val (.ref pt), .val (.long pn), .second, .val (.ref pb_1)] [(.ref pb_1)])) rfl rfl (hb hby own_d3_7)) ?_
  show Goes p e below s _ _ _ T1 (mkF m 10 #[.val (.ref pt), .val (.long pn), .second, .val (.ref pb_1)] [(.long pa_1)])
  refine own_lloadN X1 hx 11 rfl (hb hby own_d3_10) rfl ?_
  refine own_lsub X1 hx 12 rfl (hb hby own_d3_11) rfl ?_
  refine own_lconst X1 hx 13 rfl (0 : Int64) (hb hby own_d3_12) (by decide) ?_
  refine own_lcmp X1 hx 14 rfl (hb hby own_d3_13) ?_
  refine own_ifY X1 hx 19 (hb hby own_d3_14) (Lflt (own_due pr1_0 hd : ¬ ((0 : Int64) < (pa_1 - pn)))).2.2.2 (by decide) (by decide) ?_
  obtain ⟨T25, X25, e25, st25⟩ := getS2 X1 hx hZ hown (host := "") (Or.inl (hw _ (List.mem_of_getElem? (i := 59) rfl))) Via.refl rfl f19 (g := (mkF m 19 #[.val (.ref pt), .val (.long pn), .second, .val (.ref pb_1)] [])) rfl (hb hby own_d3_19)
  refine Goes.go st25 ?_
  show Goes p e below s _ _ _ T25 (mkF m 22 #[.val (.ref pt), .val (.long pn), .second, .val (.ref pb_1)] [(.ref sm)])
  refine own_aloadN X25 hx 23 rfl (hb hby own_d3_22) rfl rfl ?_
  refine Goes.go (own_getFR X25 hx hZ hown (hw _ (List.mem_of_getElem? (i := 62) rfl)) e25 f1_2 (g := (mkF m 23 #[.val (.ref pt), .val (.long pn), .second, .val (.ref pb_1)] [(.ref pb_1), (.ref sm)])) rfl rfl (hb hby own_d3_23)) ?_
  show Goes p e below s _ _ _ T25 (mkF m 26 #[.val (.ref pt), .val (.long pn), .second, .val (.ref pb_1)] [(.ref zp), (.ref sm)])
  obtain ⟨cq26, kq26, q26a, q26b, q26c⟩ := isOf hZ e25 f23
  obtain ⟨_, _, ⟨T26, L26, k26, n26⟩, -, X26, ⟨Lc26, hQ26, l26, y26, z26⟩, st26⟩ := X25.virtualBackUp hx (x := (⟨"com/example/tallywire/tallywire/flaps/Command", "ordinal", "()I"⟩ : MethodName)) (y := (⟨"java/lang/Enum", "ordinal", "()I"⟩ : MethodName)) hown (mvT hZ (hw _ (List.mem_of_getElem? (i := 63) rfl))) (mvT hZ (hw _ (List.mem_of_getElem? (i := 64) rfl))) (mvT hZ (hw _ (List.mem_of_getElem? (i := 65) rfl))) (by decide) (mvT hZ (hw _ (List.mem_of_getElem? (i := 67) rfl))) (mvT hZ (hw _ (List.mem_of_getElem? (i := 66) rfl))) (backOf (W := 1) (rm8 l Z a0 hw [] zp (3 : Int32) T1.heap n0 Z1 f24) hZ (hw _ (List.mem_of_getElem? (i := 69) rfl)) (hw _ (List.mem_of_getElem? (i := 68) rfl)) (by decide) (by decide)) q26a q26c (g := (mkF m 26 #[.val (.ref pt), .val (.long pn), .second, .val (.ref pb_1)] [(.ref zp), (.ref sm)])) rfl (by rw [hml]; rfl) (Steps.refl _) (argsL := []) (rest := [(.ref sm)]) (lenOf own_pd5 rfl) rfl (by show 2 * 0 + _ ≤ _; exact Nat.le_of_eq rfl) (hb hby own_d3_26) (fun _ _ => ⟨rfl, e25, (by decide : 1 + 0 ≤ _), (by decide : 2 + 0 ≤ _)⟩)
  dsimp only [Pt.U, Pt.locs, Pt.cells, Pt.slots] at X26 l26 y26 z26 st26 hQ26
  subst l26 y26 z26
  obtain ⟨rfl, N26q, eh26⟩ := hQ26
  have N26 := Fr.app N1 N26q
  refine Goes.tr st26 ?_
  show Goes p e below s _ _ _ T26 (mkF m 29 #[.val (.ref pt), .val (.long pn), .second, .val (.ref pb_1)] [(.int (3 : Int32)), (.ref sm)])
  obtain ⟨cl27, Ar27, S27, e0_27, e3_27⟩ := id f20
  have hin27 : ¬ ((3 : Int32) < 0 ∨ cl27.slots.size ≤ ((3 : Int32)).toNatClampNeg) := by rw [S27]; decide
  refine Goes.go (X26.iaload hx (j := (3 : Int32)) (v := .int (4 : Int32)) (by rw [eh26]; exact Ar27.1) (State.isArrayOf_alike hZ.alike Ar27.2.1) Ar27.2.2 hin27 e3_27 (g := (mkF m 29 #[.val (.ref pt), .val (.long pn), .second, .val (.ref pb_1)] [(.int (3 : Int32)), (.ref sm)])) rfl rfl (hb hby own_d3_29)) ?_
  show Goes p e below s _ _ _ T26 (mkF m 30 #[.val (.ref pt), .val (.long pn), .second, .val (.ref pb_1)] [(.int (4 : Int32))])
  refine Goes.go (fun _ k => XS.tswIn X26.here hx rfl (g := (mkF m 30 #[.val (.ref pt), .val (.long pn), .second, .val (.ref pb_1)] [(.int (4 : Int32))])) (pc0 := 30) (pc' := 115) rfl (hb hby own_d3_30) rfl (by decide) rfl (by decide) (by decide) k) ?_
  show Goes p e below s _ _ _ T26 (mkF m 115 #[.val (.ref pt), .val (.long pn), .second, .val (.ref pb_1)] [])
  refine own_aloadN X26 hx 116 rfl (hb hby own_d3_115) rfl rfl ?_
  refine own_aloadN X26 hx 117 rfl (hb hby own_d3_116) rfl rfl ?_
  refine Goes.go (own_getFR X26 hx hZ hown (hw _ (List.mem_of_getElem? (i := 62) rfl)) eh26 f1_2 (g := (mkF m 117 #[.val (.ref pt), .val (.long pn), .second, .val (.ref pb_1)] [(.ref pb_1), (.ref pt)])) rfl rfl (hb hby own_d3_117)) ?_
  show Goes p e below s _ _ _ T26 (mkF m 120 #[.val (.ref pt), .val (.long pn), .second, .val (.ref pb_1)] [(.ref zp), (.ref pt)])
  obtain ⟨T28, h28, X28, e28, W28, st28⟩ := putF X26 hx hZ hown (host := "") (Or.inl (hw _ (List.mem_of_getElem? (i := 31) rfl))) Via.refl eh26 f15 f8 (Or.inl (hw _ (List.mem_of_getElem? (i := 32) rfl))) (hw _ (List.mem_of_getElem? (i := 1) rfl)) (ty := (.object "com/example/tallywire/tallywire/flaps/Command")) (by decide) rfl rfl (g := (mkF m 120 #[.val (.ref pt), .val (.long pn), .second, .val (.ref pb_1)] [(.ref zp), (.ref pt)])) rfl rfl (hb hby own_d3_120)
  have N28 := Fr.snoc X28 N26 gp
  have f29 := f8.wr W28
  have f30 := f9.other W28 (Or.inr (slot_ne (Or.inr (hw _ (List.mem_of_getElem? (i := 11) rfl))) (Or.inl (hw _ (List.mem_of_getElem? (i := 32) rfl))) (by decide) (t := (.array .long)) (t' := (.object "com/example/tallywire/tallywire/flaps/Command")) (by decide) (by decide)))
  have f31 := f10.other W28 (Or.inr (slot_ne (Or.inr (hw _ (List.mem_of_getElem? (i := 13) rfl))) (Or.inl (hw _ (List.mem_of_getElem? (i := 32) rfl))) (by decide) (t := (.array .long)) (t' := (.object "com/example/tallywire/tallywire/flaps/Command")) (by decide) (by decide)))
  have f32 := f11.other W28 (Or.inr (slot_ne (Or.inr (hw _ (List.mem_of_getElem? (i := 15) rfl))) (Or.inl (hw _ (List.mem_of_getElem? (i := 32) rfl))) (by decide) (t := .long) (t' := (.object "com/example/tallywire/tallywire/flaps/Command")) (by decide) (by decide)))
  have f33 := f12.other W28 (Or.inr (slot_ne (Or.inr (hw _ (List.mem_of_getElem? (i := 17) rfl))) (Or.inl (hw _ (List.mem_of_getElem? (i := 32) rfl))) (by decide) (t := .long) (t' := (.object "com/example/tallywire/tallywire/flaps/Command")) (by decide) (by decide)))
  have f34 := f13.other W28 (Or.inr (slot_ne (Or.inl (hw _ (List.mem_of_getElem? (i := 44) rfl))) (Or.inl (hw _ (List.mem_of_getElem? (i := 32) rfl))) (by decide) (t := .long) (t' := (.object "com/example/tallywire/tallywire/flaps/Command")) (by decide) (by decide)))
  have f35 := f14.other W28 (Or.inr (slot_ne (Or.inl (hw _ (List.mem_of_getElem? (i := 81) rfl))) (Or.inl (hw _ (List.mem_of_getElem? (i := 32) rfl))) (by decide) (t := .long) (t' := (.object "com/example/tallywire/tallywire/flaps/Command")) (by decide) (by decide)))
  have f36 := f15.same W28
  have f37 := f16.other W28 (Or.inr (slot_ne (Or.inl (hw _ (List.mem_of_getElem? (i := 73) rfl))) (Or.inl (hw _ (List.mem_of_getElem? (i := 32) rfl))) (by decide) (t := .long) (t' := (.object "com/example/tallywire/tallywire/flaps/Command")) (by decide) (by decide)))
  have f38 := f17.other W28 (Ne.symm npa)
  have f39 := f18.other W28 (Ne.symm nps)
  have f40 := f19.wr W28
  have f41 := f20.other W28 nmp
  have f42 := f21.wr W28
  have f43 := f22.wr W28
  have f44 := f23.wr W28
  have f45 := f24.other W28 (Or.inl nz1zp)
  have f46 := f1_1.wr W28
  have f47 := f1_2.other W28 (Or.inl (Ne.symm ne2))
  have f48 := f1_3.other W28 (Or.inl (Ne.symm ne2))
  have K28 := K1.wr W28 (Or.inl (List.mem_of_getElem? (i := 0) rfl))
  have Z28 := Nat.le_trans Z1 (Nat.le_of_eq W28.size.symm)
  refine Goes.go st28 ?_
  show Goes p e below s _ _ _ T28 (mkF m 123 #[.val (.ref pt), .val (.long pn), .second, .val (.ref pb_1)] [])
  refine own_aloadN X28 hx 124 rfl (hb hby own_d3_123) rfl rfl ?_
  obtain ⟨T49, X49, e49, st49⟩ := getF X28 hx hZ hown (host := "") (Or.inl (hw _ (List.mem_of_getElem? (i := 12) rfl))) Via.refl e28 f31 (g := (mkF m 124 #[.val (.ref pt), .val (.long pn), .second, .val (.ref pb_1)] [(.ref pt)])) rfl rfl (hb hby own_d3_124)
  refine Goes.go st49 ?_
  show Goes p e below s _ _ _ T49 (mkF m 127 #[.val (.ref pt), .val (.long pn), .second, .val (.ref pb_1)] [(.ref sa)])
  refine own_aloadN X49 hx 128 rfl (hb hby own_d3_127) rfl rfl ?_
  obtain ⟨T50, X50, e50, st50⟩ := getF X49 hx hZ hown (host := "") (Or.inl (hw _ (List.mem_of_getElem? (i := 43) rfl))) Via.refl e49 f34 (g := (mkF m 128 #[.val (.ref pt), .val (.long pn), .second, .val (.ref pb_1)] [(.ref pt), (.ref sa)])) rfl rfl (hb hby own_d3_128)
  refine Goes.go st50 ?_
  show Goes p e below s _ _ _ T50 (mkF m 131 #[.val (.ref pt), .val (.long pn), .second, .val (.ref pb_1)] [(.long (1 : Int64)), (.ref sa)])
  refine Goes.go (X50.ldc2Long hx hown (mvT hZ (hw _ (List.mem_of_getElem? (i := 74) rfl))) (g := (mkF m 131 #[.val (.ref pt), .val (.long pn), .second, .val (.ref pb_1)] [(.long (1 : Int64)), (.ref sa)])) rfl (hb hby own_d3_131)) ?_
  show Goes p e below s _ _ _ T50 (mkF m 134 #[.val (.ref pt), .val (.long pn), .second, .val (.ref pb_1)] [(.long (15 : Int64)), (.long (1 : Int64)), (.ref sa)])
  refine own_lrem X50 hx 135 rfl (z := (1 : Int64)) (hb hby own_d3_134) (by decide) (by decide) ?_
  refine own_l2i X50 hx 136 rfl (z := (1 : Int32)) (hb hby own_d3_135) (by decide) ?_
  refine own_lloadN X50 hx 137 rfl (hb hby own_d3_136) rfl ?_
  obtain ⟨cl51, Ar51, S51⟩ := f39
  have hin51 : ¬ ((1 : Int32) < 0 ∨ cl51.slots.size ≤ ((1 : Int32)).toNatClampNeg) := by rw [S51]; decide
  obtain ⟨T51, h51, X51, e51, W51, st51⟩ := stJ X50 hx hZ e50 Ar51 (j := (1 : Int32)) hin51 (g := (mkF m 137 #[.val (.ref pt), .val (.long pn), .second, .val (.ref pb_1)] [(.long pn), (.int (1 : Int32)), (.ref sa)])) rfl rfl (hb hby own_d3_137)
  have V51 : own_LA Z h51 sa := ⟨_, Ar51.same W51, by rw [sz_set]; exact S51⟩
  have N51 := Fr.snoc X51 N28 gs
  have f52 := f29.wr W51
  have f53 := f30.other W51 (Or.inl nps)
  have f54 := f31.other W51 (Or.inl nps)
  have f55 := f32.other W51 (Or.inl nps)
  have f56 := f33.other W51 (Or.inl nps)
  have f57 := f34.other W51 (Or.inl nps)
  have f58 := f35.other W51 (Or.inl nps)
  have f59 := f36.other W51 (Or.inl nps)
  have f60 := f37.other W51 (Or.inl nps)
  have f61 := f38.other W51 nas
  have f62 := f40.wr W51
  have f63 := f41.other W51 nms
  have f64 := f42.wr W51
  have f65 := f43.wr W51
  have f66 := f44.wr W51
  have f67 := f45.other W51 (Or.inl nz2zp)
  have f68 := f46.wr W51
  have f69 := f47.other W51 (Or.inl (Ne.symm ne4))
  have f70 := f48.other W51 (Or.inl (Ne.symm ne4))
  have K51 := K28.wr W51 (Or.inl (List.mem_of_getElem? (i := 1) rfl))
  have Z51 := Nat.le_trans Z28 (Nat.le_of_eq W51.size.symm)
  refine Goes.go st51 ?_
  show Goes p e below s _ _ _ T51 (mkF m 138 #[.val (.ref pt), .val (.long pn), .second, .val (.ref pb_1)] [])
  refine own_aloadN X51 hx 139 rfl (hb hby own_d3_138) rfl rfl ?_
  refine Goes.go (own_getFR X51 hx hZ hown (hw _ (List.mem_of_getElem? (i := 62) rfl)) e51 f69 (g := (mkF m 139 #[.val (.ref pt), .val (.long pn), .second, .val (.ref pb_1)] [(.ref pb_1)])) rfl rfl (hb hby own_d3_139)) ?_
  show Goes p e below s _ _ _ T51 (mkF m 142 #[.val (.ref pt), .val (.long pn), .second, .val (.ref pb_1)] [(.ref zp)])
  refine own_retR X51 hx hlk Bd.returns rfl rfl (hb hby own_d3_142) (by decide) (by decide) e51 ?_
  exact ⟨rfl, N51, K51, f53, f54, f55, f56, f57, f58, f59, f60, f61, V51⟩
theorem own_d9_0 : decode prog_18_method_4_code 0 = .ok (.aload_n 0, 1) := by decide +kernel
theorem own_d9_1 : decode prog_18_method_4_code 1 = .ok (.getfield 9, 3) := by decide +kernel
theorem own_d9_4 : decode prog_18_method_4_code 4 = .ok (.aload_n 0, 1) := by decide +kernel
theorem own_d9_5 : decode prog_18_method_4_code 5 = .ok (.getfield 80, 3) := by decide +kernel
theorem own_d9_8 : decode prog_18_method_4_code 8 = .ok (.ldc2_w 83, 3) := by decide +kernel
theorem own_d9_11 : decode prog_18_method_4_code 11 = .ok (.lrem, 1) := by decide +kernel
theorem own_d9_12 : decode prog_18_method_4_code 12 = .ok (.l2i, 1) := by decide +kernel
theorem own_d9_13 : decode prog_18_method_4_code 13 = .ok (.lload_n 1, 1) := by decide +kernel
theorem own_d9_14 : decode prog_18_method_4_code 14 = .ok (.lastore, 1) := by decide +kernel
theorem own_d9_15 : decode prog_18_method_4_code 15 = .ok (.aload_n 0, 1) := by decide +kernel
theorem own_d9_16 : decode prog_18_method_4_code 16 = .ok (.dup, 1) := by decide +kernel
theorem own_d9_17 : decode prog_18_method_4_code 17 = .ok (.getfield 80, 3) := by decide +kernel
theorem own_d9_20 : decode prog_18_method_4_code 20 = .ok (.lconst 1, 1) := by decide +kernel
theorem own_d9_21 : decode prog_18_method_4_code 21 = .ok (.ladd, 1) := by decide +kernel
theorem own_d9_22 : decode prog_18_method_4_code 22 = .ok (.putfield 80, 3) := by decide +kernel
theorem own_d9_25 : decode prog_18_method_4_code 25 = .ok (.aload_n 0, 1) := by decide +kernel
theorem own_d9_26 : decode prog_18_method_4_code 26 = .ok (.lload_n 1, 1) := by decide +kernel
theorem own_d9_27 : decode prog_18_method_4_code 27 = .ok (.putfield 85, 3) := by decide +kernel
theorem own_d9_30 : decode prog_18_method_4_code 30 = .ok (.return_, 1) := by decide +kernel
def Qan0 (Z : State) (pt : Addr) (an : Int64) (aa : Addr) (sa : Addr) (zt : Addr) (la : Int64) (ka : Int64) (np : Int64) (h0 : Heap) (n0 : Nat) (v : Option Value) (h : Heap) (L : List Loc) : Prop := v = none ∧ Fr n0 L ∧ Keep h0 h [pt, aa] ∧ Fld Z h pt "com/example/tallywire/tallywire/flaps/Pacer" "answers" "[J" (.ref aa) ∧ Fld Z h pt "com/example/tallywire/tallywire/flaps/Pacer" "sent" "[J" (.ref sa) ∧ Fld Z h pt "com/example/tallywire/tallywire/flaps/Pacer" "pollNanos" "J" (.long (0 : Int64)) ∧ Fld Z h pt "com/example/tallywire/tallywire/flaps/Pacer" "keepaliveNanos" "J" (.long ka) ∧ Fld Z h pt "com/example/tallywire/tallywire/flaps/Pacer" "answered" "J" (.long (1 : Int64)) ∧ Fld Z h pt "com/example/tallywire/tallywire/flaps/Pacer" "lastAnswer" "J" (.long an) ∧ Fld Z h pt "com/example/tallywire/tallywire/flaps/Pacer" "taken" "Lcom/example/tallywire/tallywire/flaps/Command;" (.ref zt) ∧ Fld Z h pt "com/example/tallywire/tallywire/flaps/Pacer" "nextPoll" "J" (.long np) ∧ own_LA Z h aa  ∧ own_LA Z h sa 
set_option maxRecDepth 65536 in
set_option maxHeartbeats 40000000 in
theorem rman0 (l : Launch) (Z : State) (a0 : Array Value) (hw : ∀ d ∈ tables_1, d.before a0 Z = true) (ws : List Jvm.Cond) (pt : Addr) (an : Int64) (aa : Addr) (sa : Addr) (zt : Addr) (la : Int64) (ka : Int64) (np : Int64) (h0 : Heap) (n0 : Nat) (Z0 : n0 ≤ h0.size) (EP : Exa Z h0 pt "com/example/tallywire/tallywire/flaps/Pacer") (gp : n0 ≤ pt) (f_0 : Fld Z h0 pt "com/example/tallywire/tallywire/flaps/Pacer" "answers" "[J" (.ref aa)) (f_1 : Fld Z h0 pt "com/example/tallywire/tallywire/flaps/Pacer" "sent" "[J" (.ref sa)) (f_2 : Fld Z h0 pt "com/example/tallywire/tallywire/flaps/Pacer" "pollNanos" "J" (.long (0 : Int64))) (f_3 : Fld Z h0 pt "com/example/tallywire/tallywire/flaps/Pacer" "keepaliveNanos" "J" (.long ka)) (f_4 : Fld Z h0 pt "com/example/tallywire/tallywire/flaps/Pacer" "answered" "J" (.long (0 : Int64))) (f_5 : Fld Z h0 pt "com/example/tallywire/tallywire/flaps/Pacer" "lastAnswer" "J" (.long la)) (f_6 : Fld Z h0 pt "com/example/tallywire/tallywire/flaps/Pacer" "taken" "Lcom/example/tallywire/tallywire/flaps/Command;" (.ref zt)) (f_7 : Fld Z h0 pt "com/example/tallywire/tallywire/flaps/Pacer" "nextPoll" "J" (.long np)) (f_8 : own_LA Z h0 aa ) (f_9 : own_LA Z h0 sa ) (nas : aa ≠ sa) (npa : pt ≠ aa) (nps : pt ≠ sa) (gA : n0 ≤ aa) :
    MetFree l (⟨"com/example/tallywire/tallywire/flaps/Pacer", "answered", "(J)V"⟩ : MethodName) (head1 (Jvm.Cond.code (⟨"com/example/tallywire/tallywire/flaps/Pacer", "answered", "(J)V"⟩ : MethodName) prog_18_method_4_code 3 none :: ws) ({ frames := 0, cells := 0, slots := 0, locals := 0 } : Room)) (fun a U => a = #[(.ref pt), (.long an)] ∧ Z.Warmed39 U.vm ∧ U.heap = h0) (fun _ _ _ _ _ => True) (fun _ U o U' => ∃ v L, o = .returned v ∧ Qan0 Z pt an aa sa zt la ka np h0 n0 v U'.heap L ∧ FrameEnd U o U' L ({ frames := 0, cells := 0, slots := 0, locals := 0 } : Room).cells ({ frames := 0, cells := 0, slots := 0, locals := 0 } : Room).slots) := by
  refine MetFree.of_bodySF (plainFor_of_name own_pn_com_example_tallywire_tallywire_flaps_Pacer) hisR ?_
  intro p e s m args below meth c s₁ Bd hml0 hP hK
  obtain ⟨rfl, hZ, hh⟩ := hP
  have hx := Bd.exec
  have hby := Bd.bytes
  have hml : c.maxLocals = 3 := hml0
  have hlk := Bd.notSynchronized
  have hown : s.vm.findClass "com/example/tallywire/tallywire/flaps/Pacer" = some m.cls := findClass_of_methodNamed Bd.named
  have hnm := (name_of_methodNamed Bd.named Bd.method).1
  have X0 : Stand p l e ({ frames := 0, cells := 0, slots := 0, locals := 0 } : Room) s m #[(.ref pt), (.long an)] below meth c s₁ [] 0 0 := Stand.of_body Bd
  have e0 : s₁.heap = h0 := by rw [← hh, Bd.state]; rfl
  have N0 := Fr.nil n0
  have K0 : Keep h0 h0 [pt, aa] := Keep.refl _ _
  refine own_enter (Q := Qan0 Z pt an aa sa zt la ka np h0 n0) (Ls := #[.val (.ref pt), .val (.long an), .second]) (by first | (simp [entryFrame, mkF, argsToLocals, Value.category]; done) | rfl) ?_
  refine own_aloadN X0 hx 1 rfl (hb hby own_d9_0) rfl rfl ?_
  obtain ⟨T1, X1, e1, st1⟩ := getF X0 hx hZ hown (host := "") (Or.inl (hw _ (List.mem_of_getElem? (i := 10) rfl))) Via.refl e0 f_0 (g := (mkF m 1 #[.val (.ref pt), .val (.long an), .second] [(.ref pt)])) rfl rfl (hb hby own_d9_1)
  refine Goes.go st1 ?_
  show Goes p e below s _ _ _ T1 (mkF m 4 #[.val (.ref pt), .val (.long an), .second] [(.ref aa)])
  refine own_aloadN X1 hx 5 rfl (hb hby own_d9_4) rfl rfl ?_
  obtain ⟨T2, X2, e2, st2⟩ := getF X1 hx hZ hown (host := "") (Or.inl (hw _ (List.mem_of_getElem? (i := 43) rfl))) Via.refl e1 f_4 (g := (mkF m 5 #[.val (.ref pt), .val (.long an), .second] [(.ref pt), (.ref aa)])) rfl rfl (hb hby own_d9_5)
  refine Goes.go st2 ?_
  show Goes p e below s _ _ _ T2 (mkF m 8 #[.val (.ref pt), .val (.long an), .second] [(.long (0 : Int64)), (.ref aa)])
  refine Goes.go (X2.ldc2Long hx hown (mvT hZ (hw _ (List.mem_of_getElem? (i := 74) rfl))) (g := (mkF m 8 #[.val (.ref pt), .val (.long an), .second] [(.long (0 : Int64)), (.ref aa)])) rfl (hb hby own_d9_8)) ?_
  show Goes p e below s _ _ _ T2 (mkF m 11 #[.val (.ref pt), .val (.long an), .second] [(.long (15 : Int64)), (.long (0 : Int64)), (.ref aa)])
  refine own_lrem X2 hx 12 rfl (z := (0 : Int64)) (hb hby own_d9_11) (by decide) (by decide) ?_
  refine own_l2i X2 hx 13 rfl (z := (0 : Int32)) (hb hby own_d9_12) (by decide) ?_
  refine own_lloadN X2 hx 14 rfl (hb hby own_d9_13) rfl ?_
  obtain ⟨cl3, Ar3, S3⟩ := f_8
  have hin3 : ¬ ((0 : Int32) < 0 ∨ cl3.slots.size ≤ ((0 : Int32)).toNatClampNeg) := by rw [S3]; decide
  obtain ⟨T3, h3, X3, e3, W3, st3⟩ := stJ X2 hx hZ e2 Ar3 (j := (0 : Int32)) hin3 (g := (mkF m 14 #[.val (.ref pt), .val (.long an), .second] [(.long an), (.int (0 : Int32)), (.ref aa)])) rfl rfl (hb hby own_d9_14)
  have V3 : own_LA Z h3 aa := ⟨_, Ar3.same W3, by rw [sz_set]; exact S3⟩
  have N3 := Fr.snoc X3 N0 gA
  have f4 := EP.wr W3
  have f5 := f_0.other W3 (Or.inl npa)
  have f6 := f_1.other W3 (Or.inl npa)
  have f7 := f_2.other W3 (Or.inl npa)
  have f8 := f_3.other W3 (Or.inl npa)
  have f9 := f_4.other W3 (Or.inl npa)
  have f10 := f_5.other W3 (Or.inl npa)
  have f11 := f_6.other W3 (Or.inl npa)
  have f12 := f_7.other W3 (Or.inl npa)
  have f13 := f_9.other W3 (Ne.symm nas)
  have K3 := K0.wr W3 (Or.inl (List.mem_of_getElem? (i := 1) rfl))
  have Z3 := Nat.le_trans Z0 (Nat.le_of_eq W3.size.symm)
  refine Goes.go st3 ?_
  show Goes p e below s _ _ _ T3 (mkF m 15 #[.val (.ref pt), .val (.long an), .second] [])
  refine own_aloadN X3 hx 16 rfl (hb hby own_d9_15) rfl rfl ?_
  refine own_dup X3 hx 17 rfl (hb hby own_d9_16) rfl ?_
  obtain ⟨T14, X14, e14, st14⟩ := getF X3 hx hZ hown (host := "") (Or.inl (hw _ (List.mem_of_getElem? (i := 43) rfl))) Via.refl e3 f9 (g := (mkF m 17 #[.val (.ref pt), .val (.long an), .second] [(.ref pt), (.ref pt)])) rfl rfl (hb hby own_d9_17)
  refine Goes.go st14 ?_
  show Goes p e below s _ _ _ T14 (mkF m 20 #[.val (.ref pt), .val (.long an), .second] [(.long (0 : Int64)), (.ref pt)])
  refine own_lconst X14 hx 21 rfl (1 : Int64) (hb hby own_d9_20) (by decide) ?_
  refine own_ladd X14 hx 22 rfl (z := (1 : Int64)) (hb hby own_d9_21) (by decide) ?_
  obtain ⟨T15, h15, X15, e15, W15, st15⟩ := putF X14 hx hZ hown (host := "") (Or.inl (hw _ (List.mem_of_getElem? (i := 43) rfl))) Via.refl e14 f9 f4 (Or.inl (hw _ (List.mem_of_getElem? (i := 44) rfl))) (hw _ (List.mem_of_getElem? (i := 1) rfl)) (ty := .long) (by decide) rfl rfl (g := (mkF m 22 #[.val (.ref pt), .val (.long an), .second] [(.long (1 : Int64)), (.ref pt)])) rfl rfl (hb hby own_d9_22)
  have N15 := Fr.snoc X15 N3 gp
  have f16 := f4.wr W15
  have f17 := f5.other W15 (Or.inr (slot_ne (Or.inr (hw _ (List.mem_of_getElem? (i := 11) rfl))) (Or.inl (hw _ (List.mem_of_getElem? (i := 44) rfl))) (by decide) (t := (.array .long)) (t' := .long) (by decide) (by decide)))
  have f18 := f6.other W15 (Or.inr (slot_ne (Or.inr (hw _ (List.mem_of_getElem? (i := 13) rfl))) (Or.inl (hw _ (List.mem_of_getElem? (i := 44) rfl))) (by decide) (t := (.array .long)) (t' := .long) (by decide) (by decide)))
  have f19 := f7.other W15 (Or.inr (slot_ne (Or.inr (hw _ (List.mem_of_getElem? (i := 15) rfl))) (Or.inl (hw _ (List.mem_of_getElem? (i := 44) rfl))) (by decide) (t := .long) (t' := .long) (by decide) (by decide)))
  have f20 := f8.other W15 (Or.inr (slot_ne (Or.inr (hw _ (List.mem_of_getElem? (i := 17) rfl))) (Or.inl (hw _ (List.mem_of_getElem? (i := 44) rfl))) (by decide) (t := .long) (t' := .long) (by decide) (by decide)))
  have f21 := f9.same W15
  have f22 := f10.other W15 (Or.inr (slot_ne (Or.inl (hw _ (List.mem_of_getElem? (i := 81) rfl))) (Or.inl (hw _ (List.mem_of_getElem? (i := 44) rfl))) (by decide) (t := .long) (t' := .long) (by decide) (by decide)))
  have f23 := f11.other W15 (Or.inr (slot_ne (Or.inl (hw _ (List.mem_of_getElem? (i := 32) rfl))) (Or.inl (hw _ (List.mem_of_getElem? (i := 44) rfl))) (by decide) (t := (.object "com/example/tallywire/tallywire/flaps/Command")) (t' := .long) (by decide) (by decide)))
  have f24 := f12.other W15 (Or.inr (slot_ne (Or.inl (hw _ (List.mem_of_getElem? (i := 73) rfl))) (Or.inl (hw _ (List.mem_of_getElem? (i := 44) rfl))) (by decide) (t := .long) (t' := .long) (by decide) (by decide)))
  have f25 := f13.other W15 (Ne.symm nps)
  have f26 := V3.other W15 (Ne.symm npa)
  have K15 := K3.wr W15 (Or.inl (List.mem_of_getElem? (i := 0) rfl))
  have Z15 := Nat.le_trans Z3 (Nat.le_of_eq W15.size.symm)
  refine Goes.go st15 ?_
  show Goes p e below s _ _ _ T15 (mkF m 25 #[.val (.ref pt), .val (.long an), .second] [])
  refine own_aloadN X15 hx 26 rfl (hb hby own_d9_25) rfl rfl ?_
  refine own_lloadN X15 hx 27 rfl (hb hby own_d9_26) rfl ?_
  obtain ⟨T27, h27, X27, e27, W27, st27⟩ := putF X15 hx hZ hown (host := "") (Or.inl (hw _ (List.mem_of_getElem? (i := 80) rfl))) Via.refl e15 f22 f16 (Or.inl (hw _ (List.mem_of_getElem? (i := 81) rfl))) (hw _ (List.mem_of_getElem? (i := 1) rfl)) (ty := .long) (by decide) rfl rfl (g := (mkF m 27 #[.val (.ref pt), .val (.long an), .second] [(.long an), (.ref pt)])) rfl rfl (hb hby own_d9_27)
  have N27 := Fr.snoc X27 N15 gp
  have f28 := f16.wr W27
  have f29 := f17.other W27 (Or.inr (slot_ne (Or.inr (hw _ (List.mem_of_getElem? (i := 11) rfl))) (Or.inl (hw _ (List.mem_of_getElem? (i := 81) rfl))) (by decide) (t := (.array .long)) (t' := .long) (by decide) (by decide)))
  have f30 := f18.other W27 (Or.inr (slot_ne (Or.inr (hw _ (List.mem_of_getElem? (i := 13) rfl))) (Or.inl (hw _ (List.mem_of_getElem? (i := 81) rfl))) (by decide) (t := (.array .long)) (t' := .long) (by decide) (by decide)))
  have f31 := f19.other W27 (Or.inr (slot_ne (Or.inr (hw _ (List.mem_of_getElem? (i := 15) rfl))) (Or.inl (hw _ (List.mem_of_getElem? (i := 81) rfl))) (by decide) (t := .long) (t' := .long) (by decide) (by decide)))
  have f32 := f20.other W27 (Or.inr (slot_ne (Or.inr (hw _ (List.mem_of_getElem? (i := 17) rfl))) (Or.inl (hw _ (List.mem_of_getElem? (i := 81) rfl))) (by decide) (t := .long) (t' := .long) (by decide) (by decide)))
  have f33 := f21.other W27 (Or.inr (slot_ne (Or.inl (hw _ (List.mem_of_getElem? (i := 44) rfl))) (Or.inl (hw _ (List.mem_of_getElem? (i := 81) rfl))) (by decide) (t := .long) (t' := .long) (by decide) (by decide)))
  have f34 := f22.same W27
  have f35 := f23.other W27 (Or.inr (slot_ne (Or.inl (hw _ (List.mem_of_getElem? (i := 32) rfl))) (Or.inl (hw _ (List.mem_of_getElem? (i := 81) rfl))) (by decide) (t := (.object "com/example/tallywire/tallywire/flaps/Command")) (t' := .long) (by decide) (by decide)))
  have f36 := f24.other W27 (Or.inr (slot_ne (Or.inl (hw _ (List.mem_of_getElem? (i := 73) rfl))) (Or.inl (hw _ (List.mem_of_getElem? (i := 81) rfl))) (by decide) (t := .long) (t' := .long) (by decide) (by decide)))
  have f37 := f25.other W27 (Ne.symm nps)
  have f38 := f26.other W27 (Ne.symm npa)
  have K27 := K15.wr W27 (Or.inl (List.mem_of_getElem? (i := 0) rfl))
  have Z27 := Nat.le_trans Z15 (Nat.le_of_eq W27.size.symm)
  refine Goes.go st27 ?_
  show Goes p e below s _ _ _ T27 (mkF m 30 #[.val (.ref pt), .val (.long an), .second] [])
  refine own_retV X27 hx hlk Bd.returns (hb hby own_d9_30) (by decide) (by decide) e27 ?_
  exact ⟨rfl, N27, K27, f29, f30, f31, f32, f33, f34, f35, f36, f38, f37⟩
def Qan1 (Z : State) (pt : Addr) (an : Int64) (aa : Addr) (sa : Addr) (zt : Addr) (la : Int64) (ka : Int64) (np : Int64) (h0 : Heap) (n0 : Nat) (v : Option Value) (h : Heap) (L : List Loc) : Prop := v = none ∧ Fr n0 L ∧ Keep h0 h [pt, aa] ∧ Fld Z h pt "com/example/tallywire/tallywire/flaps/Pacer" "answers" "[J" (.ref aa) ∧ Fld Z h pt "com/example/tallywire/tallywire/flaps/Pacer" "sent" "[J" (.ref sa) ∧ Fld Z h pt "com/example/tallywire/tallywire/flaps/Pacer" "pollNanos" "J" (.long (0 : Int64)) ∧ Fld Z h pt "com/example/tallywire/tallywire/flaps/Pacer" "keepaliveNanos" "J" (.long ka) ∧ Fld Z h pt "com/example/tallywire/tallywire/flaps/Pacer" "answered" "J" (.long (2 : Int64)) ∧ Fld Z h pt "com/example/tallywire/tallywire/flaps/Pacer" "lastAnswer" "J" (.long an) ∧ Fld Z h pt "com/example/tallywire/tallywire/flaps/Pacer" "taken" "Lcom/example/tallywire/tallywire/flaps/Command;" (.ref zt) ∧ Fld Z h pt "com/example/tallywire/tallywire/flaps/Pacer" "nextPoll" "J" (.long np) ∧ own_LA Z h aa  ∧ own_LA Z h sa 
set_option maxRecDepth 65536 in
set_option maxHeartbeats 40000000 in
theorem rman1 (l : Launch) (Z : State) (a0 : Array Value) (hw : ∀ d ∈ tables_1, d.before a0 Z = true) (ws : List Jvm.Cond) (pt : Addr) (an : Int64) (aa : Addr) (sa : Addr) (zt : Addr) (la : Int64) (ka : Int64) (np : Int64) (h0 : Heap) (n0 : Nat) (Z0 : n0 ≤ h0.size) (EP : Exa Z h0 pt "com/example/tallywire/tallywire/flaps/Pacer") (gp : n0 ≤ pt) (f_0 : Fld Z h0 pt "com/example/tallywire/tallywire/flaps/Pacer" "answers" "[J" (.ref aa)) (f_1 : Fld Z h0 pt "com/example/tallywire/tallywire/flaps/Pacer" "sent" "[J" (.ref sa)) (f_2 : Fld Z h0 pt "com/example/tallywire/tallywire/flaps/Pacer" "pollNanos" "J" (.long (0 : Int64))) (f_3 : Fld Z h0 pt "com/example/tallywire/tallywire/flaps/Pacer" "keepaliveNanos" "J" (.long ka)) (f_4 : Fld Z h0 pt "com/example/tallywire/tallywire/flaps/Pacer" "answered" "J" (.long (1 : Int64))) (f_5 : Fld Z h0 pt "com/example/tallywire/tallywire/flaps/Pacer" "lastAnswer" "J" (.long la)) (f_6 : Fld Z h0 pt "com/example/tallywire/tallywire/flaps/Pacer" "taken" "Lcom/example/tallywire/tallywire/flaps/Command;" (.ref zt)) (f_7 : Fld Z h0 pt "com/example/tallywire/tallywire/flaps/Pacer" "nextPoll" "J" (.long np)) (f_8 : own_LA Z h0 aa ) (f_9 : own_LA Z h0 sa ) (nas : aa ≠ sa) (npa : pt ≠ aa) (nps : pt ≠ sa) (gA : n0 ≤ aa) :
    MetFree l (⟨"com/example/tallywire/tallywire/flaps/Pacer", "answered", "(J)V"⟩ : MethodName) (head1 (Jvm.Cond.code (⟨"com/example/tallywire/tallywire/flaps/Pacer", "answered", "(J)V"⟩ : MethodName) prog_18_method_4_code 3 none :: ws) ({ frames := 0, cells := 0, slots := 0, locals := 0 } : Room)) (fun a U => a = #[(.ref pt), (.long an)] ∧ Z.Warmed39 U.vm ∧ U.heap = h0) (fun _ _ _ _ _ => True) (fun _ U o U' => ∃ v L, o = .returned v ∧ Qan1 Z pt an aa sa zt la ka np h0 n0 v U'.heap L ∧ FrameEnd U o U' L ({ frames := 0, cells := 0, slots := 0, locals := 0 } : Room).cells ({ frames := 0, cells := 0, slots := 0, locals := 0 } : Room).slots) := by
  refine MetFree.of_bodySF (plainFor_of_name own_pn_com_example_tallywire_tallywire_flaps_Pacer) hisR ?_
  intro p e s m args below meth c s₁ Bd hml0 hP hK
  obtain ⟨rfl, hZ, hh⟩ := hP
  have hx := Bd.exec
  have hby := Bd.bytes
  have hml : c.maxLocals = 3 := hml0
  have hlk := Bd.notSynchronized
  have hown : s.vm.findClass "com/example/tallywire/tallywire/flaps/Pacer" = some m.cls := findClass_of_methodNamed Bd.named
  have hnm := (name_of_methodNamed Bd.named Bd.method).1
  have X0 : Stand p l e ({ frames := 0, cells := 0, slots := 0, locals := 0 } : Room) s m #[(.ref pt), (.long an)] below meth c s₁ [] 0 0 := Stand.of_body Bd
  have e0 : s₁.heap = h0 := by rw [← hh, Bd.state]; rfl
  have N0 := Fr.nil n0
  have K0 : Keep h0 h0 [pt, aa] := Keep.refl _ _
  refine own_enter (Q := Qan1 Z pt an aa sa zt la ka np h0 n0) (Ls := #[.val (.ref pt), .val (.long an), .second]) (by first | (simp [entryFrame, mkF, argsToLocals, Value.category]; done) | rfl) ?_
  refine own_aloadN X0 hx 1 rfl (hb hby own_d9_0) rfl rfl ?_
  obtain ⟨T1, X1, e1, st1⟩ := getF X0 hx hZ hown (host := "") (Or.inl (hw _ (List.mem_of_getElem? (i := 10) rfl))) Via.refl e0 f_0 (g := (mkF m 1 #[.val (.ref pt), .val (.long an), .second] [(.ref pt)])) rfl rfl (hb hby own_d9_1)
  refine Goes.go st1 ?_
  show Goes p e below s _ _ _ T1 (mkF m 4 #[.val (.ref pt), .val (.long an), .second] [(.ref aa)])
  refine own_aloadN X1 hx 5 rfl (hb hby own_d9_4) rfl rfl ?_
  obtain ⟨T2, X2, e2, st2⟩ := getF X1 hx hZ hown (host := "") (Or.inl (hw _ (List.mem_of_getElem? (i := 43) rfl))) Via.refl e1 f_4 (g := (mkF m 5 #[.val (.ref pt), .val (.long an), .second] [(.ref pt), (.ref aa)])) rfl rfl (hb hby own_d9_5)
  refine Goes.go st2 ?_
  show Goes p e below s _ _ _ T2 (mkF m 8 #[.val (.ref pt), .val (.long an), .second] [(.long (1 : Int64)), (.ref aa)])
  refine Goes.go (X2.ldc2Long hx hown (mvT hZ (hw _ (List.mem_of_getElem? (i := 74) rfl))) (g := (mkF m 8 #[.val (.ref pt), .val (.long an), .second] [(.long (1 : Int64)), (.ref aa)])) rfl (hb hby own_d9_8)) ?_
  show Goes p e below s _ _ _ T2 (mkF m 11 #[.val (.ref pt), .val (.long an), .second] [(.long (15 : Int64)), (.long (1 : Int64)), (.ref aa)])
  refine own_lrem X2 hx 12 rfl (z := (1 : Int64)) (hb hby own_d9_11) (by decide) (by decide) ?_
  refine own_l2i X2 hx 13 rfl (z := (1 : Int32)) (hb hby own_d9_12) (by decide) ?_
  refine own_lloadN X2 hx 14 rfl (hb hby own_d9_13) rfl ?_
  obtain ⟨cl3, Ar3, S3⟩ := f_8
  have hin3 : ¬ ((1 : Int32) < 0 ∨ cl3.slots.size ≤ ((1 : Int32)).toNatClampNeg) := by rw [S3]; decide
  obtain ⟨T3, h3, X3, e3, W3, st3⟩ := stJ X2 hx hZ e2 Ar3 (j := (1 : Int32)) hin3 (g := (mkF m 14 #[.val (.ref pt), .val (.long an), .second] [(.long an), (.int (1 : Int32)), (.ref aa)])) rfl rfl (hb hby own_d9_14)
  have V3 : own_LA Z h3 aa := ⟨_, Ar3.same W3, by rw [sz_set]; exact S3⟩
  have N3 := Fr.snoc X3 N0 gA
  have f4 := EP.wr W3
  have f5 := f_0.other W3 (Or.inl npa)
  have f6 := f_1.other W3 (Or.inl npa)
  have f7 := f_2.other W3 (Or.inl npa)
  have f8 := f_3.other W3 (Or.inl npa)
  have f9 := f_4.other W3 (Or.inl npa)
  have f10 := f_5.other W3 (Or.inl npa)
  have f11 := f_6.other W3 (Or.inl npa)
  have f12 := f_7.other W3 (Or.inl npa)
  have f13 := f_9.other W3 (Ne.symm nas)
  have K3 := K0.wr W3 (Or.inl (List.mem_of_getElem? (i := 1) rfl))
  have Z3 := Nat.le_trans Z0 (Nat.le_of_eq W3.size.symm)
  refine Goes.go st3 ?_
  show Goes p e below s _ _ _ T3 (mkF m 15 #[.val (.ref pt), .val (.long an), .second] [])
  refine own_aloadN X3 hx 16 rfl (hb hby own_d9_15) rfl rfl ?_
  refine own_dup X3 hx 17 rfl (hb hby own_d9_16) rfl ?_
  obtain ⟨T14, X14, e14, st14⟩ := getF X3 hx hZ hown (host := "") (Or.inl (hw _ (List.mem_of_getElem? (i := 43) rfl))) Via.refl e3 f9 (g := (mkF m 17 #[.val (.ref pt), .val (.long an), .second] [(.ref pt), (.ref pt)])) rfl rfl (hb hby own_d9_17)
  refine Goes.go st14 ?_
  show Goes p e below s _ _ _ T14 (mkF m 20 #[.val (.ref pt), .val (.long an), .second] [(.long (1 : Int64)), (.ref pt)])
  refine own_lconst X14 hx 21 rfl (1 : Int64) (hb hby own_d9_20) (by decide) ?_
  refine own_ladd X14 hx 22 rfl (z := (2 : Int64)) (hb hby own_d9_21) (by decide) ?_
  obtain ⟨T15, h15, X15, e15, W15, st15⟩ := putF X14 hx hZ hown (host := "") (Or.inl (hw _ (List.mem_of_getElem? (i := 43) rfl))) Via.refl e14 f9 f4 (Or.inl (hw _ (List.mem_of_getElem? (i := 44) rfl))) (hw _ (List.mem_of_getElem? (i := 1) rfl)) (ty := .long) (by decide) rfl rfl (g := (mkF m 22 #[.val (.ref pt), .val (.long an), .second] [(.long (2 : Int64)), (.ref pt)])) rfl rfl (hb hby own_d9_22)
  have N15 := Fr.snoc X15 N3 gp
  have f16 := f4.wr W15
  have f17 := f5.other W15 (Or.inr (slot_ne (Or.inr (hw _ (List.mem_of_getElem? (i := 11) rfl))) (Or.inl (hw _ (List.mem_of_getElem? (i := 44) rfl))) (by decide) (t := (.array .long)) (t' := .long) (by decide) (by decide)))
  have f18 := f6.other W15 (Or.inr (slot_ne (Or.inr (hw _ (List.mem_of_getElem? (i := 13) rfl))) (Or.inl (hw _ (List.mem_of_getElem? (i := 44) rfl))) (by decide) (t := (.array .long)) (t' := .long) (by decide) (by decide)))
  have f19 := f7.other W15 (Or.inr (slot_ne (Or.inr (hw _ (List.mem_of_getElem? (i := 15) rfl))) (Or.inl (hw _ (List.mem_of_getElem? (i := 44) rfl))) (by decide) (t := .long) (t' := .long) (by decide) (by decide)))
  have f20 := f8.other W15 (Or.inr (slot_ne (Or.inr (hw _ (List.mem_of_getElem? (i := 17) rfl))) (Or.inl (hw _ (List.mem_of_getElem? (i := 44) rfl))) (by decide) (t := .long) (t' := .long) (by decide) (by decide)))
  have f21 := f9.same W15
  have f22 := f10.other W15 (Or.inr (slot_ne (Or.inl (hw _ (List.mem_of_getElem? (i := 81) rfl))) (Or.inl (hw _ (List.mem_of_getElem? (i := 44) rfl))) (by decide) (t := .long) (t' := .long) (by decide) (by decide)))
  have f23 := f11.other W15 (Or.inr (slot_ne (Or.inl (hw _ (List.mem_of_getElem? (i := 32) rfl))) (Or.inl (hw _ (List.mem_of_getElem? (i := 44) rfl))) (by decide) (t := (.object "com/example/tallywire/tallywire/flaps/Command")) (t' := .long) (by decide) (by decide)))
  have f24 := f12.other W15 (Or.inr (slot_ne (Or.inl (hw _ (List.mem_of_getElem? (i := 73) rfl))) (Or.inl (hw _ (List.mem_of_getElem? (i := 44) rfl))) (by decide) (t := .long) (t' := .long) (by decide) (by decide)))
  have f25 := f13.other W15 (Ne.symm nps)
  have f26 := V3.other W15 (Ne.symm npa)
  have K15 := K3.wr W15 (Or.inl (List.mem_of_getElem? (i := 0) rfl))
  have Z15 := Nat.le_trans Z3 (Nat.le_of_eq W15.size.symm)
  refine Goes.go st15 ?_
  show Goes p e below s _ _ _ T15 (mkF m 25 #[.val (.ref pt), .val (.long an), .second] [])
  refine own_aloadN X15 hx 26 rfl (hb hby own_d9_25) rfl rfl ?_
  refine own_lloadN X15 hx 27 rfl (hb hby own_d9_26) rfl ?_
  obtain ⟨T27, h27, X27, e27, W27, st27⟩ := putF X15 hx hZ hown (host := "") (Or.inl (hw _ (List.mem_of_getElem? (i := 80) rfl))) Via.refl e15 f22 f16 (Or.inl (hw _ (List.mem_of_getElem? (i := 81) rfl))) (hw _ (List.mem_of_getElem? (i := 1) rfl)) (ty := .long) (by decide) rfl rfl (g := (mkF m 27 #[.val (.ref pt), .val (.long an), .second] [(.long an), (.ref pt)])) rfl rfl (hb hby own_d9_27)
  have N27 := Fr.snoc X27 N15 gp
  have f28 := f16.wr W27
  have f29 := f17.other W27 (Or.inr (slot_ne (Or.inr (hw _ (List.mem_of_getElem? (i := 11) rfl))) (Or.inl (hw _ (List.mem_of_getElem? (i := 81) rfl))) (by decide) (t := (.array .long)) (t' := .long) (by decide) (by decide)))
  have f30 := f18.other W27 (Or.inr (slot_ne (Or.inr (hw _ (List.mem_of_getElem? (i := 13) rfl))) (Or.inl (hw _ (List.mem_of_getElem? (i := 81) rfl))) (by decide) (t := (.array .long)) (t' := .long) (by decide) (by decide)))
  have f31 := f19.other W27 (Or.inr (slot_ne (Or.inr (hw _ (List.mem_of_getElem? (i := 15) rfl))) (Or.inl (hw _ (List.mem_of_getElem? (i := 81) rfl))) (by decide) (t := .long) (t' := .long) (by decide) (by decide)))
  have f32 := f20.other W27 (Or.inr (slot_ne (Or.inr (hw _ (List.mem_of_getElem? (i := 17) rfl))) (Or.inl (hw _ (List.mem_of_getElem? (i := 81) rfl))) (by decide) (t := .long) (t' := .long) (by decide) (by decide)))
  have f33 := f21.other W27 (Or.inr (slot_ne (Or.inl (hw _ (List.mem_of_getElem? (i := 44) rfl))) (Or.inl (hw _ (List.mem_of_getElem? (i := 81) rfl))) (by decide) (t := .long) (t' := .long) (by decide) (by decide)))
  have f34 := f22.same W27
  have f35 := f23.other W27 (Or.inr (slot_ne (Or.inl (hw _ (List.mem_of_getElem? (i := 32) rfl))) (Or.inl (hw _ (List.mem_of_getElem? (i := 81) rfl))) (by decide) (t := (.object "com/example/tallywire/tallywire/flaps/Command")) (t' := .long) (by decide) (by decide)))
  have f36 := f24.other W27 (Or.inr (slot_ne (Or.inl (hw _ (List.mem_of_getElem? (i := 73) rfl))) (Or.inl (hw _ (List.mem_of_getElem? (i := 81) rfl))) (by decide) (t := .long) (t' := .long) (by decide) (by decide)))
  have f37 := f25.other W27 (Ne.symm nps)
  have f38 := f26.other W27 (Ne.symm npa)
  have K27 := K15.wr W27 (Or.inl (List.mem_of_getElem? (i := 0) rfl))
  have Z27 := Nat.le_trans Z15 (Nat.le_of_eq W27.size.symm)
  refine Goes.go st27 ?_
  show Goes p e below s _ _ _ T27 (mkF m 30 #[.val (.ref pt), .val (.long an), .second] [])
  refine own_retV X27 hx hlk Bd.returns (hb hby own_d9_30) (by decide) (by decide) e27 ?_
  exact ⟨rfl, N27, K27, f29, f30, f31, f32, f33, f34, f35, f36, f38, f37⟩
theorem own_pd6 : parseMethodDescriptor "(JJ)V" = some ⟨[.long, .long], none⟩ := by decide +kernel
theorem own_pd7 : parseMethodDescriptor "(J)Lcom/example/tallywire/tallywire/flaps/Command;" = some ⟨[.long], some (.object "com/example/tallywire/tallywire/flaps/Command")⟩ := by decide +kernel
theorem own_pd8 : parseMethodDescriptor "(J)V" = some ⟨[.long], none⟩ := by decide +kernel
theorem own_pd9 : parseMethodDescriptor "(J)J" = some ⟨[.long], some .long⟩ := by decide +kernel
def Q0 (Z : State) (x0 : Int64) (x1 : Int64) (x2 : Int64) (x3 : Int64) (x4 : Int64) (x5 : Int64) (z_CAPABILITIES : Addr) (z_ACTIVE_FLAPS : Addr) (z_PING : Addr) (sm : Addr) (h0 : Heap) (n0 : Nat) (v : Option Value) (h : Heap) (L : List Loc) : Prop := v = some (.int 1) ∧ Fr n0 L
set_option maxRecDepth 65536 in
set_option maxHeartbeats 40000000 in
theorem rm0 (l : Launch) (Z : State) (a0 : Array Value) (hw : ∀ d ∈ tables_1, d.before a0 Z = true) (ws : List Jvm.Cond) (x0 : Int64) (x1 : Int64) (x2 : Int64) (x3 : Int64) (x4 : Int64) (x5 : Int64) (z_CAPABILITIES : Addr) (z_ACTIVE_FLAPS : Addr) (z_PING : Addr) (sm : Addr) (h0 : Heap) (n0 : Nat) (Z0 : n0 ≤ h0.size) (S_z_CAPABILITIES : Sta Z h0 "com/example/tallywire/tallywire/flaps/Command" "CAPABILITIES" "Lcom/example/tallywire/tallywire/flaps/Command;" (.ref z_CAPABILITIES)) (E_z_CAPABILITIES : Exa Z h0 z_CAPABILITIES "com/example/tallywire/tallywire/flaps/Command") (S_z_ACTIVE_FLAPS : Sta Z h0 "com/example/tallywire/tallywire/flaps/Command" "ACTIVE_FLAPS" "Lcom/example/tallywire/tallywire/flaps/Command;" (.ref z_ACTIVE_FLAPS)) (E_z_ACTIVE_FLAPS : Exa Z h0 z_ACTIVE_FLAPS "com/example/tallywire/tallywire/flaps/Command") (S_z_PING : Sta Z h0 "com/example/tallywire/tallywire/flaps/Command" "PING" "Lcom/example/tallywire/tallywire/flaps/Command;" (.ref z_PING)) (E_z_PING : Exa Z h0 z_PING "com/example/tallywire/tallywire/flaps/Command") (O_ordinal_z_CAPABILITIES : Fld Z h0 z_CAPABILITIES "java/lang/Enum" "ordinal" "I" (.int (0 : Int32))) (O_ordinal_z_ACTIVE_FLAPS : Fld Z h0 z_ACTIVE_FLAPS "java/lang/Enum" "ordinal" "I" (.int (1 : Int32))) (O_ordinal_z_PING : Fld Z h0 z_PING "java/lang/Enum" "ordinal" "I" (.int (3 : Int32))) (ne_z_CAPABILITIES_z_ACTIVE_FLAPS : z_CAPABILITIES ≠ z_ACTIVE_FLAPS) (ne_z_CAPABILITIES_z_PING : z_CAPABILITIES ≠ z_PING) (ne_z_ACTIVE_FLAPS_z_PING : z_ACTIVE_FLAPS ≠ z_PING) (S_sm : Sta Z h0 "com/example/tallywire/tallywire/flaps/Pacer$1" "$SwitchMap$com$example$tallywire$tallywire$flaps$Command" "[I" (.ref sm)) (X_sm : own_SM Z h0 sm ) :
    MetFree l x (head1 (Jvm.Cond.code x code maxLocals ret :: ws) room_1) (fun a U => a = #[(.long x0), (.long x1), (.long x2), (.long x3), (.long x4), (.long x5)] ∧ Z.Warmed39 U.vm ∧ U.heap = h0) (fun _ _ _ _ _ => True) (fun _ U o U' => ∃ v L, o = .returned v ∧ Q0 Z x0 x1 x2 x3 x4 x5 z_CAPABILITIES z_ACTIVE_FLAPS z_PING sm h0 n0 v U'.heap L ∧ FrameEnd U o U' L 7 47) := by
  refine MetFree.of_bodySF (plainFor_of_name own_pn_com_example_tallywire_tallywire_flaps_PacerAnsweredPinLaw) hisR ?_
  intro p e s m args below meth c s₁ Bd hml0 hP hK
  obtain ⟨rfl, hZ, hh⟩ := hP
  have hx := Bd.exec
  have hby := Bd.bytes
  have hml : c.maxLocals = 19 := hml0
  have hlk := Bd.notSynchronized
  have hown : s.vm.findClass "com/example/tallywire/tallywire/flaps/PacerAnsweredPinLaw" = some m.cls := findClass_of_methodNamed Bd.named
  have hnm := (name_of_methodNamed Bd.named Bd.method).1
  have X0 : Stand p l e room_1 s m #[(.long x0), (.long x1), (.long x2), (.long x3), (.long x4), (.long x5)] below meth c s₁ [] 0 0 := Stand.of_body Bd
  have e0 : s₁.heap = h0 := by rw [← hh, Bd.state]; rfl
  have N0 := Fr.nil n0
  have K0 : Keep h0 h0 [] := Keep.refl _ _
  refine own_enter (Q := Q0 Z x0 x1 x2 x3 x4 x5 z_CAPABILITIES z_ACTIVE_FLAPS z_PING sm h0 n0) (Ls := #[.val (.long x0), .second, .val (.long x1), .second, .val (.long x2), .second, .val (.long x3), .second, .val (.long x4), .second, .val (.long x5), .second, .unset, .unset, .unset, .unset, .unset, .unset, .unset]) (by first | (simp [entryFrame, mkF, argsToLocals, Value.category, maxLocals]; done) | rfl) ?_
  obtain ⟨T1, h1, X1, e1, E1, A1, D1, -, st1⟩ := newO X0 hx hZ hown (hw _ (List.mem_of_getElem? (i := 0) rfl)) (hw _ (List.mem_of_getElem? (i := 1) rfl)) (hw _ (List.mem_of_getElem? (i := 2) rfl)) e0 (g := (mkF m 0 #[.val (.long x0), .second, .val (.long x1), .second, .val (.long x2), .second, .val (.long x3), .second, .val (.long x4), .second, .val (.long x5), .second, .unset, .unset, .unset, .unset, .unset, .unset, .unset] [])) rfl (hb hby at_0) (by decide) (by decide)
  obtain ⟨b1, g1⟩ : ∃ z, z = h0.size := ⟨_, rfl⟩
  rw [← g1] at A1 D1 st1
  have ne2 : z_CAPABILITIES ≠ b1 := own_lt_ne E_z_CAPABILITIES.lt g1
  have ne3 : z_ACTIVE_FLAPS ≠ b1 := own_lt_ne E_z_ACTIVE_FLAPS.lt g1
  have ne4 : z_PING ≠ b1 := own_lt_ne E_z_PING.lt g1
  have ne5 : sm ≠ b1 := own_lt_ne X_sm.lt g1
  have G1 : n0 ≤ b1 := Nat.le_trans Z0 (Nat.le_of_eq g1.symm)
  have H1 : h0.size ≤ b1 := Nat.le_trans K0.1 (Nat.le_of_eq g1.symm)
  have f6 := S_z_CAPABILITIES.ext E1
  have f7 := E_z_CAPABILITIES.ext E1
  have f8 := S_z_ACTIVE_FLAPS.ext E1
  have f9 := E_z_ACTIVE_FLAPS.ext E1
  have f10 := S_z_PING.ext E1
  have f11 := E_z_PING.ext E1
  have f12 := O_ordinal_z_CAPABILITIES.ext E1
  have f13 := O_ordinal_z_ACTIVE_FLAPS.ext E1
  have f14 := O_ordinal_z_PING.ext E1
  have f15 := S_sm.ext E1
  have f16 := X_sm.ext E1
  have K1 := K0.ext E1
  have Z1 := Nat.le_trans Z0 E1.1
  have f17 : Fld Z h1 b1 "com/example/tallywire/tallywire/flaps/Pacer" "answers" "[J" .null := D1 (Or.inr (hw _ (List.mem_of_getElem? (i := 11) rfl))) (ty := (.array .long)) (by decide)
  have f18 : Fld Z h1 b1 "com/example/tallywire/tallywire/flaps/Pacer" "sent" "[J" .null := D1 (Or.inr (hw _ (List.mem_of_getElem? (i := 13) rfl))) (ty := (.array .long)) (by decide)
  have f19 : Fld Z h1 b1 "com/example/tallywire/tallywire/flaps/Pacer" "pollNanos" "J" (.long (0 : Int64)) := D1 (Or.inr (hw _ (List.mem_of_getElem? (i := 15) rfl))) (ty := .long) (by decide)
  have f20 : Fld Z h1 b1 "com/example/tallywire/tallywire/flaps/Pacer" "keepaliveNanos" "J" (.long (0 : Int64)) := D1 (Or.inr (hw _ (List.mem_of_getElem? (i := 17) rfl))) (ty := .long) (by decide)
  have f21 : Fld Z h1 b1 "com/example/tallywire/tallywire/flaps/Pacer" "pingsBesidePolls" "Z" (.int (0 : Int32)) := D1 (Or.inr (hw _ (List.mem_of_getElem? (i := 21) rfl))) (ty := .boolean) (by decide)
  have f22 : Fld Z h1 b1 "com/example/tallywire/tallywire/flaps/Pacer" "taken" "Lcom/example/tallywire/tallywire/flaps/Command;" .null := D1 (Or.inl (hw _ (List.mem_of_getElem? (i := 32) rfl))) (ty := (.object "com/example/tallywire/tallywire/flaps/Command")) (by decide)
  have f23 : Fld Z h1 b1 "com/example/tallywire/tallywire/flaps/Pacer" "answered" "J" (.long (0 : Int64)) := D1 (Or.inl (hw _ (List.mem_of_getElem? (i := 44) rfl))) (ty := .long) (by decide)
  have f24 : Fld Z h1 b1 "com/example/tallywire/tallywire/flaps/Pacer" "nextPoll" "J" (.long (0 : Int64)) := D1 (Or.inl (hw _ (List.mem_of_getElem? (i := 73) rfl))) (ty := .long) (by decide)
  have f25 : Fld Z h1 b1 "com/example/tallywire/tallywire/flaps/Pacer" "lastAnswer" "J" (.long (0 : Int64)) := D1 (Or.inl (hw _ (List.mem_of_getElem? (i := 81) rfl))) (ty := .long) (by decide)
  refine Goes.go st1 ?_
  show Goes p e below s _ _ _ T1 (mkF m 3 #[.val (.long x0), .second, .val (.long x1), .second, .val (.long x2), .second, .val (.long x3), .second, .val (.long x4), .second, .val (.long x5), .second, .unset, .unset, .unset, .unset, .unset, .unset, .unset] [(.ref b1)])
  refine own_dup X1 hx 4 rfl (hb hby at_3) rfl ?_
  refine own_lconst X1 hx 5 rfl (0 : Int64) (hb hby at_4) (by decide) ?_
  refine own_lload X1 hx 7 rfl (hb hby at_5) rfl ?_
  obtain ⟨_, _, ⟨T26, L26, k26, n26⟩, -, X26, ⟨Lc26, hQ26, l26, y26, z26⟩, st26⟩ := X1.specialBack hx (y := (⟨"com/example/tallywire/tallywire/flaps/Pacer", "<init>", "(JJ)V"⟩ : MethodName)) rfl hown (mvT hZ (hw _ (List.mem_of_getElem? (i := 3) rfl))) (mvT hZ (hw _ (List.mem_of_getElem? (i := 4) rfl))) (mvT hZ (hw _ (List.mem_of_getElem? (i := 5) rfl))) (by decide) (backOf (W := 1) (rm1 l Z a0 hw [] b1 x2 h1 n0 Z1 A1 G1 f17 f18 f19 f20 f21 f23 f25 f22 f24) hZ (hw _ (List.mem_of_getElem? (i := 5) rfl)) (hw _ (List.mem_of_getElem? (i := 2) rfl)) (by decide) (by decide)) (g := (mkF m 7 #[.val (.long x0), .second, .val (.long x1), .second, .val (.long x2), .second, .val (.long x3), .second, .val (.long x4), .second, .val (.long x5), .second, .unset, .unset, .unset, .unset, .unset, .unset, .unset] [(.long x2), (.long (0 : Int64)), (.ref b1), (.ref b1)])) rfl (by rw [hml]; rfl) (Steps.refl _) (a := b1) (argsL := [(.long (0 : Int64)), (.long x2)]) (rest := [(.ref b1)]) (lenOf own_pd6 rfl) rfl (by show 2 * 0 + _ ≤ _; exact Nat.le_of_eq rfl) (hb hby at_7) (fun _ _ => ⟨rfl, e1, (by decide : 1 + 2 ≤ _), (by decide : 9 + 30 ≤ _)⟩)
  dsimp only [Pt.U, Pt.locs, Pt.cells, Pt.slots] at X26 l26 y26 z26 st26 hQ26
  subst l26 y26 z26
  obtain ⟨aa_26, sa_26, rfl, N26q, K26q, f26_0, f26_1, f26_2, f26_3, f26_4, f26_5, f26_6, f26_7, f26_8, f26_9, f26_10, f26_11, f26_12⟩ := hQ26
  have N26 := Fr.app N0 N26q
  have ne27 : z_CAPABILITIES ≠ aa_26 := Nat.ne_of_lt (Nat.lt_of_lt_of_le f7.lt f26_0)
  have ne28 : z_ACTIVE_FLAPS ≠ aa_26 := Nat.ne_of_lt (Nat.lt_of_lt_of_le f9.lt f26_0)
  have ne29 : z_PING ≠ aa_26 := Nat.ne_of_lt (Nat.lt_of_lt_of_le f11.lt f26_0)
  have ne30 : sm ≠ aa_26 := Nat.ne_of_lt (Nat.lt_of_lt_of_le f16.lt f26_0)
  have ne31 : b1 ≠ aa_26 := Nat.ne_of_lt (Nat.lt_of_lt_of_le A1.lt f26_0)
  have GG32 : n0 ≤ aa_26 := Nat.le_trans Z1 f26_0
  have HG32 : h0.size ≤ aa_26 := Nat.le_trans K1.1 f26_0
  have ne33 : z_CAPABILITIES ≠ sa_26 := Nat.ne_of_lt (Nat.lt_of_lt_of_le f7.lt f26_1)
  have ne34 : z_ACTIVE_FLAPS ≠ sa_26 := Nat.ne_of_lt (Nat.lt_of_lt_of_le f9.lt f26_1)
  have ne35 : z_PING ≠ sa_26 := Nat.ne_of_lt (Nat.lt_of_lt_of_le f11.lt f26_1)
  have ne36 : sm ≠ sa_26 := Nat.ne_of_lt (Nat.lt_of_lt_of_le f16.lt f26_1)
  have ne37 : b1 ≠ sa_26 := Nat.ne_of_lt (Nat.lt_of_lt_of_le A1.lt f26_1)
  have GG38 : n0 ≤ sa_26 := Nat.le_trans Z1 f26_1
  have HG38 : h0.size ≤ sa_26 := Nat.le_trans K1.1 f26_1
  have f39 := own_sta_keep f6 K26q (allS (own_eplain A1) all0)
  have f40 := f7.keep K26q
  have f41 := own_sta_keep f8 K26q (allS (own_eplain A1) all0)
  have f42 := f9.keep K26q
  have f43 := own_sta_keep f10 K26q (allS (own_eplain A1) all0)
  have f44 := f11.keep K26q
  have f45 := f12.keep K26q (ninS ne2 nin0)
  have f46 := f13.keep K26q (ninS ne3 nin0)
  have f47 := f14.keep K26q (ninS ne4 nin0)
  have f48 := own_sta_keep f15 K26q (allS (own_eplain A1) all0)
  have f49 := f16.keep K26q (ninS ne5 nin0)
  have f50 := A1.keep K26q
  have K26 := K1.trans K26q (allS (Or.inr H1) all0)
  have Z26 := Nat.le_trans Z1 K26q.1
  refine Goes.tr st26 ?_
  show Goes p e below s _ _ _ T26 (mkF m 10 #[.val (.long x0), .second, .val (.long x1), .second, .val (.long x2), .second, .val (.long x3), .second, .val (.long x4), .second, .val (.long x5), .second, .unset, .unset, .unset, .unset, .unset, .unset, .unset] [(.ref b1)])
  refine own_astore X26 hx 12 rfl #[.val (.long x0), .second, .val (.long x1), .second, .val (.long x2), .second, .val (.long x3), .second, .val (.long x4), .second, .val (.long x5), .second, .val (.ref b1), .unset, .unset, .unset, .unset, .unset, .unset] (hb hby at_10) rfl rfl ?_
  refine own_aload X26 hx 14 rfl (hb hby at_12) rfl rfl ?_
  refine own_lloadN X26 hx 15 rfl (hb hby at_14) rfl ?_
  obtain ⟨cq51, kq51, q51a, q51b, q51c⟩ := isOf hZ rfl f50
  obtain ⟨_, _, ⟨T51, L51, k51, n51⟩, -, X51, ⟨Lc51, hQ51, l51, y51, z51⟩, st51⟩ := X26.virtualBack hx (y := (⟨"com/example/tallywire/tallywire/flaps/Pacer", "take", "(J)Lcom/example/tallywire/tallywire/flaps/Command;"⟩ : MethodName)) (z := (⟨"com/example/tallywire/tallywire/flaps/Pacer", "take", "(J)Lcom/example/tallywire/tallywire/flaps/Command;"⟩ : MethodName)) hown (mvT hZ (hw _ (List.mem_of_getElem? (i := 22) rfl))) (mvT hZ (hw _ (List.mem_of_getElem? (i := 23) rfl))) (notFace_of_selects (args := #[]) (mvT hZ (hw _ (List.mem_of_getElem? (i := 25) rfl)))) (mvT hZ (hw _ (List.mem_of_getElem? (i := 25) rfl))) (mvT hZ (hw _ (List.mem_of_getElem? (i := 24) rfl))) (by decide) (backOf (W := 0) (rmtkA l Z a0 hw [] b1 x0 z_CAPABILITIES aa_26 sa_26 sm x2 T26.heap n0 Z26 f50 G1 f26_2 f26_3 f26_4 f26_5 f26_6 f26_7 f26_8 f26_9 f26_10 f26_11 f26_12 ne37 ne31 ne36 ne5 ne30 GG38 GG32 f48 f49 f39 f40 f45 ne2 ne33) hZ (hw _ (List.mem_of_getElem? (i := 26) rfl)) (hw _ (List.mem_of_getElem? (i := 2) rfl)) (by decide) (by decide)) q51a q51c (g := (mkF m 15 #[.val (.long x0), .second, .val (.long x1), .second, .val (.long x2), .second, .val (.long x3), .second, .val (.long x4), .second, .val (.long x5), .second, .val (.ref b1), .unset, .unset, .unset, .unset, .unset, .unset] [(.long x0), (.ref b1)])) rfl (by rw [hml]; rfl) (Steps.refl _) (argsL := [(.long x0)]) (rest := []) (lenOf own_pd7 rfl) rfl (by show 2 * 0 + _ ≤ _; exact Nat.le_of_eq rfl) (hb hby at_15) (fun _ _ => ⟨rfl, rfl, (by decide : 3 + 1 ≤ _), (by decide : 39 + 2 ≤ _)⟩)
  dsimp only [Pt.U, Pt.locs, Pt.cells, Pt.slots] at X51 l51 y51 z51 st51 hQ51
  subst l51 y51 z51
  obtain ⟨rfl, N51q, K51q, f51_0, f51_1, f51_2, f51_3, f51_4, f51_5, f51_6, f51_7, f51_8, f51_9⟩ := hQ51
  have N51 := Fr.app N26 N51q
  have f52 := own_sta_keep f39 K51q (allS (own_eplain f50) (allS f26_11.plain all0))
  have f53 := f40.keep K51q
  have f54 := own_sta_keep f41 K51q (allS (own_eplain f50) (allS f26_11.plain all0))
  have f55 := f42.keep K51q
  have f56 := own_sta_keep f43 K51q (allS (own_eplain f50) (allS f26_11.plain all0))
  have f57 := f44.keep K51q
  have f58 := f45.keep K51q (ninS ne2 (ninS ne33 nin0))
  have f59 := f46.keep K51q (ninS ne3 (ninS ne34 nin0))
  have f60 := f47.keep K51q (ninS ne4 (ninS ne35 nin0))
  have f61 := own_sta_keep f48 K51q (allS (own_eplain f50) (allS f26_11.plain all0))
  have f62 := f49.keep K51q (ninS ne5 (ninS ne36 nin0))
  have f63 := f50.keep K51q
  have f64 := f26_10.keep K51q (ninS (Ne.symm ne31) (ninS f26_12 nin0))
  have K51 := K26.trans K51q (allS (Or.inr H1) (allS (Or.inr HG38) all0))
  have Z51 := Nat.le_trans Z26 K51q.1
  refine Goes.tr st51 ?_
  show Goes p e below s _ _ _ T51 (mkF m 18 #[.val (.long x0), .second, .val (.long x1), .second, .val (.long x2), .second, .val (.long x3), .second, .val (.long x4), .second, .val (.long x5), .second, .val (.ref b1), .unset, .unset, .unset, .unset, .unset, .unset] [(.ref z_CAPABILITIES)])
  refine own_astore X51 hx 20 rfl #[.val (.long x0), .second, .val (.long x1), .second, .val (.long x2), .second, .val (.long x3), .second, .val (.long x4), .second, .val (.long x5), .second, .val (.ref b1), .val (.ref z_CAPABILITIES), .unset, .unset, .unset, .unset, .unset] (hb hby at_18) rfl rfl ?_
  refine own_aload X51 hx 22 rfl (hb hby at_20) rfl rfl ?_
  refine own_lloadN X51 hx 23 rfl (hb hby at_22) rfl ?_
  obtain ⟨cq65, kq65, q65a, q65b, q65c⟩ := isOf hZ rfl f63
  obtain ⟨_, _, ⟨T65, L65, k65, n65⟩, -, X65, ⟨Lc65, hQ65, l65, y65, z65⟩, st65⟩ := X51.virtualBack hx (y := (⟨"com/example/tallywire/tallywire/flaps/Pacer", "answered", "(J)V"⟩ : MethodName)) (z := (⟨"com/example/tallywire/tallywire/flaps/Pacer", "answered", "(J)V"⟩ : MethodName)) hown (mvT hZ (hw _ (List.mem_of_getElem? (i := 75) rfl))) (mvT hZ (hw _ (List.mem_of_getElem? (i := 76) rfl))) (notFace_of_selects (args := #[]) (mvT hZ (hw _ (List.mem_of_getElem? (i := 78) rfl)))) (mvT hZ (hw _ (List.mem_of_getElem? (i := 78) rfl))) (mvT hZ (hw _ (List.mem_of_getElem? (i := 77) rfl))) (by decide) (backOf (W := 0) (rman0 l Z a0 hw [] b1 x1 aa_26 sa_26 z_CAPABILITIES (0 : Int64) x2 x0 T51.heap n0 Z51 f63 G1 f51_0 f51_1 f51_2 f51_3 f51_4 f51_5 f51_6 f51_7 f51_8 f51_9 f26_12 ne31 ne37 GG32) hZ (hw _ (List.mem_of_getElem? (i := 79) rfl)) (hw _ (List.mem_of_getElem? (i := 2) rfl)) (by decide) (by decide)) q65a q65c (g := (mkF m 23 #[.val (.long x0), .second, .val (.long x1), .second, .val (.long x2), .second, .val (.long x3), .second, .val (.long x4), .second, .val (.long x5), .second, .val (.ref b1), .val (.ref z_CAPABILITIES), .unset, .unset, .unset, .unset, .unset] [(.long x1), (.ref b1)])) rfl (by rw [hml]; rfl) (Steps.refl _) (argsL := [(.long x1)]) (rest := []) (lenOf own_pd8 rfl) rfl (by show 2 * 0 + _ ≤ _; exact Nat.le_of_eq rfl) (hb hby at_23) (fun _ _ => ⟨rfl, rfl, (by decide : 4 + 0 ≤ _), (by decide : 41 + 0 ≤ _)⟩)
  dsimp only [Pt.U, Pt.locs, Pt.cells, Pt.slots] at X65 l65 y65 z65 st65 hQ65
  subst l65 y65 z65
  obtain ⟨rfl, N65q, K65q, f65_0, f65_1, f65_2, f65_3, f65_4, f65_5, f65_6, f65_7, f65_8, f65_9⟩ := hQ65
  have N65 := Fr.app N51 N65q
  have f66 := own_sta_keep f52 K65q (allS (own_eplain f63) (allS f51_8.plain all0))
  have f67 := f53.keep K65q
  have f68 := own_sta_keep f54 K65q (allS (own_eplain f63) (allS f51_8.plain all0))
  have f69 := f55.keep K65q
  have f70 := own_sta_keep f56 K65q (allS (own_eplain f63) (allS f51_8.plain all0))
  have f71 := f57.keep K65q
  have f72 := f58.keep K65q (ninS ne2 (ninS ne27 nin0))
  have f73 := f59.keep K65q (ninS ne3 (ninS ne28 nin0))
  have f74 := f60.keep K65q (ninS ne4 (ninS ne29 nin0))
  have f75 := own_sta_keep f61 K65q (allS (own_eplain f63) (allS f51_8.plain all0))
  have f76 := f62.keep K65q (ninS ne5 (ninS ne30 nin0))
  have f77 := f63.keep K65q
  have f78 := f51_9.keep K65q (ninS (Ne.symm ne37) (ninS (Ne.symm f26_12) nin0))
  have K65 := K51.trans K65q (allS (Or.inr H1) (allS (Or.inr HG32) all0))
  have Z65 := Nat.le_trans Z51 K65q.1
  refine Goes.tr st65 ?_
  show Goes p e below s _ _ _ T65 (mkF m 26 #[.val (.long x0), .second, .val (.long x1), .second, .val (.long x2), .second, .val (.long x3), .second, .val (.long x4), .second, .val (.long x5), .second, .val (.ref b1), .val (.ref z_CAPABILITIES), .unset, .unset, .unset, .unset, .unset] [])
  refine own_aload X65 hx 28 rfl (hb hby at_26) rfl rfl ?_
  refine own_lload X65 hx 30 rfl (hb hby at_28) rfl ?_
  obtain ⟨cq79, kq79, q79a, q79b, q79c⟩ := isOf hZ rfl f77
  obtain ⟨_, _, ⟨T79, L79, k79, n79⟩, -, X79, ⟨Lc79, hQ79, l79, y79, z79⟩, st79⟩ := X65.virtualBack hx (y := (⟨"com/example/tallywire/tallywire/flaps/Pacer", "dueAt", "(J)J"⟩ : MethodName)) (z := (⟨"com/example/tallywire/tallywire/flaps/Pacer", "dueAt", "(J)J"⟩ : MethodName)) hown (mvT hZ (hw _ (List.mem_of_getElem? (i := 82) rfl))) (mvT hZ (hw _ (List.mem_of_getElem? (i := 83) rfl))) (notFace_of_selects (args := #[]) (mvT hZ (hw _ (List.mem_of_getElem? (i := 85) rfl)))) (mvT hZ (hw _ (List.mem_of_getElem? (i := 85) rfl))) (mvT hZ (hw _ (List.mem_of_getElem? (i := 84) rfl))) (by decide) (backOf (W := 0) (rmdu1 l Z a0 hw [] b1 x3 z_CAPABILITIES z_ACTIVE_FLAPS z_PING x1 x2 T65.heap n0 Z65 f77 f65_6 f68 ne_z_CAPABILITIES_z_ACTIVE_FLAPS f70 f65_2 f65_5 f65_3 f65_4) hZ (hw _ (List.mem_of_getElem? (i := 86) rfl)) (hw _ (List.mem_of_getElem? (i := 2) rfl)) (by decide) (by decide)) q79a q79c (g := (mkF m 30 #[.val (.long x0), .second, .val (.long x1), .second, .val (.long x2), .second, .val (.long x3), .second, .val (.long x4), .second, .val (.long x5), .second, .val (.ref b1), .val (.ref z_CAPABILITIES), .unset, .unset, .unset, .unset, .unset] [(.long x3), (.ref b1)])) rfl (by rw [hml]; rfl) (Steps.refl _) (argsL := [(.long x3)]) (rest := []) (lenOf own_pd9 rfl) rfl (by show 2 * 0 + _ ≤ _; exact Nat.le_of_eq rfl) (hb hby at_30) (fun _ _ => ⟨rfl, rfl, (by decide : 4 + 1 ≤ _), (by decide : 41 + 2 ≤ _)⟩)
  dsimp only [Pt.U, Pt.locs, Pt.cells, Pt.slots] at X79 l79 y79 z79 st79 hQ79
  subst l79 y79 z79
  obtain ⟨pa_79, rfl, N79q, K79q, pr79_0⟩ := hQ79
  have N79 := Fr.app N65 N79q
  have f80 := own_sta_keep f66 K79q all0
  have f81 := f67.keep K79q
  have f82 := own_sta_keep f68 K79q all0
  have f83 := f69.keep K79q
  have f84 := own_sta_keep f70 K79q all0
  have f85 := f71.keep K79q
  have f86 := f72.keep K79q nin0
  have f87 := f73.keep K79q nin0
  have f88 := f74.keep K79q nin0
  have f89 := own_sta_keep f75 K79q all0
  have f90 := f76.keep K79q nin0
  have f91 := f77.keep K79q
  have f92 := f65_9.keep K79q nin0
  have f93 := f65_0.keep K79q nin0
  have f94 := f65_1.keep K79q nin0
  have f95 := f65_2.keep K79q nin0
  have f96 := f65_3.keep K79q nin0
  have f97 := f65_4.keep K79q nin0
  have f98 := f65_5.keep K79q nin0
  have f99 := f65_6.keep K79q nin0
  have f100 := f65_7.keep K79q nin0
  have f101 := f65_8.keep K79q nin0
  have K79 := K65.trans K79q all0
  have Z79 := Nat.le_trans Z65 K79q.1
  refine Goes.tr st79 ?_
  show Goes p e below s _ _ _ T79 (mkF m 33 #[.val (.long x0), .second, .val (.long x1), .second, .val (.long x2), .second, .val (.long x3), .second, .val (.long x4), .second, .val (.long x5), .second, .val (.ref b1), .val (.ref z_CAPABILITIES), .unset, .unset, .unset, .unset, .unset] [(.long pa_79)])
  refine own_lstore X79 hx 35 rfl #[.val (.long x0), .second, .val (.long x1), .second, .val (.long x2), .second, .val (.long x3), .second, .val (.long x4), .second, .val (.long x5), .second, .val (.ref b1), .val (.ref z_CAPABILITIES), .val (.long pa_79), .second, .unset, .unset, .unset] (hb hby at_33) rfl ?_
  refine own_aload X79 hx 37 rfl (hb hby at_35) rfl rfl ?_
  refine own_lload X79 hx 39 rfl (hb hby at_37) rfl ?_
  obtain ⟨cq102, kq102, q102a, q102b, q102c⟩ := isOf hZ rfl f91
  obtain ⟨_, _, ⟨T102, L102, k102, n102⟩, -, X102, ⟨Lc102, hQ102, l102, y102, z102⟩, st102⟩ := X79.virtualBack hx (y := (⟨"com/example/tallywire/tallywire/flaps/Pacer", "take", "(J)Lcom/example/tallywire/tallywire/flaps/Command;"⟩ : MethodName)) (z := (⟨"com/example/tallywire/tallywire/flaps/Pacer", "take", "(J)Lcom/example/tallywire/tallywire/flaps/Command;"⟩ : MethodName)) hown (mvT hZ (hw _ (List.mem_of_getElem? (i := 22) rfl))) (mvT hZ (hw _ (List.mem_of_getElem? (i := 23) rfl))) (notFace_of_selects (args := #[]) (mvT hZ (hw _ (List.mem_of_getElem? (i := 25) rfl)))) (mvT hZ (hw _ (List.mem_of_getElem? (i := 25) rfl))) (mvT hZ (hw _ (List.mem_of_getElem? (i := 24) rfl))) (by decide) (backOf (W := 0) (rmtkB l Z a0 hw [] b1 pa_79 z_CAPABILITIES z_ACTIVE_FLAPS z_PING aa_26 sa_26 sm x1 x2 x0 T79.heap n0 Z79 f91 G1 f93 f94 f95 f96 f97 f98 f99 f100 f101 f92 f26_12 ne37 ne31 ne36 ne5 ne30 GG38 GG32 f89 f90 f82 ne_z_CAPABILITIES_z_ACTIVE_FLAPS f84 (own_hd pr79_0) f85 f88 ne4 ne35) hZ (hw _ (List.mem_of_getElem? (i := 26) rfl)) (hw _ (List.mem_of_getElem? (i := 2) rfl)) (by decide) (by decide)) q102a q102c (g := (mkF m 39 #[.val (.long x0), .second, .val (.long x1), .second, .val (.long x2), .second, .val (.long x3), .second, .val (.long x4), .second, .val (.long x5), .second, .val (.ref b1), .val (.ref z_CAPABILITIES), .val (.long pa_79), .second, .unset, .unset, .unset] [(.long pa_79), (.ref b1)])) rfl (by rw [hml]; rfl) (Steps.refl _) (argsL := [(.long pa_79)]) (rest := []) (lenOf own_pd7 rfl) rfl (by show 2 * 0 + _ ≤ _; exact Nat.le_of_eq rfl) (hb hby at_39) (fun _ _ => ⟨rfl, rfl, (by decide : 5 + 1 ≤ _), (by decide : 43 + 2 ≤ _)⟩)
  dsimp only [Pt.U, Pt.locs, Pt.cells, Pt.slots] at X102 l102 y102 z102 st102 hQ102
  subst l102 y102 z102
  obtain ⟨rfl, N102q, K102q, f102_0, f102_1, f102_2, f102_3, f102_4, f102_5, f102_6, f102_7, f102_8, f102_9⟩ := hQ102
  have N102 := Fr.app N79 N102q
  have f103 := own_sta_keep f80 K102q (allS (own_eplain f91) (allS f92.plain all0))
  have f104 := f81.keep K102q
  have f105 := own_sta_keep f82 K102q (allS (own_eplain f91) (allS f92.plain all0))
  have f106 := f83.keep K102q
  have f107 := own_sta_keep f84 K102q (allS (own_eplain f91) (allS f92.plain all0))
  have f108 := f85.keep K102q
  have f109 := f86.keep K102q (ninS ne2 (ninS ne33 nin0))
  have f110 := f87.keep K102q (ninS ne3 (ninS ne34 nin0))
  have f111 := f88.keep K102q (ninS ne4 (ninS ne35 nin0))
  have f112 := own_sta_keep f89 K102q (allS (own_eplain f91) (allS f92.plain all0))
  have f113 := f90.keep K102q (ninS ne5 (ninS ne36 nin0))
  have f114 := f91.keep K102q
  have f115 := f101.keep K102q (ninS (Ne.symm ne31) (ninS f26_12 nin0))
  have K102 := K79.trans K102q (allS (Or.inr H1) (allS (Or.inr HG38) all0))
  have Z102 := Nat.le_trans Z79 K102q.1
  refine Goes.tr st102 ?_
  show Goes p e below s _ _ _ T102 (mkF m 42 #[.val (.long x0), .second, .val (.long x1), .second, .val (.long x2), .second, .val (.long x3), .second, .val (.long x4), .second, .val (.long x5), .second, .val (.ref b1), .val (.ref z_CAPABILITIES), .val (.long pa_79), .second, .unset, .unset, .unset] [(.ref z_PING)])
  refine own_astore X102 hx 44 rfl #[.val (.long x0), .second, .val (.long x1), .second, .val (.long x2), .second, .val (.long x3), .second, .val (.long x4), .second, .val (.long x5), .second, .val (.ref b1), .val (.ref z_CAPABILITIES), .val (.long pa_79), .second, .val (.ref z_PING), .unset, .unset] (hb hby at_42) rfl rfl ?_
  refine own_aload X102 hx 46 rfl (hb hby at_44) rfl rfl ?_
  refine own_lload X102 hx 48 rfl (hb hby at_46) rfl ?_
  obtain ⟨cq116, kq116, q116a, q116b, q116c⟩ := isOf hZ rfl f114
  obtain ⟨_, _, ⟨T116, L116, k116, n116⟩, -, X116, ⟨Lc116, hQ116, l116, y116, z116⟩, st116⟩ := X102.virtualBack hx (y := (⟨"com/example/tallywire/tallywire/flaps/Pacer", "answered", "(J)V"⟩ : MethodName)) (z := (⟨"com/example/tallywire/tallywire/flaps/Pacer", "answered", "(J)V"⟩ : MethodName)) hown (mvT hZ (hw _ (List.mem_of_getElem? (i := 75) rfl))) (mvT hZ (hw _ (List.mem_of_getElem? (i := 76) rfl))) (notFace_of_selects (args := #[]) (mvT hZ (hw _ (List.mem_of_getElem? (i := 78) rfl)))) (mvT hZ (hw _ (List.mem_of_getElem? (i := 78) rfl))) (mvT hZ (hw _ (List.mem_of_getElem? (i := 77) rfl))) (by decide) (backOf (W := 0) (rman1 l Z a0 hw [] b1 x4 aa_26 sa_26 z_PING x1 x2 x0 T102.heap n0 Z102 f114 G1 f102_0 f102_1 f102_2 f102_3 f102_4 f102_5 f102_6 f102_7 f102_8 f102_9 f26_12 ne31 ne37 GG32) hZ (hw _ (List.mem_of_getElem? (i := 79) rfl)) (hw _ (List.mem_of_getElem? (i := 2) rfl)) (by decide) (by decide)) q116a q116c (g := (mkF m 48 #[.val (.long x0), .second, .val (.long x1), .second, .val (.long x2), .second, .val (.long x3), .second, .val (.long x4), .second, .val (.long x5), .second, .val (.ref b1), .val (.ref z_CAPABILITIES), .val (.long pa_79), .second, .val (.ref z_PING), .unset, .unset] [(.long x4), (.ref b1)])) rfl (by rw [hml]; rfl) (Steps.refl _) (argsL := [(.long x4)]) (rest := []) (lenOf own_pd8 rfl) rfl (by show 2 * 0 + _ ≤ _; exact Nat.le_of_eq rfl) (hb hby at_48) (fun _ _ => ⟨rfl, rfl, (by decide : 6 + 0 ≤ _), (by decide : 45 + 0 ≤ _)⟩)
  dsimp only [Pt.U, Pt.locs, Pt.cells, Pt.slots] at X116 l116 y116 z116 st116 hQ116
  subst l116 y116 z116
  obtain ⟨rfl, N116q, K116q, f116_0, f116_1, f116_2, f116_3, f116_4, f116_5, f116_6, f116_7, f116_8, f116_9⟩ := hQ116
  have N116 := Fr.app N102 N116q
  have f117 := own_sta_keep f103 K116q (allS (own_eplain f114) (allS f102_8.plain all0))
  have f118 := f104.keep K116q
  have f119 := own_sta_keep f105 K116q (allS (own_eplain f114) (allS f102_8.plain all0))
  have f120 := f106.keep K116q
  have f121 := own_sta_keep f107 K116q (allS (own_eplain f114) (allS f102_8.plain all0))
  have f122 := f108.keep K116q
  have f123 := f109.keep K116q (ninS ne2 (ninS ne27 nin0))
  have f124 := f110.keep K116q (ninS ne3 (ninS ne28 nin0))
  have f125 := f111.keep K116q (ninS ne4 (ninS ne29 nin0))
  have f126 := own_sta_keep f112 K116q (allS (own_eplain f114) (allS f102_8.plain all0))
  have f127 := f113.keep K116q (ninS ne5 (ninS ne30 nin0))
  have f128 := f114.keep K116q
  have f129 := f102_9.keep K116q (ninS (Ne.symm ne37) (ninS (Ne.symm f26_12) nin0))
  have K116 := K102.trans K116q (allS (Or.inr H1) (allS (Or.inr HG32) all0))
  have Z116 := Nat.le_trans Z102 K116q.1
  refine Goes.tr st116 ?_
  show Goes p e below s _ _ _ T116 (mkF m 51 #[.val (.long x0), .second, .val (.long x1), .second, .val (.long x2), .second, .val (.long x3), .second, .val (.long x4), .second, .val (.long x5), .second, .val (.ref b1), .val (.ref z_CAPABILITIES), .val (.long pa_79), .second, .val (.ref z_PING), .unset, .unset] [])
  refine own_aload X116 hx 53 rfl (hb hby at_51) rfl rfl ?_
  refine own_lload X116 hx 55 rfl (hb hby at_53) rfl ?_
  obtain ⟨cq130, kq130, q130a, q130b, q130c⟩ := isOf hZ rfl f128
  obtain ⟨_, _, ⟨T130, L130, k130, n130⟩, -, X130, ⟨Lc130, hQ130, l130, y130, z130⟩, st130⟩ := X116.virtualBack hx (y := (⟨"com/example/tallywire/tallywire/flaps/Pacer", "dueAt", "(J)J"⟩ : MethodName)) (z := (⟨"com/example/tallywire/tallywire/flaps/Pacer", "dueAt", "(J)J"⟩ : MethodName)) hown (mvT hZ (hw _ (List.mem_of_getElem? (i := 82) rfl))) (mvT hZ (hw _ (List.mem_of_getElem? (i := 83) rfl))) (notFace_of_selects (args := #[]) (mvT hZ (hw _ (List.mem_of_getElem? (i := 85) rfl)))) (mvT hZ (hw _ (List.mem_of_getElem? (i := 85) rfl))) (mvT hZ (hw _ (List.mem_of_getElem? (i := 84) rfl))) (by decide) (backOf (W := 0) (rmdu2 l Z a0 hw [] b1 x5 z_PING z_ACTIVE_FLAPS z_PING x4 x2 T116.heap n0 Z116 f128 f116_6 f119 (Ne.symm ne_z_ACTIVE_FLAPS_z_PING) f121 f116_2 f116_5 f116_3 f116_4) hZ (hw _ (List.mem_of_getElem? (i := 86) rfl)) (hw _ (List.mem_of_getElem? (i := 2) rfl)) (by decide) (by decide)) q130a q130c (g := (mkF m 55 #[.val (.long x0), .second, .val (.long x1), .second, .val (.long x2), .second, .val (.long x3), .second, .val (.long x4), .second, .val (.long x5), .second, .val (.ref b1), .val (.ref z_CAPABILITIES), .val (.long pa_79), .second, .val (.ref z_PING), .unset, .unset] [(.long x5), (.ref b1)])) rfl (by rw [hml]; rfl) (Steps.refl _) (argsL := [(.long x5)]) (rest := []) (lenOf own_pd9 rfl) rfl (by show 2 * 0 + _ ≤ _; exact Nat.le_of_eq rfl) (hb hby at_55) (fun _ _ => ⟨rfl, rfl, (by decide : 6 + 1 ≤ _), (by decide : 45 + 2 ≤ _)⟩)
  dsimp only [Pt.U, Pt.locs, Pt.cells, Pt.slots] at X130 l130 y130 z130 st130 hQ130
  subst l130 y130 z130
  obtain ⟨pa_130, rfl, N130q, K130q, pr130_0⟩ := hQ130
  have N130 := Fr.app N116 N130q
  have f131 := own_sta_keep f117 K130q all0
  have f132 := f118.keep K130q
  have f133 := own_sta_keep f119 K130q all0
  have f134 := f120.keep K130q
  have f135 := own_sta_keep f121 K130q all0
  have f136 := f122.keep K130q
  have f137 := f123.keep K130q nin0
  have f138 := f124.keep K130q nin0
  have f139 := f125.keep K130q nin0
  have f140 := own_sta_keep f126 K130q all0
  have f141 := f127.keep K130q nin0
  have f142 := f128.keep K130q
  have f143 := f116_9.keep K130q nin0
  have f144 := f116_0.keep K130q nin0
  have f145 := f116_1.keep K130q nin0
  have f146 := f116_2.keep K130q nin0
  have f147 := f116_3.keep K130q nin0
  have f148 := f116_4.keep K130q nin0
  have f149 := f116_5.keep K130q nin0
  have f150 := f116_6.keep K130q nin0
  have f151 := f116_7.keep K130q nin0
  have f152 := f116_8.keep K130q nin0
  have K130 := K116.trans K130q all0
  have Z130 := Nat.le_trans Z116 K130q.1
  refine Goes.tr st130 ?_
  show Goes p e below s _ _ _ T130 (mkF m 58 #[.val (.long x0), .second, .val (.long x1), .second, .val (.long x2), .second, .val (.long x3), .second, .val (.long x4), .second, .val (.long x5), .second, .val (.ref b1), .val (.ref z_CAPABILITIES), .val (.long pa_79), .second, .val (.ref z_PING), .unset, .unset] [(.long pa_130)])
  refine own_lstore X130 hx 60 rfl #[.val (.long x0), .second, .val (.long x1), .second, .val (.long x2), .second, .val (.long x3), .second, .val (.long x4), .second, .val (.long x5), .second, .val (.ref b1), .val (.ref z_CAPABILITIES), .val (.long pa_79), .second, .val (.ref z_PING), .val (.long pa_130), .second] (hb hby at_58) rfl ?_
  refine own_aload X130 hx 62 rfl (hb hby at_60) rfl rfl ?_
  obtain ⟨T153, X153, e153, st153⟩ := getS2 X130 hx hZ hown (host := "") (Or.inl (hw _ (List.mem_of_getElem? (i := 94) rfl))) Via.refl rfl f131 (g := (mkF m 62 #[.val (.long x0), .second, .val (.long x1), .second, .val (.long x2), .second, .val (.long x3), .second, .val (.long x4), .second, .val (.long x5), .second, .val (.ref b1), .val (.ref z_CAPABILITIES), .val (.long pa_79), .second, .val (.ref z_PING), .val (.long pa_130), .second] [(.ref z_CAPABILITIES)])) rfl (hb hby at_62)
  refine Goes.go st153 ?_
  show Goes p e below s _ _ _ T153 (mkF m 65 #[.val (.long x0), .second, .val (.long x1), .second, .val (.long x2), .second, .val (.long x3), .second, .val (.long x4), .second, .val (.long x5), .second, .val (.ref b1), .val (.ref z_CAPABILITIES), .val (.long pa_79), .second, .val (.ref z_PING), .val (.long pa_130), .second] [(.ref z_CAPABILITIES), (.ref z_CAPABILITIES)])
  refine own_acmp X153 hx 68 (same := true) rfl rfl (hb hby at_65) (decide_eq_true rfl) (by decide) (by decide) ?_
  refine own_lload X153 hx 70 rfl (hb hby at_68) rfl ?_
  refine own_lloadN X153 hx 71 rfl (hb hby at_70) rfl ?_
  refine own_lload X153 hx 73 rfl (hb hby at_71) rfl ?_
  refine own_ladd X153 hx 74 rfl (hb hby at_73) rfl ?_
  refine own_lload X153 hx 76 rfl (hb hby at_74) rfl ?_
  obtain ⟨_, _, ⟨T154, L154, k154, n154⟩, -, X154, ⟨Lc154, hQ154, l154, y154, z154⟩, st154⟩ := Jvm.LawKit.callS X153 hx (y := (⟨"com/example/tallywire/tallywire/flaps/PacerAnsweredPinLaw", "laterOf", "(JJ)J"⟩ : MethodName)) hown (mvT hZ (hw _ (List.mem_of_getElem? (i := 95) rfl))) (mvT hZ (hw _ (List.mem_of_getElem? (i := 96) rfl))) (mvT hZ (hw _ (List.mem_of_getElem? (i := 97) rfl))) (mvT hZ (hw _ (List.mem_of_getElem? (i := 98) rfl))) (by decide) (backOf (W := 2) (rm12 l Z a0 hw [] (x1 + x2) x3 T130.heap n0 Z130 ) hZ (hw _ (List.mem_of_getElem? (i := 98) rfl)) (hw _ (List.mem_of_getElem? (i := 97) rfl)) (by decide) (by decide)) (g := (mkF m 76 #[.val (.long x0), .second, .val (.long x1), .second, .val (.long x2), .second, .val (.long x3), .second, .val (.long x4), .second, .val (.long x5), .second, .val (.ref b1), .val (.ref z_CAPABILITIES), .val (.long pa_79), .second, .val (.ref z_PING), .val (.long pa_130), .second] [(.long x3), (.long (x1 + x2)), (.long pa_79)])) rfl (by rw [hml]; rfl) (argsL := [(.long (x1 + x2)), (.long x3)]) (rest := [(.long pa_79)]) (lenOf own_pd3 rfl) rfl (by show 2 * 0 + _ ≤ _; exact Nat.le_of_eq rfl) (hb hby at_76) (fun _ _ => ⟨rfl, e153, (by decide : 7 + 0 ≤ _), (by decide : 47 + 0 ≤ _)⟩)
  dsimp only [Pt.U, Pt.locs, Pt.cells, Pt.slots] at X154 l154 y154 z154 st154 hQ154
  subst l154 y154 z154
  obtain ⟨lr_154, rfl, N154q, eh154, pr154_0⟩ := hQ154
  have N154 := Fr.app N130 N154q
  refine Goes.go st154 ?_
  show Goes p e below s _ _ _ T154 (mkF m 79 #[.val (.long x0), .second, .val (.long x1), .second, .val (.long x2), .second, .val (.long x3), .second, .val (.long x4), .second, .val (.long x5), .second, .val (.ref b1), .val (.ref z_CAPABILITIES), .val (.long pa_79), .second, .val (.ref z_PING), .val (.long pa_130), .second] [(.long lr_154), (.long pa_79)])
  refine own_lcmp X154 hx 80 rfl (hb hby at_79) ?_
  refine own_ifN X154 hx 83 (hb hby at_80) (Lteq (own_two pr79_0 pr154_0 : pa_79 = lr_154)).2 rfl ?_
  refine own_aload X154 hx 85 rfl (hb hby at_83) rfl rfl ?_
  obtain ⟨T155, X155, e155, st155⟩ := getS2 X154 hx hZ hown (host := "") (Or.inl (hw _ (List.mem_of_getElem? (i := 99) rfl))) Via.refl eh154 f135 (g := (mkF m 85 #[.val (.long x0), .second, .val (.long x1), .second, .val (.long x2), .second, .val (.long x3), .second, .val (.long x4), .second, .val (.long x5), .second, .val (.ref b1), .val (.ref z_CAPABILITIES), .val (.long pa_79), .second, .val (.ref z_PING), .val (.long pa_130), .second] [(.ref z_PING)])) rfl (hb hby at_85)
  refine Goes.go st155 ?_
  show Goes p e below s _ _ _ T155 (mkF m 88 #[.val (.long x0), .second, .val (.long x1), .second, .val (.long x2), .second, .val (.long x3), .second, .val (.long x4), .second, .val (.long x5), .second, .val (.ref b1), .val (.ref z_CAPABILITIES), .val (.long pa_79), .second, .val (.ref z_PING), .val (.long pa_130), .second] [(.ref z_PING), (.ref z_PING)])
  refine own_acmp X155 hx 91 (same := true) rfl rfl (hb hby at_88) (decide_eq_true rfl) (by decide) (by decide) ?_
  refine own_lload X155 hx 93 rfl (hb hby at_91) rfl ?_
  refine own_lload X155 hx 95 rfl (hb hby at_93) rfl ?_
  refine own_lload X155 hx 97 rfl (hb hby at_95) rfl ?_
  refine own_ladd X155 hx 98 rfl (hb hby at_97) rfl ?_
  refine own_lload X155 hx 100 rfl (hb hby at_98) rfl ?_
  obtain ⟨_, _, ⟨T156, L156, k156, n156⟩, -, X156, ⟨Lc156, hQ156, l156, y156, z156⟩, st156⟩ := Jvm.LawKit.callS X155 hx (y := (⟨"com/example/tallywire/tallywire/flaps/PacerAnsweredPinLaw", "laterOf", "(JJ)J"⟩ : MethodName)) hown (mvT hZ (hw _ (List.mem_of_getElem? (i := 95) rfl))) (mvT hZ (hw _ (List.mem_of_getElem? (i := 96) rfl))) (mvT hZ (hw _ (List.mem_of_getElem? (i := 97) rfl))) (mvT hZ (hw _ (List.mem_of_getElem? (i := 98) rfl))) (by decide) (backOf (W := 2) (rm12 l Z a0 hw [] (x4 + x2) x5 T130.heap n0 Z130 ) hZ (hw _ (List.mem_of_getElem? (i := 98) rfl)) (hw _ (List.mem_of_getElem? (i := 97) rfl)) (by decide) (by decide)) (g := (mkF m 100 #[.val (.long x0), .second, .val (.long x1), .second, .val (.long x2), .second, .val (.long x3), .second, .val (.long x4), .second, .val (.long x5), .second, .val (.ref b1), .val (.ref z_CAPABILITIES), .val (.long pa_79), .second, .val (.ref z_PING), .val (.long pa_130), .second] [(.long x5), (.long (x4 + x2)), (.long pa_130)])) rfl (by rw [hml]; rfl) (argsL := [(.long (x4 + x2)), (.long x5)]) (rest := [(.long pa_130)]) (lenOf own_pd3 rfl) rfl (by show 2 * 0 + _ ≤ _; exact Nat.le_of_eq rfl) (hb hby at_100) (fun _ _ => ⟨rfl, e155, (by decide : 7 + 0 ≤ _), (by decide : 47 + 0 ≤ _)⟩)
  dsimp only [Pt.U, Pt.locs, Pt.cells, Pt.slots] at X156 l156 y156 z156 st156 hQ156
  subst l156 y156 z156
  obtain ⟨lr_156, rfl, N156q, eh156, pr156_0⟩ := hQ156
  have N156 := Fr.app N154 N156q
  refine Goes.go st156 ?_
  show Goes p e below s _ _ _ T156 (mkF m 103 #[.val (.long x0), .second, .val (.long x1), .second, .val (.long x2), .second, .val (.long x3), .second, .val (.long x4), .second, .val (.long x5), .second, .val (.ref b1), .val (.ref z_CAPABILITIES), .val (.long pa_79), .second, .val (.ref z_PING), .val (.long pa_130), .second] [(.long lr_156), (.long pa_130)])
  refine own_lcmp X156 hx 104 rfl (hb hby at_103) ?_
  refine own_ifN X156 hx 107 (hb hby at_104) (Lteq (own_two pr130_0 pr156_0 : pa_130 = lr_156)).2 rfl ?_
  refine own_iconst X156 hx 108 rfl (1 : Int32) (hb hby at_107) (by decide) ?_
  refine own_goto X156 hx 112 (hb hby at_108) (by decide) (by decide) ?_
  refine own_retZ X156 hx hlk Bd.returns (by decide) (hb hby at_112) (by decide) (by decide) eh156 ?_
  exact ⟨rfl, N156⟩
set_option maxRecDepth 65536 in
set_option maxHeartbeats 40000000 in
theorem comes_1 {Post : Tables → Env → Array Value → State → Outcome → State → Prop} (hpost : ∀ tb e args s v u, (limb_1_1.after args s (.returned v) u = true ∧ limb_1_2.after args s (.returned v) u = true ∧ True) → FrameEnd s (.returned v) u (Jvm.fieldLocs frame_1_writes args s ++ Jvm.arrayLocs frame_1_arrays args s ++ Jvm.staticLocs frame_1_statics s) 24 192 → Post tb e args s (.returned v) u) :
    ArmFor flags0 classFile x code maxLocals ret World_1 tables_1 room_1 Calls_1 rest_1 Pre_1 Post := by
  intro l hfl _ _ p e ha hc hk s m args below hf hA hF happ hP
  obtain ⟨hcalls, hrest, hpre⟩ := hP
  obtain ⟨-, -, -, hnamed, -, -, -, hat⟩ := (Spec.applies_iff hf).mp happ
  obtain ⟨hg, hn⟩ := and_e (Cond.before_iff.mp (show (Jvm.Cond.and given_1 narrow_1).before args s = true from hpre))
  obtain ⟨gg1, gg2⟩ := and_e hg
  obtain ⟨gg3, gg4⟩ := and_e gg2
  obtain ⟨gg5, gg6⟩ := and_e gg4
  obtain ⟨gg7, gg8⟩ := and_e gg6
  obtain ⟨gg9, gg10⟩ := and_e gg8
  obtain ⟨gg11, gg12⟩ := and_e gg10
  obtain ⟨w0, w1, w2, w3, w4, w5, rfl⟩ : ∃ w0 w1 w2 w3 w4 w5 : Value, args = #[w0, w1, w2, w3, w4, w5] := by
    have hs : args.size = 6 := by simpa [Cond.value, given_1] using gg1
    obtain ⟨L⟩ := args
    match L, hs with
    | [w0, w1, w2, w3, w4, w5], _ => exact ⟨w0, w1, w2, w3, w4, w5, rfl⟩
  have hw := fun d (hd : d ∈ tables_1) => atoms_spec (ws := Jvm.Cond.code x code maxLocals ret :: tables_1) hat d (List.mem_cons_of_mem _ hd)
  have hfit : Fit s := fun {y c} hc i hi => by
    obtain ⟨ha, rfl⟩ := Array.getElem?_eq_some_iff.mp hc
    have q := List.all_eq_true.mp ((Array.all_eq_true_iff_forall_mem.mp hF) _ (Array.getElem_mem ha)) i (List.mem_range.mpr hi)
    simpa [Array.getElem?_eq_getElem hi] using q
  obtain ⟨i0, ei0⟩ := isL_v gg3
  obtain rfl : w0 = (.long i0) := Option.some.inj ei0
  obtain ⟨i1, ei1⟩ := isL_v gg5
  obtain rfl : w1 = (.long i1) := Option.some.inj ei1
  obtain ⟨i2, ei2⟩ := isL_v gg7
  obtain rfl : w2 = (.long i2) := Option.some.inj ei2
  obtain ⟨i3, ei3⟩ := isL_v gg9
  obtain rfl : w3 = (.long i3) := Option.some.inj ei3
  obtain ⟨i4, ei4⟩ := isL_v gg11
  obtain rfl : w4 = (.long i4) := Option.some.inj ei4
  obtain ⟨i5, ei5⟩ := isL_v gg12
  obtain rfl : w5 = (.long i5) := Option.some.inj ei5
  obtain ⟨nn1, nn2⟩ := and_e hn
  obtain ⟨z_CAPABILITIES, ev_z_CAPABILITIES⟩ := exa_v nn1
  have S_z_CAPABILITIES := Sta.start ev_z_CAPABILITIES (Or.inr ⟨(hw _ (List.mem_of_getElem? (i := 37) rfl)), (hw _ (List.mem_of_getElem? (i := 38) rfl))⟩)
  have E_z_CAPABILITIES := Exa.start ev_z_CAPABILITIES nn1
  obtain ⟨nn3, nn4⟩ := and_e nn2
  -- nn3 says: (Jvm.Cond.arrayOf (Jvm.Term.static "com/example/tallywire/tallywire/flaps/Pacer$1" "$SwitchMap$com$example$tallywire$tallywire$flaps$Command" "[I") Jvm.ClassFile.FieldType.int)
  obtain ⟨nn5, nn6⟩ := and_e nn4
  -- nn5 says: (Jvm.Cond.eq (Jvm.Term.length (Jvm.Term.static "com/example/tallywire/tallywire/flaps/Pacer$1" "$SwitchMap$com$example$tallywire$tallywire$flaps$Command" "[I")) (Jvm.Term.int (4 : Int32)))
  obtain ⟨nn7, nn8⟩ := and_e nn6
  obtain ⟨nn9, nn10⟩ := and_e nn8
  -- nn9 says: (Jvm.Cond.eq (Jvm.Term.elem (Jvm.Term.static "com/example/tallywire/tallywire/flaps/Pacer$1" "$SwitchMap$com$example$tallywire$tallywire$flaps$Command" "[I") (Jvm.Term.int (0 : Int32))) (Jvm.Term.int (1 : Int32)))
  obtain ⟨nn11, nn12⟩ := and_e nn10
  obtain ⟨z_ACTIVE_FLAPS, ev_z_ACTIVE_FLAPS⟩ := exa_v nn11
  have S_z_ACTIVE_FLAPS := Sta.start ev_z_ACTIVE_FLAPS (Or.inr ⟨(hw _ (List.mem_of_getElem? (i := 37) rfl)), (hw _ (List.mem_of_getElem? (i := 88) rfl))⟩)
  have E_z_ACTIVE_FLAPS := Exa.start ev_z_ACTIVE_FLAPS nn11
  obtain ⟨nn13, nn14⟩ := and_e nn12
  obtain ⟨nn15, nn16⟩ := and_e nn14
  obtain ⟨z_PING, ev_z_PING⟩ := exa_v nn15
  have S_z_PING := Sta.start ev_z_PING (Or.inr ⟨(hw _ (List.mem_of_getElem? (i := 37) rfl)), (hw _ (List.mem_of_getElem? (i := 90) rfl))⟩)
  have E_z_PING := Exa.start ev_z_PING nn15
  obtain ⟨nn17, nn18⟩ := and_e nn16
  obtain ⟨nn19, nn20⟩ := and_e nn18
  -- nn19 says: (Jvm.Cond.eq (Jvm.Term.elem (Jvm.Term.static "com/example/tallywire/tallywire/flaps/Pacer$1" "$SwitchMap$com$example$tallywire$tallywire$flaps$Command" "[I") (Jvm.Term.int (3 : Int32))) (Jvm.Term.int (4 : Int32)))
  obtain ⟨nn21, nn22⟩ := and_e nn20
  -- nn21 says: (Jvm.Cond.eq (Jvm.Term.elem (Jvm.Term.static "com/example/tallywire/tallywire/flaps/Pacer$1" "$SwitchMap$com$example$tallywire$tallywire$flaps$Command" "[I") (Jvm.Term.int (1 : Int32))) (Jvm.Term.int (2 : Int32)))
  -- nn22 says: (Jvm.Cond.eq (Jvm.Term.elem (Jvm.Term.static "com/example/tallywire/tallywire/flaps/Pacer$1" "$SwitchMap$com$example$tallywire$tallywire$flaps$Command" "[I") (Jvm.Term.int (2 : Int32))) (Jvm.Term.int (3 : Int32)))
  have O_ordinal_z_CAPABILITIES := Fld.start (own_fldv ev_z_CAPABILITIES (Term.int_eval (0)) nn7)
  have O_ordinal_z_ACTIVE_FLAPS := Fld.start (own_fldv ev_z_ACTIVE_FLAPS (Term.int_eval (1)) nn13)
  have O_ordinal_z_PING := Fld.start (own_fldv ev_z_PING (Term.int_eval (3)) nn17)
  have ne_z_CAPABILITIES_z_ACTIVE_FLAPS : z_CAPABILITIES ≠ z_ACTIVE_FLAPS := Fld.ne O_ordinal_z_CAPABILITIES O_ordinal_z_ACTIVE_FLAPS (fun h => absurd (Value.int.inj h) (by decide))
  have ne_z_CAPABILITIES_z_PING : z_CAPABILITIES ≠ z_PING := Fld.ne O_ordinal_z_CAPABILITIES O_ordinal_z_PING (fun h => absurd (Value.int.inj h) (by decide))
  have ne_z_ACTIVE_FLAPS_z_PING : z_ACTIVE_FLAPS ≠ z_PING := Fld.ne O_ordinal_z_ACTIVE_FLAPS O_ordinal_z_PING (fun h => absurd (Value.int.inj h) (by decide))
  obtain ⟨sm, evm⟩ := arr_v nn3
  obtain ⟨clm, Am⟩ := Arr.start evm nn3
  have S_sm := Sta.start evm (Or.inr ⟨(hw _ (List.mem_of_getElem? (i := 60) rfl)), (hw _ (List.mem_of_getElem? (i := 61) rfl))⟩)
  have hatm := IntBox.arrayAt_of Am.1 Am.2.1 Am.2.2
  obtain ⟨hszm, hsizem⟩ := IntBox.length_fwd (Cond.before_iff.mpr nn5) evm Am.1 Am.2.1 Am.2.2
  have hs4 : clm.slots.size = 4 := by
    have e := len_toInt hszm
    rw [hsizem] at e
    have e2 : (4 : Int32).toInt = 4 := by decide
    omega
  have X_sm : own_SM s s.heap sm := ⟨clm, Am, hs4, (elem_f evm (Term.int_eval (0)) hatm (by decide)).symm.trans (own_eqv (Term.int_eval (1)) nn9), (elem_f evm (Term.int_eval (3)) hatm (by decide)).symm.trans (own_eqv (Term.int_eval (4)) nn19)⟩
  obtain ⟨n, o, h1, h2, h3, _, L, rfl, ⟨rfl, N⟩, hq⟩ := rm0 l s _ hw tables_1 i0 i1 i2 i3 i4 i5 z_CAPABILITIES z_ACTIVE_FLAPS z_PING sm s.heap s.heap.size (Nat.le_refl _) S_z_CAPABILITIES E_z_CAPABILITIES S_z_ACTIVE_FLAPS E_z_ACTIVE_FLAPS S_z_PING E_z_PING O_ordinal_z_CAPABILITIES O_ordinal_z_ACTIVE_FLAPS O_ordinal_z_PING ne_z_CAPABILITIES_z_ACTIVE_FLAPS ne_z_CAPABILITIES_z_PING ne_z_ACTIVE_FLAPS_z_PING S_sm X_sm p e ha hc hk s m _ below hf ((Spec.applies_iff_loose hf).mp happ).1 ⟨rfl, State.Warmed39.refl s, rfl⟩ trivial
  refine ⟨n, _, h1, h2, h3, hpost _ _ _ _ _ _ ⟨Cond.after_iff.mpr rfl, Cond.after_iff.mpr (eq_i res_at (Term.int_eval (1)) rfl), trivial⟩ ⟨hq.1, hq.2.1, (hq.2.2.sift fun y hy => Or.inr (N y hy)).mono (by decide) (by decide)⟩⟩
theorem main_1_1 : Claimed_1_1 := comes_1 fun _ _ _ _ _ _ h hF => ⟨h.1, hF⟩
theorem main_1_2 : Claimed_1_2 := comes_1 fun _ _ _ _ _ _ h hF => ⟨h.2.1, hF⟩
end Jvm.Pilot.@@N@@
namespace Jvm.Pilot.@@N@@
open Jvm Jvm.ClassFile Sem Op Lib Jvm.Free Jvm.Stand Jvm.Pilot.@@N@@.Jvm.D
/-! MADE BY PROGRAM (witnessworld.py) out of the Statement's table words and the real class files: 18 classes; the members and pool entries that the words name. The judged class is class 1, her method 1. -/
namespace start1
open Jvm.ClassFile
def u (s : String) : CpInfo := .utf8 (stringToUtf16 s)
/-- a pool by its gaps: so many unusable entries, then the entry; so many at the end -/
def gap : Nat → List CpInfo → List CpInfo
  | 0, r => r
  | n + 1, r => .unusable :: gap n r
def poolList (es : List (Nat × CpInfo)) (last : Nat) : List CpInfo := es.foldr (fun e r => gap e.1 (e.2 :: r)) (gap last [])
def pool (es : List (Nat × CpInfo)) (last : Nat) : Array CpInfo := ⟨poolList es last⟩
def fileOf (pool : Array CpInfo) (this : Nat) (attrs : Array Attribute := #[]) (ms : Array MethodInfo := #[]) (fl : Nat := 33) (sup : Nat := 0) (ifs : Array Nat := #[]) (fds : Array FieldInfo := #[]) : ClassFile where
  minorVersion := 0
  majorVersion := 65
  constantPool := pool
  accessFlags := fl
  thisClass := this
  superClass := sup
  interfaces := ifs
  fields := fds
  methods := ms
  attributes := attrs
def plain (name : String) (sup : Option ClassId) : Class where
  name := name
  kind := .ordinary
  loader := none
  accessFlags := 33
  super := sup
  interfaces := #[]
  cf := none
  fields := #[]
  methods := #[]
  instanceTypes := #[]
  staticTypes := #[]
  resolved := #[]
  callSites := []
  init := .initialized
  statics := none
  mirror := none

def pool0 : Array CpInfo := pool [(5, u "<init>"), (0, u "()V"), (1, .class_ 10), (1, u "java/lang/Object")] 113

def k0c0 : Code := { maxStack := 0, maxLocals := 1, code := object_method_1_code, exceptionTable := #[], attributes := #[] }
def k0m0 : Method := { name := "<init>", desc := "()V", sig := { parameters := [], returnType := none }, accessFlags := 1, code := some k0c0 }
/-- java/lang/Object -/
def k0 : Class := { plain "java/lang/Object" none with
  accessFlags := 33
  interfaces := #[]
  cf := some (fileOf pool0 8 #[] #[{ accessFlags := 1, nameIndex := 5, descriptorIndex := 6, attributes := #[] }] 33 0 #[] #[])
  fields := #[]
  methods := #[k0m0]
  instanceTypes := #[]
  staticTypes := #[]
  resolved := Array.replicate 124 none
  statics := none }

def pool1 : Array CpInfo := pool [(2, .class_ 4), (1, u "java/lang/Object"), (0, u "<init>"), (0, u "()V"), (0, .class_ 8), (0, u "com/example/tallywire/tallywire/flaps/Pacer"), (0, .methodref 7 10), (0, .nameAndType 5 11), (0, u "(JJ)V"), (0, .methodref 7 13), (0, .nameAndType 14 15), (0, u "take"), (0, u "(J)Lcom/example/tallywire/tallywire/flaps/Command;"), (0, .methodref 7 17), (0, .nameAndType 18 19), (0, u "answered"), (0, u "(J)V"), (0, .methodref 7 21), (0, .nameAndType 22 23), (0, u "dueAt"), (0, u "(J)J"), (0, .fieldref 25 26), (0, .class_ 27), (0, .nameAndType 28 29), (0, u "com/example/tallywire/tallywire/flaps/Command"), (0, u "CAPABILITIES"), (0, u "Lcom/example/tallywire/tallywire/flaps/Command;"), (0, .methodref 31 32), (0, .class_ 33), (0, .nameAndType 34 35), (0, u "com/example/tallywire/tallywire/flaps/PacerAnsweredPinLaw"), (0, u "laterOf"), (0, u "(JJ)J"), (0, .fieldref 25 37), (0, .nameAndType 38 29), (0, u "PING"), (2, u "law"), (0, u "(JJJJJJ)Z")] 3

def k1m0 : Method := { name := "<init>", desc := "()V", sig := { parameters := [], returnType := none }, accessFlags := 1, code := none }
def k1c1 : Code := { maxStack := 6, maxLocals := 19, code := code, exceptionTable := #[], attributes := #[] }
def k1m1 : Method := { name := "law", desc := "(JJJJJJ)Z", sig := { parameters := [.long, .long, .long, .long, .long, .long], returnType := some .boolean }, accessFlags := 9, code := some k1c1 }
def k1c2 : Code := { maxStack := 4, maxLocals := 4, code := method_3_code, exceptionTable := #[], attributes := #[] }
def k1m2 : Method := { name := "laterOf", desc := "(JJ)J", sig := { parameters := [.long, .long], returnType := some .long }, accessFlags := 10, code := some k1c2 }
/-- com/example/tallywire/tallywire/flaps/PacerAnsweredPinLaw -/
def k1 : Class := { plain "com/example/tallywire/tallywire/flaps/PacerAnsweredPinLaw" (some 0) with
  accessFlags := 49
  interfaces := #[]
  cf := some (fileOf pool1 31 #[] #[{ accessFlags := 1, nameIndex := 5, descriptorIndex := 6, attributes := #[] }, { accessFlags := 9, nameIndex := 41, descriptorIndex := 42, attributes := #[] }, { accessFlags := 10, nameIndex := 34, descriptorIndex := 35, attributes := #[] }] 49 2 #[] #[])
  fields := #[]
  methods := #[k1m0, k1m1, k1m2]
  instanceTypes := #[]
  staticTypes := #[]
  resolved := Array.replicate 46 none
  statics := none }

def pool2 : Array CpInfo := pool [(1, .methodref 2 3), (0, .class_ 4), (0, .nameAndType 5 6), (0, u "java/lang/Object"), (0, u "<init>"), (0, u "()V"), (0, .class_ 8), (0, u "com/example/tallywire/tallywire/flaps/Pacer"), (0, .fieldref 7 10), (0, .nameAndType 11 12), (0, u "answers"), (0, u "[J"), (0, .fieldref 7 14), (0, .nameAndType 15 12), (0, u "sent"), (2, u "MIN_POLL_NANOS"), (0, u "J"), (5, u "(JJ)J"), (0, .fieldref 7 27), (0, .nameAndType 28 19), (0, u "pollNanos"), (0, .fieldref 7 30), (0, .nameAndType 31 19), (0, u "keepaliveNanos"), (2, u "WINDOW_NANOS"), (0, .long 2), (1, .long 14), (1, .fieldref 7 40), (0, .nameAndType 41 42), (0, u "pingsBesidePolls"), (0, u "Z"), (0, .methodref 7 44), (0, .nameAndType 45 46), (0, u "plan"), (0, u "(J)Lcom/example/tallywire/tallywire/flaps/Pacer$Plan;"), (0, .fieldref 48 49), (0, .class_ 50), (0, .nameAndType 51 19), (0, u "com/example/tallywire/tallywire/flaps/Pacer$Plan"), (0, u "at"), (0, .fieldref 53 54), (0, .class_ 55), (0, .nameAndType 56 57), (0, u "com/example/tallywire/tallywire/flaps/Pacer$1"), (0, u "$SwitchMap$com$example$tallywire$tallywire$flaps$Command"), (0, u "[I"), (0, .fieldref 48 59), (0, .nameAndType 60 61), (0, u "command"), (0, u "Lcom/example/tallywire/tallywire/flaps/Command;"), (0, .methodref 63 64), (0, .class_ 65), (0, .nameAndType 66 67), (0, u "com/example/tallywire/tallywire/flaps/Command"), (0, u "ordinal"), (0, u "()I"), (0, .fieldref 7 69), (0, .nameAndType 70 19), (0, u "nextPoll"), (0, .fieldref 7 72), (0, .nameAndType 73 61), (0, u "taken"), (0, .fieldref 63 75), (0, .nameAndType 76 61), (0, u "CAPABILITIES"), (0, .methodref 7 78), (0, .nameAndType 79 25), (0, u "later"), (0, .fieldref 7 81), (0, .nameAndType 82 19), (0, u "answered"), (0, .long 15), (1, .fieldref 7 86), (0, .nameAndType 87 19), (0, u "lastAnswer"), (0, .methodref 7 89), (0, .nameAndType 90 91), (0, u "roomFor"), (0, u "(IJ)J"), (0, .methodref 48 93), (0, .nameAndType 5 94), (0, u "(Lcom/example/tallywire/tallywire/flaps/Command;J)V"), (0, .fieldref 63 96), (0, .nameAndType 97 61), (0, u "ACTIVE_FLAPS"), (3, .fieldref 63 102), (0, .nameAndType 103 61), (0, u "PING"), (9, u "LATE_WAKE_NANOS"), (31, u "(J)J"), (16, u "MAX_COMMANDS"), (0, u "I"), (2, u "(JJ)V"), (3, u "take"), (0, u "(J)Lcom/example/tallywire/tallywire/flaps/Command;"), (0, u "dueAt"), (0, u "(J)V")] 25

def k2c0 : Code := { maxStack := 5, maxLocals := 7, code := prog_18_method_1_code, exceptionTable := #[], attributes := #[] }
def k2m0 : Method := { name := "<init>", desc := "(JJ)V", sig := { parameters := [.long, .long], returnType := none }, accessFlags := 0, code := some k2c0 }
def k2c1 : Code := { maxStack := 7, maxLocals := 4, code := prog_18_method_2_code, exceptionTable := #[], attributes := #[] }
def k2m1 : Method := { name := "take", desc := "(J)Lcom/example/tallywire/tallywire/flaps/Command;", sig := { parameters := [.long], returnType := some (.object "com/example/tallywire/tallywire/flaps/Command") }, accessFlags := 0, code := some k2c1 }
def k2c2 : Code := { maxStack := 3, maxLocals := 3, code := prog_18_method_3_code, exceptionTable := #[], attributes := #[] }
def k2m2 : Method := { name := "dueAt", desc := "(J)J", sig := { parameters := [.long], returnType := some .long }, accessFlags := 0, code := some k2c2 }
def k2c3 : Code := { maxStack := 5, maxLocals := 3, code := prog_18_method_4_code, exceptionTable := #[], attributes := #[] }
def k2m3 : Method := { name := "answered", desc := "(J)V", sig := { parameters := [.long], returnType := none }, accessFlags := 0, code := some k2c3 }
def k2c4 : Code := { maxStack := 9, maxLocals := 13, code := prog_18_method_5_code, exceptionTable := #[], attributes := #[] }
def k2m4 : Method := { name := "plan", desc := "(J)Lcom/example/tallywire/tallywire/flaps/Pacer$Plan;", sig := { parameters := [.long], returnType := some (.object "com/example/tallywire/tallywire/flaps/Pacer$Plan") }, accessFlags := 2, code := some k2c4 }
def k2c5 : Code := { maxStack := 5, maxLocals := 5, code := prog_18_method_8_code, exceptionTable := #[], attributes := #[] }
def k2m5 : Method := { name := "roomFor", desc := "(IJ)J", sig := { parameters := [.int, .long], returnType := some .long }, accessFlags := 2, code := some k2c5 }
def k2c6 : Code := { maxStack := 4, maxLocals := 4, code := prog_18_method_9_code, exceptionTable := #[], attributes := #[] }
def k2m6 : Method := { name := "later", desc := "(JJ)J", sig := { parameters := [.long, .long], returnType := some .long }, accessFlags := 10, code := some k2c6 }
/-- com/example/tallywire/tallywire/flaps/Pacer -/
def k2 : Class := { plain "com/example/tallywire/tallywire/flaps/Pacer" (some 0) with
  accessFlags := 48
  interfaces := #[]
  cf := some (fileOf pool2 7 #[.nestMembers #[53, 48]] #[{ accessFlags := 0, nameIndex := 5, descriptorIndex := 166, attributes := #[] }, { accessFlags := 0, nameIndex := 170, descriptorIndex := 171, attributes := #[] }, { accessFlags := 0, nameIndex := 172, descriptorIndex := 145, attributes := #[] }, { accessFlags := 0, nameIndex := 82, descriptorIndex := 173, attributes := #[] }, { accessFlags := 2, nameIndex := 45, descriptorIndex := 46, attributes := #[] }, { accessFlags := 2, nameIndex := 90, descriptorIndex := 91, attributes := #[] }, { accessFlags := 10, nameIndex := 79, descriptorIndex := 25, attributes := #[] }] 48 2 #[] #[{ accessFlags := 24, nameIndex := 162, descriptorIndex := 163, attributes := #[] }, { accessFlags := 24, nameIndex := 34, descriptorIndex := 19, attributes := #[] }, { accessFlags := 24, nameIndex := 18, descriptorIndex := 19, attributes := #[] }, { accessFlags := 24, nameIndex := 113, descriptorIndex := 19, attributes := #[] }, { accessFlags := 18, nameIndex := 28, descriptorIndex := 19, attributes := #[] }, { accessFlags := 18, nameIndex := 31, descriptorIndex := 19, attributes := #[] }, { accessFlags := 18, nameIndex := 41, descriptorIndex := 42, attributes := #[] }, { accessFlags := 18, nameIndex := 11, descriptorIndex := 12, attributes := #[] }, { accessFlags := 18, nameIndex := 15, descriptorIndex := 12, attributes := #[] }, { accessFlags := 2, nameIndex := 82, descriptorIndex := 19, attributes := #[] }, { accessFlags := 2, nameIndex := 87, descriptorIndex := 19, attributes := #[] }, { accessFlags := 2, nameIndex := 73, descriptorIndex := 61, attributes := #[] }, { accessFlags := 2, nameIndex := 70, descriptorIndex := 19, attributes := #[] }])
  fields := #[{ name := "MAX_COMMANDS", type := .int, accessFlags := 24, slot := 0, constantValue := 0 }, { name := "WINDOW_NANOS", type := .long, accessFlags := 24, slot := 1, constantValue := 0 }, { name := "MIN_POLL_NANOS", type := .long, accessFlags := 24, slot := 2, constantValue := 0 }, { name := "LATE_WAKE_NANOS", type := .long, accessFlags := 24, slot := 3, constantValue := 0 }, { name := "pollNanos", type := .long, accessFlags := 18, slot := 0, constantValue := 0 }, { name := "keepaliveNanos", type := .long, accessFlags := 18, slot := 1, constantValue := 0 }, { name := "pingsBesidePolls", type := .boolean, accessFlags := 18, slot := 2, constantValue := 0 }, { name := "answers", type := (.array .long), accessFlags := 18, slot := 3, constantValue := 0 }, { name := "sent", type := (.array .long), accessFlags := 18, slot := 4, constantValue := 0 }, { name := "answered", type := .long, accessFlags := 2, slot := 5, constantValue := 0 }, { name := "lastAnswer", type := .long, accessFlags := 2, slot := 6, constantValue := 0 }, { name := "taken", type := (.object "com/example/tallywire/tallywire/flaps/Command"), accessFlags := 2, slot := 7, constantValue := 0 }, { name := "nextPoll", type := .long, accessFlags := 2, slot := 8, constantValue := 0 }]
  methods := #[k2m0, k2m1, k2m2, k2m3, k2m4, k2m5, k2m6]
  instanceTypes := #[.long, .long, .boolean, (.array .long), (.array .long), .long, .long, (.object "com/example/tallywire/tallywire/flaps/Command"), .long]
  staticTypes := #[.int, .long, .long, .long]
  resolved := ((((Array.replicate 199 none).setIfInBounds 48 (some (.cls 4))).setIfInBounds 92 (some (.method ⟨4, 0⟩))).setIfInBounds 47 (some (.field 4 1))).setIfInBounds 58 (some (.field 4 0))
  statics := none }

def pool3 : Array CpInfo := pool [(1, .methodref 2 3), (0, .class_ 4), (0, .nameAndType 5 6), (0, u "java/lang/Object"), (0, u "<init>"), (0, u "()V"), (0, .class_ 8), (0, u "java/lang/Record")] 13

def k3c0 : Code := { maxStack := 1, maxLocals := 1, code := jdk_30_method_1_code, exceptionTable := #[], attributes := #[] }
def k3m0 : Method := { name := "<init>", desc := "()V", sig := { parameters := [], returnType := none }, accessFlags := 4, code := some k3c0 }
/-- java/lang/Record -/
def k3 : Class := { plain "java/lang/Record" (some 0) with
  accessFlags := 1057
  interfaces := #[]
  cf := some (fileOf pool3 7 #[] #[{ accessFlags := 4, nameIndex := 5, descriptorIndex := 6, attributes := #[] }] 1057 2 #[] #[])
  fields := #[]
  methods := #[k3m0]
  instanceTypes := #[]
  staticTypes := #[]
  resolved := Array.replicate 22 none
  statics := none }

def pool4 : Array CpInfo := pool [(1, .methodref 2 3), (0, .class_ 4), (0, .nameAndType 5 6), (0, u "java/lang/Record"), (0, u "<init>"), (0, u "()V"), (0, .fieldref 8 9), (0, .class_ 10), (0, .nameAndType 11 12), (0, u "com/example/tallywire/tallywire/flaps/Pacer$Plan"), (0, u "command"), (0, u "Lcom/example/tallywire/tallywire/flaps/Command;"), (0, .fieldref 8 14), (0, .nameAndType 15 16), (0, u "at"), (0, u "J"), (12, u "(Lcom/example/tallywire/tallywire/flaps/Command;J)V"), (11, .class_ 42), (0, u "com/example/tallywire/tallywire/flaps/Pacer")] 20

def k4c0 : Code := { maxStack := 3, maxLocals := 4, code := prog_20_method_1_code, exceptionTable := #[], attributes := #[] }
def k4m0 : Method := { name := "<init>", desc := "(Lcom/example/tallywire/tallywire/flaps/Command;J)V", sig := { parameters := [(.object "com/example/tallywire/tallywire/flaps/Command"), .long], returnType := none }, accessFlags := 2, code := some k4c0 }
/-- com/example/tallywire/tallywire/flaps/Pacer$Plan -/
def k4 : Class := { plain "com/example/tallywire/tallywire/flaps/Pacer$Plan" (some 3) with
  accessFlags := 48
  interfaces := #[]
  cf := some (fileOf pool4 8 #[.nestHost 41] #[{ accessFlags := 2, nameIndex := 5, descriptorIndex := 29, attributes := #[] }] 48 2 #[] #[{ accessFlags := 18, nameIndex := 11, descriptorIndex := 12, attributes := #[] }, { accessFlags := 18, nameIndex := 15, descriptorIndex := 16, attributes := #[] }])
  fields := #[{ name := "command", type := (.object "com/example/tallywire/tallywire/flaps/Command"), accessFlags := 18, slot := 0, constantValue := 0 }, { name := "at", type := .long, accessFlags := 18, slot := 1, constantValue := 0 }]
  methods := #[k4m0]
  instanceTypes := #[(.object "com/example/tallywire/tallywire/flaps/Command"), .long]
  staticTypes := #[]
  resolved := Array.replicate 63 none
  statics := none }

def pool5 : Array CpInfo := pool [(1, .class_ 2), (0, u "java/lang/constant/Constable"), (0, .class_ 4), (0, u "java/lang/Object")] 6

/-- java/lang/constant/Constable -/
def k5 : Class := { plain "java/lang/constant/Constable" (some 0) with
  accessFlags := 1537
  interfaces := #[]
  cf := some (fileOf pool5 1 #[] #[] 1537 3 #[] #[])
  fields := #[]
  methods := #[]
  instanceTypes := #[]
  staticTypes := #[]
  resolved := Array.replicate 11 none
  statics := none }

def pool6 : Array CpInfo := pool [(1, .class_ 2), (0, u "java/lang/Comparable"), (0, .class_ 4), (0, u "java/lang/Object")] 7

/-- java/lang/Comparable -/
def k6 : Class := { plain "java/lang/Comparable" (some 0) with
  accessFlags := 1537
  interfaces := #[]
  cf := some (fileOf pool6 1 #[] #[] 1537 3 #[] #[])
  fields := #[]
  methods := #[]
  instanceTypes := #[]
  staticTypes := #[]
  resolved := Array.replicate 12 none
  statics := none }

def pool7 : Array CpInfo := pool [(1, .class_ 2), (0, u "java/io/Serializable"), (0, .class_ 4), (0, u "java/lang/Object")] 2

/-- java/io/Serializable -/
def k7 : Class := { plain "java/io/Serializable" (some 0) with
  accessFlags := 1537
  interfaces := #[]
  cf := some (fileOf pool7 1 #[] #[] 1537 3 #[] #[])
  fields := #[]
  methods := #[]
  instanceTypes := #[]
  staticTypes := #[]
  resolved := Array.replicate 7 none
  statics := none }

def pool8 : Array CpInfo := pool [(2, .class_ 4), (1, u "java/lang/Enum"), (0, u "name"), (0, u "Ljava/lang/String;"), (0, .fieldref 2 8), (0, .nameAndType 9 10), (0, u "ordinal"), (0, u "I"), (1, .class_ 14), (1, u "java/lang/Object"), (4, u "hash"), (86, .class_ 108), (1, u "java/lang/Enum$EnumDesc"), (2, .class_ 112), (0, u "java/lang/constant/Constable"), (0, .class_ 114), (0, u "java/lang/Comparable"), (0, .class_ 116), (0, u "java/io/Serializable"), (9, u "()I")] 77

def k8c0 : Code := { maxStack := 1, maxLocals := 1, code := jdk_37_method_2_code, exceptionTable := #[], attributes := #[] }
def k8m0 : Method := { name := "ordinal", desc := "()I", sig := { parameters := [], returnType := some .int }, accessFlags := 17, code := some k8c0 }
/-- java/lang/Enum -/
def k8 : Class := { plain "java/lang/Enum" (some 0) with
  accessFlags := 1057
  interfaces := #[5, 6, 7]
  cf := some (fileOf pool8 2 #[.nestMembers #[106]] #[{ accessFlags := 17, nameIndex := 9, descriptorIndex := 126, attributes := #[] }] 1057 12 #[111, 113, 115] #[{ accessFlags := 18, nameIndex := 5, descriptorIndex := 6, attributes := #[] }, { accessFlags := 18, nameIndex := 9, descriptorIndex := 10, attributes := #[] }, { accessFlags := 2, nameIndex := 19, descriptorIndex := 10, attributes := #[] }])
  fields := #[{ name := "name", type := (.object "java/lang/String"), accessFlags := 18, slot := 0, constantValue := 0 }, { name := "ordinal", type := .int, accessFlags := 18, slot := 1, constantValue := 0 }, { name := "hash", type := .int, accessFlags := 2, slot := 2, constantValue := 0 }]
  methods := #[k8m0]
  instanceTypes := #[(.object "java/lang/String"), .int, .int]
  staticTypes := #[]
  resolved := Array.replicate 204 none
  statics := none }

def pool9 : Array CpInfo := pool [(1, .class_ 2), (0, u "com/example/tallywire/tallywire/flaps/Command"), (2, u "CAPABILITIES"), (0, u "Lcom/example/tallywire/tallywire/flaps/Command;"), (2, u "ACTIVE_FLAPS"), (2, u "AVERAGE_ROUTE_CHANGES_90"), (2, u "PING"), (2, u "$VALUES"), (0, u "[Lcom/example/tallywire/tallywire/flaps/Command;"), (6, .class_ 28), (1, u "java/lang/Enum"), (8, u "answer"), (0, u "Lcom/example/tallywire/tallywire/flaps/Command$Answer;"), (38, .class_ 79), (1, u "com/example/tallywire/tallywire/flaps/Command$Answer")] 50

/-- com/example/tallywire/tallywire/flaps/Command -/
def k9 : Class := { plain "com/example/tallywire/tallywire/flaps/Command" (some 8) with
  accessFlags := 16432
  interfaces := #[]
  cf := some (fileOf pool9 1 #[.nestMembers #[77]] #[] 16432 26 #[] #[{ accessFlags := 16409, nameIndex := 5, descriptorIndex := 6, attributes := #[] }, { accessFlags := 16409, nameIndex := 9, descriptorIndex := 6, attributes := #[] }, { accessFlags := 16409, nameIndex := 12, descriptorIndex := 6, attributes := #[] }, { accessFlags := 16409, nameIndex := 15, descriptorIndex := 6, attributes := #[] }, { accessFlags := 18, nameIndex := 37, descriptorIndex := 38, attributes := #[] }, { accessFlags := 4122, nameIndex := 18, descriptorIndex := 19, attributes := #[] }])
  fields := #[{ name := "CAPABILITIES", type := (.object "com/example/tallywire/tallywire/flaps/Command"), accessFlags := 16409, slot := 0, constantValue := 0 }, { name := "ACTIVE_FLAPS", type := (.object "com/example/tallywire/tallywire/flaps/Command"), accessFlags := 16409, slot := 1, constantValue := 0 }, { name := "AVERAGE_ROUTE_CHANGES_90", type := (.object "com/example/tallywire/tallywire/flaps/Command"), accessFlags := 16409, slot := 2, constantValue := 0 }, { name := "PING", type := (.object "com/example/tallywire/tallywire/flaps/Command"), accessFlags := 16409, slot := 3, constantValue := 0 }, { name := "answer", type := (.object "com/example/tallywire/tallywire/flaps/Command$Answer"), accessFlags := 18, slot := 3, constantValue := 0 }, { name := "$VALUES", type := (.array (.object "com/example/tallywire/tallywire/flaps/Command")), accessFlags := 4122, slot := 4, constantValue := 0 }]
  methods := #[]
  instanceTypes := #[(.object "java/lang/String"), .int, .int, (.object "com/example/tallywire/tallywire/flaps/Command$Answer")]
  staticTypes := #[(.object "com/example/tallywire/tallywire/flaps/Command"), (.object "com/example/tallywire/tallywire/flaps/Command"), (.object "com/example/tallywire/tallywire/flaps/Command"), (.object "com/example/tallywire/tallywire/flaps/Command"), (.array (.object "com/example/tallywire/tallywire/flaps/Command"))]
  resolved := Array.replicate 130 none
  statics := some 0 }

def pool10 : Array CpInfo := pool [(8, .class_ 10), (1, u "com/example/tallywire/tallywire/flaps/Pacer$1"), (0, u "$SwitchMap$com$example$tallywire$tallywire$flaps$Command"), (0, u "[I"), (19, .class_ 33), (0, u "java/lang/Object"), (8, .class_ 43), (0, u "com/example/tallywire/tallywire/flaps/Pacer")] 2

/-- com/example/tallywire/tallywire/flaps/Pacer$1 -/
def k10 : Class := { plain "com/example/tallywire/tallywire/flaps/Pacer$1" (some 0) with
  accessFlags := 4128
  interfaces := #[]
  cf := some (fileOf pool10 8 #[.nestHost 42] #[] 4128 32 #[] #[{ accessFlags := 4120, nameIndex := 11, descriptorIndex := 12, attributes := #[] }])
  fields := #[{ name := "$SwitchMap$com$example$tallywire$tallywire$flaps$Command", type := (.array .int), accessFlags := 4120, slot := 0, constantValue := 0 }]
  methods := #[]
  instanceTypes := #[]
  staticTypes := #[(.array .int)]
  resolved := Array.replicate 46 none
  statics := some 1 }

def pool11 : Array CpInfo := pool [(1, u "java/lang/Cloneable"), (0, .class_ 1), (0, u "java/lang/Object"), (0, .class_ 3)] 3

/-- java/lang/Cloneable -/
def k11 : Class := { plain "java/lang/Cloneable" (some 0) with
  accessFlags := 1537
  interfaces := #[]
  cf := some (fileOf pool11 2 #[] #[] 1537 4 #[] #[])
  fields := #[]
  methods := #[]
  instanceTypes := #[]
  staticTypes := #[]
  resolved := Array.replicate 8 none
  statics := none }

/-- the primitive byte -/
def k12 : Class := { plain "byte" none with kind := .primitive 'B', accessFlags := 0x411 }
/-- [B -/
def k13 : Class := { plain "[B" (some 0) with kind := .array 12 .byte, interfaces := #[11, 7], accessFlags := 1041 }

/-- the primitive int -/
def k14 : Class := { plain "int" none with kind := .primitive 'I', accessFlags := 0x411 }
/-- [I -/
def k15 : Class := { plain "[I" (some 0) with kind := .array 14 .int, interfaces := #[11, 7], accessFlags := 1041 }

/-- the primitive long -/
def k16 : Class := { plain "long" none with kind := .primitive 'J', accessFlags := 0x411 }
/-- [J -/
def k17 : Class := { plain "[J" (some 0) with kind := .array 16 .long, interfaces := #[11, 7], accessFlags := 1041 }

def heap : Heap := #[{ cls := 9, slots := #[.ref 2, .ref 3, .null, .ref 4, .null], vm := .statics 9 },
  { cls := 10, slots := #[.ref 5], vm := .statics 10 },
  { cls := 9, slots := #[.null, .int 0, .int 0, .null], vm := .none },
  { cls := 9, slots := #[.null, .int 1, .int 0, .null], vm := .none },
  { cls := 9, slots := #[.null, .int 3, .int 0, .null], vm := .none },
  { cls := 15, slots := #[.int 1, .int 2, .int 3, .int 4], vm := .none }]
def classes : Array Class := #[k0, k1, k2, k3, k4, k5, k6, k7, k8, k9, k10, k11, k12, k13, k14, k15, k16, k17]
def interned : List (Array UInt16 × Addr) := []
def slotsUsed : Nat := 22
def theMethod : MethodId := ⟨1, 1⟩
def args0 : Array Value := #[.long 0, .long 1, .long 2, .long 3, .long 4, .long 5]
def aboutOver (below : List Frame) : State where
  vm := { classes := classes, interned := interned.toArray }
  heap := heap
  slotsUsed := slotsUsed
  threads := #[{ frames := .invoking theMethod args0 :: below }]
def below0 : List Frame := [.native { method := ⟨0, 0⟩, args := #[] }]
def about1 : State := aboutOver below0
def p0 : Program := .bare "" "" ""
def e0 : Env := launch0.env 0 0 0
theorem w_frames : about1.frames = Frame.invoking theMethod args0 :: below0 := rfl
set_option maxRecDepth 65536 in
theorem w_args : argsFit about1.vm theMethod args0 = true := by decide +kernel
set_option maxRecDepth 65536 in
theorem w_heap : heapFits about1 = true := by decide +kernel
set_option maxRecDepth 65536 in
theorem w_runnable : about1.curStatus? = some .runnable := by decide +kernel
set_option maxRecDepth 65536 in
theorem w_alone : about1.alone = true := by decide +kernel
set_option maxRecDepth 65536 in
theorem w_named : about1.methodNamed? x = some theMethod := by decide +kernel
set_option maxRecDepth 65536 in
theorem w_hears : about1.hears theMethod below0 = true := by decide +kernel
set_option maxRecDepth 65536 in
theorem w_ripe : about1.ripe theMethod args0 below0 = true := by decide +kernel
theorem w_running : about1.status = .running := rfl
set_option maxRecDepth 65536 in
theorem w_room : about1.hasRoom e0.platform room_1 = true :=
  launch0.hasRoom_least _ room_1 (by decide +kernel) (by decide +kernel) (by decide +kernel) (by decide +kernel) (by decide +kernel) (by decide +kernel)
theorem allAtoms_all (ts : List Jvm.Cond) (a : Array Jvm.Value) (st : Jvm.State) : (allAtoms ts).before a st = ts.all (fun c => c.before a st) := by
  induction ts with
  | nil => rfl
  | cons c t ih =>
    show (Jvm.Cond.and c (allAtoms t)).before a st = _
    rw [Jvm.Cond.before_and, ih, List.all_cons]
def words1 : List Jvm.Cond := Jvm.Cond.code x code maxLocals ret :: tables_1
/-- a 'code' word, met by the world's own term for the bytes: nothing is compared byte by byte -/
theorem code_word {y : MethodName} {bytes : ByteArray} {mx : Nat} {rt : Option FieldType} {a : Array Value} {s : State} {m : MethodId} {meth : Method} {c : Code} (h1 : s.methodNamed? y = some m) (h2 : s.vm.method? m = some meth) (h3 : meth.code = some c) (h4 : c.code = bytes)
    (h5 : (c.maxLocals == mx && c.exceptionTable.isEmpty && decide (c.maxStack ≤ mostOperands) && decide (meth.sig.returnType = rt) && !meth.locks && decide (parseMethodDescriptor y.desc = some meth.sig)) = true) : (Jvm.Cond.code y bytes mx rt).before a s = true := by
  simp only [Bool.and_eq_true, beq_iff_eq, Bool.not_eq_true', decide_eq_true_eq] at h5
  obtain ⟨⟨⟨⟨⟨g1, g2⟩, g3⟩, g4⟩, g5⟩, g6⟩ := h5
  simp [Cond.before, Cond.holds, Cond.value, h1, h2, h3, h4, g1, g2, g3, g4, g5, g6]
def isCode : Jvm.Cond → Bool
  | .code _ _ _ _ => true
  | _ => false
theorem all_split {L : List Jvm.Cond} {P : Jvm.Cond → Bool} (h1 : L.all (fun c => isCode c || P c) = true) (h2 : ∀ c ∈ L.filter isCode, P c = true) : L.all P = true := by
  refine List.all_eq_true.mpr fun c hc => ?_
  have h := List.all_eq_true.mp h1 c hc
  rcases Bool.eq_false_or_eq_true (isCode c) with hi | hi
  · exact h2 c (List.mem_filter.mpr ⟨hc, hi⟩)
  · simpa [hi] using h
set_option maxRecDepth 65536 in
theorem w_c0 : (Jvm.Cond.code x code maxLocals ret).before args0 about1 = true := code_word (m := ⟨1, 1⟩) (meth := k1m1) (c := k1c1) (by decide +kernel) rfl rfl rfl (by decide +kernel)
set_option maxRecDepth 65536 in
theorem w_c1 : (Jvm.Cond.code ({ cls := "com/example/tallywire/tallywire/flaps/Pacer", name := "<init>", desc := "(JJ)V" } : Jvm.MethodName) prog_18_method_1_code (7 : Nat) (Option.none : Option Jvm.ClassFile.FieldType)).before args0 about1 = true := code_word (m := ⟨2, 0⟩) (meth := k2m0) (c := k2c0) (by decide +kernel) rfl rfl rfl (by decide +kernel)
set_option maxRecDepth 65536 in
theorem w_c2 : (Jvm.Cond.code ({ cls := "java/lang/Object", name := "<init>", desc := "()V" } : Jvm.MethodName) object_method_1_code (1 : Nat) (Option.none : Option Jvm.ClassFile.FieldType)).before args0 about1 = true := code_word (m := ⟨0, 0⟩) (meth := k0m0) (c := k0c0) (by decide +kernel) rfl rfl rfl (by decide +kernel)
set_option maxRecDepth 65536 in
theorem w_c3 : (Jvm.Cond.code ({ cls := "com/example/tallywire/tallywire/flaps/Pacer", name := "take", desc := "(J)Lcom/example/tallywire/tallywire/flaps/Command;" } : Jvm.MethodName) prog_18_method_2_code (4 : Nat) (Option.some (Jvm.ClassFile.FieldType.object "com/example/tallywire/tallywire/flaps/Command"))).before args0 about1 = true := code_word (m := ⟨2, 1⟩) (meth := k2m1) (c := k2c1) (by decide +kernel) rfl rfl rfl (by decide +kernel)
set_option maxRecDepth 65536 in
theorem w_c4 : (Jvm.Cond.code ({ cls := "com/example/tallywire/tallywire/flaps/Pacer", name := "plan", desc := "(J)Lcom/example/tallywire/tallywire/flaps/Pacer$Plan;" } : Jvm.MethodName) prog_18_method_5_code (13 : Nat) (Option.some (Jvm.ClassFile.FieldType.object "com/example/tallywire/tallywire/flaps/Pacer$Plan"))).before args0 about1 = true := code_word (m := ⟨2, 4⟩) (meth := k2m4) (c := k2c4) (by decide +kernel) rfl rfl rfl (by decide +kernel)
set_option maxRecDepth 65536 in
theorem w_c5 : (Jvm.Cond.code ({ cls := "com/example/tallywire/tallywire/flaps/Pacer", name := "roomFor", desc := "(IJ)J" } : Jvm.MethodName) prog_18_method_8_code (5 : Nat) (Option.some Jvm.ClassFile.FieldType.long)).before args0 about1 = true := code_word (m := ⟨2, 5⟩) (meth := k2m5) (c := k2c5) (by decide +kernel) rfl rfl rfl (by decide +kernel)
set_option maxRecDepth 65536 in
theorem w_c6 : (Jvm.Cond.code ({ cls := "com/example/tallywire/tallywire/flaps/Pacer$Plan", name := "<init>", desc := "(Lcom/example/tallywire/tallywire/flaps/Command;J)V" } : Jvm.MethodName) prog_20_method_1_code (4 : Nat) (Option.none : Option Jvm.ClassFile.FieldType)).before args0 about1 = true := code_word (m := ⟨4, 0⟩) (meth := k4m0) (c := k4c0) (by decide +kernel) rfl rfl rfl (by decide +kernel)
set_option maxRecDepth 65536 in
theorem w_c7 : (Jvm.Cond.code ({ cls := "java/lang/Record", name := "<init>", desc := "()V" } : Jvm.MethodName) jdk_30_method_1_code (1 : Nat) (Option.none : Option Jvm.ClassFile.FieldType)).before args0 about1 = true := code_word (m := ⟨3, 0⟩) (meth := k3m0) (c := k3c0) (by decide +kernel) rfl rfl rfl (by decide +kernel)
set_option maxRecDepth 65536 in
theorem w_c8 : (Jvm.Cond.code ({ cls := "java/lang/Enum", name := "ordinal", desc := "()I" } : Jvm.MethodName) jdk_37_method_2_code (1 : Nat) (Option.some Jvm.ClassFile.FieldType.int)).before args0 about1 = true := code_word (m := ⟨8, 0⟩) (meth := k8m0) (c := k8c0) (by decide +kernel) rfl rfl rfl (by decide +kernel)
set_option maxRecDepth 65536 in
theorem w_c9 : (Jvm.Cond.code ({ cls := "com/example/tallywire/tallywire/flaps/Pacer", name := "answered", desc := "(J)V" } : Jvm.MethodName) prog_18_method_4_code (3 : Nat) (Option.none : Option Jvm.ClassFile.FieldType)).before args0 about1 = true := code_word (m := ⟨2, 3⟩) (meth := k2m3) (c := k2c3) (by decide +kernel) rfl rfl rfl (by decide +kernel)
set_option maxRecDepth 65536 in
theorem w_c10 : (Jvm.Cond.code ({ cls := "com/example/tallywire/tallywire/flaps/Pacer", name := "dueAt", desc := "(J)J" } : Jvm.MethodName) prog_18_method_3_code (3 : Nat) (Option.some Jvm.ClassFile.FieldType.long)).before args0 about1 = true := code_word (m := ⟨2, 2⟩) (meth := k2m2) (c := k2c2) (by decide +kernel) rfl rfl rfl (by decide +kernel)
set_option maxRecDepth 65536 in
theorem w_c11 : (Jvm.Cond.code ({ cls := "com/example/tallywire/tallywire/flaps/Pacer", name := "later", desc := "(JJ)J" } : Jvm.MethodName) prog_18_method_9_code (4 : Nat) (Option.some Jvm.ClassFile.FieldType.long)).before args0 about1 = true := code_word (m := ⟨2, 6⟩) (meth := k2m6) (c := k2c6) (by decide +kernel) rfl rfl rfl (by decide +kernel)
set_option maxRecDepth 65536 in
theorem w_c12 : (Jvm.Cond.code ({ cls := "com/example/tallywire/tallywire/flaps/PacerAnsweredPinLaw", name := "laterOf", desc := "(JJ)J" } : Jvm.MethodName) method_3_code (4 : Nat) (Option.some Jvm.ClassFile.FieldType.long)).before args0 about1 = true := code_word (m := ⟨1, 2⟩) (meth := k1m2) (c := k1c2) (by decide +kernel) rfl rfl rfl (by decide +kernel)
def codes1 : List Jvm.Cond := [Jvm.Cond.code x code maxLocals ret, Jvm.Cond.code ({ cls := "com/example/tallywire/tallywire/flaps/Pacer", name := "<init>", desc := "(JJ)V" } : Jvm.MethodName) prog_18_method_1_code (7 : Nat) (Option.none : Option Jvm.ClassFile.FieldType), Jvm.Cond.code ({ cls := "java/lang/Object", name := "<init>", desc := "()V" } : Jvm.MethodName) object_method_1_code (1 : Nat) (Option.none : Option Jvm.ClassFile.FieldType), Jvm.Cond.code ({ cls := "com/example/tallywire/tallywire/flaps/Pacer", name := "take", desc := "(J)Lcom/example/tallywire/tallywire/flaps/Command;" } : Jvm.MethodName) prog_18_method_2_code (4 : Nat) (Option.some (Jvm.ClassFile.FieldType.object "com/example/tallywire/tallywire/flaps/Command")), Jvm.Cond.code ({ cls := "com/example/tallywire/tallywire/flaps/Pacer", name := "plan", desc := "(J)Lcom/example/tallywire/tallywire/flaps/Pacer$Plan;" } : Jvm.MethodName) prog_18_method_5_code (13 : Nat) (Option.some (Jvm.ClassFile.FieldType.object "com/example/tallywire/tallywire/flaps/Pacer$Plan")), Jvm.Cond.code ({ cls := "com/example/tallywire/tallywire/flaps/Pacer", name := "roomFor", desc := "(IJ)J" } : Jvm.MethodName) prog_18_method_8_code (5 : Nat) (Option.some Jvm.ClassFile.FieldType.long), Jvm.Cond.code ({ cls := "com/example/tallywire/tallywire/flaps/Pacer$Plan", name := "<init>", desc := "(Lcom/example/tallywire/tallywire/flaps/Command;J)V" } : Jvm.MethodName) prog_20_method_1_code (4 : Nat) (Option.none : Option Jvm.ClassFile.FieldType), Jvm.Cond.code ({ cls := "java/lang/Record", name := "<init>", desc := "()V" } : Jvm.MethodName) jdk_30_method_1_code (1 : Nat) (Option.none : Option Jvm.ClassFile.FieldType), Jvm.Cond.code ({ cls := "java/lang/Enum", name := "ordinal", desc := "()I" } : Jvm.MethodName) jdk_37_method_2_code (1 : Nat) (Option.some Jvm.ClassFile.FieldType.int), Jvm.Cond.code ({ cls := "com/example/tallywire/tallywire/flaps/Pacer", name := "answered", desc := "(J)V" } : Jvm.MethodName) prog_18_method_4_code (3 : Nat) (Option.none : Option Jvm.ClassFile.FieldType), Jvm.Cond.code ({ cls := "com/example/tallywire/tallywire/flaps/Pacer", name := "dueAt", desc := "(J)J" } : Jvm.MethodName) prog_18_method_3_code (3 : Nat) (Option.some Jvm.ClassFile.FieldType.long), Jvm.Cond.code ({ cls := "com/example/tallywire/tallywire/flaps/Pacer", name := "later", desc := "(JJ)J" } : Jvm.MethodName) prog_18_method_9_code (4 : Nat) (Option.some Jvm.ClassFile.FieldType.long), Jvm.Cond.code ({ cls := "com/example/tallywire/tallywire/flaps/PacerAnsweredPinLaw", name := "laterOf", desc := "(JJ)J" } : Jvm.MethodName) method_3_code (4 : Nat) (Option.some Jvm.ClassFile.FieldType.long)]
set_option maxRecDepth 65536 in
theorem codes_eq : words1.filter isCode = codes1 := rfl
theorem w_codes : ∀ c ∈ words1.filter isCode, c.before args0 about1 = true := by
  rw [codes_eq]
  intro c hc
  simp only [codes1, List.mem_cons, List.not_mem_nil, or_false] at hc
  rcases hc with rfl | rfl | rfl | rfl | rfl | rfl | rfl | rfl | rfl | rfl | rfl | rfl | rfl
  · exact w_c0
  · exact w_c1
  · exact w_c2
  · exact w_c3
  · exact w_c4
  · exact w_c5
  · exact w_c6
  · exact w_c7
  · exact w_c8
  · exact w_c9
  · exact w_c10
  · exact w_c11
  · exact w_c12
set_option maxRecDepth 65536 in
theorem w_t1 : (words1.take 24).all (fun c => isCode c || c.before args0 about1) = true := by decide +kernel
set_option maxRecDepth 65536 in
theorem w_t2 : ((words1.drop 24).take 24).all (fun c => isCode c || c.before args0 about1) = true := by decide +kernel
set_option maxRecDepth 65536 in
theorem w_t3 : (((words1.drop 24).drop 24).take 24).all (fun c => isCode c || c.before args0 about1) = true := by decide +kernel
set_option maxRecDepth 65536 in
theorem w_t4 : ((((words1.drop 24).drop 24).drop 24).take 24).all (fun c => isCode c || c.before args0 about1) = true := by decide +kernel
set_option maxRecDepth 65536 in
theorem w_t5 : ((((words1.drop 24).drop 24).drop 24).drop 24).all (fun c => isCode c || c.before args0 about1) = true := by decide +kernel
theorem w_tables : (allAtoms (Jvm.Cond.code x code maxLocals ret :: tables_1)).before args0 about1 = true := by
  rw [allAtoms_all]
  show words1.all (fun c => c.before args0 about1) = true
  refine all_split ?_ w_codes
  rw [← List.take_append_drop 24 words1, List.all_append, w_t1, ← List.take_append_drop 24 (words1.drop 24), List.all_append, w_t2, ← List.take_append_drop 24 ((words1.drop 24).drop 24), List.all_append, w_t3, ← List.take_append_drop 24 (((words1.drop 24).drop 24).drop 24), List.all_append, w_t4, w_t5]
  rfl
set_option maxRecDepth 65536 in
theorem w_case : (Jvm.Cond.and given_1 narrow_1).before args0 about1 = true := by decide +kernel
theorem w_applies : (headSpec (Jvm.Cond.code x code maxLocals ret :: tables_1) room_1).applies x e0.platform about1 = true :=
  (Spec.applies_iff w_frames).mpr ⟨w_running, w_runnable, w_alone, w_named, w_hears, w_ripe, w_room, w_tables⟩
theorem atStart : AtStart classFile x code maxLocals ret World_1 tables_1 room_1 Calls_1 rest_1 Pre_1 launch0 p0 e0 about1 theMethod args0 below0 :=
  ⟨lists_1, trivial, launch0.admits_env _ _ _, launch0.least_env, fairChoices_fair.cas, fairChoices_fair.clock, w_frames, w_args, w_heap, w_applies, trivial, trivial, w_case⟩
end start1
theorem witness_1 : WitnessClaimed_1 := ⟨start1.p0, start1.e0, start1.about1, start1.theMethod, start1.args0, start1.below0, start1.atStart⟩
end Jvm.Pilot.@@N@@
