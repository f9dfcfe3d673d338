import JvmDerived
import JvmDerived.Pilot.@@N@@Statement
import JvmDerived.Pilot.@@N@@Code
set_option linter.unusedVariables false
set_option linter.unusedSimpArgs false
namespace Jvm.Pilot.@@N@@
open Jvm Jvm.ClassFile Sem Op Lib Jvm.Free Jvm.Stand Jvm.LawKit Jvm.RoadKit Bundle Jvm.Pilot.@@N@@.Jvm.D
section Own
variable {p : Program} {l : Launch} {e : Env} {R : Room} {s : State} {m : MethodId} {args : Array Value} {below : List Frame} {meth : Method} {c : Code} {T : State} {locs : List Loc} {cells slots : Nat} {C S : Nat} {Q : Option Value → Heap → List Loc → Prop}
/-- from the state T with the frame g on top the run comes to the method's end, and Q holds there -/
def Goes (p : Program) (e : Env) (below : List Frame) (s : State) (C S : Nat) (Q : Option Value → Heap → List Loc → Prop) (T : State) (g : JFrame) : Prop :=
  ∃ s₂ o, Steps p.tables e below (T.setTop g) s₂ ∧ s₂.status = .running ∧ Ended s₂ below o ∧ ∃ v L, o = .returned v ∧ Q v s₂.heap L ∧ FrameEnd s o s₂ L C S
theorem Goes.go {T' : State} {g g' : JFrame} (st : ∀ t, Steps p.tables e below (T'.setTop g') t → Steps p.tables e below (T.setTop g) t) (h : Goes p e below s C S Q T' g') : Goes p e below s C S Q T g := by
  obtain ⟨s₂, o, h1, h2⟩ := h; exact ⟨s₂, o, st _ h1, h2⟩
theorem Goes.tr {T' : State} {g g' : JFrame} (st : Steps p.tables e below (T.setTop g) (T'.setTop g')) (h : Goes p e below s C S Q T' g') : Goes p e below s C S Q T g := Goes.go (fun _ k => st.trans k) h
/-- a value comes back -/
theorem own_ret (X : Stand p l e R s m args below meth c T locs cells slots) (hx : p.tables.exec = Jvm.exec) (hlk : meth.locks = false) {t : FieldType} (hret : meth.sig.returnType = some t) {i : Instr} {w : Value} (hn : narrow t w = w)
    (hi : (i = .ireturn ∧ (t = .int ∨ t = .boolean ∨ t = .byte ∨ t = .char ∨ t = .short) ∧ ∃ z, w = .int z) ∨ (i = .lreturn ∧ t = .long ∧ ∃ z, w = .long z) ∨ (i = .dreturn ∧ t = .double ∧ ∃ z, w = .double z) ∨ (i = .freturn ∧ t = .float ∧ ∃ z, w = .float z) ∨ (i = .areturn ∧ t.isReference = true ∧ w.isRef = true))
    {pc : Nat} {Ls : Array Slot} {rest : List Value} (hd : decode c.code pc = .ok (i, 1)) (hC : cells ≤ C) (hS : slots ≤ S) {h : Heap} (eT : T.heap = h) (hQ : Q (some w) h locs) : Goes p e below s C S Q T (mkF m pc Ls (w :: rest)) := by
  obtain ⟨fs, hr, hrun, hended, hW, hsame⟩ := X.leave (v := some w) (fun h => by rw [hret] at h; cases h)
  subst eT
  exact ⟨_, _, retOut X hx hret hn hi hd hr, hrun, hended, _, _, rfl, hQ, ⟨_, rfl⟩, hW, hsame.mono hC hS⟩
theorem own_retI (X : Stand p l e R s m args below meth c T locs cells slots) (hx : p.tables.exec = Jvm.exec) (hlk : meth.locks = false) (hret : meth.sig.returnType = some .int) {z : Int32}
    {pc : Nat} {Ls : Array Slot} {rest : List Value} (hd : decode c.code pc = .ok (.ireturn, 1)) (hC : cells ≤ C) (hS : slots ≤ S) {h : Heap} (eT : T.heap = h) (hQ : Q (some (.int z)) h locs) : Goes p e below s C S Q T (mkF m pc Ls (.int z :: rest)) :=
  own_ret X hx hlk hret rfl (Or.inl ⟨rfl, Or.inl rfl, z, rfl⟩) hd hC hS eT hQ
theorem own_retZ (X : Stand p l e R s m args below meth c T locs cells slots) (hx : p.tables.exec = Jvm.exec) (hlk : meth.locks = false) (hret : meth.sig.returnType = some .boolean) {z : Int32} (hn : narrow .boolean (.int z) = .int z)
    {pc : Nat} {Ls : Array Slot} {rest : List Value} (hd : decode c.code pc = .ok (.ireturn, 1)) (hC : cells ≤ C) (hS : slots ≤ S) {h : Heap} (eT : T.heap = h) (hQ : Q (some (.int z)) h locs) : Goes p e below s C S Q T (mkF m pc Ls (.int z :: rest)) :=
  own_ret X hx hlk hret hn (Or.inl ⟨rfl, Or.inr (Or.inl rfl), z, rfl⟩) hd hC hS eT hQ
theorem own_retJ (X : Stand p l e R s m args below meth c T locs cells slots) (hx : p.tables.exec = Jvm.exec) (hlk : meth.locks = false) (hret : meth.sig.returnType = some .long) {z : Int64}
    {pc : Nat} {Ls : Array Slot} {rest : List Value} (hd : decode c.code pc = .ok (.lreturn, 1)) (hC : cells ≤ C) (hS : slots ≤ S) {h : Heap} (eT : T.heap = h) (hQ : Q (some (.long z)) h locs) : Goes p e below s C S Q T (mkF m pc Ls (.long z :: rest)) :=
  own_ret X hx hlk hret rfl (Or.inr (Or.inl ⟨rfl, rfl, z, rfl⟩)) hd hC hS eT hQ
theorem own_narR {t : FieldType} {w : Value} (hw : w.isRef = true) : narrow t w = w := by
  rcases ref_cases hw with rfl | ⟨a, rfl⟩ <;> cases t <;> rfl
theorem own_retR (X : Stand p l e R s m args below meth c T locs cells slots) (hx : p.tables.exec = Jvm.exec) (hlk : meth.locks = false) {t : FieldType} (hret : meth.sig.returnType = some t) (ht : t.isReference = true) {w : Value} (hw : w.isRef = true)
    {pc : Nat} {Ls : Array Slot} {rest : List Value} (hd : decode c.code pc = .ok (.areturn, 1)) (hC : cells ≤ C) (hS : slots ≤ S) {h : Heap} (eT : T.heap = h) (hQ : Q (some w) h locs) : Goes p e below s C S Q T (mkF m pc Ls (w :: rest)) :=
  own_ret X hx hlk hret (own_narR hw) (Or.inr (Or.inr (Or.inr (Or.inr ⟨rfl, ht, hw⟩)))) hd hC hS eT hQ
theorem own_retV (X : Stand p l e R s m args below meth c T locs cells slots) (hx : p.tables.exec = Jvm.exec) (hlk : meth.locks = false) (hret : meth.sig.returnType = none)
    {pc : Nat} {Ls : Array Slot} (hd : decode c.code pc = .ok (.return_, 1)) (hC : cells ≤ C) (hS : slots ≤ S) {h : Heap} (eT : T.heap = h) (hQ : Q none h locs) : Goes p e below s C S Q T (mkF m pc Ls []) := by
  obtain ⟨fs, hr, hrun, hended, hW, hsame⟩ := X.leave (v := none) (fun _ => rfl)
  subst eT
  exact ⟨_, _, X.returnOut hx hret hd hr, hrun, hended, _, _, rfl, hQ, ⟨_, rfl⟩, hW, hsame.mono hC hS⟩
/-- the entry -/
theorem own_enter {s₁ : State} {maxL : Nat} {as' : Array Value} {Ls : Array Slot} (hE : entryFrame m as' maxL = mkF m 0 Ls []) (h : Goes p e below s C S Q s₁ (mkF m 0 Ls [])) :
    ∃ s₂ o, Steps p.tables e below (s₁.setTop (entryFrame m as' maxL)) s₂ ∧ s₂.status = .running ∧ Ended s₂ below o ∧ ∃ v L, o = .returned v ∧ Q v s₂.heap L ∧ FrameEnd s o s₂ L C S := by
  rw [hE]; exact h
section Steps1
variable {pc : Nat} {Ls : Array Slot} {rest : List Value}
theorem own_iadd (X : Stand p l e R s m args below meth c T locs cells slots) (hx : p.tables.exec = Jvm.exec) (pc' : Nat) (hp : pc + 1 = pc') {x y z : Int32} (hd : decode c.code pc = .ok (.iadd, 1)) (hz : x + y = z) (h : Goes p e below s C S Q T (mkF m pc' Ls (.int z :: rest))) : Goes p e below s C S Q T (mkF m pc Ls (.int y :: .int x :: rest)) := by
  subst hp; subst hz; exact Goes.go (fun _ k => XS.iadd X.here hx rfl hd rfl k) h
theorem own_isub (X : Stand p l e R s m args below meth c T locs cells slots) (hx : p.tables.exec = Jvm.exec) (pc' : Nat) (hp : pc + 1 = pc') {x y z : Int32} (hd : decode c.code pc = .ok (.isub, 1)) (hz : x - y = z) (h : Goes p e below s C S Q T (mkF m pc' Ls (.int z :: rest))) : Goes p e below s C S Q T (mkF m pc Ls (.int y :: .int x :: rest)) := by
  subst hp; subst hz; exact Goes.go (fun _ k => XS.isub X.here hx rfl hd rfl k) h
theorem own_imul (X : Stand p l e R s m args below meth c T locs cells slots) (hx : p.tables.exec = Jvm.exec) (pc' : Nat) (hp : pc + 1 = pc') {x y z : Int32} (hd : decode c.code pc = .ok (.imul, 1)) (hz : x * y = z) (h : Goes p e below s C S Q T (mkF m pc' Ls (.int z :: rest))) : Goes p e below s C S Q T (mkF m pc Ls (.int y :: .int x :: rest)) := by
  subst hp; subst hz; exact Goes.go (fun _ k => XS.imul X.here hx rfl hd rfl k) h
theorem own_iand (X : Stand p l e R s m args below meth c T locs cells slots) (hx : p.tables.exec = Jvm.exec) (pc' : Nat) (hp : pc + 1 = pc') {x y z : Int32} (hd : decode c.code pc = .ok (.iand, 1)) (hz : x &&& y = z) (h : Goes p e below s C S Q T (mkF m pc' Ls (.int z :: rest))) : Goes p e below s C S Q T (mkF m pc Ls (.int y :: .int x :: rest)) := by
  subst hp; subst hz; exact Goes.go (fun _ k => XS.iand X.here hx rfl hd rfl k) h
theorem own_ior (X : Stand p l e R s m args below meth c T locs cells slots) (hx : p.tables.exec = Jvm.exec) (pc' : Nat) (hp : pc + 1 = pc') {x y z : Int32} (hd : decode c.code pc = .ok (.ior, 1)) (hz : x ||| y = z) (h : Goes p e below s C S Q T (mkF m pc' Ls (.int z :: rest))) : Goes p e below s C S Q T (mkF m pc Ls (.int y :: .int x :: rest)) := by
  subst hp; subst hz; exact Goes.go (fun _ k => XS.ior X.here hx rfl hd rfl k) h
theorem own_ixor (X : Stand p l e R s m args below meth c T locs cells slots) (hx : p.tables.exec = Jvm.exec) (pc' : Nat) (hp : pc + 1 = pc') {x y z : Int32} (hd : decode c.code pc = .ok (.ixor, 1)) (hz : x ^^^ y = z) (h : Goes p e below s C S Q T (mkF m pc' Ls (.int z :: rest))) : Goes p e below s C S Q T (mkF m pc Ls (.int y :: .int x :: rest)) := by
  subst hp; subst hz; exact Goes.go (fun _ k => XS.ixor X.here hx rfl hd rfl k) h
theorem own_idiv (X : Stand p l e R s m args below meth c T locs cells slots) (hx : p.tables.exec = Jvm.exec) (pc' : Nat) (hp : pc + 1 = pc') {x y z : Int32} (hd : decode c.code pc = .ok (.idiv, 1)) (hy : y ≠ 0) (hz : x / y = z) (h : Goes p e below s C S Q T (mkF m pc' Ls (.int z :: rest))) : Goes p e below s C S Q T (mkF m pc Ls (.int y :: .int x :: rest)) := by
  subst hp; subst hz; exact Goes.go (fun _ k => XS.idiv X.here hx rfl hd rfl hy k) h
theorem own_ishl (X : Stand p l e R s m args below meth c T locs cells slots) (hx : p.tables.exec = Jvm.exec) (pc' : Nat) (hp : pc + 1 = pc') {x z : Int32} {y : Int32} (hd : decode c.code pc = .ok (.ishl, 1)) (hz : (x <<< (y &&& 31)) = z) (h : Goes p e below s C S Q T (mkF m pc' Ls (.int z :: rest))) : Goes p e below s C S Q T (mkF m pc Ls (.int y :: .int x :: rest)) := by
  subst hp; subst hz; exact Goes.go (fun _ k => XS.ishl X.here hx rfl hd rfl k) h
theorem own_ishr (X : Stand p l e R s m args below meth c T locs cells slots) (hx : p.tables.exec = Jvm.exec) (pc' : Nat) (hp : pc + 1 = pc') {x z : Int32} {y : Int32} (hd : decode c.code pc = .ok (.ishr, 1)) (hz : (x >>> (y &&& 31)) = z) (h : Goes p e below s C S Q T (mkF m pc' Ls (.int z :: rest))) : Goes p e below s C S Q T (mkF m pc Ls (.int y :: .int x :: rest)) := by
  subst hp; subst hz; exact Goes.go (fun _ k => XS.ishr X.here hx rfl hd rfl k) h
theorem own_iushr (X : Stand p l e R s m args below meth c T locs cells slots) (hx : p.tables.exec = Jvm.exec) (pc' : Nat) (hp : pc + 1 = pc') {x z : Int32} {y : Int32} (hd : decode c.code pc = .ok (.iushr, 1)) (hz : ((x.toUInt32 >>> (y &&& 31).toUInt32).toInt32) = z) (h : Goes p e below s C S Q T (mkF m pc' Ls (.int z :: rest))) : Goes p e below s C S Q T (mkF m pc Ls (.int y :: .int x :: rest)) := by
  subst hp; subst hz; exact Goes.go (fun _ k => XS.iushr X.here hx rfl hd rfl k) h
theorem own_ladd (X : Stand p l e R s m args below meth c T locs cells slots) (hx : p.tables.exec = Jvm.exec) (pc' : Nat) (hp : pc + 1 = pc') {x y z : Int64} (hd : decode c.code pc = .ok (.ladd, 1)) (hz : x + y = z) (h : Goes p e below s C S Q T (mkF m pc' Ls (.long z :: rest))) : Goes p e below s C S Q T (mkF m pc Ls (.long y :: .long x :: rest)) := by
  subst hp; subst hz; exact Goes.go (fun _ k => XS.ladd X.here hx rfl hd rfl k) h
theorem own_lsub (X : Stand p l e R s m args below meth c T locs cells slots) (hx : p.tables.exec = Jvm.exec) (pc' : Nat) (hp : pc + 1 = pc') {x y z : Int64} (hd : decode c.code pc = .ok (.lsub, 1)) (hz : x - y = z) (h : Goes p e below s C S Q T (mkF m pc' Ls (.long z :: rest))) : Goes p e below s C S Q T (mkF m pc Ls (.long y :: .long x :: rest)) := by
  subst hp; subst hz; exact Goes.go (fun _ k => XS.lsub X.here hx rfl hd rfl k) h
theorem own_lmul (X : Stand p l e R s m args below meth c T locs cells slots) (hx : p.tables.exec = Jvm.exec) (pc' : Nat) (hp : pc + 1 = pc') {x y z : Int64} (hd : decode c.code pc = .ok (.lmul, 1)) (hz : x * y = z) (h : Goes p e below s C S Q T (mkF m pc' Ls (.long z :: rest))) : Goes p e below s C S Q T (mkF m pc Ls (.long y :: .long x :: rest)) := by
  subst hp; subst hz; exact Goes.go (fun _ k => XS.lmul X.here hx rfl hd rfl k) h
theorem own_land (X : Stand p l e R s m args below meth c T locs cells slots) (hx : p.tables.exec = Jvm.exec) (pc' : Nat) (hp : pc + 1 = pc') {x y z : Int64} (hd : decode c.code pc = .ok (.land, 1)) (hz : x &&& y = z) (h : Goes p e below s C S Q T (mkF m pc' Ls (.long z :: rest))) : Goes p e below s C S Q T (mkF m pc Ls (.long y :: .long x :: rest)) := by
  subst hp; subst hz; exact Goes.go (fun _ k => XS.land X.here hx rfl hd rfl k) h
theorem own_lor (X : Stand p l e R s m args below meth c T locs cells slots) (hx : p.tables.exec = Jvm.exec) (pc' : Nat) (hp : pc + 1 = pc') {x y z : Int64} (hd : decode c.code pc = .ok (.lor, 1)) (hz : x ||| y = z) (h : Goes p e below s C S Q T (mkF m pc' Ls (.long z :: rest))) : Goes p e below s C S Q T (mkF m pc Ls (.long y :: .long x :: rest)) := by
  subst hp; subst hz; exact Goes.go (fun _ k => XS.lor X.here hx rfl hd rfl k) h
theorem own_lxor (X : Stand p l e R s m args below meth c T locs cells slots) (hx : p.tables.exec = Jvm.exec) (pc' : Nat) (hp : pc + 1 = pc') {x y z : Int64} (hd : decode c.code pc = .ok (.lxor, 1)) (hz : x ^^^ y = z) (h : Goes p e below s C S Q T (mkF m pc' Ls (.long z :: rest))) : Goes p e below s C S Q T (mkF m pc Ls (.long y :: .long x :: rest)) := by
  subst hp; subst hz; exact Goes.go (fun _ k => XS.lxor X.here hx rfl hd rfl k) h
theorem own_ldiv (X : Stand p l e R s m args below meth c T locs cells slots) (hx : p.tables.exec = Jvm.exec) (pc' : Nat) (hp : pc + 1 = pc') {x y z : Int64} (hd : decode c.code pc = .ok (.ldiv, 1)) (hy : y ≠ 0) (hz : x / y = z) (h : Goes p e below s C S Q T (mkF m pc' Ls (.long z :: rest))) : Goes p e below s C S Q T (mkF m pc Ls (.long y :: .long x :: rest)) := by
  subst hp; subst hz; exact Goes.go (fun _ k => XS.ldiv X.here hx rfl hd rfl hy k) h
theorem own_lshl (X : Stand p l e R s m args below meth c T locs cells slots) (hx : p.tables.exec = Jvm.exec) (pc' : Nat) (hp : pc + 1 = pc') {x z : Int64} {y : Int32} (hd : decode c.code pc = .ok (.lshl, 1)) (hz : (x <<< (y &&& 0x3f).toInt64) = z) (h : Goes p e below s C S Q T (mkF m pc' Ls (.long z :: rest))) : Goes p e below s C S Q T (mkF m pc Ls (.int y :: .long x :: rest)) := by
  subst hp; subst hz; exact Goes.go (fun _ k => XS.lshl X.here hx rfl hd rfl k) h
theorem own_lshr (X : Stand p l e R s m args below meth c T locs cells slots) (hx : p.tables.exec = Jvm.exec) (pc' : Nat) (hp : pc + 1 = pc') {x z : Int64} {y : Int32} (hd : decode c.code pc = .ok (.lshr, 1)) (hz : (x >>> (y &&& 0x3f).toInt64) = z) (h : Goes p e below s C S Q T (mkF m pc' Ls (.long z :: rest))) : Goes p e below s C S Q T (mkF m pc Ls (.int y :: .long x :: rest)) := by
  subst hp; subst hz; exact Goes.go (fun _ k => XS.lshr X.here hx rfl hd rfl k) h
theorem own_lushr (X : Stand p l e R s m args below meth c T locs cells slots) (hx : p.tables.exec = Jvm.exec) (pc' : Nat) (hp : pc + 1 = pc') {x z : Int64} {y : Int32} (hd : decode c.code pc = .ok (.lushr, 1)) (hz : ((x.toUInt64 >>> (y &&& 0x3f).toInt64.toUInt64).toInt64) = z) (h : Goes p e below s C S Q T (mkF m pc' Ls (.long z :: rest))) : Goes p e below s C S Q T (mkF m pc Ls (.int y :: .long x :: rest)) := by
  subst hp; subst hz; exact Goes.go (fun _ k => XS.lushr X.here hx rfl hd rfl k) h
theorem own_irem (X : Stand p l e R s m args below meth c T locs cells slots) (hx : p.tables.exec = Jvm.exec) (pc' : Nat) (hp : pc + 1 = pc') {x y z : Int32} (hd : decode c.code pc = .ok (.irem, 1)) (hy : y ≠ 0) (hz : x % y = z) (h : Goes p e below s C S Q T (mkF m pc' Ls (.int z :: rest))) : Goes p e below s C S Q T (mkF m pc Ls (.int y :: .int x :: rest)) := by
  subst hp; subst hz; exact Goes.go (fun _ k => iremM X hx rfl hd rfl hy k) h
theorem own_lrem (X : Stand p l e R s m args below meth c T locs cells slots) (hx : p.tables.exec = Jvm.exec) (pc' : Nat) (hp : pc + 1 = pc') {x y z : Int64} (hd : decode c.code pc = .ok (.lrem, 1)) (hy : y ≠ 0) (hz : x % y = z) (h : Goes p e below s C S Q T (mkF m pc' Ls (.long z :: rest))) : Goes p e below s C S Q T (mkF m pc Ls (.long y :: .long x :: rest)) := by
  subst hp; subst hz; exact Goes.go (fun _ k => XS.lrem X.here hx rfl hd rfl hy (by rw [lrem_mod]; exact k)) h
theorem own_ineg (X : Stand p l e R s m args below meth c T locs cells slots) (hx : p.tables.exec = Jvm.exec) (pc' : Nat) (hp : pc + 1 = pc') {x : Int32} {z : Int32} (hd : decode c.code pc = .ok (.ineg, 1)) (hz : -x = z) (h : Goes p e below s C S Q T (mkF m pc' Ls (.int z :: rest))) : Goes p e below s C S Q T (mkF m pc Ls (.int x :: rest)) := by
  subst hp; subst hz; exact Goes.go (fun _ k => XS.ineg X.here hx rfl hd rfl k) h
theorem own_lneg (X : Stand p l e R s m args below meth c T locs cells slots) (hx : p.tables.exec = Jvm.exec) (pc' : Nat) (hp : pc + 1 = pc') {x : Int64} {z : Int64} (hd : decode c.code pc = .ok (.lneg, 1)) (hz : -x = z) (h : Goes p e below s C S Q T (mkF m pc' Ls (.long z :: rest))) : Goes p e below s C S Q T (mkF m pc Ls (.long x :: rest)) := by
  subst hp; subst hz; exact Goes.go (fun _ k => XS.lneg X.here hx rfl hd rfl k) h
theorem own_i2l (X : Stand p l e R s m args below meth c T locs cells slots) (hx : p.tables.exec = Jvm.exec) (pc' : Nat) (hp : pc + 1 = pc') {x : Int32} {z : Int64} (hd : decode c.code pc = .ok (.i2l, 1)) (hz : x.toInt64 = z) (h : Goes p e below s C S Q T (mkF m pc' Ls (.long z :: rest))) : Goes p e below s C S Q T (mkF m pc Ls (.int x :: rest)) := by
  subst hp; subst hz; exact Goes.go (fun _ k => XS.i2l X.here hx rfl hd rfl k) h
theorem own_l2i (X : Stand p l e R s m args below meth c T locs cells slots) (hx : p.tables.exec = Jvm.exec) (pc' : Nat) (hp : pc + 1 = pc') {x : Int64} {z : Int32} (hd : decode c.code pc = .ok (.l2i, 1)) (hz : x.toInt32 = z) (h : Goes p e below s C S Q T (mkF m pc' Ls (.int z :: rest))) : Goes p e below s C S Q T (mkF m pc Ls (.long x :: rest)) := by
  subst hp; subst hz; exact Goes.go (fun _ k => XS.l2i X.here hx rfl hd rfl k) h
theorem own_i2b (X : Stand p l e R s m args below meth c T locs cells slots) (hx : p.tables.exec = Jvm.exec) (pc' : Nat) (hp : pc + 1 = pc') {x : Int32} {z : Int32} (hd : decode c.code pc = .ok (.i2b, 1)) (hz : x.toInt8.toInt32 = z) (h : Goes p e below s C S Q T (mkF m pc' Ls (.int z :: rest))) : Goes p e below s C S Q T (mkF m pc Ls (.int x :: rest)) := by
  subst hp; subst hz; exact Goes.go (fun _ k => XS.i2b X.here hx rfl hd rfl k) h
theorem own_i2s (X : Stand p l e R s m args below meth c T locs cells slots) (hx : p.tables.exec = Jvm.exec) (pc' : Nat) (hp : pc + 1 = pc') {x : Int32} {z : Int32} (hd : decode c.code pc = .ok (.i2s, 1)) (hz : x.toInt16.toInt32 = z) (h : Goes p e below s C S Q T (mkF m pc' Ls (.int z :: rest))) : Goes p e below s C S Q T (mkF m pc Ls (.int x :: rest)) := by
  subst hp; subst hz; exact Goes.go (fun _ k => XS.i2s X.here hx rfl hd rfl k) h
theorem own_i2c (X : Stand p l e R s m args below meth c T locs cells slots) (hx : p.tables.exec = Jvm.exec) (pc' : Nat) (hp : pc + 1 = pc') {x : Int32} {z : Int32} (hd : decode c.code pc = .ok (.i2c, 1)) (hz : x.toUInt32.toUInt16.toUInt32.toInt32 = z) (h : Goes p e below s C S Q T (mkF m pc' Ls (.int z :: rest))) : Goes p e below s C S Q T (mkF m pc Ls (.int x :: rest)) := by
  subst hp; subst hz; exact Goes.go (fun _ k => XS.i2c X.here hx rfl hd rfl k) h
theorem own_lcmp (X : Stand p l e R s m args below meth c T locs cells slots) (hx : p.tables.exec = Jvm.exec) (pc' : Nat) (hp : pc + 1 = pc') {x y : Int64} (hd : decode c.code pc = .ok (.lcmp, 1))  (h : Goes p e below s C S Q T (mkF m pc' Ls (.int (lcmpW x y) :: rest))) : Goes p e below s C S Q T (mkF m pc Ls (.long y :: .long x :: rest)) := by
  subst hp; exact Goes.go (fun _ k => XS.lcmp X.here hx rfl hd rfl k) h
theorem own_iload (X : Stand p l e R s m args below meth c T locs cells slots) (hx : p.tables.exec = Jvm.exec) (pc' : Nat) (hp : pc + 2 = pc') {k : Nat} {v : Int32} (hd : decode c.code pc = .ok (.iload k, 2)) (hl : Ls[k]? = some (.val (.int v))) (h : Goes p e below s C S Q T (mkF m pc' Ls ((.int v) :: rest))) : Goes p e below s C S Q T (mkF m pc Ls rest) := by
  subst hp; exact Goes.go (fun _ k => XS.iload X.here hx rfl hd hl k) h
theorem own_iloadN (X : Stand p l e R s m args below meth c T locs cells slots) (hx : p.tables.exec = Jvm.exec) (pc' : Nat) (hp : pc + 1 = pc') {k : Fin 4} {v : Int32} (hd : decode c.code pc = .ok (.iload_n k, 1)) (hl : Ls[k.val]? = some (.val (.int v))) (h : Goes p e below s C S Q T (mkF m pc' Ls ((.int v) :: rest))) : Goes p e below s C S Q T (mkF m pc Ls rest) := by
  subst hp; exact Goes.go (fun _ k => XS.iloadN X.here hx rfl hd hl k) h
theorem own_istore (X : Stand p l e R s m args below meth c T locs cells slots) (hx : p.tables.exec = Jvm.exec) (pc' : Nat) (hp : pc + 2 = pc') {k : Nat} {v : Int32} (Ls' : Array Slot) (hd : decode c.code pc = .ok (.istore k, 2)) (hl : storeLocals Ls k (.int v) = some Ls') (h : Goes p e below s C S Q T (mkF m pc' Ls' rest)) : Goes p e below s C S Q T (mkF m pc Ls ((.int v) :: rest)) := by
  subst hp; exact Goes.go (fun _ k => XS.istore X.here hx rfl hd rfl hl k) h
theorem own_istoreN (X : Stand p l e R s m args below meth c T locs cells slots) (hx : p.tables.exec = Jvm.exec) (pc' : Nat) (hp : pc + 1 = pc') {k : Fin 4} {v : Int32} (Ls' : Array Slot) (hd : decode c.code pc = .ok (.istore_n k, 1)) (hl : storeLocals Ls k.val (.int v) = some Ls') (h : Goes p e below s C S Q T (mkF m pc' Ls' rest)) : Goes p e below s C S Q T (mkF m pc Ls ((.int v) :: rest)) := by
  subst hp; exact Goes.go (fun _ k => XS.istoreN X.here hx rfl hd rfl hl k) h
theorem own_lload (X : Stand p l e R s m args below meth c T locs cells slots) (hx : p.tables.exec = Jvm.exec) (pc' : Nat) (hp : pc + 2 = pc') {k : Nat} {v : Int64} (hd : decode c.code pc = .ok (.lload k, 2)) (hl : Ls[k]? = some (.val (.long v))) (h : Goes p e below s C S Q T (mkF m pc' Ls ((.long v) :: rest))) : Goes p e below s C S Q T (mkF m pc Ls rest) := by
  subst hp; exact Goes.go (fun _ k => XS.lload X.here hx rfl hd hl k) h
theorem own_lloadN (X : Stand p l e R s m args below meth c T locs cells slots) (hx : p.tables.exec = Jvm.exec) (pc' : Nat) (hp : pc + 1 = pc') {k : Fin 4} {v : Int64} (hd : decode c.code pc = .ok (.lload_n k, 1)) (hl : Ls[k.val]? = some (.val (.long v))) (h : Goes p e below s C S Q T (mkF m pc' Ls ((.long v) :: rest))) : Goes p e below s C S Q T (mkF m pc Ls rest) := by
  subst hp; exact Goes.go (fun _ k => XS.lloadN X.here hx rfl hd hl k) h
theorem own_lstore (X : Stand p l e R s m args below meth c T locs cells slots) (hx : p.tables.exec = Jvm.exec) (pc' : Nat) (hp : pc + 2 = pc') {k : Nat} {v : Int64} (Ls' : Array Slot) (hd : decode c.code pc = .ok (.lstore k, 2)) (hl : storeLocals Ls k (.long v) = some Ls') (h : Goes p e below s C S Q T (mkF m pc' Ls' rest)) : Goes p e below s C S Q T (mkF m pc Ls ((.long v) :: rest)) := by
  subst hp; exact Goes.go (fun _ k => XS.lstore X.here hx rfl hd rfl hl k) h
theorem own_lstoreN (X : Stand p l e R s m args below meth c T locs cells slots) (hx : p.tables.exec = Jvm.exec) (pc' : Nat) (hp : pc + 1 = pc') {k : Fin 4} {v : Int64} (Ls' : Array Slot) (hd : decode c.code pc = .ok (.lstore_n k, 1)) (hl : storeLocals Ls k.val (.long v) = some Ls') (h : Goes p e below s C S Q T (mkF m pc' Ls' rest)) : Goes p e below s C S Q T (mkF m pc Ls ((.long v) :: rest)) := by
  subst hp; exact Goes.go (fun _ k => XS.lstoreN X.here hx rfl hd rfl hl k) h
theorem own_aload (X : Stand p l e R s m args below meth c T locs cells slots) (hx : p.tables.exec = Jvm.exec) (pc' : Nat) (hp : pc + 2 = pc') {k : Nat} {v : Value} (hd : decode c.code pc = .ok (.aload k, 2)) (hl : Ls[k]? = some (.val v)) (hv : v.isRef = true) (h : Goes p e below s C S Q T (mkF m pc' Ls (v :: rest))) : Goes p e below s C S Q T (mkF m pc Ls rest) := by
  subst hp; exact Goes.go (fun _ k => XS.aload X.here hx rfl hd hl hv k) h
theorem own_aloadN (X : Stand p l e R s m args below meth c T locs cells slots) (hx : p.tables.exec = Jvm.exec) (pc' : Nat) (hp : pc + 1 = pc') {k : Fin 4} {v : Value} (hd : decode c.code pc = .ok (.aload_n k, 1)) (hl : Ls[k.val]? = some (.val v)) (hv : v.isRef = true) (h : Goes p e below s C S Q T (mkF m pc' Ls (v :: rest))) : Goes p e below s C S Q T (mkF m pc Ls rest) := by
  subst hp; exact Goes.go (fun _ k => XS.aloadN X.here hx rfl hd hl hv k) h
theorem own_astore (X : Stand p l e R s m args below meth c T locs cells slots) (hx : p.tables.exec = Jvm.exec) (pc' : Nat) (hp : pc + 2 = pc') {k : Nat} {v : Value} (Ls' : Array Slot) (hd : decode c.code pc = .ok (.astore k, 2)) (hl : storeLocals Ls k v = some Ls') (hv : v.isRef = true) (h : Goes p e below s C S Q T (mkF m pc' Ls' rest)) : Goes p e below s C S Q T (mkF m pc Ls (v :: rest)) := by
  subst hp; exact Goes.go (fun _ k => XS.astore X.here hx rfl hd rfl hv hl k) h
theorem own_astoreN (X : Stand p l e R s m args below meth c T locs cells slots) (hx : p.tables.exec = Jvm.exec) (pc' : Nat) (hp : pc + 1 = pc') {k : Fin 4} {v : Value} (Ls' : Array Slot) (hd : decode c.code pc = .ok (.astore_n k, 1)) (hl : storeLocals Ls k.val v = some Ls') (hv : v.isRef = true) (h : Goes p e below s C S Q T (mkF m pc' Ls' rest)) : Goes p e below s C S Q T (mkF m pc Ls (v :: rest)) := by
  subst hp; exact Goes.go (fun _ k => XS.astoreN X.here hx rfl hd rfl hv hl k) h
theorem own_iconst (X : Stand p l e R s m args below meth c T locs cells slots) (hx : p.tables.exec = Jvm.exec) (pc' : Nat) (hp : pc + 1 = pc') {i : Int} (v : Int32) (hd : decode c.code pc = .ok (.iconst i, 1)) (hv : Int32.ofInt i = v) (h : Goes p e below s C S Q T (mkF m pc' Ls (.int v :: rest))) : Goes p e below s C S Q T (mkF m pc Ls rest) := by
  subst hp; subst hv; exact Goes.go (fun _ k => XS.iconst X.here hx rfl hd k) h
theorem own_bipush (X : Stand p l e R s m args below meth c T locs cells slots) (hx : p.tables.exec = Jvm.exec) (pc' : Nat) (hp : pc + 2 = pc') {i : Int} (v : Int32) (hd : decode c.code pc = .ok (.bipush i, 2)) (hv : (Int8.ofInt i).toInt32 = v) (h : Goes p e below s C S Q T (mkF m pc' Ls (.int v :: rest))) : Goes p e below s C S Q T (mkF m pc Ls rest) := by
  subst hp; subst hv; exact Goes.go (fun _ k => XS.bipush X.here hx rfl hd k) h
theorem own_sipush (X : Stand p l e R s m args below meth c T locs cells slots) (hx : p.tables.exec = Jvm.exec) (pc' : Nat) (hp : pc + 3 = pc') {i : Int} (v : Int32) (hd : decode c.code pc = .ok (.sipush i, 3)) (hv : (Int16.ofInt i).toInt32 = v) (h : Goes p e below s C S Q T (mkF m pc' Ls (.int v :: rest))) : Goes p e below s C S Q T (mkF m pc Ls rest) := by
  subst hp; subst hv; exact Goes.go (fun _ k => XS.sipush X.here hx rfl hd k) h
theorem own_lconst (X : Stand p l e R s m args below meth c T locs cells slots) (hx : p.tables.exec = Jvm.exec) (pc' : Nat) (hp : pc + 1 = pc') {i : Fin 2} (v : Int64) (hd : decode c.code pc = .ok (.lconst i, 1)) (hv : Int64.ofNat i = v) (h : Goes p e below s C S Q T (mkF m pc' Ls (.long v :: rest))) : Goes p e below s C S Q T (mkF m pc Ls rest) := by
  subst hp; subst hv; exact Goes.go (fun _ k => XS.lconst X.here hx rfl hd k) h
theorem own_aconst_null (X : Stand p l e R s m args below meth c T locs cells slots) (hx : p.tables.exec = Jvm.exec) (pc' : Nat) (hp : pc + 1 = pc')  (hd : decode c.code pc = .ok (.aconst_null, 1))  (h : Goes p e below s C S Q T (mkF m pc' Ls (.null :: rest))) : Goes p e below s C S Q T (mkF m pc Ls rest) := by
  subst hp; exact Goes.go (fun _ k => XS.aconstNull X.here hx rfl hd k) h
theorem own_dup (X : Stand p l e R s m args below meth c T locs cells slots) (hx : p.tables.exec = Jvm.exec) (pc' : Nat) (hp : pc + 1 = pc') {v : Value} (hd : decode c.code pc = .ok (.dup, 1)) (hc : v.category = 1) (h : Goes p e below s C S Q T (mkF m pc' Ls (v :: v :: rest))) : Goes p e below s C S Q T (mkF m pc Ls (v :: rest)) := by
  subst hp; exact Goes.go (fun _ k => XS.dup X.here hx rfl hd rfl hc k) h
theorem own_pop (X : Stand p l e R s m args below meth c T locs cells slots) (hx : p.tables.exec = Jvm.exec) (pc' : Nat) (hp : pc + 1 = pc') {v : Value} (hd : decode c.code pc = .ok (.pop, 1)) (hc : v.category = 1) (h : Goes p e below s C S Q T (mkF m pc' Ls rest)) : Goes p e below s C S Q T (mkF m pc Ls (v :: rest)) := by
  subst hp; exact Goes.go (fun _ k => XS.pop X.here hx rfl hd rfl hc k) h
theorem own_dup_x1 (X : Stand p l e R s m args below meth c T locs cells slots) (hx : p.tables.exec = Jvm.exec) (pc' : Nat) (hp : pc + 1 = pc') {v w : Value} (hd : decode c.code pc = .ok (.dup_x1, 1)) (hc : v.category = 1) (hc' : w.category = 1) (h : Goes p e below s C S Q T (mkF m pc' Ls (v :: w :: v :: rest))) : Goes p e below s C S Q T (mkF m pc Ls (v :: w :: rest)) := by
  subst hp; exact Goes.go (fun _ k => XS.dupX1 X.here hx rfl hd rfl hc hc' k) h
theorem own_dup2L (X : Stand p l e R s m args below meth c T locs cells slots) (hx : p.tables.exec = Jvm.exec) (pc' : Nat) (hp : pc + 1 = pc') {v : Int64} (hd : decode c.code pc = .ok (.dup2, 1))  (h : Goes p e below s C S Q T (mkF m pc' Ls (.long v :: .long v :: rest))) : Goes p e below s C S Q T (mkF m pc Ls (.long v :: rest)) := by
  subst hp; exact Goes.go (fun _ k => Jvm.Free.XT.dup2L X.here hx rfl hd rfl k) h
theorem own_dup2 (X : Stand p l e R s m args below meth c T locs cells slots) (hx : p.tables.exec = Jvm.exec) (pc' : Nat) (hp : pc + 1 = pc') {v w : Value} (hd : decode c.code pc = .ok (.dup2, 1)) (hc : v.category = 1) (hc' : w.category = 1) (h : Goes p e below s C S Q T (mkF m pc' Ls (v :: w :: v :: w :: rest))) : Goes p e below s C S Q T (mkF m pc Ls (v :: w :: rest)) := by
  subst hp; exact Goes.go (fun _ k => Jvm.Free.XT.dup2 X.here hx rfl hd rfl hc hc' k) h
theorem own_iinc (X : Stand p l e R s m args below meth c T locs cells slots) (hx : p.tables.exec = Jvm.exec) (pc' : Nat) (hp : pc + 3 = pc') {k : Nat} {cst : Int} {x z : Int32} (Ls' : Array Slot) (hd : decode c.code pc = .ok (.iinc k cst, 3)) (hl : Ls[k]? = some (.val (.int x))) (hz : x + Int32.ofInt cst = z) (hl' : storeLocals Ls k (.int z) = some Ls') (h : Goes p e below s C S Q T (mkF m pc' Ls' rest)) : Goes p e below s C S Q T (mkF m pc Ls rest) := by
  subst hp; subst hz; exact Goes.go (fun _ k => XS.iinc X.here hx rfl hd hl hl' k) h
theorem own_goto (X : Stand p l e R s m args below meth c T locs cells slots) (hx : p.tables.exec = Jvm.exec) (pc' : Nat) {o : Int} (hd : decode c.code pc = .ok (.goto o, 3)) (ho : 0 ≤ (pc : Int) + o) (hp : ((pc : Int) + o).toNat = pc') (h : Goes p e below s C S Q T (mkF m pc' Ls rest)) : Goes p e below s C S Q T (mkF m pc Ls rest) :=
  Goes.go (fun _ k => XS.goto X.here hx rfl rfl hd ho hp k) h
theorem own_ifY (X : Stand p l e R s m args below meth c T locs cells slots) (hx : p.tables.exec = Jvm.exec) (pc' : Nat) {o : Int} {cd : ClassFile.Cond} {x : Int32} (hd : decode c.code pc = .ok (.ifCond cd o, 3)) (hc : ifCond.holds cd x = true) (ho : 0 ≤ (pc : Int) + o) (hp : ((pc : Int) + o).toNat = pc') (h : Goes p e below s C S Q T (mkF m pc' Ls rest)) : Goes p e below s C S Q T (mkF m pc Ls (.int x :: rest)) :=
  Goes.go (fun _ k => XS.ifYes X.here hx rfl rfl hd rfl hc ho hp k) h
theorem own_ifN (X : Stand p l e R s m args below meth c T locs cells slots) (hx : p.tables.exec = Jvm.exec) (pc' : Nat) {o : Int} {cd : ClassFile.Cond} {x : Int32} (hd : decode c.code pc = .ok (.ifCond cd o, 3)) (hc : ifCond.holds cd x = false) (hp : pc + 3 = pc') (h : Goes p e below s C S Q T (mkF m pc' Ls rest)) : Goes p e below s C S Q T (mkF m pc Ls (.int x :: rest)) := by
  subst hp; exact Goes.go (fun _ k => XS.ifNo X.here hx rfl hd rfl hc k) h
theorem own_icmpY (X : Stand p l e R s m args below meth c T locs cells slots) (hx : p.tables.exec = Jvm.exec) (pc' : Nat) {o : Int} {cd : ClassFile.Cond} {x y : Int32} (hd : decode c.code pc = .ok (.if_icmp cd o, 3)) (hc : if_icmp.holds cd x y = true) (ho : 0 ≤ (pc : Int) + o) (hp : ((pc : Int) + o).toNat = pc') (h : Goes p e below s C S Q T (mkF m pc' Ls rest)) : Goes p e below s C S Q T (mkF m pc Ls (.int y :: .int x :: rest)) :=
  Goes.go (fun _ k => XS.icmpYes X.here hx rfl rfl hd rfl hc ho hp k) h
theorem own_icmpN (X : Stand p l e R s m args below meth c T locs cells slots) (hx : p.tables.exec = Jvm.exec) (pc' : Nat) {o : Int} {cd : ClassFile.Cond} {x y : Int32} (hd : decode c.code pc = .ok (.if_icmp cd o, 3)) (hc : if_icmp.holds cd x y = false) (hp : pc + 3 = pc') (h : Goes p e below s C S Q T (mkF m pc' Ls rest)) : Goes p e below s C S Q T (mkF m pc Ls (.int y :: .int x :: rest)) := by
  subst hp; exact Goes.go (fun _ k => XS.icmpNo X.here hx rfl hd rfl hc k) h
theorem own_acmp (X : Stand p l e R s m args below meth c T locs cells slots) (hx : p.tables.exec = Jvm.exec) (pc' : Nat) {o : Int} {cd : ACond} {x y : Value} {same : Bool} (h1 : x.isRef = true) (h2 : y.isRef = true) (hd : decode c.code pc = .ok (.if_acmp cd o, 3)) (hq : decide (x = y) = same) (ho : 0 ≤ (pc : Int) + o) (hp : pc' = if acV cd same = true then ((pc : Int) + o).toNat else pc + 3) (h : Goes p e below s C S Q T (mkF m pc' Ls rest)) : Goes p e below s C S Q T (mkF m pc Ls (y :: x :: rest)) :=
  Goes.go (fun _ k => Jvm.RoadKit.acmp (g := mkF m pc Ls (y :: x :: rest)) X hx rfl h1 h2 rfl hd rfl hq ho hp k) h
theorem own_ifnullY (X : Stand p l e R s m args below meth c T locs cells slots) (hx : p.tables.exec = Jvm.exec) (pc' : Nat) {o : Int} (hd : decode c.code pc = .ok (.ifnull o, 3)) (ho : 0 ≤ (pc : Int) + o) (hp : ((pc : Int) + o).toNat = pc') (h : Goes p e below s C S Q T (mkF m pc' Ls rest)) : Goes p e below s C S Q T (mkF m pc Ls (.null :: rest)) :=
  Goes.go (fun _ k => XS.ifnullYes X.here hx rfl rfl hd rfl ho hp k) h
theorem own_ifnullN (X : Stand p l e R s m args below meth c T locs cells slots) (hx : p.tables.exec = Jvm.exec) (pc' : Nat) {o : Int} {b : Addr} (hd : decode c.code pc = .ok (.ifnull o, 3)) (hp : pc + 3 = pc') (h : Goes p e below s C S Q T (mkF m pc' Ls rest)) : Goes p e below s C S Q T (mkF m pc Ls (.ref b :: rest)) := by
  subst hp; exact Goes.go (fun _ k => XS.ifnullNo X.here hx rfl hd rfl k) h
theorem own_ifnonnullY (X : Stand p l e R s m args below meth c T locs cells slots) (hx : p.tables.exec = Jvm.exec) (pc' : Nat) {o : Int} {b : Addr} (hd : decode c.code pc = .ok (.ifnonnull o, 3)) (ho : 0 ≤ (pc : Int) + o) (hp : ((pc : Int) + o).toNat = pc') (h : Goes p e below s C S Q T (mkF m pc' Ls rest)) : Goes p e below s C S Q T (mkF m pc Ls (.ref b :: rest)) :=
  Goes.go (fun _ k => XS.ifnonnullYes X.here hx rfl rfl hd rfl ho hp k) h
theorem own_ifnonnullN (X : Stand p l e R s m args below meth c T locs cells slots) (hx : p.tables.exec = Jvm.exec) (pc' : Nat) {o : Int} (hd : decode c.code pc = .ok (.ifnonnull o, 3)) (hp : pc + 3 = pc') (h : Goes p e below s C S Q T (mkF m pc' Ls rest)) : Goes p e below s C S Q T (mkF m pc Ls (.null :: rest)) := by
  subst hp; exact Goes.go (fun _ k => XS.ifnonnullNo X.here hx rfl hd rfl k) h
end Steps1
/-- the branches on a long comparison -/
theorem Ltlt {x y : Int64} (h : x < y) : ifCond.holds .lt (lcmpW x y) = true ∧ ifCond.holds .ge (lcmpW x y) = false ∧ ifCond.holds .gt (lcmpW y x) = true ∧ ifCond.holds .le (lcmpW y x) = false :=
  ⟨(if0 _ _).trans (tlt ((lw_lt x y).mpr h)).1, (if0 _ _).trans (tlt ((lw_lt x y).mpr h)).2.1, (if0 _ _).trans (tlt ((lw_gt y x).mpr h)).2.2.1, (if0 _ _).trans (tlt ((lw_gt y x).mpr h)).2.2.2⟩
theorem Lflt {x y : Int64} (h : ¬ x < y) : ifCond.holds .lt (lcmpW x y) = false ∧ ifCond.holds .ge (lcmpW x y) = true ∧ ifCond.holds .gt (lcmpW y x) = false ∧ ifCond.holds .le (lcmpW y x) = true :=
  ⟨(if0 _ _).trans (flt fun q => h ((lw_lt x y).mp q)).1, (if0 _ _).trans (flt fun q => h ((lw_lt x y).mp q)).2.1, (if0 _ _).trans (flt fun q => h ((lw_gt y x).mp q)).2.2.1, (if0 _ _).trans (flt fun q => h ((lw_gt y x).mp q)).2.2.2⟩
theorem Lteq {x y : Int64} (h : x = y) : ifCond.holds .eq (lcmpW x y) = true ∧ ifCond.holds .ne (lcmpW x y) = false :=
  ⟨(if0 _ _).trans (teq ((lw_eq x y).mpr h)).1, (if0 _ _).trans (teq ((lw_eq x y).mpr h)).2⟩
theorem Lfeq {x y : Int64} (h : ¬ x = y) : ifCond.holds .eq (lcmpW x y) = false ∧ ifCond.holds .ne (lcmpW x y) = true :=
  ⟨(if0 _ _).trans (feq fun q => h ((lw_eq x y).mp q)).1, (if0 _ _).trans (feq fun q => h ((lw_eq x y).mp q)).2⟩
theorem Ztlt {x y : Int32} (h : x < y) : if_icmp.holds .lt x y = true ∧ if_icmp.holds .ge x y = false ∧ if_icmp.holds .gt y x = true ∧ if_icmp.holds .le y x = false := tlt h
/-- the pieces of a memory fact -/
theorem own_lt_ne {a b n : Nat} (h : a < n) (g : b = n) : a ≠ b := by omega
end Own
theorem own_bt {r : Int32} {P : Prop} (h : (r = (1 : Int32) ∧ P) ∨ (r = (0 : Int32) ∧ ¬ P)) (q : P) : r = (1 : Int32) := by
  rcases h with h | h
  · exact h.1
  · exact absurd q h.2
theorem own_bf {r : Int32} {P : Prop} (h : (r = (1 : Int32) ∧ P) ∨ (r = (0 : Int32) ∧ ¬ P)) (q : ¬ P) : r = (0 : Int32) := by
  rcases h with h | h
  · exact absurd h.2 q
  · exact h.1
theorem own_edge (e : Int32) : ¬ e < (999001 : Int32) ↔ (999000 : Int32) < e := by
  have e1 : (999001 : Int32).toInt = 999001 := by decide
  have e2 : (999000 : Int32).toInt = 999000 := by decide
  simp only [Int32.lt_iff_toInt_lt, e1, e2]; omega
theorem own_ply (near pl : Int32) (h : pl = ((((near.toUInt32 >>> ((2 : Int32) &&& 31).toUInt32).toInt32) &&& (127 : Int32)) % (97 : Int32))) : 0 ≤ pl.toInt ∧ pl.toInt ≤ 96 := by
  have hm : (((near.toUInt32 >>> ((2 : Int32) &&& 31).toUInt32).toInt32) &&& (127 : Int32)).toInt = _ % 128 := c_mask _ (127 : Int32) 7 (by decide) (by decide)
  have hr := (c_irem (((near.toUInt32 >>> ((2 : Int32) &&& 31).toUInt32).toInt32) &&& (127 : Int32)) (97 : Int32) 97 (by decide)).1 (by omega)
  rw [← h] at hr; omega
theorem own_found (pl fo : Int32) (hp : 0 ≤ pl.toInt ∧ pl.toInt ≤ 96) (h : fo = ((1000000 : Int32) - pl)) : (999000 : Int32) < fo := by
  have h1 := c_isub (1000000 : Int32) pl
  have e1 : (1000000 : Int32).toInt = 1000000 := by decide
  have e2 : (999000 : Int32).toInt = 999000 := by decide
  have hb := rng32 fo
  rw [← h] at h1; rw [Int32.lt_iff_toInt_lt]; omega
theorem own_lost (pl fo lo : Int32) (hp : 0 ≤ pl.toInt ∧ pl.toInt ≤ 96) (h : fo = ((1000000 : Int32) - pl)) (h' : lo = (-fo)) : ¬ (999000 : Int32) < lo := by
  have h1 := c_isub (1000000 : Int32) pl
  have h2 := c_ineg fo
  have e1 : (1000000 : Int32).toInt = 1000000 := by decide
  have e2 : (999000 : Int32).toInt = 999000 := by decide
  have hb := rng32 fo
  have hb' := rng32 lo
  rw [← h] at h1; rw [← h'] at h2; rw [Int32.lt_iff_toInt_lt]; omega
theorem own_d2_0 : decode jdk_30_method_1_code 0 = .ok (.aload_n 0, 1) := by decide +kernel
theorem own_d2_1 : decode jdk_30_method_1_code 1 = .ok (.invokespecial 1, 3) := by decide +kernel
theorem own_d2_4 : decode jdk_30_method_1_code 4 = .ok (.return_, 1) := by decide +kernel
theorem own_pn_java_lang_Record : plainName "java/lang/Record" = true := by first | (simp [plainName, overriddenIn]; done) | decide +kernel
def Q2 (Z : State) (rt : Addr) (h0 : Heap) (n0 : Nat) (v : Option Value) (h : Heap) (L : List Loc) : Prop := v = none ∧ Fr n0 L ∧ h = h0
set_option maxRecDepth 65536 in
set_option maxHeartbeats 40000000 in
theorem rm2 (l : Launch) (Z : State) (a0 : Array Value) (hw : ∀ d ∈ tables_1, d.before a0 Z = true) (ws : List Jvm.Cond) (rt : Addr) (h0 : Heap) (n0 : Nat) (Z0 : n0 ≤ h0.size)  :
    MetFree l (⟨"java/lang/Record", "<init>", "()V"⟩ : MethodName) (head1 (Jvm.Cond.code (⟨"java/lang/Record", "<init>", "()V"⟩ : MethodName) jdk_30_method_1_code 1 none :: ws) ({ frames := 1, cells := 0, slots := 0, locals := 12 } : Room)) (fun a U => a = #[(.ref rt)] ∧ Z.Warmed39 U.vm ∧ U.heap = h0) (fun _ _ _ _ _ => True) (fun _ U o U' => ∃ v L, o = .returned v ∧ Q2 Z rt h0 n0 v U'.heap L ∧ FrameEnd U o U' L ({ frames := 1, cells := 0, slots := 0, locals := 12 } : Room).cells ({ frames := 1, cells := 0, slots := 0, locals := 12 } : Room).slots) := by
  refine MetFree.of_bodySF (plainFor_of_name own_pn_java_lang_Record) hisR ?_
  intro p e s m args below meth c s₁ Bd hml0 hP hK
  obtain ⟨rfl, hZ, hh⟩ := hP
  have hx := Bd.exec
  have hby := Bd.bytes
  have hml : c.maxLocals = 1 := hml0
  have hlk := Bd.notSynchronized
  have hown : s.vm.findClass "java/lang/Record" = some m.cls := findClass_of_methodNamed Bd.named
  have hnm := (name_of_methodNamed Bd.named Bd.method).1
  have X0 : Stand p l e ({ frames := 1, cells := 0, slots := 0, locals := 12 } : Room) s m #[(.ref rt)] below meth c s₁ [] 0 0 := Stand.of_body Bd
  have e0 : s₁.heap = h0 := by rw [← hh, Bd.state]; rfl
  have N0 := Fr.nil n0
  refine own_enter (Q := Q2 Z rt h0 n0) (Ls := #[.val (.ref rt)]) (by first | rfl | (simp [entryFrame, mkF, argsToLocals, Value.category]; done)) ?_
  refine own_aloadN X0 hx 1 rfl (hb hby own_d2_0) rfl rfl ?_
  obtain ⟨T1, X1, e1, st1⟩ := initO X0 hx hZ hown (hw _ (List.mem_of_getElem? (i := 11) rfl)) (hw _ (List.mem_of_getElem? (i := 12) rfl)) (hw _ (List.mem_of_getElem? (i := 13) rfl)) e0 (g := (mkF m 1 #[.val (.ref rt)] [(.ref rt)])) rfl (by rw [hml]; rfl) rfl (hb hby own_d2_1) (by decide) (W := 0) (by show 2 * 0 + _ ≤ _; exact Nat.le_of_eq rfl) (by decide)
  refine Goes.go st1 ?_
  show Goes p e below s _ _ _ T1 (mkF m 4 #[.val (.ref rt)] [])
  refine own_retV X1 hx hlk Bd.returns (hb hby own_d2_4) (by decide) (by decide) e1 ?_
  exact ⟨rfl, N0, rfl⟩
theorem own_pd0 : parseMethodDescriptor "()V" = some ⟨[], none⟩ := by decide +kernel
theorem own_d1_0 : decode prog_28_method_1_code 0 = .ok (.aload_n 0, 1) := by decide +kernel
theorem own_d1_1 : decode prog_28_method_1_code 1 = .ok (.invokespecial 1, 3) := by decide +kernel
theorem own_d1_4 : decode prog_28_method_1_code 4 = .ok (.aload_n 0, 1) := by decide +kernel
theorem own_d1_5 : decode prog_28_method_1_code 5 = .ok (.iload_n 1, 1) := by decide +kernel
theorem own_d1_6 : decode prog_28_method_1_code 6 = .ok (.putfield 7, 3) := by decide +kernel
theorem own_d1_9 : decode prog_28_method_1_code 9 = .ok (.aload_n 0, 1) := by decide +kernel
theorem own_d1_10 : decode prog_28_method_1_code 10 = .ok (.iload_n 2, 1) := by decide +kernel
theorem own_d1_11 : decode prog_28_method_1_code 11 = .ok (.putfield 13, 3) := by decide +kernel
theorem own_d1_14 : decode prog_28_method_1_code 14 = .ok (.return_, 1) := by decide +kernel
theorem own_pn_com_example_fivestone_fivestone_rules_Point : plainName "com/example/fivestone/fivestone/rules/Point" = true := by first | (simp [plainName, overriddenIn]; done) | decide +kernel
def Q1 (Z : State) (pt : Addr) (pc : Int32) (pr : Int32) (h0 : Heap) (n0 : Nat) (v : Option Value) (h : Heap) (L : List Loc) : Prop := v = none ∧ Fr n0 L ∧ Keep h0 h [pt] ∧ Fld Z h pt "com/example/fivestone/fivestone/rules/Point" "column" "I" (.int pc) ∧ Fld Z h pt "com/example/fivestone/fivestone/rules/Point" "row" "I" (.int pr)
set_option maxRecDepth 65536 in
set_option maxHeartbeats 40000000 in
theorem rm1 (l : Launch) (Z : State) (a0 : Array Value) (hw : ∀ d ∈ tables_1, d.before a0 Z = true) (ws : List Jvm.Cond) (pt : Addr) (pc : Int32) (pr : Int32) (h0 : Heap) (n0 : Nat) (Z0 : n0 ≤ h0.size) (EP : Exa Z h0 pt "com/example/fivestone/fivestone/rules/Point") (Fc : Fld Z h0 pt "com/example/fivestone/fivestone/rules/Point" "column" "I" (.int (0 : Int32))) (Fr_ : Fld Z h0 pt "com/example/fivestone/fivestone/rules/Point" "row" "I" (.int (0 : Int32))) (gp : n0 ≤ pt) :
    MetFree l (⟨"com/example/fivestone/fivestone/rules/Point", "<init>", "(II)V"⟩ : MethodName) (head1 (Jvm.Cond.code (⟨"com/example/fivestone/fivestone/rules/Point", "<init>", "(II)V"⟩ : MethodName) prog_28_method_1_code 3 none :: ws) ({ frames := 2, cells := 0, slots := 0, locals := 24 } : Room)) (fun a U => a = #[(.ref pt), (.int pc), (.int pr)] ∧ Z.Warmed39 U.vm ∧ U.heap = h0) (fun _ _ _ _ _ => True) (fun _ U o U' => ∃ v L, o = .returned v ∧ Q1 Z pt pc pr h0 n0 v U'.heap L ∧ FrameEnd U o U' L ({ frames := 2, cells := 0, slots := 0, locals := 24 } : Room).cells ({ frames := 2, cells := 0, slots := 0, locals := 24 } : Room).slots) := by
  refine MetFree.of_bodySF (plainFor_of_name own_pn_com_example_fivestone_fivestone_rules_Point) hisR ?_
  intro p e s m args below meth c s₁ Bd hml0 hP hK
  obtain ⟨rfl, hZ, hh⟩ := hP
  have hx := Bd.exec
  have hby := Bd.bytes
  have hml : c.maxLocals = 3 := hml0
  have hlk := Bd.notSynchronized
  have hown : s.vm.findClass "com/example/fivestone/fivestone/rules/Point" = some m.cls := findClass_of_methodNamed Bd.named
  have hnm := (name_of_methodNamed Bd.named Bd.method).1
  have X0 : Stand p l e ({ frames := 2, cells := 0, slots := 0, locals := 24 } : Room) s m #[(.ref pt), (.int pc), (.int pr)] below meth c s₁ [] 0 0 := Stand.of_body Bd
  have e0 : s₁.heap = h0 := by rw [← hh, Bd.state]; rfl
  have N0 := Fr.nil n0
  have K0 : Keep h0 h0 [pt] := Keep.refl _ _
  refine own_enter (Q := Q1 Z pt pc pr h0 n0) (Ls := #[.val (.ref pt), .val (.int pc), .val (.int pr)]) (by first | rfl | (simp [entryFrame, mkF, argsToLocals, Value.category]; done)) ?_
  refine own_aloadN X0 hx 1 rfl (hb hby own_d1_0) rfl rfl ?_
  obtain ⟨_, _, ⟨T1, L1, k1, n1⟩, -, X1, ⟨Lc1, hQ1, l1, y1, z1⟩, st1⟩ := X0.specialBack hx (y := (⟨"java/lang/Record", "<init>", "()V"⟩ : MethodName)) rfl hown (mvT hZ (hw _ (List.mem_of_getElem? (i := 6) rfl))) (mvT hZ (hw _ (List.mem_of_getElem? (i := 7) rfl))) (mvT hZ (hw _ (List.mem_of_getElem? (i := 10) rfl))) (by decide) (backOf (W := 0) (rm2 l Z a0 hw [] pt h0 n0 Z0 ) hZ (hw _ (List.mem_of_getElem? (i := 10) rfl)) (hw _ (List.mem_of_getElem? (i := 9) rfl)) (by decide) (by decide)) (g := (mkF m 1 #[.val (.ref pt), .val (.int pc), .val (.int pr)] [(.ref pt)])) rfl (by rw [hml]; rfl) (Steps.refl _) (a := pt) (argsL := []) (rest := []) (lenOf own_pd0 rfl) rfl (by show 2 * 0 + _ ≤ _; exact Nat.le_of_eq rfl) (hb hby own_d1_1) (fun _ _ => ⟨rfl, e0, (by decide : 0 + 0 ≤ _), (by decide : 0 + 0 ≤ _)⟩)
  dsimp only [Pt.U, Pt.locs, Pt.cells, Pt.slots] at X1 l1 y1 z1 st1 hQ1
  subst l1 y1 z1
  obtain ⟨rfl, N1q, eh1⟩ := hQ1
  have N1 := Fr.app N0 N1q
  refine Goes.tr st1 ?_
  show Goes p e below s _ _ _ T1 (mkF m 4 #[.val (.ref pt), .val (.int pc), .val (.int pr)] [])
  refine own_aloadN X1 hx 5 rfl (hb hby own_d1_4) rfl rfl ?_
  refine own_iloadN X1 hx 6 rfl (hb hby own_d1_5) rfl ?_
  obtain ⟨T2, h2, X2, e2, W2, st2⟩ := putF X1 hx hZ hown (host := "") (Or.inl (hw _ (List.mem_of_getElem? (i := 14) rfl))) Via.refl eh1 Fc EP (Or.inr ⟨(hw _ (List.mem_of_getElem? (i := 15) rfl)), rfl, hnm⟩) (hw _ (List.mem_of_getElem? (i := 1) rfl)) (ty := .int) (by decide) rfl rfl (g := (mkF m 6 #[.val (.ref pt), .val (.int pc), .val (.int pr)] [(.int pc), (.ref pt)])) rfl rfl (hb hby own_d1_6)
  have N2 := Fr.snoc X2 N1 gp
  have f3 := EP.wr W2
  have f4 := Fc.same W2
  have f5 := Fr_.other W2 (Or.inr (slot_ne (Or.inr (hw _ (List.mem_of_getElem? (i := 17) rfl))) (Or.inr (hw _ (List.mem_of_getElem? (i := 15) rfl))) (by decide) (t := .int) (t' := .int) (by decide) (by decide)))
  have K2 := K0.wr W2 (Or.inl (List.mem_of_getElem? (i := 0) rfl))
  have Z2 := Nat.le_trans Z0 (Nat.le_of_eq W2.size.symm)
  refine Goes.go st2 ?_
  show Goes p e below s _ _ _ T2 (mkF m 9 #[.val (.ref pt), .val (.int pc), .val (.int pr)] [])
  refine own_aloadN X2 hx 10 rfl (hb hby own_d1_9) rfl rfl ?_
  refine own_iloadN X2 hx 11 rfl (hb hby own_d1_10) rfl ?_
  obtain ⟨T6, h6, X6, e6, W6, st6⟩ := putF X2 hx hZ hown (host := "") (Or.inl (hw _ (List.mem_of_getElem? (i := 16) rfl))) Via.refl e2 f5 f3 (Or.inr ⟨(hw _ (List.mem_of_getElem? (i := 17) rfl)), rfl, hnm⟩) (hw _ (List.mem_of_getElem? (i := 1) rfl)) (ty := .int) (by decide) rfl rfl (g := (mkF m 11 #[.val (.ref pt), .val (.int pc), .val (.int pr)] [(.int pr), (.ref pt)])) rfl rfl (hb hby own_d1_11)
  have N6 := Fr.snoc X6 N2 gp
  have f7 := f3.wr W6
  have f8 := f4.other W6 (Or.inr (slot_ne (Or.inr (hw _ (List.mem_of_getElem? (i := 15) rfl))) (Or.inr (hw _ (List.mem_of_getElem? (i := 17) rfl))) (by decide) (t := .int) (t' := .int) (by decide) (by decide)))
  have f9 := f5.same W6
  have K6 := K2.wr W6 (Or.inl (List.mem_of_getElem? (i := 0) rfl))
  have Z6 := Nat.le_trans Z2 (Nat.le_of_eq W6.size.symm)
  refine Goes.go st6 ?_
  show Goes p e below s _ _ _ T6 (mkF m 14 #[.val (.ref pt), .val (.int pc), .val (.int pr)] [])
  refine own_retV X6 hx hlk Bd.returns (hb hby own_d1_14) (by decide) (by decide) e6 ?_
  exact ⟨rfl, N6, K6, f8, f9⟩
theorem own_d4_0 : decode prog_11_method_1_code 0 = .ok (.aload_n 0, 1) := by decide +kernel
theorem own_d4_1 : decode prog_11_method_1_code 1 = .ok (.invokespecial 3, 3) := by decide +kernel
theorem own_d4_4 : decode prog_11_method_1_code 4 = .ok (.aload_n 0, 1) := by decide +kernel
theorem own_d4_5 : decode prog_11_method_1_code 5 = .ok (.aload_n 1, 1) := by decide +kernel
theorem own_d4_6 : decode prog_11_method_1_code 6 = .ok (.putfield 9, 3) := by decide +kernel
theorem own_d4_9 : decode prog_11_method_1_code 9 = .ok (.aload_n 0, 1) := by decide +kernel
theorem own_d4_10 : decode prog_11_method_1_code 10 = .ok (.iload_n 2, 1) := by decide +kernel
theorem own_d4_11 : decode prog_11_method_1_code 11 = .ok (.putfield 15, 3) := by decide +kernel
theorem own_d4_14 : decode prog_11_method_1_code 14 = .ok (.aload_n 0, 1) := by decide +kernel
theorem own_d4_15 : decode prog_11_method_1_code 15 = .ok (.iload_n 3, 1) := by decide +kernel
theorem own_d4_16 : decode prog_11_method_1_code 16 = .ok (.putfield 19, 3) := by decide +kernel
theorem own_d4_19 : decode prog_11_method_1_code 19 = .ok (.return_, 1) := by decide +kernel
theorem own_pn_com_example_fivestone_fivestone_engine_Lookahead_Result : plainName "com/example/fivestone/fivestone/engine/Lookahead$Result" = true := by first | (simp [plainName, overriddenIn]; done) | decide +kernel
def Q4 (Z : State) (rt : Addr) (rp : Addr) (rsc : Int32) (rd : Int32) (h0 : Heap) (n0 : Nat) (v : Option Value) (h : Heap) (L : List Loc) : Prop := v = none ∧ Fr n0 L ∧ Keep h0 h [rt] ∧ Fld Z h rt "com/example/fivestone/fivestone/engine/Lookahead$Result" "score" "I" (.int rsc)
set_option maxRecDepth 65536 in
set_option maxHeartbeats 40000000 in
theorem rm4 (l : Launch) (Z : State) (a0 : Array Value) (hw : ∀ d ∈ tables_1, d.before a0 Z = true) (ws : List Jvm.Cond) (rt : Addr) (rp : Addr) (rsc : Int32) (rd : Int32) (h0 : Heap) (n0 : Nat) (Z0 : n0 ≤ h0.size) (ER : Exa Z h0 rt "com/example/fivestone/fivestone/engine/Lookahead$Result") (Fm : Fld Z h0 rt "com/example/fivestone/fivestone/engine/Lookahead$Result" "move" "Lcom/example/fivestone/fivestone/rules/Point;" .null) (Fs : Fld Z h0 rt "com/example/fivestone/fivestone/engine/Lookahead$Result" "score" "I" (.int (0 : Int32))) (Fd : Fld Z h0 rt "com/example/fivestone/fivestone/engine/Lookahead$Result" "depth" "I" (.int (0 : Int32))) (gp : n0 ≤ rt) :
    MetFree l (⟨"com/example/fivestone/fivestone/engine/Lookahead$Result", "<init>", "(Lcom/example/fivestone/fivestone/rules/Point;II)V"⟩ : MethodName) (head1 (Jvm.Cond.code (⟨"com/example/fivestone/fivestone/engine/Lookahead$Result", "<init>", "(Lcom/example/fivestone/fivestone/rules/Point;II)V"⟩ : MethodName) prog_11_method_1_code 4 none :: ws) ({ frames := 2, cells := 0, slots := 0, locals := 24 } : Room)) (fun a U => a = #[(.ref rt), (.ref rp), (.int rsc), (.int rd)] ∧ Z.Warmed39 U.vm ∧ U.heap = h0) (fun _ _ _ _ _ => True) (fun _ U o U' => ∃ v L, o = .returned v ∧ Q4 Z rt rp rsc rd h0 n0 v U'.heap L ∧ FrameEnd U o U' L ({ frames := 2, cells := 0, slots := 0, locals := 24 } : Room).cells ({ frames := 2, cells := 0, slots := 0, locals := 24 } : Room).slots) := by
  refine MetFree.of_bodySF (plainFor_of_name own_pn_com_example_fivestone_fivestone_engine_Lookahead_Result) hisR ?_
  intro p e s m args below meth c s₁ Bd hml0 hP hK
  obtain ⟨rfl, hZ, hh⟩ := hP
  have hx := Bd.exec
  have hby := Bd.bytes
  have hml : c.maxLocals = 4 := hml0
  have hlk := Bd.notSynchronized
  have hown : s.vm.findClass "com/example/fivestone/fivestone/engine/Lookahead$Result" = some m.cls := findClass_of_methodNamed Bd.named
  have hnm := (name_of_methodNamed Bd.named Bd.method).1
  have X0 : Stand p l e ({ frames := 2, cells := 0, slots := 0, locals := 24 } : Room) s m #[(.ref rt), (.ref rp), (.int rsc), (.int rd)] below meth c s₁ [] 0 0 := Stand.of_body Bd
  have e0 : s₁.heap = h0 := by rw [← hh, Bd.state]; rfl
  have N0 := Fr.nil n0
  have K0 : Keep h0 h0 [rt] := Keep.refl _ _
  refine own_enter (Q := Q4 Z rt rp rsc rd h0 n0) (Ls := #[.val (.ref rt), .val (.ref rp), .val (.int rsc), .val (.int rd)]) (by first | rfl | (simp [entryFrame, mkF, argsToLocals, Value.category]; done)) ?_
  refine own_aloadN X0 hx 1 rfl (hb hby own_d4_0) rfl rfl ?_
  obtain ⟨_, _, ⟨T1, L1, k1, n1⟩, -, X1, ⟨Lc1, hQ1, l1, y1, z1⟩, st1⟩ := X0.specialBack hx (y := (⟨"java/lang/Record", "<init>", "()V"⟩ : MethodName)) rfl hown (mvT hZ (hw _ (List.mem_of_getElem? (i := 24) rfl))) (mvT hZ (hw _ (List.mem_of_getElem? (i := 7) rfl))) (mvT hZ (hw _ (List.mem_of_getElem? (i := 10) rfl))) (by decide) (backOf (W := 0) (rm2 l Z a0 hw [] rt h0 n0 Z0 ) hZ (hw _ (List.mem_of_getElem? (i := 10) rfl)) (hw _ (List.mem_of_getElem? (i := 9) rfl)) (by decide) (by decide)) (g := (mkF m 1 #[.val (.ref rt), .val (.ref rp), .val (.int rsc), .val (.int rd)] [(.ref rt)])) rfl (by rw [hml]; rfl) (Steps.refl _) (a := rt) (argsL := []) (rest := []) (lenOf own_pd0 rfl) rfl (by show 2 * 0 + _ ≤ _; exact Nat.le_of_eq rfl) (hb hby own_d4_1) (fun _ _ => ⟨rfl, e0, (by decide : 0 + 0 ≤ _), (by decide : 0 + 0 ≤ _)⟩)
  dsimp only [Pt.U, Pt.locs, Pt.cells, Pt.slots] at X1 l1 y1 z1 st1 hQ1
  subst l1 y1 z1
  obtain ⟨rfl, N1q, eh1⟩ := hQ1
  have N1 := Fr.app N0 N1q
  refine Goes.tr st1 ?_
  show Goes p e below s _ _ _ T1 (mkF m 4 #[.val (.ref rt), .val (.ref rp), .val (.int rsc), .val (.int rd)] [])
  refine own_aloadN X1 hx 5 rfl (hb hby own_d4_4) rfl rfl ?_
  refine own_aloadN X1 hx 6 rfl (hb hby own_d4_5) rfl rfl ?_
  obtain ⟨T2, h2, X2, e2, W2, st2⟩ := putF X1 hx hZ hown (host := "") (Or.inl (hw _ (List.mem_of_getElem? (i := 25) rfl))) Via.refl eh1 Fm ER (Or.inr ⟨(hw _ (List.mem_of_getElem? (i := 26) rfl)), rfl, hnm⟩) (hw _ (List.mem_of_getElem? (i := 19) rfl)) (ty := (.object "com/example/fivestone/fivestone/rules/Point")) (by decide) rfl rfl (g := (mkF m 6 #[.val (.ref rt), .val (.ref rp), .val (.int rsc), .val (.int rd)] [(.ref rp), (.ref rt)])) rfl rfl (hb hby own_d4_6)
  have N2 := Fr.snoc X2 N1 gp
  have f3 := ER.wr W2
  have f4 := Fm.same W2
  have f5 := Fs.other W2 (Or.inr (slot_ne (Or.inr (hw _ (List.mem_of_getElem? (i := 28) rfl))) (Or.inr (hw _ (List.mem_of_getElem? (i := 26) rfl))) (by decide) (t := .int) (t' := (.object "com/example/fivestone/fivestone/rules/Point")) (by decide) (by decide)))
  have f6 := Fd.other W2 (Or.inr (slot_ne (Or.inr (hw _ (List.mem_of_getElem? (i := 30) rfl))) (Or.inr (hw _ (List.mem_of_getElem? (i := 26) rfl))) (by decide) (t := .int) (t' := (.object "com/example/fivestone/fivestone/rules/Point")) (by decide) (by decide)))
  have K2 := K0.wr W2 (Or.inl (List.mem_of_getElem? (i := 0) rfl))
  have Z2 := Nat.le_trans Z0 (Nat.le_of_eq W2.size.symm)
  refine Goes.go st2 ?_
  show Goes p e below s _ _ _ T2 (mkF m 9 #[.val (.ref rt), .val (.ref rp), .val (.int rsc), .val (.int rd)] [])
  refine own_aloadN X2 hx 10 rfl (hb hby own_d4_9) rfl rfl ?_
  refine own_iloadN X2 hx 11 rfl (hb hby own_d4_10) rfl ?_
  obtain ⟨T7, h7, X7, e7, W7, st7⟩ := putF X2 hx hZ hown (host := "") (Or.inl (hw _ (List.mem_of_getElem? (i := 27) rfl))) Via.refl e2 f5 f3 (Or.inr ⟨(hw _ (List.mem_of_getElem? (i := 28) rfl)), rfl, hnm⟩) (hw _ (List.mem_of_getElem? (i := 19) rfl)) (ty := .int) (by decide) rfl rfl (g := (mkF m 11 #[.val (.ref rt), .val (.ref rp), .val (.int rsc), .val (.int rd)] [(.int rsc), (.ref rt)])) rfl rfl (hb hby own_d4_11)
  have N7 := Fr.snoc X7 N2 gp
  have f8 := f3.wr W7
  have f9 := f4.other W7 (Or.inr (slot_ne (Or.inr (hw _ (List.mem_of_getElem? (i := 26) rfl))) (Or.inr (hw _ (List.mem_of_getElem? (i := 28) rfl))) (by decide) (t := (.object "com/example/fivestone/fivestone/rules/Point")) (t' := .int) (by decide) (by decide)))
  have f10 := f5.same W7
  have f11 := f6.other W7 (Or.inr (slot_ne (Or.inr (hw _ (List.mem_of_getElem? (i := 30) rfl))) (Or.inr (hw _ (List.mem_of_getElem? (i := 28) rfl))) (by decide) (t := .int) (t' := .int) (by decide) (by decide)))
  have K7 := K2.wr W7 (Or.inl (List.mem_of_getElem? (i := 0) rfl))
  have Z7 := Nat.le_trans Z2 (Nat.le_of_eq W7.size.symm)
  refine Goes.go st7 ?_
  show Goes p e below s _ _ _ T7 (mkF m 14 #[.val (.ref rt), .val (.ref rp), .val (.int rsc), .val (.int rd)] [])
  refine own_aloadN X7 hx 15 rfl (hb hby own_d4_14) rfl rfl ?_
  refine own_iloadN X7 hx 16 rfl (hb hby own_d4_15) rfl ?_
  obtain ⟨T12, h12, X12, e12, W12, st12⟩ := putF X7 hx hZ hown (host := "") (Or.inl (hw _ (List.mem_of_getElem? (i := 29) rfl))) Via.refl e7 f11 f8 (Or.inr ⟨(hw _ (List.mem_of_getElem? (i := 30) rfl)), rfl, hnm⟩) (hw _ (List.mem_of_getElem? (i := 19) rfl)) (ty := .int) (by decide) rfl rfl (g := (mkF m 16 #[.val (.ref rt), .val (.ref rp), .val (.int rsc), .val (.int rd)] [(.int rd), (.ref rt)])) rfl rfl (hb hby own_d4_16)
  have N12 := Fr.snoc X12 N7 gp
  have f13 := f8.wr W12
  have f14 := f9.other W12 (Or.inr (slot_ne (Or.inr (hw _ (List.mem_of_getElem? (i := 26) rfl))) (Or.inr (hw _ (List.mem_of_getElem? (i := 30) rfl))) (by decide) (t := (.object "com/example/fivestone/fivestone/rules/Point")) (t' := .int) (by decide) (by decide)))
  have f15 := f10.other W12 (Or.inr (slot_ne (Or.inr (hw _ (List.mem_of_getElem? (i := 28) rfl))) (Or.inr (hw _ (List.mem_of_getElem? (i := 30) rfl))) (by decide) (t := .int) (t' := .int) (by decide) (by decide)))
  have f16 := f11.same W12
  have K12 := K7.wr W12 (Or.inl (List.mem_of_getElem? (i := 0) rfl))
  have Z12 := Nat.le_trans Z7 (Nat.le_of_eq W12.size.symm)
  refine Goes.go st12 ?_
  show Goes p e below s _ _ _ T12 (mkF m 19 #[.val (.ref rt), .val (.ref rp), .val (.int rsc), .val (.int rd)] [])
  refine own_retV X12 hx hlk Bd.returns (hb hby own_d4_19) (by decide) (by decide) e12 ?_
  exact ⟨rfl, N12, K12, f15⟩
theorem own_d5_0 : decode prog_11_method_2_code 0 = .ok (.aload_n 0, 1) := by decide +kernel
theorem own_d5_1 : decode prog_11_method_2_code 1 = .ok (.getfield 15, 3) := by decide +kernel
theorem own_d5_4 : decode prog_11_method_2_code 4 = .ok (.ldc 22, 2) := by decide +kernel
theorem own_d5_6 : decode prog_11_method_2_code 6 = .ok (.if_icmp .le 7, 3) := by decide +kernel
theorem own_d5_9 : decode prog_11_method_2_code 9 = .ok (.iconst 1, 1) := by decide +kernel
theorem own_d5_10 : decode prog_11_method_2_code 10 = .ok (.goto 4, 3) := by decide +kernel
theorem own_d5_13 : decode prog_11_method_2_code 13 = .ok (.iconst 0, 1) := by decide +kernel
theorem own_d5_14 : decode prog_11_method_2_code 14 = .ok (.ireturn, 1) := by decide +kernel
def Q5 (Z : State) (rt : Addr) (sc : Int32) (h0 : Heap) (n0 : Nat) (v : Option Value) (h : Heap) (L : List Loc) : Prop := ∃ wr : Int32, v = some (.int wr) ∧ Fr n0 L ∧ h = h0 ∧ ((wr = (1 : Int32) ∧ ((999000 : Int32) < sc)) ∨ (wr = (0 : Int32) ∧ ¬ ((999000 : Int32) < sc)))
set_option maxRecDepth 65536 in
set_option maxHeartbeats 40000000 in
theorem rm5 (l : Launch) (Z : State) (a0 : Array Value) (hw : ∀ d ∈ tables_1, d.before a0 Z = true) (ws : List Jvm.Cond) (rt : Addr) (sc : Int32) (h0 : Heap) (n0 : Nat) (Z0 : n0 ≤ h0.size) (Fs : Fld Z h0 rt "com/example/fivestone/fivestone/engine/Lookahead$Result" "score" "I" (.int sc)) :
    MetFree l (⟨"com/example/fivestone/fivestone/engine/Lookahead$Result", "isWin", "()Z"⟩ : MethodName) (head1 (Jvm.Cond.code (⟨"com/example/fivestone/fivestone/engine/Lookahead$Result", "isWin", "()Z"⟩ : MethodName) prog_11_method_2_code 1 (some .boolean) :: ws) ({ frames := 0, cells := 0, slots := 0, locals := 0 } : Room)) (fun a U => a = #[(.ref rt)] ∧ Z.Warmed39 U.vm ∧ U.heap = h0) (fun _ _ _ _ _ => True) (fun _ U o U' => ∃ v L, o = .returned v ∧ Q5 Z rt sc h0 n0 v U'.heap L ∧ FrameEnd U o U' L ({ frames := 0, cells := 0, slots := 0, locals := 0 } : Room).cells ({ frames := 0, cells := 0, slots := 0, locals := 0 } : Room).slots) := by
  refine MetFree.of_bodySF (plainFor_of_name own_pn_com_example_fivestone_fivestone_engine_Lookahead_Result) hisR ?_
  intro p e s m args below meth c s₁ Bd hml0 hP hK
  obtain ⟨rfl, hZ, hh⟩ := hP
  have hx := Bd.exec
  have hby := Bd.bytes
  have hml : c.maxLocals = 1 := hml0
  have hlk := Bd.notSynchronized
  have hown : s.vm.findClass "com/example/fivestone/fivestone/engine/Lookahead$Result" = some m.cls := findClass_of_methodNamed Bd.named
  have hnm := (name_of_methodNamed Bd.named Bd.method).1
  have X0 : Stand p l e ({ frames := 0, cells := 0, slots := 0, locals := 0 } : Room) s m #[(.ref rt)] below meth c s₁ [] 0 0 := Stand.of_body Bd
  have e0 : s₁.heap = h0 := by rw [← hh, Bd.state]; rfl
  have N0 := Fr.nil n0
  refine own_enter (Q := Q5 Z rt sc h0 n0) (Ls := #[.val (.ref rt)]) (by first | rfl | (simp [entryFrame, mkF, argsToLocals, Value.category]; done)) ?_
  refine own_aloadN X0 hx 1 rfl (hb hby own_d5_0) rfl rfl ?_
  obtain ⟨T1, X1, e1, st1⟩ := getF X0 hx hZ hown (host := "") (Or.inl (hw _ (List.mem_of_getElem? (i := 27) rfl))) Via.refl e0 Fs (g := (mkF m 1 #[.val (.ref rt)] [(.ref rt)])) rfl rfl (hb hby own_d5_1)
  refine Goes.go st1 ?_
  show Goes p e below s _ _ _ T1 (mkF m 4 #[.val (.ref rt)] [(.int sc)])
  refine Goes.go (X1.ldcInt hx hown (mvT hZ (hw _ (List.mem_of_getElem? (i := 36) rfl))) (g := (mkF m 4 #[.val (.ref rt)] [(.int sc)])) rfl (hb hby own_d5_4)) ?_
  show Goes p e below s _ _ _ T1 (mkF m 6 #[.val (.ref rt)] [(.int (999000 : Int32)), (.int sc)])
  by_cases hc6_2 : (999000 : Int32) < sc
  · refine own_icmpN X1 hx 9 (hb hby own_d5_6) (tlt hc6_2).2.2.2 rfl ?_
    refine own_iconst X1 hx 10 rfl (1 : Int32) (hb hby own_d5_9) (by decide) ?_
    refine own_goto X1 hx 14 (hb hby own_d5_10) (by decide) (by decide) ?_
    refine own_retZ X1 hx hlk Bd.returns (by decide) (hb hby own_d5_14) (by decide) (by decide) e1 ?_
    exact ⟨(1 : Int32), rfl, N0, rfl, (by simp +decide [hc6_2])⟩
  · refine own_icmpY X1 hx 13 (hb hby own_d5_6) (flt hc6_2).2.2.2 (by decide) (by decide) ?_
    refine own_iconst X1 hx 14 rfl (0 : Int32) (hb hby own_d5_13) (by decide) ?_
    refine own_retZ X1 hx hlk Bd.returns (by decide) (hb hby own_d5_14) (by decide) (by decide) e1 ?_
    exact ⟨(0 : Int32), rfl, N0, rfl, (by simp +decide [hc6_2])⟩
theorem own_pd1 : parseMethodDescriptor "(II)V" = some ⟨[.int, .int], none⟩ := by decide +kernel
theorem own_pd2 : parseMethodDescriptor "(Lcom/example/fivestone/fivestone/rules/Point;II)V" = some ⟨[(.object "com/example/fivestone/fivestone/rules/Point"), .int, .int], none⟩ := by decide +kernel
theorem own_pd3 : parseMethodDescriptor "()Z" = some ⟨[], some .boolean⟩ := by decide +kernel
theorem own_pn_com_example_fivestone_fivestone_engine_ResultIsWinPinLaw : plainName "com/example/fivestone/fivestone/engine/ResultIsWinPinLaw" = true := by first | (simp [plainName, overriddenIn]; done) | decide +kernel
def Q0 (Z : State) (x0 : Int32) (x1 : Int32) (x2 : Int32) (x3 : Int32) (x4 : Int32) (h0 : Heap) (n0 : Nat) (v : Option Value) (h : Heap) (L : List Loc) : Prop := v = some (.int 1) ∧ Fr n0 L
set_option maxRecDepth 65536 in
set_option maxHeartbeats 40000000 in
theorem rm0 (l : Launch) (Z : State) (a0 : Array Value) (hw : ∀ d ∈ tables_1, d.before a0 Z = true) (ws : List Jvm.Cond) (x0 : Int32) (x1 : Int32) (x2 : Int32) (x3 : Int32) (x4 : Int32) (h0 : Heap) (n0 : Nat) (Z0 : n0 ≤ h0.size)  :
    MetFree l x (head1 (Jvm.Cond.code x code maxLocals ret :: ws) room_1) (fun a U => a = #[(.int x0), (.int x1), (.int x2), (.int x3), (.int x4)] ∧ Z.Warmed39 U.vm ∧ U.heap = h0) (fun _ _ _ _ _ => True) (fun _ U o U' => ∃ v L, o = .returned v ∧ Q0 Z x0 x1 x2 x3 x4 h0 n0 v U'.heap L ∧ FrameEnd U o U' L 5 14) := by
  refine MetFree.of_bodySF (plainFor_of_name own_pn_com_example_fivestone_fivestone_engine_ResultIsWinPinLaw) hisR ?_
  intro p e s m args below meth c s₁ Bd hml0 hP hK
  obtain ⟨rfl, hZ, hh⟩ := hP
  have hx := Bd.exec
  have hby := Bd.bytes
  have hml : c.maxLocals = 12 := hml0
  have hlk := Bd.notSynchronized
  have hown : s.vm.findClass "com/example/fivestone/fivestone/engine/ResultIsWinPinLaw" = some m.cls := findClass_of_methodNamed Bd.named
  have hnm := (name_of_methodNamed Bd.named Bd.method).1
  have X0 : Stand p l e room_1 s m #[(.int x0), (.int x1), (.int x2), (.int x3), (.int x4)] below meth c s₁ [] 0 0 := Stand.of_body Bd
  have e0 : s₁.heap = h0 := by rw [← hh, Bd.state]; rfl
  have N0 := Fr.nil n0
  have K0 : Keep h0 h0 [] := Keep.refl _ _
  refine own_enter (Q := Q0 Z x0 x1 x2 x3 x4 h0 n0) (Ls := #[.val (.int x0), .val (.int x1), .val (.int x2), .val (.int x3), .val (.int x4), .unset, .unset, .unset, .unset, .unset, .unset, .unset]) (by first | rfl | (simp [entryFrame, mkF, argsToLocals, Value.category, maxLocals]; done)) ?_
  obtain ⟨T1, h1, X1, e1, E1, A1, D1, -, st1⟩ := newO X0 hx hZ hown (hw _ (List.mem_of_getElem? (i := 0) rfl)) (hw _ (List.mem_of_getElem? (i := 1) rfl)) (hw _ (List.mem_of_getElem? (i := 2) rfl)) e0 (g := (mkF m 0 #[.val (.int x0), .val (.int x1), .val (.int x2), .val (.int x3), .val (.int x4), .unset, .unset, .unset, .unset, .unset, .unset, .unset] [])) rfl (hb hby at_0) (by decide) (by decide)
  obtain ⟨b1, g1⟩ : ∃ z, z = h0.size := ⟨_, rfl⟩
  rw [← g1] at A1 D1 st1
  have G1 : n0 ≤ b1 := Nat.le_trans Z0 (Nat.le_of_eq g1.symm)
  have H1 : h0.size ≤ b1 := Nat.le_trans K0.1 (Nat.le_of_eq g1.symm)
  have K1 := K0.ext E1
  have Z1 := Nat.le_trans Z0 E1.1
  have f2 : Fld Z h1 b1 "com/example/fivestone/fivestone/rules/Point" "column" "I" (.int (0 : Int32)) := D1 (Or.inr (hw _ (List.mem_of_getElem? (i := 15) rfl))) (ty := .int) (by decide)
  have f3 : Fld Z h1 b1 "com/example/fivestone/fivestone/rules/Point" "row" "I" (.int (0 : Int32)) := D1 (Or.inr (hw _ (List.mem_of_getElem? (i := 17) rfl))) (ty := .int) (by decide)
  refine Goes.go st1 ?_
  show Goes p e below s _ _ _ T1 (mkF m 3 #[.val (.int x0), .val (.int x1), .val (.int x2), .val (.int x3), .val (.int x4), .unset, .unset, .unset, .unset, .unset, .unset, .unset] [(.ref b1)])
  refine own_dup X1 hx 4 rfl (hb hby at_3) rfl ?_
  refine own_iloadN X1 hx 5 rfl (hb hby at_4) rfl ?_
  refine own_iloadN X1 hx 6 rfl (hb hby at_5) rfl ?_
  obtain ⟨_, _, ⟨T4, L4, k4, n4⟩, -, X4, ⟨Lc4, hQ4, l4, y4, z4⟩, st4⟩ := X1.specialBack hx (y := (⟨"com/example/fivestone/fivestone/rules/Point", "<init>", "(II)V"⟩ : MethodName)) rfl hown (mvT hZ (hw _ (List.mem_of_getElem? (i := 3) rfl))) (mvT hZ (hw _ (List.mem_of_getElem? (i := 4) rfl))) (mvT hZ (hw _ (List.mem_of_getElem? (i := 5) rfl))) (by decide) (backOf (W := 1) (rm1 l Z a0 hw [] b1 x2 x3 h1 n0 Z1 A1 f2 f3 G1) hZ (hw _ (List.mem_of_getElem? (i := 5) rfl)) (hw _ (List.mem_of_getElem? (i := 2) rfl)) (by decide) (by decide)) (g := (mkF m 6 #[.val (.int x0), .val (.int x1), .val (.int x2), .val (.int x3), .val (.int x4), .unset, .unset, .unset, .unset, .unset, .unset, .unset] [(.int x3), (.int x2), (.ref b1), (.ref b1)])) rfl (by rw [hml]; rfl) (Steps.refl _) (a := b1) (argsL := [(.int x2), (.int x3)]) (rest := [(.ref b1)]) (lenOf own_pd1 rfl) rfl (by show 2 * 0 + _ ≤ _; exact Nat.le_of_eq rfl) (hb hby at_6) (fun _ _ => ⟨rfl, e1, (by decide : 1 + 0 ≤ _), (by decide : 2 + 0 ≤ _)⟩)
  dsimp only [Pt.U, Pt.locs, Pt.cells, Pt.slots] at X4 l4 y4 z4 st4 hQ4
  subst l4 y4 z4
  obtain ⟨rfl, N4q, K4q, f4_0, f4_1⟩ := hQ4
  have N4 := Fr.app N0 N4q
  have f5 := A1.keep K4q
  have K4 := K1.trans K4q (allS (Or.inr H1) all0)
  have Z4 := Nat.le_trans Z1 K4q.1
  refine Goes.tr st4 ?_
  show Goes p e below s _ _ _ T4 (mkF m 9 #[.val (.int x0), .val (.int x1), .val (.int x2), .val (.int x3), .val (.int x4), .unset, .unset, .unset, .unset, .unset, .unset, .unset] [(.ref b1)])
  refine own_astore X4 hx 11 rfl #[.val (.int x0), .val (.int x1), .val (.int x2), .val (.int x3), .val (.int x4), .val (.ref b1), .unset, .unset, .unset, .unset, .unset, .unset] (hb hby at_9) rfl rfl ?_
  obtain ⟨T6, h6, X6, e6, E6, A6, D6, -, st6⟩ := newO X4 hx hZ hown (hw _ (List.mem_of_getElem? (i := 18) rfl)) (hw _ (List.mem_of_getElem? (i := 19) rfl)) (hw _ (List.mem_of_getElem? (i := 20) rfl)) rfl (g := (mkF m 11 #[.val (.int x0), .val (.int x1), .val (.int x2), .val (.int x3), .val (.int x4), .val (.ref b1), .unset, .unset, .unset, .unset, .unset, .unset] [])) rfl (hb hby at_11) (by decide) (by decide)
  obtain ⟨b6, g6⟩ : ∃ z, z = T4.heap.size := ⟨_, rfl⟩
  rw [← g6] at A6 D6 st6
  have ne7 : b1 ≠ b6 := own_lt_ne f5.lt g6
  have G6 : n0 ≤ b6 := Nat.le_trans Z4 (Nat.le_of_eq g6.symm)
  have H6 : h0.size ≤ b6 := Nat.le_trans K4.1 (Nat.le_of_eq g6.symm)
  have f8 := f5.ext E6
  have f9 := f4_0.ext E6
  have f10 := f4_1.ext E6
  have K6 := K4.ext E6
  have Z6 := Nat.le_trans Z4 E6.1
  have f11 : Fld Z h6 b6 "com/example/fivestone/fivestone/engine/Lookahead$Result" "move" "Lcom/example/fivestone/fivestone/rules/Point;" .null := D6 (Or.inr (hw _ (List.mem_of_getElem? (i := 26) rfl))) (ty := (.object "com/example/fivestone/fivestone/rules/Point")) (by decide)
  have f12 : Fld Z h6 b6 "com/example/fivestone/fivestone/engine/Lookahead$Result" "score" "I" (.int (0 : Int32)) := D6 (Or.inr (hw _ (List.mem_of_getElem? (i := 28) rfl))) (ty := .int) (by decide)
  have f13 : Fld Z h6 b6 "com/example/fivestone/fivestone/engine/Lookahead$Result" "depth" "I" (.int (0 : Int32)) := D6 (Or.inr (hw _ (List.mem_of_getElem? (i := 30) rfl))) (ty := .int) (by decide)
  refine Goes.go st6 ?_
  show Goes p e below s _ _ _ T6 (mkF m 14 #[.val (.int x0), .val (.int x1), .val (.int x2), .val (.int x3), .val (.int x4), .val (.ref b1), .unset, .unset, .unset, .unset, .unset, .unset] [(.ref b6)])
  refine own_dup X6 hx 15 rfl (hb hby at_14) rfl ?_
  refine own_aload X6 hx 17 rfl (hb hby at_15) rfl rfl ?_
  refine own_iloadN X6 hx 18 rfl (hb hby at_17) rfl ?_
  refine own_iloadN X6 hx 19 rfl (hb hby at_18) rfl ?_
  obtain ⟨_, _, ⟨T14, L14, k14, n14⟩, -, X14, ⟨Lc14, hQ14, l14, y14, z14⟩, st14⟩ := X6.specialBack hx (y := (⟨"com/example/fivestone/fivestone/engine/Lookahead$Result", "<init>", "(Lcom/example/fivestone/fivestone/rules/Point;II)V"⟩ : MethodName)) rfl hown (mvT hZ (hw _ (List.mem_of_getElem? (i := 21) rfl))) (mvT hZ (hw _ (List.mem_of_getElem? (i := 22) rfl))) (mvT hZ (hw _ (List.mem_of_getElem? (i := 23) rfl))) (by decide) (backOf (W := 1) (rm4 l Z a0 hw [] b6 b1 x0 x1 h6 n0 Z6 A6 f11 f12 f13 G6) hZ (hw _ (List.mem_of_getElem? (i := 23) rfl)) (hw _ (List.mem_of_getElem? (i := 20) rfl)) (by decide) (by decide)) (g := (mkF m 19 #[.val (.int x0), .val (.int x1), .val (.int x2), .val (.int x3), .val (.int x4), .val (.ref b1), .unset, .unset, .unset, .unset, .unset, .unset] [(.int x1), (.int x0), (.ref b1), (.ref b6), (.ref b6)])) rfl (by rw [hml]; rfl) (Steps.refl _) (a := b6) (argsL := [(.ref b1), (.int x0), (.int x1)]) (rest := [(.ref b6)]) (lenOf own_pd2 rfl) rfl (by show 2 * 0 + _ ≤ _; exact Nat.le_of_eq rfl) (hb hby at_19) (fun _ _ => ⟨rfl, e6, (by decide : 2 + 0 ≤ _), (by decide : 5 + 0 ≤ _)⟩)
  dsimp only [Pt.U, Pt.locs, Pt.cells, Pt.slots] at X14 l14 y14 z14 st14 hQ14
  subst l14 y14 z14
  obtain ⟨rfl, N14q, K14q, f14_0⟩ := hQ14
  have N14 := Fr.app N4 N14q
  have f15 := f8.keep K14q
  have f16 := f9.keep K14q (ninS ne7 nin0)
  have f17 := f10.keep K14q (ninS ne7 nin0)
  have f18 := A6.keep K14q
  have K14 := K6.trans K14q (allS (Or.inr H6) all0)
  have Z14 := Nat.le_trans Z6 K14q.1
  refine Goes.tr st14 ?_
  show Goes p e below s _ _ _ T14 (mkF m 22 #[.val (.int x0), .val (.int x1), .val (.int x2), .val (.int x3), .val (.int x4), .val (.ref b1), .unset, .unset, .unset, .unset, .unset, .unset] [(.ref b6)])
  obtain ⟨cq19, kq19, q19a, q19b, q19c⟩ := isOf hZ rfl f18
  obtain ⟨_, _, ⟨T19, L19, k19, n19⟩, -, X19, ⟨Lc19, hQ19, l19, y19, z19⟩, st19⟩ := X14.virtualBack hx (y := (⟨"com/example/fivestone/fivestone/engine/Lookahead$Result", "isWin", "()Z"⟩ : MethodName)) (z := (⟨"com/example/fivestone/fivestone/engine/Lookahead$Result", "isWin", "()Z"⟩ : MethodName)) hown (mvT hZ (hw _ (List.mem_of_getElem? (i := 31) rfl))) (mvT hZ (hw _ (List.mem_of_getElem? (i := 32) rfl))) (notFace_of_selects (args := #[]) (mvT hZ (hw _ (List.mem_of_getElem? (i := 34) rfl)))) (mvT hZ (hw _ (List.mem_of_getElem? (i := 34) rfl))) (mvT hZ (hw _ (List.mem_of_getElem? (i := 33) rfl))) (by decide) (backOf (W := 0) (rm5 l Z a0 hw [] b6 x0 T14.heap n0 Z14 f14_0) hZ (hw _ (List.mem_of_getElem? (i := 35) rfl)) (hw _ (List.mem_of_getElem? (i := 20) rfl)) (by decide) (by decide)) q19a q19c (g := (mkF m 22 #[.val (.int x0), .val (.int x1), .val (.int x2), .val (.int x3), .val (.int x4), .val (.ref b1), .unset, .unset, .unset, .unset, .unset, .unset] [(.ref b6)])) rfl (by rw [hml]; rfl) (Steps.refl _) (argsL := []) (rest := []) (lenOf own_pd3 rfl) rfl (by show 2 * 0 + _ ≤ _; exact Nat.le_of_eq rfl) (hb hby at_22) (fun _ _ => ⟨rfl, rfl, (by decide : 2 + 0 ≤ _), (by decide : 5 + 0 ≤ _)⟩)
  dsimp only [Pt.U, Pt.locs, Pt.cells, Pt.slots] at X19 l19 y19 z19 st19 hQ19
  subst l19 y19 z19
  obtain ⟨wr_19, rfl, N19q, eh19, pr19_0⟩ := hQ19
  have N19 := Fr.app N14 N19q
  refine Goes.tr st19 ?_
  show Goes p e below s _ _ _ T19 (mkF m 25 #[.val (.int x0), .val (.int x1), .val (.int x2), .val (.int x3), .val (.int x4), .val (.ref b1), .unset, .unset, .unset, .unset, .unset, .unset] [(.int wr_19)])
  refine own_istore X19 hx 27 rfl #[.val (.int x0), .val (.int x1), .val (.int x2), .val (.int x3), .val (.int x4), .val (.ref b1), .val (.int wr_19), .unset, .unset, .unset, .unset, .unset] (hb hby at_25) rfl ?_
  refine Goes.go (X19.ldcInt hx hown (mvT hZ (hw _ (List.mem_of_getElem? (i := 37) rfl))) (g := (mkF m 27 #[.val (.int x0), .val (.int x1), .val (.int x2), .val (.int x3), .val (.int x4), .val (.ref b1), .val (.int wr_19), .unset, .unset, .unset, .unset, .unset] [])) rfl (hb hby at_27)) ?_
  show Goes p e below s _ _ _ T19 (mkF m 29 #[.val (.int x0), .val (.int x1), .val (.int x2), .val (.int x3), .val (.int x4), .val (.ref b1), .val (.int wr_19), .unset, .unset, .unset, .unset, .unset] [(.int (999000 : Int32))])
  refine own_iload X19 hx 31 rfl (hb hby at_29) rfl ?_
  refine own_iconst X19 hx 32 rfl (3 : Int32) (hb hby at_31) (by decide) ?_
  refine own_iand X19 hx 33 rfl (hb hby at_32) rfl ?_
  refine own_iadd X19 hx 34 rfl (hb hby at_33) rfl ?_
  refine own_iconst X19 hx 35 rfl (1 : Int32) (hb hby at_34) (by decide) ?_
  obtain ⟨ed, h_ed⟩ : ∃ z, z = (((999000 : Int32) + (x4 &&& (3 : Int32))) - (1 : Int32)) := ⟨_, rfl⟩
  refine own_isub X19 hx 36 rfl (hb hby at_35) h_ed.symm ?_
  refine own_istore X19 hx 38 rfl #[.val (.int x0), .val (.int x1), .val (.int x2), .val (.int x3), .val (.int x4), .val (.ref b1), .val (.int wr_19), .val (.int ed), .unset, .unset, .unset, .unset] (hb hby at_36) rfl ?_
  obtain ⟨T20, h20, X20, e20, E20, A20, D20, -, st20⟩ := newO X19 hx hZ hown (hw _ (List.mem_of_getElem? (i := 18) rfl)) (hw _ (List.mem_of_getElem? (i := 19) rfl)) (hw _ (List.mem_of_getElem? (i := 20) rfl)) eh19 (g := (mkF m 38 #[.val (.int x0), .val (.int x1), .val (.int x2), .val (.int x3), .val (.int x4), .val (.ref b1), .val (.int wr_19), .val (.int ed), .unset, .unset, .unset, .unset] [])) rfl (hb hby at_38) (by decide) (by decide)
  obtain ⟨b20, g20⟩ : ∃ z, z = T14.heap.size := ⟨_, rfl⟩
  rw [← g20] at A20 D20 st20
  have ne21 : b1 ≠ b20 := own_lt_ne f15.lt g20
  have ne22 : b6 ≠ b20 := own_lt_ne f18.lt g20
  have G20 : n0 ≤ b20 := Nat.le_trans Z14 (Nat.le_of_eq g20.symm)
  have H20 : h0.size ≤ b20 := Nat.le_trans K14.1 (Nat.le_of_eq g20.symm)
  have f23 := f15.ext E20
  have f24 := f16.ext E20
  have f25 := f17.ext E20
  have f26 := f18.ext E20
  have f27 := f14_0.ext E20
  have K20 := K14.ext E20
  have Z20 := Nat.le_trans Z14 E20.1
  have f28 : Fld Z h20 b20 "com/example/fivestone/fivestone/engine/Lookahead$Result" "move" "Lcom/example/fivestone/fivestone/rules/Point;" .null := D20 (Or.inr (hw _ (List.mem_of_getElem? (i := 26) rfl))) (ty := (.object "com/example/fivestone/fivestone/rules/Point")) (by decide)
  have f29 : Fld Z h20 b20 "com/example/fivestone/fivestone/engine/Lookahead$Result" "score" "I" (.int (0 : Int32)) := D20 (Or.inr (hw _ (List.mem_of_getElem? (i := 28) rfl))) (ty := .int) (by decide)
  have f30 : Fld Z h20 b20 "com/example/fivestone/fivestone/engine/Lookahead$Result" "depth" "I" (.int (0 : Int32)) := D20 (Or.inr (hw _ (List.mem_of_getElem? (i := 30) rfl))) (ty := .int) (by decide)
  refine Goes.go st20 ?_
  show Goes p e below s _ _ _ T20 (mkF m 41 #[.val (.int x0), .val (.int x1), .val (.int x2), .val (.int x3), .val (.int x4), .val (.ref b1), .val (.int wr_19), .val (.int ed), .unset, .unset, .unset, .unset] [(.ref b20)])
  refine own_dup X20 hx 42 rfl (hb hby at_41) rfl ?_
  refine own_aload X20 hx 44 rfl (hb hby at_42) rfl rfl ?_
  refine own_iload X20 hx 46 rfl (hb hby at_44) rfl ?_
  refine own_iloadN X20 hx 47 rfl (hb hby at_46) rfl ?_
  obtain ⟨_, _, ⟨T31, L31, k31, n31⟩, -, X31, ⟨Lc31, hQ31, l31, y31, z31⟩, st31⟩ := X20.specialBack hx (y := (⟨"com/example/fivestone/fivestone/engine/Lookahead$Result", "<init>", "(Lcom/example/fivestone/fivestone/rules/Point;II)V"⟩ : MethodName)) rfl hown (mvT hZ (hw _ (List.mem_of_getElem? (i := 21) rfl))) (mvT hZ (hw _ (List.mem_of_getElem? (i := 22) rfl))) (mvT hZ (hw _ (List.mem_of_getElem? (i := 23) rfl))) (by decide) (backOf (W := 1) (rm4 l Z a0 hw [] b20 b1 ed x1 h20 n0 Z20 A20 f28 f29 f30 G20) hZ (hw _ (List.mem_of_getElem? (i := 23) rfl)) (hw _ (List.mem_of_getElem? (i := 20) rfl)) (by decide) (by decide)) (g := (mkF m 47 #[.val (.int x0), .val (.int x1), .val (.int x2), .val (.int x3), .val (.int x4), .val (.ref b1), .val (.int wr_19), .val (.int ed), .unset, .unset, .unset, .unset] [(.int x1), (.int ed), (.ref b1), (.ref b20), (.ref b20)])) rfl (by rw [hml]; rfl) (Steps.refl _) (a := b20) (argsL := [(.ref b1), (.int ed), (.int x1)]) (rest := [(.ref b20)]) (lenOf own_pd2 rfl) rfl (by show 2 * 0 + _ ≤ _; exact Nat.le_of_eq rfl) (hb hby at_47) (fun _ _ => ⟨rfl, e20, (by decide : 3 + 0 ≤ _), (by decide : 8 + 0 ≤ _)⟩)
  dsimp only [Pt.U, Pt.locs, Pt.cells, Pt.slots] at X31 l31 y31 z31 st31 hQ31
  subst l31 y31 z31
  obtain ⟨rfl, N31q, K31q, f31_0⟩ := hQ31
  have N31 := Fr.app N19 N31q
  have f32 := f23.keep K31q
  have f33 := f24.keep K31q (ninS ne21 nin0)
  have f34 := f25.keep K31q (ninS ne21 nin0)
  have f35 := f26.keep K31q
  have f36 := f27.keep K31q (ninS ne22 nin0)
  have f37 := A20.keep K31q
  have K31 := K20.trans K31q (allS (Or.inr H20) all0)
  have Z31 := Nat.le_trans Z20 K31q.1
  refine Goes.tr st31 ?_
  show Goes p e below s _ _ _ T31 (mkF m 50 #[.val (.int x0), .val (.int x1), .val (.int x2), .val (.int x3), .val (.int x4), .val (.ref b1), .val (.int wr_19), .val (.int ed), .unset, .unset, .unset, .unset] [(.ref b20)])
  obtain ⟨cq38, kq38, q38a, q38b, q38c⟩ := isOf hZ rfl f37
  obtain ⟨_, _, ⟨T38, L38, k38, n38⟩, -, X38, ⟨Lc38, hQ38, l38, y38, z38⟩, st38⟩ := X31.virtualBack hx (y := (⟨"com/example/fivestone/fivestone/engine/Lookahead$Result", "isWin", "()Z"⟩ : MethodName)) (z := (⟨"com/example/fivestone/fivestone/engine/Lookahead$Result", "isWin", "()Z"⟩ : MethodName)) hown (mvT hZ (hw _ (List.mem_of_getElem? (i := 31) rfl))) (mvT hZ (hw _ (List.mem_of_getElem? (i := 32) rfl))) (notFace_of_selects (args := #[]) (mvT hZ (hw _ (List.mem_of_getElem? (i := 34) rfl)))) (mvT hZ (hw _ (List.mem_of_getElem? (i := 34) rfl))) (mvT hZ (hw _ (List.mem_of_getElem? (i := 33) rfl))) (by decide) (backOf (W := 0) (rm5 l Z a0 hw [] b20 ed T31.heap n0 Z31 f31_0) hZ (hw _ (List.mem_of_getElem? (i := 35) rfl)) (hw _ (List.mem_of_getElem? (i := 20) rfl)) (by decide) (by decide)) q38a q38c (g := (mkF m 50 #[.val (.int x0), .val (.int x1), .val (.int x2), .val (.int x3), .val (.int x4), .val (.ref b1), .val (.int wr_19), .val (.int ed), .unset, .unset, .unset, .unset] [(.ref b20)])) rfl (by rw [hml]; rfl) (Steps.refl _) (argsL := []) (rest := []) (lenOf own_pd3 rfl) rfl (by show 2 * 0 + _ ≤ _; exact Nat.le_of_eq rfl) (hb hby at_50) (fun _ _ => ⟨rfl, rfl, (by decide : 3 + 0 ≤ _), (by decide : 8 + 0 ≤ _)⟩)
  dsimp only [Pt.U, Pt.locs, Pt.cells, Pt.slots] at X38 l38 y38 z38 st38 hQ38
  subst l38 y38 z38
  obtain ⟨wr_38, rfl, N38q, eh38, pr38_0⟩ := hQ38
  have N38 := Fr.app N31 N38q
  refine Goes.tr st38 ?_
  show Goes p e below s _ _ _ T38 (mkF m 53 #[.val (.int x0), .val (.int x1), .val (.int x2), .val (.int x3), .val (.int x4), .val (.ref b1), .val (.int wr_19), .val (.int ed), .unset, .unset, .unset, .unset] [(.int wr_38)])
  refine own_istore X38 hx 55 rfl #[.val (.int x0), .val (.int x1), .val (.int x2), .val (.int x3), .val (.int x4), .val (.ref b1), .val (.int wr_19), .val (.int ed), .val (.int wr_38), .unset, .unset, .unset] (hb hby at_53) rfl ?_
  refine own_iload X38 hx 57 rfl (hb hby at_55) rfl ?_
  refine own_iconst X38 hx 58 rfl (2 : Int32) (hb hby at_57) (by decide) ?_
  refine own_iushr X38 hx 59 rfl (hb hby at_58) rfl ?_
  refine own_bipush X38 hx 61 rfl (127 : Int32) (hb hby at_59) (by decide) ?_
  refine own_iand X38 hx 62 rfl (hb hby at_61) rfl ?_
  refine own_bipush X38 hx 64 rfl (97 : Int32) (hb hby at_62) (by decide) ?_
  obtain ⟨pl, h_pl⟩ : ∃ z, z = ((((x4.toUInt32 >>> ((2 : Int32) &&& 31).toUInt32).toInt32) &&& (127 : Int32)) % (97 : Int32)) := ⟨_, rfl⟩
  refine own_irem X38 hx 65 rfl (hb hby at_64) (by decide) h_pl.symm ?_
  have hpl := own_ply _ _ h_pl
  refine own_istore X38 hx 67 rfl #[.val (.int x0), .val (.int x1), .val (.int x2), .val (.int x3), .val (.int x4), .val (.ref b1), .val (.int wr_19), .val (.int ed), .val (.int wr_38), .val (.int pl), .unset, .unset] (hb hby at_65) rfl ?_
  obtain ⟨T39, h39, X39, e39, E39, A39, D39, -, st39⟩ := newO X38 hx hZ hown (hw _ (List.mem_of_getElem? (i := 18) rfl)) (hw _ (List.mem_of_getElem? (i := 19) rfl)) (hw _ (List.mem_of_getElem? (i := 20) rfl)) eh38 (g := (mkF m 67 #[.val (.int x0), .val (.int x1), .val (.int x2), .val (.int x3), .val (.int x4), .val (.ref b1), .val (.int wr_19), .val (.int ed), .val (.int wr_38), .val (.int pl), .unset, .unset] [])) rfl (hb hby at_67) (by decide) (by decide)
  obtain ⟨b39, g39⟩ : ∃ z, z = T31.heap.size := ⟨_, rfl⟩
  rw [← g39] at A39 D39 st39
  have ne40 : b1 ≠ b39 := own_lt_ne f32.lt g39
  have ne41 : b6 ≠ b39 := own_lt_ne f35.lt g39
  have ne42 : b20 ≠ b39 := own_lt_ne f37.lt g39
  have G39 : n0 ≤ b39 := Nat.le_trans Z31 (Nat.le_of_eq g39.symm)
  have H39 : h0.size ≤ b39 := Nat.le_trans K31.1 (Nat.le_of_eq g39.symm)
  have f43 := f32.ext E39
  have f44 := f33.ext E39
  have f45 := f34.ext E39
  have f46 := f35.ext E39
  have f47 := f36.ext E39
  have f48 := f37.ext E39
  have f49 := f31_0.ext E39
  have K39 := K31.ext E39
  have Z39 := Nat.le_trans Z31 E39.1
  have f50 : Fld Z h39 b39 "com/example/fivestone/fivestone/engine/Lookahead$Result" "move" "Lcom/example/fivestone/fivestone/rules/Point;" .null := D39 (Or.inr (hw _ (List.mem_of_getElem? (i := 26) rfl))) (ty := (.object "com/example/fivestone/fivestone/rules/Point")) (by decide)
  have f51 : Fld Z h39 b39 "com/example/fivestone/fivestone/engine/Lookahead$Result" "score" "I" (.int (0 : Int32)) := D39 (Or.inr (hw _ (List.mem_of_getElem? (i := 28) rfl))) (ty := .int) (by decide)
  have f52 : Fld Z h39 b39 "com/example/fivestone/fivestone/engine/Lookahead$Result" "depth" "I" (.int (0 : Int32)) := D39 (Or.inr (hw _ (List.mem_of_getElem? (i := 30) rfl))) (ty := .int) (by decide)
  refine Goes.go st39 ?_
  show Goes p e below s _ _ _ T39 (mkF m 70 #[.val (.int x0), .val (.int x1), .val (.int x2), .val (.int x3), .val (.int x4), .val (.ref b1), .val (.int wr_19), .val (.int ed), .val (.int wr_38), .val (.int pl), .unset, .unset] [(.ref b39)])
  refine own_dup X39 hx 71 rfl (hb hby at_70) rfl ?_
  refine own_aload X39 hx 73 rfl (hb hby at_71) rfl rfl ?_
  refine Goes.go (X39.ldcInt hx hown (mvT hZ (hw _ (List.mem_of_getElem? (i := 38) rfl))) (g := (mkF m 73 #[.val (.int x0), .val (.int x1), .val (.int x2), .val (.int x3), .val (.int x4), .val (.ref b1), .val (.int wr_19), .val (.int ed), .val (.int wr_38), .val (.int pl), .unset, .unset] [(.ref b1), (.ref b39), (.ref b39)])) rfl (hb hby at_73)) ?_
  show Goes p e below s _ _ _ T39 (mkF m 75 #[.val (.int x0), .val (.int x1), .val (.int x2), .val (.int x3), .val (.int x4), .val (.ref b1), .val (.int wr_19), .val (.int ed), .val (.int wr_38), .val (.int pl), .unset, .unset] [(.int (1000000 : Int32)), (.ref b1), (.ref b39), (.ref b39)])
  refine own_iload X39 hx 77 rfl (hb hby at_75) rfl ?_
  obtain ⟨fo, h_fo⟩ : ∃ z, z = ((1000000 : Int32) - pl) := ⟨_, rfl⟩
  refine own_isub X39 hx 78 rfl (hb hby at_77) h_fo.symm ?_
  refine own_iloadN X39 hx 79 rfl (hb hby at_78) rfl ?_
  obtain ⟨_, _, ⟨T53, L53, k53, n53⟩, -, X53, ⟨Lc53, hQ53, l53, y53, z53⟩, st53⟩ := X39.specialBack hx (y := (⟨"com/example/fivestone/fivestone/engine/Lookahead$Result", "<init>", "(Lcom/example/fivestone/fivestone/rules/Point;II)V"⟩ : MethodName)) rfl hown (mvT hZ (hw _ (List.mem_of_getElem? (i := 21) rfl))) (mvT hZ (hw _ (List.mem_of_getElem? (i := 22) rfl))) (mvT hZ (hw _ (List.mem_of_getElem? (i := 23) rfl))) (by decide) (backOf (W := 1) (rm4 l Z a0 hw [] b39 b1 fo x1 h39 n0 Z39 A39 f50 f51 f52 G39) hZ (hw _ (List.mem_of_getElem? (i := 23) rfl)) (hw _ (List.mem_of_getElem? (i := 20) rfl)) (by decide) (by decide)) (g := (mkF m 79 #[.val (.int x0), .val (.int x1), .val (.int x2), .val (.int x3), .val (.int x4), .val (.ref b1), .val (.int wr_19), .val (.int ed), .val (.int wr_38), .val (.int pl), .unset, .unset] [(.int x1), (.int fo), (.ref b1), (.ref b39), (.ref b39)])) rfl (by rw [hml]; rfl) (Steps.refl _) (a := b39) (argsL := [(.ref b1), (.int fo), (.int x1)]) (rest := [(.ref b39)]) (lenOf own_pd2 rfl) rfl (by show 2 * 0 + _ ≤ _; exact Nat.le_of_eq rfl) (hb hby at_79) (fun _ _ => ⟨rfl, e39, (by decide : 4 + 0 ≤ _), (by decide : 11 + 0 ≤ _)⟩)
  dsimp only [Pt.U, Pt.locs, Pt.cells, Pt.slots] at X53 l53 y53 z53 st53 hQ53
  subst l53 y53 z53
  obtain ⟨rfl, N53q, K53q, f53_0⟩ := hQ53
  have N53 := Fr.app N38 N53q
  have f54 := f43.keep K53q
  have f55 := f44.keep K53q (ninS ne40 nin0)
  have f56 := f45.keep K53q (ninS ne40 nin0)
  have f57 := f46.keep K53q
  have f58 := f47.keep K53q (ninS ne41 nin0)
  have f59 := f48.keep K53q
  have f60 := f49.keep K53q (ninS ne42 nin0)
  have f61 := A39.keep K53q
  have K53 := K39.trans K53q (allS (Or.inr H39) all0)
  have Z53 := Nat.le_trans Z39 K53q.1
  refine Goes.tr st53 ?_
  show Goes p e below s _ _ _ T53 (mkF m 82 #[.val (.int x0), .val (.int x1), .val (.int x2), .val (.int x3), .val (.int x4), .val (.ref b1), .val (.int wr_19), .val (.int ed), .val (.int wr_38), .val (.int pl), .unset, .unset] [(.ref b39)])
  obtain ⟨cq62, kq62, q62a, q62b, q62c⟩ := isOf hZ rfl f61
  obtain ⟨_, _, ⟨T62, L62, k62, n62⟩, -, X62, ⟨Lc62, hQ62, l62, y62, z62⟩, st62⟩ := X53.virtualBack hx (y := (⟨"com/example/fivestone/fivestone/engine/Lookahead$Result", "isWin", "()Z"⟩ : MethodName)) (z := (⟨"com/example/fivestone/fivestone/engine/Lookahead$Result", "isWin", "()Z"⟩ : MethodName)) hown (mvT hZ (hw _ (List.mem_of_getElem? (i := 31) rfl))) (mvT hZ (hw _ (List.mem_of_getElem? (i := 32) rfl))) (notFace_of_selects (args := #[]) (mvT hZ (hw _ (List.mem_of_getElem? (i := 34) rfl)))) (mvT hZ (hw _ (List.mem_of_getElem? (i := 34) rfl))) (mvT hZ (hw _ (List.mem_of_getElem? (i := 33) rfl))) (by decide) (backOf (W := 0) (rm5 l Z a0 hw [] b39 fo T53.heap n0 Z53 f53_0) hZ (hw _ (List.mem_of_getElem? (i := 35) rfl)) (hw _ (List.mem_of_getElem? (i := 20) rfl)) (by decide) (by decide)) q62a q62c (g := (mkF m 82 #[.val (.int x0), .val (.int x1), .val (.int x2), .val (.int x3), .val (.int x4), .val (.ref b1), .val (.int wr_19), .val (.int ed), .val (.int wr_38), .val (.int pl), .unset, .unset] [(.ref b39)])) rfl (by rw [hml]; rfl) (Steps.refl _) (argsL := []) (rest := []) (lenOf own_pd3 rfl) rfl (by show 2 * 0 + _ ≤ _; exact Nat.le_of_eq rfl) (hb hby at_82) (fun _ _ => ⟨rfl, rfl, (by decide : 4 + 0 ≤ _), (by decide : 11 + 0 ≤ _)⟩)
  dsimp only [Pt.U, Pt.locs, Pt.cells, Pt.slots] at X62 l62 y62 z62 st62 hQ62
  subst l62 y62 z62
  obtain ⟨wr_62, rfl, N62q, eh62, pr62_0⟩ := hQ62
  have N62 := Fr.app N53 N62q
  refine Goes.tr st62 ?_
  show Goes p e below s _ _ _ T62 (mkF m 85 #[.val (.int x0), .val (.int x1), .val (.int x2), .val (.int x3), .val (.int x4), .val (.ref b1), .val (.int wr_19), .val (.int ed), .val (.int wr_38), .val (.int pl), .unset, .unset] [(.int wr_62)])
  refine own_istore X62 hx 87 rfl #[.val (.int x0), .val (.int x1), .val (.int x2), .val (.int x3), .val (.int x4), .val (.ref b1), .val (.int wr_19), .val (.int ed), .val (.int wr_38), .val (.int pl), .val (.int wr_62), .unset] (hb hby at_85) rfl ?_
  obtain ⟨T63, h63, X63, e63, E63, A63, D63, -, st63⟩ := newO X62 hx hZ hown (hw _ (List.mem_of_getElem? (i := 18) rfl)) (hw _ (List.mem_of_getElem? (i := 19) rfl)) (hw _ (List.mem_of_getElem? (i := 20) rfl)) eh62 (g := (mkF m 87 #[.val (.int x0), .val (.int x1), .val (.int x2), .val (.int x3), .val (.int x4), .val (.ref b1), .val (.int wr_19), .val (.int ed), .val (.int wr_38), .val (.int pl), .val (.int wr_62), .unset] [])) rfl (hb hby at_87) (by decide) (by decide)
  obtain ⟨b63, g63⟩ : ∃ z, z = T53.heap.size := ⟨_, rfl⟩
  rw [← g63] at A63 D63 st63
  have ne64 : b1 ≠ b63 := own_lt_ne f54.lt g63
  have ne65 : b6 ≠ b63 := own_lt_ne f57.lt g63
  have ne66 : b20 ≠ b63 := own_lt_ne f59.lt g63
  have ne67 : b39 ≠ b63 := own_lt_ne f61.lt g63
  have G63 : n0 ≤ b63 := Nat.le_trans Z53 (Nat.le_of_eq g63.symm)
  have H63 : h0.size ≤ b63 := Nat.le_trans K53.1 (Nat.le_of_eq g63.symm)
  have f68 := f54.ext E63
  have f69 := f55.ext E63
  have f70 := f56.ext E63
  have f71 := f57.ext E63
  have f72 := f58.ext E63
  have f73 := f59.ext E63
  have f74 := f60.ext E63
  have f75 := f61.ext E63
  have f76 := f53_0.ext E63
  have K63 := K53.ext E63
  have Z63 := Nat.le_trans Z53 E63.1
  have f77 : Fld Z h63 b63 "com/example/fivestone/fivestone/engine/Lookahead$Result" "move" "Lcom/example/fivestone/fivestone/rules/Point;" .null := D63 (Or.inr (hw _ (List.mem_of_getElem? (i := 26) rfl))) (ty := (.object "com/example/fivestone/fivestone/rules/Point")) (by decide)
  have f78 : Fld Z h63 b63 "com/example/fivestone/fivestone/engine/Lookahead$Result" "score" "I" (.int (0 : Int32)) := D63 (Or.inr (hw _ (List.mem_of_getElem? (i := 28) rfl))) (ty := .int) (by decide)
  have f79 : Fld Z h63 b63 "com/example/fivestone/fivestone/engine/Lookahead$Result" "depth" "I" (.int (0 : Int32)) := D63 (Or.inr (hw _ (List.mem_of_getElem? (i := 30) rfl))) (ty := .int) (by decide)
  refine Goes.go st63 ?_
  show Goes p e below s _ _ _ T63 (mkF m 90 #[.val (.int x0), .val (.int x1), .val (.int x2), .val (.int x3), .val (.int x4), .val (.ref b1), .val (.int wr_19), .val (.int ed), .val (.int wr_38), .val (.int pl), .val (.int wr_62), .unset] [(.ref b63)])
  refine own_dup X63 hx 91 rfl (hb hby at_90) rfl ?_
  refine own_aload X63 hx 93 rfl (hb hby at_91) rfl rfl ?_
  refine Goes.go (X63.ldcInt hx hown (mvT hZ (hw _ (List.mem_of_getElem? (i := 38) rfl))) (g := (mkF m 93 #[.val (.int x0), .val (.int x1), .val (.int x2), .val (.int x3), .val (.int x4), .val (.ref b1), .val (.int wr_19), .val (.int ed), .val (.int wr_38), .val (.int pl), .val (.int wr_62), .unset] [(.ref b1), (.ref b63), (.ref b63)])) rfl (hb hby at_93)) ?_
  show Goes p e below s _ _ _ T63 (mkF m 95 #[.val (.int x0), .val (.int x1), .val (.int x2), .val (.int x3), .val (.int x4), .val (.ref b1), .val (.int wr_19), .val (.int ed), .val (.int wr_38), .val (.int pl), .val (.int wr_62), .unset] [(.int (1000000 : Int32)), (.ref b1), (.ref b63), (.ref b63)])
  refine own_iload X63 hx 97 rfl (hb hby at_95) rfl ?_
  obtain ⟨fp, h_fp⟩ : ∃ z, z = ((1000000 : Int32) - pl) := ⟨_, rfl⟩
  refine own_isub X63 hx 98 rfl (hb hby at_97) h_fp.symm ?_
  obtain ⟨lo, h_lo⟩ : ∃ z, z = (-fp) := ⟨_, rfl⟩
  refine own_ineg X63 hx 99 rfl (hb hby at_98) h_lo.symm ?_
  refine own_iloadN X63 hx 100 rfl (hb hby at_99) rfl ?_
  obtain ⟨_, _, ⟨T80, L80, k80, n80⟩, -, X80, ⟨Lc80, hQ80, l80, y80, z80⟩, st80⟩ := X63.specialBack hx (y := (⟨"com/example/fivestone/fivestone/engine/Lookahead$Result", "<init>", "(Lcom/example/fivestone/fivestone/rules/Point;II)V"⟩ : MethodName)) rfl hown (mvT hZ (hw _ (List.mem_of_getElem? (i := 21) rfl))) (mvT hZ (hw _ (List.mem_of_getElem? (i := 22) rfl))) (mvT hZ (hw _ (List.mem_of_getElem? (i := 23) rfl))) (by decide) (backOf (W := 1) (rm4 l Z a0 hw [] b63 b1 lo x1 h63 n0 Z63 A63 f77 f78 f79 G63) hZ (hw _ (List.mem_of_getElem? (i := 23) rfl)) (hw _ (List.mem_of_getElem? (i := 20) rfl)) (by decide) (by decide)) (g := (mkF m 100 #[.val (.int x0), .val (.int x1), .val (.int x2), .val (.int x3), .val (.int x4), .val (.ref b1), .val (.int wr_19), .val (.int ed), .val (.int wr_38), .val (.int pl), .val (.int wr_62), .unset] [(.int x1), (.int lo), (.ref b1), (.ref b63), (.ref b63)])) rfl (by rw [hml]; rfl) (Steps.refl _) (a := b63) (argsL := [(.ref b1), (.int lo), (.int x1)]) (rest := [(.ref b63)]) (lenOf own_pd2 rfl) rfl (by show 2 * 0 + _ ≤ _; exact Nat.le_of_eq rfl) (hb hby at_100) (fun _ _ => ⟨rfl, e63, (by decide : 5 + 0 ≤ _), (by decide : 14 + 0 ≤ _)⟩)
  dsimp only [Pt.U, Pt.locs, Pt.cells, Pt.slots] at X80 l80 y80 z80 st80 hQ80
  subst l80 y80 z80
  obtain ⟨rfl, N80q, K80q, f80_0⟩ := hQ80
  have N80 := Fr.app N62 N80q
  have f81 := f68.keep K80q
  have f82 := f69.keep K80q (ninS ne64 nin0)
  have f83 := f70.keep K80q (ninS ne64 nin0)
  have f84 := f71.keep K80q
  have f85 := f72.keep K80q (ninS ne65 nin0)
  have f86 := f73.keep K80q
  have f87 := f74.keep K80q (ninS ne66 nin0)
  have f88 := f75.keep K80q
  have f89 := f76.keep K80q (ninS ne67 nin0)
  have f90 := A63.keep K80q
  have K80 := K63.trans K80q (allS (Or.inr H63) all0)
  have Z80 := Nat.le_trans Z63 K80q.1
  refine Goes.tr st80 ?_
  show Goes p e below s _ _ _ T80 (mkF m 103 #[.val (.int x0), .val (.int x1), .val (.int x2), .val (.int x3), .val (.int x4), .val (.ref b1), .val (.int wr_19), .val (.int ed), .val (.int wr_38), .val (.int pl), .val (.int wr_62), .unset] [(.ref b63)])
  obtain ⟨cq91, kq91, q91a, q91b, q91c⟩ := isOf hZ rfl f90
  obtain ⟨_, _, ⟨T91, L91, k91, n91⟩, -, X91, ⟨Lc91, hQ91, l91, y91, z91⟩, st91⟩ := X80.virtualBack hx (y := (⟨"com/example/fivestone/fivestone/engine/Lookahead$Result", "isWin", "()Z"⟩ : MethodName)) (z := (⟨"com/example/fivestone/fivestone/engine/Lookahead$Result", "isWin", "()Z"⟩ : MethodName)) hown (mvT hZ (hw _ (List.mem_of_getElem? (i := 31) rfl))) (mvT hZ (hw _ (List.mem_of_getElem? (i := 32) rfl))) (notFace_of_selects (args := #[]) (mvT hZ (hw _ (List.mem_of_getElem? (i := 34) rfl)))) (mvT hZ (hw _ (List.mem_of_getElem? (i := 34) rfl))) (mvT hZ (hw _ (List.mem_of_getElem? (i := 33) rfl))) (by decide) (backOf (W := 0) (rm5 l Z a0 hw [] b63 lo T80.heap n0 Z80 f80_0) hZ (hw _ (List.mem_of_getElem? (i := 35) rfl)) (hw _ (List.mem_of_getElem? (i := 20) rfl)) (by decide) (by decide)) q91a q91c (g := (mkF m 103 #[.val (.int x0), .val (.int x1), .val (.int x2), .val (.int x3), .val (.int x4), .val (.ref b1), .val (.int wr_19), .val (.int ed), .val (.int wr_38), .val (.int pl), .val (.int wr_62), .unset] [(.ref b63)])) rfl (by rw [hml]; rfl) (Steps.refl _) (argsL := []) (rest := []) (lenOf own_pd3 rfl) rfl (by show 2 * 0 + _ ≤ _; exact Nat.le_of_eq rfl) (hb hby at_103) (fun _ _ => ⟨rfl, rfl, (by decide : 5 + 0 ≤ _), (by decide : 14 + 0 ≤ _)⟩)
  dsimp only [Pt.U, Pt.locs, Pt.cells, Pt.slots] at X91 l91 y91 z91 st91 hQ91
  subst l91 y91 z91
  obtain ⟨wr_91, rfl, N91q, eh91, pr91_0⟩ := hQ91
  have N91 := Fr.app N80 N91q
  refine Goes.tr st91 ?_
  show Goes p e below s _ _ _ T91 (mkF m 106 #[.val (.int x0), .val (.int x1), .val (.int x2), .val (.int x3), .val (.int x4), .val (.ref b1), .val (.int wr_19), .val (.int ed), .val (.int wr_38), .val (.int pl), .val (.int wr_62), .unset] [(.int wr_91)])
  refine own_istore X91 hx 108 rfl #[.val (.int x0), .val (.int x1), .val (.int x2), .val (.int x3), .val (.int x4), .val (.ref b1), .val (.int wr_19), .val (.int ed), .val (.int wr_38), .val (.int pl), .val (.int wr_62), .val (.int wr_91)] (hb hby at_106) rfl ?_
  refine own_iload X91 hx 110 rfl (hb hby at_108) rfl ?_
  refine own_iloadN X91 hx 111 rfl (hb hby at_110) rfl ?_
  refine Goes.go (X91.ldcInt hx hown (mvT hZ (hw _ (List.mem_of_getElem? (i := 37) rfl))) (g := (mkF m 111 #[.val (.int x0), .val (.int x1), .val (.int x2), .val (.int x3), .val (.int x4), .val (.ref b1), .val (.int wr_19), .val (.int ed), .val (.int wr_38), .val (.int pl), .val (.int wr_62), .val (.int wr_91)] [(.int x0), (.int wr_19)])) rfl (hb hby at_111)) ?_
  show Goes p e below s _ _ _ T91 (mkF m 113 #[.val (.int x0), .val (.int x1), .val (.int x2), .val (.int x3), .val (.int x4), .val (.ref b1), .val (.int wr_19), .val (.int ed), .val (.int wr_38), .val (.int pl), .val (.int wr_62), .val (.int wr_91)] [(.int (999000 : Int32)), (.int x0), (.int wr_19)])
  by_cases hc113_92 : (999000 : Int32) < x0
  · refine own_icmpN X91 hx 116 (hb hby at_113) (tlt hc113_92).2.2.2 rfl ?_
    refine own_iconst X91 hx 117 rfl (1 : Int32) (hb hby at_116) (by decide) ?_
    refine own_goto X91 hx 121 (hb hby at_117) (by decide) (by decide) ?_
    refine own_icmpN X91 hx 124 (hb hby at_121) (teq (own_bt pr19_0 hc113_92 : wr_19 = (1 : Int32))).2 rfl ?_
    refine own_iload X91 hx 126 rfl (hb hby at_124) rfl ?_
    refine own_iload X91 hx 128 rfl (hb hby at_126) rfl ?_
    refine Goes.go (X91.ldcInt hx hown (mvT hZ (hw _ (List.mem_of_getElem? (i := 39) rfl))) (g := (mkF m 128 #[.val (.int x0), .val (.int x1), .val (.int x2), .val (.int x3), .val (.int x4), .val (.ref b1), .val (.int wr_19), .val (.int ed), .val (.int wr_38), .val (.int pl), .val (.int wr_62), .val (.int wr_91)] [(.int ed), (.int wr_38)])) rfl (hb hby at_128)) ?_
    show Goes p e below s _ _ _ T91 (mkF m 130 #[.val (.int x0), .val (.int x1), .val (.int x2), .val (.int x3), .val (.int x4), .val (.ref b1), .val (.int wr_19), .val (.int ed), .val (.int wr_38), .val (.int pl), .val (.int wr_62), .val (.int wr_91)] [(.int (999001 : Int32)), (.int ed), (.int wr_38)])
    by_cases hc130_93 : ed < (999001 : Int32)
    · refine own_icmpY X91 hx 137 (hb hby at_130) (tlt hc130_93).1 (by decide) (by decide) ?_
      refine own_iconst X91 hx 138 rfl (0 : Int32) (hb hby at_137) (by decide) ?_
      refine own_icmpN X91 hx 141 (hb hby at_138) (teq (own_bf pr38_0 (fun q => (own_edge _).mpr q hc130_93) : wr_38 = (0 : Int32))).2 rfl ?_
      have hfo : wr_62 = (1 : Int32) := own_bt pr62_0 (own_found _ _ hpl h_fo)
      have hlo : wr_91 = (0 : Int32) := own_bf pr91_0 (own_lost _ _ _ hpl h_fp h_lo)
      refine own_iload X91 hx 143 rfl (hb hby at_141) rfl ?_
      refine own_ifN X91 hx 146 (hb hby at_143) ((if0 _ _).trans (feq (by rw [hfo]; decide : ¬ (wr_62 = (0 : Int32)))).1) rfl ?_
      refine own_iload X91 hx 148 rfl (hb hby at_146) rfl ?_
      refine own_ifN X91 hx 151 (hb hby at_148) ((if0 _ _).trans (teq (hlo : wr_91 = (0 : Int32))).2) rfl ?_
      refine own_iconst X91 hx 152 rfl (1 : Int32) (hb hby at_151) (by decide) ?_
      refine own_goto X91 hx 156 (hb hby at_152) (by decide) (by decide) ?_
      refine own_retZ X91 hx hlk Bd.returns (by decide) (hb hby at_156) (by decide) (by decide) eh91 ?_
      exact ⟨rfl, N91⟩
    · refine own_icmpN X91 hx 133 (hb hby at_130) (flt hc130_93).1 rfl ?_
      refine own_iconst X91 hx 134 rfl (1 : Int32) (hb hby at_133) (by decide) ?_
      refine own_goto X91 hx 138 (hb hby at_134) (by decide) (by decide) ?_
      refine own_icmpN X91 hx 141 (hb hby at_138) (teq (own_bt pr38_0 ((own_edge _).mp hc130_93) : wr_38 = (1 : Int32))).2 rfl ?_
      have hfo : wr_62 = (1 : Int32) := own_bt pr62_0 (own_found _ _ hpl h_fo)
      have hlo : wr_91 = (0 : Int32) := own_bf pr91_0 (own_lost _ _ _ hpl h_fp h_lo)
      refine own_iload X91 hx 143 rfl (hb hby at_141) rfl ?_
      refine own_ifN X91 hx 146 (hb hby at_143) ((if0 _ _).trans (feq (by rw [hfo]; decide : ¬ (wr_62 = (0 : Int32)))).1) rfl ?_
      refine own_iload X91 hx 148 rfl (hb hby at_146) rfl ?_
      refine own_ifN X91 hx 151 (hb hby at_148) ((if0 _ _).trans (teq (hlo : wr_91 = (0 : Int32))).2) rfl ?_
      refine own_iconst X91 hx 152 rfl (1 : Int32) (hb hby at_151) (by decide) ?_
      refine own_goto X91 hx 156 (hb hby at_152) (by decide) (by decide) ?_
      refine own_retZ X91 hx hlk Bd.returns (by decide) (hb hby at_156) (by decide) (by decide) eh91 ?_
      exact ⟨rfl, N91⟩
  · refine own_icmpY X91 hx 120 (hb hby at_113) (flt hc113_92).2.2.2 (by decide) (by decide) ?_
    refine own_iconst X91 hx 121 rfl (0 : Int32) (hb hby at_120) (by decide) ?_
    refine own_icmpN X91 hx 124 (hb hby at_121) (teq (own_bf pr19_0 hc113_92 : wr_19 = (0 : Int32))).2 rfl ?_
    refine own_iload X91 hx 126 rfl (hb hby at_124) rfl ?_
    refine own_iload X91 hx 128 rfl (hb hby at_126) rfl ?_
    refine Goes.go (X91.ldcInt hx hown (mvT hZ (hw _ (List.mem_of_getElem? (i := 39) rfl))) (g := (mkF m 128 #[.val (.int x0), .val (.int x1), .val (.int x2), .val (.int x3), .val (.int x4), .val (.ref b1), .val (.int wr_19), .val (.int ed), .val (.int wr_38), .val (.int pl), .val (.int wr_62), .val (.int wr_91)] [(.int ed), (.int wr_38)])) rfl (hb hby at_128)) ?_
    show Goes p e below s _ _ _ T91 (mkF m 130 #[.val (.int x0), .val (.int x1), .val (.int x2), .val (.int x3), .val (.int x4), .val (.ref b1), .val (.int wr_19), .val (.int ed), .val (.int wr_38), .val (.int pl), .val (.int wr_62), .val (.int wr_91)] [(.int (999001 : Int32)), (.int ed), (.int wr_38)])
    by_cases hc130_94 : ed < (999001 : Int32)
    · refine own_icmpY X91 hx 137 (hb hby at_130) (tlt hc130_94).1 (by decide) (by decide) ?_
      refine own_iconst X91 hx 138 rfl (0 : Int32) (hb hby at_137) (by decide) ?_
      refine own_icmpN X91 hx 141 (hb hby at_138) (teq (own_bf pr38_0 (fun q => (own_edge _).mpr q hc130_94) : wr_38 = (0 : Int32))).2 rfl ?_
      have hfo : wr_62 = (1 : Int32) := own_bt pr62_0 (own_found _ _ hpl h_fo)
      have hlo : wr_91 = (0 : Int32) := own_bf pr91_0 (own_lost _ _ _ hpl h_fp h_lo)
      refine own_iload X91 hx 143 rfl (hb hby at_141) rfl ?_
      refine own_ifN X91 hx 146 (hb hby at_143) ((if0 _ _).trans (feq (by rw [hfo]; decide : ¬ (wr_62 = (0 : Int32)))).1) rfl ?_
      refine own_iload X91 hx 148 rfl (hb hby at_146) rfl ?_
      refine own_ifN X91 hx 151 (hb hby at_148) ((if0 _ _).trans (teq (hlo : wr_91 = (0 : Int32))).2) rfl ?_
      refine own_iconst X91 hx 152 rfl (1 : Int32) (hb hby at_151) (by decide) ?_
      refine own_goto X91 hx 156 (hb hby at_152) (by decide) (by decide) ?_
      refine own_retZ X91 hx hlk Bd.returns (by decide) (hb hby at_156) (by decide) (by decide) eh91 ?_
      exact ⟨rfl, N91⟩
    · refine own_icmpN X91 hx 133 (hb hby at_130) (flt hc130_94).1 rfl ?_
      refine own_iconst X91 hx 134 rfl (1 : Int32) (hb hby at_133) (by decide) ?_
      refine own_goto X91 hx 138 (hb hby at_134) (by decide) (by decide) ?_
      refine own_icmpN X91 hx 141 (hb hby at_138) (teq (own_bt pr38_0 ((own_edge _).mp hc130_94) : wr_38 = (1 : Int32))).2 rfl ?_
      have hfo : wr_62 = (1 : Int32) := own_bt pr62_0 (own_found _ _ hpl h_fo)
      have hlo : wr_91 = (0 : Int32) := own_bf pr91_0 (own_lost _ _ _ hpl h_fp h_lo)
      refine own_iload X91 hx 143 rfl (hb hby at_141) rfl ?_
      refine own_ifN X91 hx 146 (hb hby at_143) ((if0 _ _).trans (feq (by rw [hfo]; decide : ¬ (wr_62 = (0 : Int32)))).1) rfl ?_
      refine own_iload X91 hx 148 rfl (hb hby at_146) rfl ?_
      refine own_ifN X91 hx 151 (hb hby at_148) ((if0 _ _).trans (teq (hlo : wr_91 = (0 : Int32))).2) rfl ?_
      refine own_iconst X91 hx 152 rfl (1 : Int32) (hb hby at_151) (by decide) ?_
      refine own_goto X91 hx 156 (hb hby at_152) (by decide) (by decide) ?_
      refine own_retZ X91 hx hlk Bd.returns (by decide) (hb hby at_156) (by decide) (by decide) eh91 ?_
      exact ⟨rfl, N91⟩
set_option maxRecDepth 65536 in
set_option maxHeartbeats 40000000 in
theorem comes_1 {Post : Tables → Env → Array Value → State → Outcome → State → Prop} (hpost : ∀ tb e args s v u, (limb_1_1.after args s (.returned v) u = true ∧ limb_1_2.after args s (.returned v) u = true ∧ True) → FrameEnd s (.returned v) u (Jvm.fieldLocs frame_1_writes args s ++ Jvm.arrayLocs frame_1_arrays args s ++ Jvm.staticLocs frame_1_statics s) 24 128 → Post tb e args s (.returned v) u) :
    ArmFor flags0 classFile x code maxLocals ret World_1 tables_1 room_1 Calls_1 rest_1 Pre_1 Post := by
  intro l hfl _ _ p e ha hc hk s m args below hf hA hF happ hP
  obtain ⟨hcalls, hrest, hpre⟩ := hP
  obtain ⟨-, -, -, hnamed, -, -, -, hat⟩ := (Spec.applies_iff hf).mp happ
  obtain ⟨hg, hn⟩ := and_e (Cond.before_iff.mp (show (Jvm.Cond.and given_1 narrow_1).before args s = true from hpre))
  obtain ⟨gg1, gg2⟩ := and_e hg
  obtain ⟨gg3, gg4⟩ := and_e gg2
  obtain ⟨gg5, gg6⟩ := and_e gg4
  obtain ⟨gg7, gg8⟩ := and_e gg6
  obtain ⟨gg9, gg10⟩ := and_e gg8
  obtain ⟨w0, w1, w2, w3, w4, rfl⟩ : ∃ w0 w1 w2 w3 w4 : Value, args = #[w0, w1, w2, w3, w4] := by
    have hs : args.size = 5 := by simpa [Cond.value, given_1] using gg1
    obtain ⟨L⟩ := args
    match L, hs with
    | [w0, w1, w2, w3, w4], _ => exact ⟨w0, w1, w2, w3, w4, rfl⟩
  have hw := fun d (hd : d ∈ tables_1) => atoms_spec (ws := Jvm.Cond.code x code maxLocals ret :: tables_1) hat d (List.mem_cons_of_mem _ hd)
  have hfit : Fit s := fun {y c} hc i hi => by
    obtain ⟨ha, rfl⟩ := Array.getElem?_eq_some_iff.mp hc
    have q := List.all_eq_true.mp ((Array.all_eq_true_iff_forall_mem.mp hF) _ (Array.getElem_mem ha)) i (List.mem_range.mpr hi)
    simpa [Array.getElem?_eq_getElem hi] using q
  obtain ⟨i0, ei0⟩ := is_v gg3
  obtain rfl : w0 = (.int i0) := Option.some.inj ei0
  obtain ⟨i1, ei1⟩ := is_v gg5
  obtain rfl : w1 = (.int i1) := Option.some.inj ei1
  obtain ⟨i2, ei2⟩ := is_v gg7
  obtain rfl : w2 = (.int i2) := Option.some.inj ei2
  obtain ⟨i3, ei3⟩ := is_v gg9
  obtain rfl : w3 = (.int i3) := Option.some.inj ei3
  obtain ⟨i4, ei4⟩ := is_v gg10
  obtain rfl : w4 = (.int i4) := Option.some.inj ei4
  obtain ⟨n, o, h1, h2, h3, _, L, rfl, ⟨rfl, N⟩, hq⟩ := rm0 l s _ hw tables_1 i0 i1 i2 i3 i4  s.heap s.heap.size (Nat.le_refl _)  p e ha hc hk s m _ below hf ((Spec.applies_iff_loose hf).mp happ).1 ⟨rfl, State.Warmed39.refl s, rfl⟩ trivial
  refine ⟨n, _, h1, h2, h3, hpost _ _ _ _ _ _ ⟨Cond.after_iff.mpr rfl, Cond.after_iff.mpr (eq_i res_at (Term.int_eval (1)) rfl), trivial⟩ ⟨hq.1, hq.2.1, (hq.2.2.sift fun y hy => Or.inr (N y hy)).mono (by decide) (by decide)⟩⟩
theorem main_1_1 : Claimed_1_1 := comes_1 fun _ _ _ _ _ _ h hF => ⟨h.1, hF⟩
theorem main_1_2 : Claimed_1_2 := comes_1 fun _ _ _ _ _ _ h hF => ⟨h.2.1, hF⟩
end Jvm.Pilot.@@N@@
namespace Jvm.Pilot.@@N@@
open Jvm Jvm.ClassFile Sem Op Lib Jvm.Free Jvm.Stand Jvm.Pilot.@@N@@.Jvm.D
/-! MADE BY PROGRAM (witnessworld.py) out of the Statement's table words and the real class files: 11 classes; the members and pool entries that the words name. The judged class is class 1, her method 1. -/
namespace start1
open Jvm.ClassFile
def u (s : String) : CpInfo := .utf8 (stringToUtf16 s)
/-- a pool by its gaps: so many unusable entries, then the entry; so many at the end -/
def gap : Nat → List CpInfo → List CpInfo
  | 0, r => r
  | n + 1, r => .unusable :: gap n r
def poolList (es : List (Nat × CpInfo)) (last : Nat) : List CpInfo := es.foldr (fun e r => gap e.1 (e.2 :: r)) (gap last [])
def pool (es : List (Nat × CpInfo)) (last : Nat) : Array CpInfo := ⟨poolList es last⟩
def fileOf (pool : Array CpInfo) (this : Nat) (attrs : Array Attribute := #[]) (ms : Array MethodInfo := #[]) (fl : Nat := 33) (sup : Nat := 0) (ifs : Array Nat := #[]) (fds : Array FieldInfo := #[]) : ClassFile where
  minorVersion := 0
  majorVersion := 65
  constantPool := pool
  accessFlags := fl
  thisClass := this
  superClass := sup
  interfaces := ifs
  fields := fds
  methods := ms
  attributes := attrs
def plain (name : String) (sup : Option ClassId) : Class where
  name := name
  kind := .ordinary
  loader := none
  accessFlags := 33
  super := sup
  interfaces := #[]
  cf := none
  fields := #[]
  methods := #[]
  instanceTypes := #[]
  staticTypes := #[]
  resolved := #[]
  callSites := []
  init := .initialized
  statics := none
  mirror := none

def pool0 : Array CpInfo := pool [(5, u "<init>"), (0, u "()V"), (1, .class_ 10), (1, u "java/lang/Object")] 113

def k0c0 : Code := { maxStack := 0, maxLocals := 1, code := object_method_1_code, exceptionTable := #[], attributes := #[] }
def k0m0 : Method := { name := "<init>", desc := "()V", sig := { parameters := [], returnType := none }, accessFlags := 1, code := some k0c0 }
/-- java/lang/Object -/
def k0 : Class := { plain "java/lang/Object" none with
  accessFlags := 33
  interfaces := #[]
  cf := some (fileOf pool0 8 #[] #[{ accessFlags := 1, nameIndex := 5, descriptorIndex := 6, attributes := #[] }] 33 0 #[] #[])
  fields := #[]
  methods := #[k0m0]
  instanceTypes := #[]
  staticTypes := #[]
  resolved := Array.replicate 124 none
  statics := none }

def pool1 : Array CpInfo := pool [(2, .class_ 4), (1, u "java/lang/Object"), (0, u "<init>"), (0, u "()V"), (0, .class_ 8), (0, u "com/example/fivestone/fivestone/rules/Point"), (0, .methodref 7 10), (0, .nameAndType 5 11), (0, u "(II)V"), (0, .class_ 13), (0, u "com/example/fivestone/fivestone/engine/Lookahead$Result"), (0, .methodref 12 15), (0, .nameAndType 5 16), (0, u "(Lcom/example/fivestone/fivestone/rules/Point;II)V"), (0, .methodref 12 18), (0, .nameAndType 19 20), (0, u "isWin"), (0, u "()Z"), (0, .integer 999000), (0, .integer 1000000), (0, .integer 999001), (0, .class_ 25), (0, u "com/example/fivestone/fivestone/engine/ResultIsWinPinLaw"), (2, u "law"), (0, u "(IIIII)Z")] 7

def k1m0 : Method := { name := "<init>", desc := "()V", sig := { parameters := [], returnType := none }, accessFlags := 1, code := none }
def k1c1 : Code := { maxStack := 5, maxLocals := 12, code := code, exceptionTable := #[], attributes := #[] }
def k1m1 : Method := { name := "law", desc := "(IIIII)Z", sig := { parameters := [.int, .int, .int, .int, .int], returnType := some .boolean }, accessFlags := 9, code := some k1c1 }
/-- com/example/fivestone/fivestone/engine/ResultIsWinPinLaw -/
def k1 : Class := { plain "com/example/fivestone/fivestone/engine/ResultIsWinPinLaw" (some 0) with
  accessFlags := 49
  interfaces := #[]
  cf := some (fileOf pool1 24 #[] #[{ accessFlags := 1, nameIndex := 5, descriptorIndex := 6, attributes := #[] }, { accessFlags := 9, nameIndex := 28, descriptorIndex := 29, attributes := #[] }] 49 2 #[] #[])
  fields := #[]
  methods := #[k1m0, k1m1]
  instanceTypes := #[]
  staticTypes := #[]
  resolved := Array.replicate 37 none
  statics := none }

def pool2 : Array CpInfo := pool [(1, .methodref 2 3), (0, .class_ 4), (0, .nameAndType 5 6), (0, u "java/lang/Object"), (0, u "<init>"), (0, u "()V"), (0, .class_ 8), (0, u "java/lang/Record")] 13

def k2c0 : Code := { maxStack := 1, maxLocals := 1, code := jdk_30_method_1_code, exceptionTable := #[], attributes := #[] }
def k2m0 : Method := { name := "<init>", desc := "()V", sig := { parameters := [], returnType := none }, accessFlags := 4, code := some k2c0 }
/-- java/lang/Record -/
def k2 : Class := { plain "java/lang/Record" (some 0) with
  accessFlags := 1057
  interfaces := #[]
  cf := some (fileOf pool2 7 #[] #[{ accessFlags := 4, nameIndex := 5, descriptorIndex := 6, attributes := #[] }] 1057 2 #[] #[])
  fields := #[]
  methods := #[k2m0]
  instanceTypes := #[]
  staticTypes := #[]
  resolved := Array.replicate 22 none
  statics := none }

def pool3 : Array CpInfo := pool [(1, .methodref 2 3), (0, .class_ 4), (0, .nameAndType 5 6), (0, u "java/lang/Record"), (0, u "<init>"), (0, u "()V"), (0, .fieldref 8 9), (0, .class_ 10), (0, .nameAndType 11 12), (0, u "com/example/fivestone/fivestone/rules/Point"), (0, u "column"), (0, u "I"), (0, .fieldref 8 14), (0, .nameAndType 15 12), (0, u "row"), (33, u "(II)V")] 72

def k3c0 : Code := { maxStack := 2, maxLocals := 3, code := prog_28_method_1_code, exceptionTable := #[], attributes := #[] }
def k3m0 : Method := { name := "<init>", desc := "(II)V", sig := { parameters := [.int, .int], returnType := none }, accessFlags := 1, code := some k3c0 }
/-- com/example/fivestone/fivestone/rules/Point -/
def k3 : Class := { plain "com/example/fivestone/fivestone/rules/Point" (some 2) with
  accessFlags := 49
  interfaces := #[]
  cf := some (fileOf pool3 8 #[] #[{ accessFlags := 1, nameIndex := 5, descriptorIndex := 49, attributes := #[] }] 49 2 #[] #[{ accessFlags := 18, nameIndex := 11, descriptorIndex := 12, attributes := #[] }, { accessFlags := 18, nameIndex := 15, descriptorIndex := 12, attributes := #[] }])
  fields := #[{ name := "column", type := .int, accessFlags := 18, slot := 0, constantValue := 0 }, { name := "row", type := .int, accessFlags := 18, slot := 1, constantValue := 0 }]
  methods := #[k3m0]
  instanceTypes := #[.int, .int]
  staticTypes := #[]
  resolved := Array.replicate 122 none
  statics := none }

def pool4 : Array CpInfo := pool [(1, .class_ 2), (0, u "com/example/fivestone/fivestone/engine/Lookahead"), (0, .methodref 4 5), (0, .class_ 6), (0, .nameAndType 7 8), (0, u "java/lang/Record"), (0, u "<init>"), (0, u "()V"), (0, .fieldref 10 11), (0, .class_ 12), (0, .nameAndType 13 14), (0, u "com/example/fivestone/fivestone/engine/Lookahead$Result"), (0, u "move"), (0, u "Lcom/example/fivestone/fivestone/rules/Point;"), (0, .fieldref 10 16), (0, .nameAndType 17 18), (0, u "score"), (0, u "I"), (0, .fieldref 10 20), (0, .nameAndType 21 18), (0, u "depth"), (0, .integer 999000), (12, u "(Lcom/example/fivestone/fivestone/rules/Point;II)V"), (3, u "isWin"), (0, u "()Z")] 29

def k4c0 : Code := { maxStack := 2, maxLocals := 4, code := prog_11_method_1_code, exceptionTable := #[], attributes := #[] }
def k4m0 : Method := { name := "<init>", desc := "(Lcom/example/fivestone/fivestone/rules/Point;II)V", sig := { parameters := [(.object "com/example/fivestone/fivestone/rules/Point"), .int, .int], returnType := none }, accessFlags := 0, code := some k4c0 }
def k4c1 : Code := { maxStack := 2, maxLocals := 1, code := prog_11_method_2_code, exceptionTable := #[], attributes := #[] }
def k4m1 : Method := { name := "isWin", desc := "()Z", sig := { parameters := [], returnType := some .boolean }, accessFlags := 0, code := some k4c1 }
/-- com/example/fivestone/fivestone/engine/Lookahead$Result -/
def k4 : Class := { plain "com/example/fivestone/fivestone/engine/Lookahead$Result" (some 2) with
  accessFlags := 48
  interfaces := #[]
  cf := some (fileOf pool4 10 #[.nestHost 1] #[{ accessFlags := 0, nameIndex := 7, descriptorIndex := 35, attributes := #[] }, { accessFlags := 0, nameIndex := 39, descriptorIndex := 40, attributes := #[] }] 48 4 #[] #[{ accessFlags := 18, nameIndex := 13, descriptorIndex := 14, attributes := #[] }, { accessFlags := 18, nameIndex := 17, descriptorIndex := 18, attributes := #[] }, { accessFlags := 18, nameIndex := 21, descriptorIndex := 18, attributes := #[] }])
  fields := #[{ name := "move", type := (.object "com/example/fivestone/fivestone/rules/Point"), accessFlags := 18, slot := 0, constantValue := 0 }, { name := "score", type := .int, accessFlags := 18, slot := 1, constantValue := 0 }, { name := "depth", type := .int, accessFlags := 18, slot := 2, constantValue := 0 }]
  methods := #[k4m0, k4m1]
  instanceTypes := #[(.object "com/example/fivestone/fivestone/rules/Point"), .int, .int]
  staticTypes := #[]
  resolved := Array.replicate 70 none
  statics := none }

def pool5 : Array CpInfo := pool [(1, u "java/lang/Cloneable"), (0, .class_ 1), (0, u "java/lang/Object"), (0, .class_ 3)] 3

/-- java/lang/Cloneable -/
def k5 : Class := { plain "java/lang/Cloneable" (some 0) with
  accessFlags := 1537
  interfaces := #[]
  cf := some (fileOf pool5 2 #[] #[] 1537 4 #[] #[])
  fields := #[]
  methods := #[]
  instanceTypes := #[]
  staticTypes := #[]
  resolved := Array.replicate 8 none
  statics := none }

def pool6 : Array CpInfo := pool [(1, u "java/io/Serializable"), (0, .class_ 1), (0, u "java/lang/Object"), (0, .class_ 3)] 3

/-- java/io/Serializable -/
def k6 : Class := { plain "java/io/Serializable" (some 0) with
  accessFlags := 1537
  interfaces := #[]
  cf := some (fileOf pool6 2 #[] #[] 1537 4 #[] #[])
  fields := #[]
  methods := #[]
  instanceTypes := #[]
  staticTypes := #[]
  resolved := Array.replicate 8 none
  statics := none }

/-- the primitive byte -/
def k7 : Class := { plain "byte" none with kind := .primitive 'B', accessFlags := 0x411 }
/-- [B -/
def k8 : Class := { plain "[B" (some 0) with kind := .array 7 .byte, interfaces := #[5, 6], accessFlags := 1041 }

/-- the primitive int -/
def k9 : Class := { plain "int" none with kind := .primitive 'I', accessFlags := 0x411 }
/-- [I -/
def k10 : Class := { plain "[I" (some 0) with kind := .array 9 .int, interfaces := #[5, 6], accessFlags := 1041 }

def heap : Heap := #[]
def classes : Array Class := #[k0, k1, k2, k3, k4, k5, k6, k7, k8, k9, k10]
def interned : List (Array UInt16 × Addr) := []
def slotsUsed : Nat := 0
def theMethod : MethodId := ⟨1, 1⟩
def args0 : Array Value := #[.int 5, .int 3, .int 2, .int 1, .int 7]
def aboutOver (below : List Frame) : State where
  vm := { classes := classes, interned := interned.toArray }
  heap := heap
  slotsUsed := slotsUsed
  threads := #[{ frames := .invoking theMethod args0 :: below }]
def below0 : List Frame := [.native { method := ⟨0, 0⟩, args := #[] }]
def about1 : State := aboutOver below0
def p0 : Program := .bare "" "" ""
def e0 : Env := launch0.env 0 0 0
theorem w_frames : about1.frames = Frame.invoking theMethod args0 :: below0 := rfl
set_option maxRecDepth 65536 in
theorem w_args : argsFit about1.vm theMethod args0 = true := by decide +kernel
set_option maxRecDepth 65536 in
theorem w_heap : heapFits about1 = true := by decide +kernel
set_option maxRecDepth 65536 in
theorem w_runnable : about1.curStatus? = some .runnable := by decide +kernel
set_option maxRecDepth 65536 in
theorem w_alone : about1.alone = true := by decide +kernel
set_option maxRecDepth 65536 in
theorem w_named : about1.methodNamed? x = some theMethod := by decide +kernel
set_option maxRecDepth 65536 in
theorem w_hears : about1.hears theMethod below0 = true := by decide +kernel
set_option maxRecDepth 65536 in
theorem w_ripe : about1.ripe theMethod args0 below0 = true := by decide +kernel
theorem w_running : about1.status = .running := rfl
set_option maxRecDepth 65536 in
theorem w_room : about1.hasRoom e0.platform room_1 = true :=
  launch0.hasRoom_least _ room_1 (by decide +kernel) (by decide +kernel) (by decide +kernel) (by decide +kernel) (by decide +kernel) (by decide +kernel)
theorem allAtoms_all (ts : List Jvm.Cond) (a : Array Jvm.Value) (st : Jvm.State) : (allAtoms ts).before a st = ts.all (fun c => c.before a st) := by
  induction ts with
  | nil => rfl
  | cons c t ih =>
    show (Jvm.Cond.and c (allAtoms t)).before a st = _
    rw [Jvm.Cond.before_and, ih, List.all_cons]
def words1 : List Jvm.Cond := Jvm.Cond.code x code maxLocals ret :: tables_1
/-- a 'code' word, met by the world's own term for the bytes: nothing is compared byte by byte -/
theorem code_word {y : MethodName} {bytes : ByteArray} {mx : Nat} {rt : Option FieldType} {a : Array Value} {s : State} {m : MethodId} {meth : Method} {c : Code} (h1 : s.methodNamed? y = some m) (h2 : s.vm.method? m = some meth) (h3 : meth.code = some c) (h4 : c.code = bytes)
    (h5 : (c.maxLocals == mx && c.exceptionTable.isEmpty && decide (c.maxStack ≤ mostOperands) && decide (meth.sig.returnType = rt) && !meth.locks && decide (parseMethodDescriptor y.desc = some meth.sig)) = true) : (Jvm.Cond.code y bytes mx rt).before a s = true := by
  simp only [Bool.and_eq_true, beq_iff_eq, Bool.not_eq_true', decide_eq_true_eq] at h5
  obtain ⟨⟨⟨⟨⟨g1, g2⟩, g3⟩, g4⟩, g5⟩, g6⟩ := h5
  simp [Cond.before, Cond.holds, Cond.value, h1, h2, h3, h4, g1, g2, g3, g4, g5, g6]
def isCode : Jvm.Cond → Bool
  | .code _ _ _ _ => true
  | _ => false
theorem all_split {L : List Jvm.Cond} {P : Jvm.Cond → Bool} (h1 : L.all (fun c => isCode c || P c) = true) (h2 : ∀ c ∈ L.filter isCode, P c = true) : L.all P = true := by
  refine List.all_eq_true.mpr fun c hc => ?_
  have h := List.all_eq_true.mp h1 c hc
  rcases Bool.eq_false_or_eq_true (isCode c) with hi | hi
  · exact h2 c (List.mem_filter.mpr ⟨hc, hi⟩)
  · simpa [hi] using h
set_option maxRecDepth 65536 in
theorem w_c0 : (Jvm.Cond.code x code maxLocals ret).before args0 about1 = true := code_word (m := ⟨1, 1⟩) (meth := k1m1) (c := k1c1) (by decide +kernel) rfl rfl rfl (by decide +kernel)
set_option maxRecDepth 65536 in
theorem w_c1 : (Jvm.Cond.code ({ cls := "com/example/fivestone/fivestone/rules/Point", name := "<init>", desc := "(II)V" } : Jvm.MethodName) prog_28_method_1_code (3 : Nat) (Option.none : Option Jvm.ClassFile.FieldType)).before args0 about1 = true := code_word (m := ⟨3, 0⟩) (meth := k3m0) (c := k3c0) (by decide +kernel) rfl rfl rfl (by decide +kernel)
set_option maxRecDepth 65536 in
theorem w_c2 : (Jvm.Cond.code ({ cls := "java/lang/Record", name := "<init>", desc := "()V" } : Jvm.MethodName) jdk_30_method_1_code (1 : Nat) (Option.none : Option Jvm.ClassFile.FieldType)).before args0 about1 = true := code_word (m := ⟨2, 0⟩) (meth := k2m0) (c := k2c0) (by decide +kernel) rfl rfl rfl (by decide +kernel)
set_option maxRecDepth 65536 in
theorem w_c3 : (Jvm.Cond.code ({ cls := "java/lang/Object", name := "<init>", desc := "()V" } : Jvm.MethodName) object_method_1_code (1 : Nat) (Option.none : Option Jvm.ClassFile.FieldType)).before args0 about1 = true := code_word (m := ⟨0, 0⟩) (meth := k0m0) (c := k0c0) (by decide +kernel) rfl rfl rfl (by decide +kernel)
set_option maxRecDepth 65536 in
theorem w_c4 : (Jvm.Cond.code ({ cls := "com/example/fivestone/fivestone/engine/Lookahead$Result", name := "<init>", desc := "(Lcom/example/fivestone/fivestone/rules/Point;II)V" } : Jvm.MethodName) prog_11_method_1_code (4 : Nat) (Option.none : Option Jvm.ClassFile.FieldType)).before args0 about1 = true := code_word (m := ⟨4, 0⟩) (meth := k4m0) (c := k4c0) (by decide +kernel) rfl rfl rfl (by decide +kernel)
set_option maxRecDepth 65536 in
theorem w_c5 : (Jvm.Cond.code ({ cls := "com/example/fivestone/fivestone/engine/Lookahead$Result", name := "isWin", desc := "()Z" } : Jvm.MethodName) prog_11_method_2_code (1 : Nat) (Option.some Jvm.ClassFile.FieldType.boolean)).before args0 about1 = true := code_word (m := ⟨4, 1⟩) (meth := k4m1) (c := k4c1) (by decide +kernel) rfl rfl rfl (by decide +kernel)
def codes1 : List Jvm.Cond := [Jvm.Cond.code x code maxLocals ret, Jvm.Cond.code ({ cls := "com/example/fivestone/fivestone/rules/Point", name := "<init>", desc := "(II)V" } : Jvm.MethodName) prog_28_method_1_code (3 : Nat) (Option.none : Option Jvm.ClassFile.FieldType), Jvm.Cond.code ({ cls := "java/lang/Record", name := "<init>", desc := "()V" } : Jvm.MethodName) jdk_30_method_1_code (1 : Nat) (Option.none : Option Jvm.ClassFile.FieldType), Jvm.Cond.code ({ cls := "java/lang/Object", name := "<init>", desc := "()V" } : Jvm.MethodName) object_method_1_code (1 : Nat) (Option.none : Option Jvm.ClassFile.FieldType), Jvm.Cond.code ({ cls := "com/example/fivestone/fivestone/engine/Lookahead$Result", name := "<init>", desc := "(Lcom/example/fivestone/fivestone/rules/Point;II)V" } : Jvm.MethodName) prog_11_method_1_code (4 : Nat) (Option.none : Option Jvm.ClassFile.FieldType), Jvm.Cond.code ({ cls := "com/example/fivestone/fivestone/engine/Lookahead$Result", name := "isWin", desc := "()Z" } : Jvm.MethodName) prog_11_method_2_code (1 : Nat) (Option.some Jvm.ClassFile.FieldType.boolean)]
set_option maxRecDepth 65536 in
theorem codes_eq : words1.filter isCode = codes1 := rfl
theorem w_codes : ∀ c ∈ words1.filter isCode, c.before args0 about1 = true := by
  rw [codes_eq]
  intro c hc
  simp only [codes1, List.mem_cons, List.not_mem_nil, or_false] at hc
  rcases hc with rfl | rfl | rfl | rfl | rfl | rfl
  · exact w_c0
  · exact w_c1
  · exact w_c2
  · exact w_c3
  · exact w_c4
  · exact w_c5
set_option maxRecDepth 65536 in
theorem w_t1 : (words1.take 24).all (fun c => isCode c || c.before args0 about1) = true := by decide +kernel
set_option maxRecDepth 65536 in
theorem w_t2 : (words1.drop 24).all (fun c => isCode c || c.before args0 about1) = true := by decide +kernel
theorem w_tables : (allAtoms (Jvm.Cond.code x code maxLocals ret :: tables_1)).before args0 about1 = true := by
  rw [allAtoms_all]
  show words1.all (fun c => c.before args0 about1) = true
  refine all_split ?_ w_codes
  rw [← List.take_append_drop 24 words1, List.all_append, w_t1, w_t2]
  rfl
set_option maxRecDepth 65536 in
theorem w_case : (Jvm.Cond.and given_1 narrow_1).before args0 about1 = true := by decide +kernel
theorem w_applies : (headSpec (Jvm.Cond.code x code maxLocals ret :: tables_1) room_1).applies x e0.platform about1 = true :=
  (Spec.applies_iff w_frames).mpr ⟨w_running, w_runnable, w_alone, w_named, w_hears, w_ripe, w_room, w_tables⟩
theorem atStart : AtStart classFile x code maxLocals ret World_1 tables_1 room_1 Calls_1 rest_1 Pre_1 launch0 p0 e0 about1 theMethod args0 below0 :=
  ⟨lists_1, trivial, launch0.admits_env _ _ _, launch0.least_env, fairChoices_fair.cas, fairChoices_fair.clock, w_frames, w_args, w_heap, w_applies, trivial, trivial, w_case⟩
end start1
theorem witness_1 : WitnessClaimed_1 := ⟨start1.p0, start1.e0, start1.about1, start1.theMethod, start1.args0, start1.below0, start1.atStart⟩
end Jvm.Pilot.@@N@@
