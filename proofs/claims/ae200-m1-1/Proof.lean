import JvmDerived
import JvmDerived.Pilot.@@N@@Statement
import JvmDerived.Pilot.@@N@@Code
set_option linter.unusedVariables false
set_option linter.unusedSimpArgs false
namespace Jvm.Pilot.@@N@@
open Jvm Jvm.ClassFile Sem Op Lib Jvm.Free Jvm.Stand Jvm.LawKit Jvm.RoadKit Bundle Jvm.Pilot.@@N@@.Jvm.D
section Own
variable {p : Program} {l : Launch} {e : Env} {R : Room} {s : State} {m : MethodId} {args : Array Value} {below : List Frame} {meth : Method} {c : Code} {T : State} {locs : List Loc} {cells slots : Nat} {C S : Nat} {Q : Option Value → Heap → List Loc → Prop}
/-- from the state T with the frame g on top the run comes to the method's end, and Q holds there -/
def Goes (p : Program) (e : Env) (below : List Frame) (s : State) (C S : Nat) (Q : Option Value → Heap → List Loc → Prop) (T : State) (g : JFrame) : Prop :=
  ∃ s₂ o, Steps p.tables e below (T.setTop g) s₂ ∧ s₂.status = .running ∧ Ended s₂ below o ∧ ∃ v L, o = .returned v ∧ Q v s₂.heap L ∧ FrameEnd s o s₂ L C S
theorem Goes.go {T' : State} {g g' : JFrame} (st : ∀ t, Steps p.tables e below (T'.setTop g') t → Steps p.tables e below (T.setTop g) t) (h : Goes p e below s C S Q T' g') : Goes p e below s C S Q T g := by
  obtain ⟨s₂, o, h1, h2⟩ := h; exact ⟨s₂, o, st _ h1, h2⟩
theorem Goes.tr {T' : State} {g g' : JFrame} (st : Steps p.tables e below (T.setTop g) (T'.setTop g')) (h : Goes p e below s C S Q T' g') : Goes p e below s C S Q T g := Goes.go (fun _ k => st.trans k) h
/-- a value comes back -/
theorem own_ret (X : Stand p l e R s m args below meth c T locs cells slots) (hx : p.tables.exec = Jvm.exec) (hlk : meth.locks = false) {t : FieldType} (hret : meth.sig.returnType = some t) {i : Instr} {w : Value} (hn : narrow t w = w)
    (hi : (i = .ireturn ∧ (t = .int ∨ t = .boolean ∨ t = .byte ∨ t = .char ∨ t = .short) ∧ ∃ z, w = .int z) ∨ (i = .lreturn ∧ t = .long ∧ ∃ z, w = .long z) ∨ (i = .dreturn ∧ t = .double ∧ ∃ z, w = .double z) ∨ (i = .freturn ∧ t = .float ∧ ∃ z, w = .float z) ∨ (i = .areturn ∧ t.isReference = true ∧ w.isRef = true))
    {pc : Nat} {Ls : Array Slot} {rest : List Value} (hd : decode c.code pc = .ok (i, 1)) (hC : cells ≤ C) (hS : slots ≤ S) {h : Heap} (eT : T.heap = h) (hQ : Q (some w) h locs) : Goes p e below s C S Q T (mkF m pc Ls (w :: rest)) := by
  obtain ⟨fs, hr, hrun, hended, hW, hsame⟩ := X.leave (v := some w) (fun h => by rw [hret] at h; cases h)
  subst eT
  exact ⟨_, _, retOut X hx hret hn hi hd hr, hrun, hended, _, _, rfl, hQ, ⟨_, rfl⟩, hW, hsame.mono hC hS⟩
theorem own_retI (X : Stand p l e R s m args below meth c T locs cells slots) (hx : p.tables.exec = Jvm.exec) (hlk : meth.locks = false) (hret : meth.sig.returnType = some .int) {z : Int32}
    {pc : Nat} {Ls : Array Slot} {rest : List Value} (hd : decode c.code pc = .ok (.ireturn, 1)) (hC : cells ≤ C) (hS : slots ≤ S) {h : Heap} (eT : T.heap = h) (hQ : Q (some (.int z)) h locs) : Goes p e below s C S Q T (mkF m pc Ls (.int z :: rest)) :=
  own_ret X hx hlk hret rfl (Or.inl ⟨rfl, Or.inl rfl, z, rfl⟩) hd hC hS eT hQ
theorem own_retZ (X : Stand p l e R s m args below meth c T locs cells slots) (hx : p.tables.exec = Jvm.exec) (hlk : meth.locks = false) (hret : meth.sig.returnType = some .boolean) {z : Int32} (hn : narrow .boolean (.int z) = .int z)
    {pc : Nat} {Ls : Array Slot} {rest : List Value} (hd : decode c.code pc = .ok (.ireturn, 1)) (hC : cells ≤ C) (hS : slots ≤ S) {h : Heap} (eT : T.heap = h) (hQ : Q (some (.int z)) h locs) : Goes p e below s C S Q T (mkF m pc Ls (.int z :: rest)) :=
  own_ret X hx hlk hret hn (Or.inl ⟨rfl, Or.inr (Or.inl rfl), z, rfl⟩) hd hC hS eT hQ
theorem own_retJ (X : Stand p l e R s m args below meth c T locs cells slots) (hx : p.tables.exec = Jvm.exec) (hlk : meth.locks = false) (hret : meth.sig.returnType = some .long) {z : Int64}
    {pc : Nat} {Ls : Array Slot} {rest : List Value} (hd : decode c.code pc = .ok (.lreturn, 1)) (hC : cells ≤ C) (hS : slots ≤ S) {h : Heap} (eT : T.heap = h) (hQ : Q (some (.long z)) h locs) : Goes p e below s C S Q T (mkF m pc Ls (.long z :: rest)) :=
  own_ret X hx hlk hret rfl (Or.inr (Or.inl ⟨rfl, rfl, z, rfl⟩)) hd hC hS eT hQ
theorem own_narR {t : FieldType} {w : Value} (hw : w.isRef = true) : narrow t w = w := by
  rcases ref_cases hw with rfl | ⟨a, rfl⟩ <;> cases t <;> rfl
theorem own_retR (X : Stand p l e R s m args below meth c T locs cells slots) (hx : p.tables.exec = Jvm.exec) (hlk : meth.locks = false) {t : FieldType} (hret : meth.sig.returnType = some t) (ht : t.isReference = true) {w : Value} (hw : w.isRef = true)
    {pc : Nat} {Ls : Array Slot} {rest : List Value} (hd : decode c.code pc = .ok (.areturn, 1)) (hC : cells ≤ C) (hS : slots ≤ S) {h : Heap} (eT : T.heap = h) (hQ : Q (some w) h locs) : Goes p e below s C S Q T (mkF m pc Ls (w :: rest)) :=
  own_ret X hx hlk hret (own_narR hw) (Or.inr (Or.inr (Or.inr (Or.inr ⟨rfl, ht, hw⟩)))) hd hC hS eT hQ
theorem own_retV (X : Stand p l e R s m args below meth c T locs cells slots) (hx : p.tables.exec = Jvm.exec) (hlk : meth.locks = false) (hret : meth.sig.returnType = none)
    {pc : Nat} {Ls : Array Slot} (hd : decode c.code pc = .ok (.return_, 1)) (hC : cells ≤ C) (hS : slots ≤ S) {h : Heap} (eT : T.heap = h) (hQ : Q none h locs) : Goes p e below s C S Q T (mkF m pc Ls []) := by
  obtain ⟨fs, hr, hrun, hended, hW, hsame⟩ := X.leave (v := none) (fun _ => rfl)
  subst eT
  exact ⟨_, _, X.returnOut hx hret hd hr, hrun, hended, _, _, rfl, hQ, ⟨_, rfl⟩, hW, hsame.mono hC hS⟩
/-- the entry -/
theorem own_enter {s₁ : State} {maxL : Nat} {as' : Array Value} {Ls : Array Slot} (hE : entryFrame m as' maxL = mkF m 0 Ls []) (h : Goes p e below s C S Q s₁ (mkF m 0 Ls [])) :
    ∃ s₂ o, Steps p.tables e below (s₁.setTop (entryFrame m as' maxL)) s₂ ∧ s₂.status = .running ∧ Ended s₂ below o ∧ ∃ v L, o = .returned v ∧ Q v s₂.heap L ∧ FrameEnd s o s₂ L C S := by
  rw [hE]; exact h
section Steps1
variable {pc : Nat} {Ls : Array Slot} {rest : List Value}
theorem own_iadd (X : Stand p l e R s m args below meth c T locs cells slots) (hx : p.tables.exec = Jvm.exec) (pc' : Nat) (hp : pc + 1 = pc') {x y z : Int32} (hd : decode c.code pc = .ok (.iadd, 1)) (hz : x + y = z) (h : Goes p e below s C S Q T (mkF m pc' Ls (.int z :: rest))) : Goes p e below s C S Q T (mkF m pc Ls (.int y :: .int x :: rest)) := by
  subst hp; subst hz; exact Goes.go (fun _ k => XS.iadd X.here hx rfl hd rfl k) h
theorem own_isub (X : Stand p l e R s m args below meth c T locs cells slots) (hx : p.tables.exec = Jvm.exec) (pc' : Nat) (hp : pc + 1 = pc') {x y z : Int32} (hd : decode c.code pc = .ok (.isub, 1)) (hz : x - y = z) (h : Goes p e below s C S Q T (mkF m pc' Ls (.int z :: rest))) : Goes p e below s C S Q T (mkF m pc Ls (.int y :: .int x :: rest)) := by
  subst hp; subst hz; exact Goes.go (fun _ k => XS.isub X.here hx rfl hd rfl k) h
theorem own_imul (X : Stand p l e R s m args below meth c T locs cells slots) (hx : p.tables.exec = Jvm.exec) (pc' : Nat) (hp : pc + 1 = pc') {x y z : Int32} (hd : decode c.code pc = .ok (.imul, 1)) (hz : x * y = z) (h : Goes p e below s C S Q T (mkF m pc' Ls (.int z :: rest))) : Goes p e below s C S Q T (mkF m pc Ls (.int y :: .int x :: rest)) := by
  subst hp; subst hz; exact Goes.go (fun _ k => XS.imul X.here hx rfl hd rfl k) h
theorem own_iand (X : Stand p l e R s m args below meth c T locs cells slots) (hx : p.tables.exec = Jvm.exec) (pc' : Nat) (hp : pc + 1 = pc') {x y z : Int32} (hd : decode c.code pc = .ok (.iand, 1)) (hz : x &&& y = z) (h : Goes p e below s C S Q T (mkF m pc' Ls (.int z :: rest))) : Goes p e below s C S Q T (mkF m pc Ls (.int y :: .int x :: rest)) := by
  subst hp; subst hz; exact Goes.go (fun _ k => XS.iand X.here hx rfl hd rfl k) h
theorem own_ior (X : Stand p l e R s m args below meth c T locs cells slots) (hx : p.tables.exec = Jvm.exec) (pc' : Nat) (hp : pc + 1 = pc') {x y z : Int32} (hd : decode c.code pc = .ok (.ior, 1)) (hz : x ||| y = z) (h : Goes p e below s C S Q T (mkF m pc' Ls (.int z :: rest))) : Goes p e below s C S Q T (mkF m pc Ls (.int y :: .int x :: rest)) := by
  subst hp; subst hz; exact Goes.go (fun _ k => XS.ior X.here hx rfl hd rfl k) h
theorem own_ixor (X : Stand p l e R s m args below meth c T locs cells slots) (hx : p.tables.exec = Jvm.exec) (pc' : Nat) (hp : pc + 1 = pc') {x y z : Int32} (hd : decode c.code pc = .ok (.ixor, 1)) (hz : x ^^^ y = z) (h : Goes p e below s C S Q T (mkF m pc' Ls (.int z :: rest))) : Goes p e below s C S Q T (mkF m pc Ls (.int y :: .int x :: rest)) := by
  subst hp; subst hz; exact Goes.go (fun _ k => XS.ixor X.here hx rfl hd rfl k) h
theorem own_idiv (X : Stand p l e R s m args below meth c T locs cells slots) (hx : p.tables.exec = Jvm.exec) (pc' : Nat) (hp : pc + 1 = pc') {x y z : Int32} (hd : decode c.code pc = .ok (.idiv, 1)) (hy : y ≠ 0) (hz : x / y = z) (h : Goes p e below s C S Q T (mkF m pc' Ls (.int z :: rest))) : Goes p e below s C S Q T (mkF m pc Ls (.int y :: .int x :: rest)) := by
  subst hp; subst hz; exact Goes.go (fun _ k => XS.idiv X.here hx rfl hd rfl hy k) h
theorem own_ishl (X : Stand p l e R s m args below meth c T locs cells slots) (hx : p.tables.exec = Jvm.exec) (pc' : Nat) (hp : pc + 1 = pc') {x z : Int32} {y : Int32} (hd : decode c.code pc = .ok (.ishl, 1)) (hz : (x <<< (y &&& 31)) = z) (h : Goes p e below s C S Q T (mkF m pc' Ls (.int z :: rest))) : Goes p e below s C S Q T (mkF m pc Ls (.int y :: .int x :: rest)) := by
  subst hp; subst hz; exact Goes.go (fun _ k => XS.ishl X.here hx rfl hd rfl k) h
theorem own_ishr (X : Stand p l e R s m args below meth c T locs cells slots) (hx : p.tables.exec = Jvm.exec) (pc' : Nat) (hp : pc + 1 = pc') {x z : Int32} {y : Int32} (hd : decode c.code pc = .ok (.ishr, 1)) (hz : (x >>> (y &&& 31)) = z) (h : Goes p e below s C S Q T (mkF m pc' Ls (.int z :: rest))) : Goes p e below s C S Q T (mkF m pc Ls (.int y :: .int x :: rest)) := by
  subst hp; subst hz; exact Goes.go (fun _ k => XS.ishr X.here hx rfl hd rfl k) h
theorem own_iushr (X : Stand p l e R s m args below meth c T locs cells slots) (hx : p.tables.exec = Jvm.exec) (pc' : Nat) (hp : pc + 1 = pc') {x z : Int32} {y : Int32} (hd : decode c.code pc = .ok (.iushr, 1)) (hz : ((x.toUInt32 >>> (y &&& 31).toUInt32).toInt32) = z) (h : Goes p e below s C S Q T (mkF m pc' Ls (.int z :: rest))) : Goes p e below s C S Q T (mkF m pc Ls (.int y :: .int x :: rest)) := by
  subst hp; subst hz; exact Goes.go (fun _ k => XS.iushr X.here hx rfl hd rfl k) h
theorem own_ladd (X : Stand p l e R s m args below meth c T locs cells slots) (hx : p.tables.exec = Jvm.exec) (pc' : Nat) (hp : pc + 1 = pc') {x y z : Int64} (hd : decode c.code pc = .ok (.ladd, 1)) (hz : x + y = z) (h : Goes p e below s C S Q T (mkF m pc' Ls (.long z :: rest))) : Goes p e below s C S Q T (mkF m pc Ls (.long y :: .long x :: rest)) := by
  subst hp; subst hz; exact Goes.go (fun _ k => XS.ladd X.here hx rfl hd rfl k) h
theorem own_lsub (X : Stand p l e R s m args below meth c T locs cells slots) (hx : p.tables.exec = Jvm.exec) (pc' : Nat) (hp : pc + 1 = pc') {x y z : Int64} (hd : decode c.code pc = .ok (.lsub, 1)) (hz : x - y = z) (h : Goes p e below s C S Q T (mkF m pc' Ls (.long z :: rest))) : Goes p e below s C S Q T (mkF m pc Ls (.long y :: .long x :: rest)) := by
  subst hp; subst hz; exact Goes.go (fun _ k => XS.lsub X.here hx rfl hd rfl k) h
theorem own_lmul (X : Stand p l e R s m args below meth c T locs cells slots) (hx : p.tables.exec = Jvm.exec) (pc' : Nat) (hp : pc + 1 = pc') {x y z : Int64} (hd : decode c.code pc = .ok (.lmul, 1)) (hz : x * y = z) (h : Goes p e below s C S Q T (mkF m pc' Ls (.long z :: rest))) : Goes p e below s C S Q T (mkF m pc Ls (.long y :: .long x :: rest)) := by
  subst hp; subst hz; exact Goes.go (fun _ k => XS.lmul X.here hx rfl hd rfl k) h
theorem own_land (X : Stand p l e R s m args below meth c T locs cells slots) (hx : p.tables.exec = Jvm.exec) (pc' : Nat) (hp : pc + 1 = pc') {x y z : Int64} (hd : decode c.code pc = .ok (.land, 1)) (hz : x &&& y = z) (h : Goes p e below s C S Q T (mkF m pc' Ls (.long z :: rest))) : Goes p e below s C S Q T (mkF m pc Ls (.long y :: .long x :: rest)) := by
  subst hp; subst hz; exact Goes.go (fun _ k => XS.land X.here hx rfl hd rfl k) h
theorem own_lor (X : Stand p l e R s m args below meth c T locs cells slots) (hx : p.tables.exec = Jvm.exec) (pc' : Nat) (hp : pc + 1 = pc') {x y z : Int64} (hd : decode c.code pc = .ok (.lor, 1)) (hz : x ||| y = z) (h : Goes p e below s C S Q T (mkF m pc' Ls (.long z :: rest))) : Goes p e below s C S Q T (mkF m pc Ls (.long y :: .long x :: rest)) := by
  subst hp; subst hz; exact Goes.go (fun _ k => XS.lor X.here hx rfl hd rfl k) h
theorem own_lxor (X : Stand p l e R s m args below meth c T locs cells slots) (hx : p.tables.exec = Jvm.exec) (pc' : Nat) (hp : pc + 1 = pc') {x y z : Int64} (hd : decode c.code pc = .ok (.lxor, 1)) (hz : x ^^^ y = z) (h : Goes p e below s C S Q T (mkF m pc' Ls (.long z :: rest))) : Goes p e below s C S Q T (mkF m pc Ls (.long y :: .long x :: rest)) := by
  subst hp; subst hz; exact Goes.go (fun _ k => XS.lxor X.here hx rfl hd rfl k) h
theorem own_ldiv (X : Stand p l e R s m args below meth c T locs cells slots) (hx : p.tables.exec = Jvm.exec) (pc' : Nat) (hp : pc + 1 = pc') {x y z : Int64} (hd : decode c.code pc = .ok (.ldiv, 1)) (hy : y ≠ 0) (hz : x / y = z) (h : Goes p e below s C S Q T (mkF m pc' Ls (.long z :: rest))) : Goes p e below s C S Q T (mkF m pc Ls (.long y :: .long x :: rest)) := by
  subst hp; subst hz; exact Goes.go (fun _ k => XS.ldiv X.here hx rfl hd rfl hy k) h
theorem own_lshl (X : Stand p l e R s m args below meth c T locs cells slots) (hx : p.tables.exec = Jvm.exec) (pc' : Nat) (hp : pc + 1 = pc') {x z : Int64} {y : Int32} (hd : decode c.code pc = .ok (.lshl, 1)) (hz : (x <<< (y &&& 0x3f).toInt64) = z) (h : Goes p e below s C S Q T (mkF m pc' Ls (.long z :: rest))) : Goes p e below s C S Q T (mkF m pc Ls (.int y :: .long x :: rest)) := by
  subst hp; subst hz; exact Goes.go (fun _ k => XS.lshl X.here hx rfl hd rfl k) h
theorem own_lshr (X : Stand p l e R s m args below meth c T locs cells slots) (hx : p.tables.exec = Jvm.exec) (pc' : Nat) (hp : pc + 1 = pc') {x z : Int64} {y : Int32} (hd : decode c.code pc = .ok (.lshr, 1)) (hz : (x >>> (y &&& 0x3f).toInt64) = z) (h : Goes p e below s C S Q T (mkF m pc' Ls (.long z :: rest))) : Goes p e below s C S Q T (mkF m pc Ls (.int y :: .long x :: rest)) := by
  subst hp; subst hz; exact Goes.go (fun _ k => XS.lshr X.here hx rfl hd rfl k) h
theorem own_lushr (X : Stand p l e R s m args below meth c T locs cells slots) (hx : p.tables.exec = Jvm.exec) (pc' : Nat) (hp : pc + 1 = pc') {x z : Int64} {y : Int32} (hd : decode c.code pc = .ok (.lushr, 1)) (hz : ((x.toUInt64 >>> (y &&& 0x3f).toInt64.toUInt64).toInt64) = z) (h : Goes p e below s C S Q T (mkF m pc' Ls (.long z :: rest))) : Goes p e below s C S Q T (mkF m pc Ls (.int y :: .long x :: rest)) := by
  subst hp; subst hz; exact Goes.go (fun _ k => XS.lushr X.here hx rfl hd rfl k) h
theorem own_irem (X : Stand p l e R s m args below meth c T locs cells slots) (hx : p.tables.exec = Jvm.exec) (pc' : Nat) (hp : pc + 1 = pc') {x y z : Int32} (hd : decode c.code pc = .ok (.irem, 1)) (hy : y ≠ 0) (hz : x % y = z) (h : Goes p e below s C S Q T (mkF m pc' Ls (.int z :: rest))) : Goes p e below s C S Q T (mkF m pc Ls (.int y :: .int x :: rest)) := by
  subst hp; subst hz; exact Goes.go (fun _ k => iremM X hx rfl hd rfl hy k) h
theorem own_lrem (X : Stand p l e R s m args below meth c T locs cells slots) (hx : p.tables.exec = Jvm.exec) (pc' : Nat) (hp : pc + 1 = pc') {x y z : Int64} (hd : decode c.code pc = .ok (.lrem, 1)) (hy : y ≠ 0) (hz : x % y = z) (h : Goes p e below s C S Q T (mkF m pc' Ls (.long z :: rest))) : Goes p e below s C S Q T (mkF m pc Ls (.long y :: .long x :: rest)) := by
  subst hp; subst hz; exact Goes.go (fun _ k => XS.lrem X.here hx rfl hd rfl hy (by rw [lrem_mod]; exact k)) h
theorem own_ineg (X : Stand p l e R s m args below meth c T locs cells slots) (hx : p.tables.exec = Jvm.exec) (pc' : Nat) (hp : pc + 1 = pc') {x : Int32} {z : Int32} (hd : decode c.code pc = .ok (.ineg, 1)) (hz : -x = z) (h : Goes p e below s C S Q T (mkF m pc' Ls (.int z :: rest))) : Goes p e below s C S Q T (mkF m pc Ls (.int x :: rest)) := by
  subst hp; subst hz; exact Goes.go (fun _ k => XS.ineg X.here hx rfl hd rfl k) h
theorem own_lneg (X : Stand p l e R s m args below meth c T locs cells slots) (hx : p.tables.exec = Jvm.exec) (pc' : Nat) (hp : pc + 1 = pc') {x : Int64} {z : Int64} (hd : decode c.code pc = .ok (.lneg, 1)) (hz : -x = z) (h : Goes p e below s C S Q T (mkF m pc' Ls (.long z :: rest))) : Goes p e below s C S Q T (mkF m pc Ls (.long x :: rest)) := by
  subst hp; subst hz; exact Goes.go (fun _ k => XS.lneg X.here hx rfl hd rfl k) h
theorem own_i2l (X : Stand p l e R s m args below meth c T locs cells slots) (hx : p.tables.exec = Jvm.exec) (pc' : Nat) (hp : pc + 1 = pc') {x : Int32} {z : Int64} (hd : decode c.code pc = .ok (.i2l, 1)) (hz : x.toInt64 = z) (h : Goes p e below s C S Q T (mkF m pc' Ls (.long z :: rest))) : Goes p e below s C S Q T (mkF m pc Ls (.int x :: rest)) := by
  subst hp; subst hz; exact Goes.go (fun _ k => XS.i2l X.here hx rfl hd rfl k) h
theorem own_l2i (X : Stand p l e R s m args below meth c T locs cells slots) (hx : p.tables.exec = Jvm.exec) (pc' : Nat) (hp : pc + 1 = pc') {x : Int64} {z : Int32} (hd : decode c.code pc = .ok (.l2i, 1)) (hz : x.toInt32 = z) (h : Goes p e below s C S Q T (mkF m pc' Ls (.int z :: rest))) : Goes p e below s C S Q T (mkF m pc Ls (.long x :: rest)) := by
  subst hp; subst hz; exact Goes.go (fun _ k => XS.l2i X.here hx rfl hd rfl k) h
theorem own_i2b (X : Stand p l e R s m args below meth c T locs cells slots) (hx : p.tables.exec = Jvm.exec) (pc' : Nat) (hp : pc + 1 = pc') {x : Int32} {z : Int32} (hd : decode c.code pc = .ok (.i2b, 1)) (hz : x.toInt8.toInt32 = z) (h : Goes p e below s C S Q T (mkF m pc' Ls (.int z :: rest))) : Goes p e below s C S Q T (mkF m pc Ls (.int x :: rest)) := by
  subst hp; subst hz; exact Goes.go (fun _ k => XS.i2b X.here hx rfl hd rfl k) h
theorem own_i2s (X : Stand p l e R s m args below meth c T locs cells slots) (hx : p.tables.exec = Jvm.exec) (pc' : Nat) (hp : pc + 1 = pc') {x : Int32} {z : Int32} (hd : decode c.code pc = .ok (.i2s, 1)) (hz : x.toInt16.toInt32 = z) (h : Goes p e below s C S Q T (mkF m pc' Ls (.int z :: rest))) : Goes p e below s C S Q T (mkF m pc Ls (.int x :: rest)) := by
  subst hp; subst hz; exact Goes.go (fun _ k => XS.i2s X.here hx rfl hd rfl k) h
theorem own_i2c (X : Stand p l e R s m args below meth c T locs cells slots) (hx : p.tables.exec = Jvm.exec) (pc' : Nat) (hp : pc + 1 = pc') {x : Int32} {z : Int32} (hd : decode c.code pc = .ok (.i2c, 1)) (hz : x.toUInt32.toUInt16.toUInt32.toInt32 = z) (h : Goes p e below s C S Q T (mkF m pc' Ls (.int z :: rest))) : Goes p e below s C S Q T (mkF m pc Ls (.int x :: rest)) := by
  subst hp; subst hz; exact Goes.go (fun _ k => XS.i2c X.here hx rfl hd rfl k) h
theorem own_lcmp (X : Stand p l e R s m args below meth c T locs cells slots) (hx : p.tables.exec = Jvm.exec) (pc' : Nat) (hp : pc + 1 = pc') {x y : Int64} (hd : decode c.code pc = .ok (.lcmp, 1))  (h : Goes p e below s C S Q T (mkF m pc' Ls (.int (lcmpW x y) :: rest))) : Goes p e below s C S Q T (mkF m pc Ls (.long y :: .long x :: rest)) := by
  subst hp; exact Goes.go (fun _ k => XS.lcmp X.here hx rfl hd rfl k) h
theorem own_iload (X : Stand p l e R s m args below meth c T locs cells slots) (hx : p.tables.exec = Jvm.exec) (pc' : Nat) (hp : pc + 2 = pc') {k : Nat} {v : Int32} (hd : decode c.code pc = .ok (.iload k, 2)) (hl : Ls[k]? = some (.val (.int v))) (h : Goes p e below s C S Q T (mkF m pc' Ls ((.int v) :: rest))) : Goes p e below s C S Q T (mkF m pc Ls rest) := by
  subst hp; exact Goes.go (fun _ k => XS.iload X.here hx rfl hd hl k) h
theorem own_iloadN (X : Stand p l e R s m args below meth c T locs cells slots) (hx : p.tables.exec = Jvm.exec) (pc' : Nat) (hp : pc + 1 = pc') {k : Fin 4} {v : Int32} (hd : decode c.code pc = .ok (.iload_n k, 1)) (hl : Ls[k.val]? = some (.val (.int v))) (h : Goes p e below s C S Q T (mkF m pc' Ls ((.int v) :: rest))) : Goes p e below s C S Q T (mkF m pc Ls rest) := by
  subst hp; exact Goes.go (fun _ k => XS.iloadN X.here hx rfl hd hl k) h
theorem own_istore (X : Stand p l e R s m args below meth c T locs cells slots) (hx : p.tables.exec = Jvm.exec) (pc' : Nat) (hp : pc + 2 = pc') {k : Nat} {v : Int32} (Ls' : Array Slot) (hd : decode c.code pc = .ok (.istore k, 2)) (hl : storeLocals Ls k (.int v) = some Ls') (h : Goes p e below s C S Q T (mkF m pc' Ls' rest)) : Goes p e below s C S Q T (mkF m pc Ls ((.int v) :: rest)) := by
  subst hp; exact Goes.go (fun _ k => XS.istore X.here hx rfl hd rfl hl k) h
theorem own_istoreN (X : Stand p l e R s m args below meth c T locs cells slots) (hx : p.tables.exec = Jvm.exec) (pc' : Nat) (hp : pc + 1 = pc') {k : Fin 4} {v : Int32} (Ls' : Array Slot) (hd : decode c.code pc = .ok (.istore_n k, 1)) (hl : storeLocals Ls k.val (.int v) = some Ls') (h : Goes p e below s C S Q T (mkF m pc' Ls' rest)) : Goes p e below s C S Q T (mkF m pc Ls ((.int v) :: rest)) := by
  subst hp; exact Goes.go (fun _ k => XS.istoreN X.here hx rfl hd rfl hl k) h
theorem own_lload (X : Stand p l e R s m args below meth c T locs cells slots) (hx : p.tables.exec = Jvm.exec) (pc' : Nat) (hp : pc + 2 = pc') {k : Nat} {v : Int64} (hd : decode c.code pc = .ok (.lload k, 2)) (hl : Ls[k]? = some (.val (.long v))) (h : Goes p e below s C S Q T (mkF m pc' Ls ((.long v) :: rest))) : Goes p e below s C S Q T (mkF m pc Ls rest) := by
  subst hp; exact Goes.go (fun _ k => XS.lload X.here hx rfl hd hl k) h
theorem own_lloadN (X : Stand p l e R s m args below meth c T locs cells slots) (hx : p.tables.exec = Jvm.exec) (pc' : Nat) (hp : pc + 1 = pc') {k : Fin 4} {v : Int64} (hd : decode c.code pc = .ok (.lload_n k, 1)) (hl : Ls[k.val]? = some (.val (.long v))) (h : Goes p e below s C S Q T (mkF m pc' Ls ((.long v) :: rest))) : Goes p e below s C S Q T (mkF m pc Ls rest) := by
  subst hp; exact Goes.go (fun _ k => XS.lloadN X.here hx rfl hd hl k) h
theorem own_lstore (X : Stand p l e R s m args below meth c T locs cells slots) (hx : p.tables.exec = Jvm.exec) (pc' : Nat) (hp : pc + 2 = pc') {k : Nat} {v : Int64} (Ls' : Array Slot) (hd : decode c.code pc = .ok (.lstore k, 2)) (hl : storeLocals Ls k (.long v) = some Ls') (h : Goes p e below s C S Q T (mkF m pc' Ls' rest)) : Goes p e below s C S Q T (mkF m pc Ls ((.long v) :: rest)) := by
  subst hp; exact Goes.go (fun _ k => XS.lstore X.here hx rfl hd rfl hl k) h
theorem own_lstoreN (X : Stand p l e R s m args below meth c T locs cells slots) (hx : p.tables.exec = Jvm.exec) (pc' : Nat) (hp : pc + 1 = pc') {k : Fin 4} {v : Int64} (Ls' : Array Slot) (hd : decode c.code pc = .ok (.lstore_n k, 1)) (hl : storeLocals Ls k.val (.long v) = some Ls') (h : Goes p e below s C S Q T (mkF m pc' Ls' rest)) : Goes p e below s C S Q T (mkF m pc Ls ((.long v) :: rest)) := by
  subst hp; exact Goes.go (fun _ k => XS.lstoreN X.here hx rfl hd rfl hl k) h
theorem own_aload (X : Stand p l e R s m args below meth c T locs cells slots) (hx : p.tables.exec = Jvm.exec) (pc' : Nat) (hp : pc + 2 = pc') {k : Nat} {v : Value} (hd : decode c.code pc = .ok (.aload k, 2)) (hl : Ls[k]? = some (.val v)) (hv : v.isRef = true) (h : Goes p e below s C S Q T (mkF m pc' Ls (v :: rest))) : Goes p e below s C S Q T (mkF m pc Ls rest) := by
  subst hp; exact Goes.go (fun _ k => XS.aload X.here hx rfl hd hl hv k) h
theorem own_aloadN (X : Stand p l e R s m args below meth c T locs cells slots) (hx : p.tables.exec = Jvm.exec) (pc' : Nat) (hp : pc + 1 = pc') {k : Fin 4} {v : Value} (hd : decode c.code pc = .ok (.aload_n k, 1)) (hl : Ls[k.val]? = some (.val v)) (hv : v.isRef = true) (h : Goes p e below s C S Q T (mkF m pc' Ls (v :: rest))) : Goes p e below s C S Q T (mkF m pc Ls rest) := by
  subst hp; exact Goes.go (fun _ k => XS.aloadN X.here hx rfl hd hl hv k) h
theorem own_astore (X : Stand p l e R s m args below meth c T locs cells slots) (hx : p.tables.exec = Jvm.exec) (pc' : Nat) (hp : pc + 2 = pc') {k : Nat} {v : Value} (Ls' : Array Slot) (hd : decode c.code pc = .ok (.astore k, 2)) (hl : storeLocals Ls k v = some Ls') (hv : v.isRef = true) (h : Goes p e below s C S Q T (mkF m pc' Ls' rest)) : Goes p e below s C S Q T (mkF m pc Ls (v :: rest)) := by
  subst hp; exact Goes.go (fun _ k => XS.astore X.here hx rfl hd rfl hv hl k) h
theorem own_astoreN (X : Stand p l e R s m args below meth c T locs cells slots) (hx : p.tables.exec = Jvm.exec) (pc' : Nat) (hp : pc + 1 = pc') {k : Fin 4} {v : Value} (Ls' : Array Slot) (hd : decode c.code pc = .ok (.astore_n k, 1)) (hl : storeLocals Ls k.val v = some Ls') (hv : v.isRef = true) (h : Goes p e below s C S Q T (mkF m pc' Ls' rest)) : Goes p e below s C S Q T (mkF m pc Ls (v :: rest)) := by
  subst hp; exact Goes.go (fun _ k => XS.astoreN X.here hx rfl hd rfl hv hl k) h
theorem own_iconst (X : Stand p l e R s m args below meth c T locs cells slots) (hx : p.tables.exec = Jvm.exec) (pc' : Nat) (hp : pc + 1 = pc') {i : Int} (v : Int32) (hd : decode c.code pc = .ok (.iconst i, 1)) (hv : Int32.ofInt i = v) (h : Goes p e below s C S Q T (mkF m pc' Ls (.int v :: rest))) : Goes p e below s C S Q T (mkF m pc Ls rest) := by
  subst hp; subst hv; exact Goes.go (fun _ k => XS.iconst X.here hx rfl hd k) h
theorem own_bipush (X : Stand p l e R s m args below meth c T locs cells slots) (hx : p.tables.exec = Jvm.exec) (pc' : Nat) (hp : pc + 2 = pc') {i : Int} (v : Int32) (hd : decode c.code pc = .ok (.bipush i, 2)) (hv : (Int8.ofInt i).toInt32 = v) (h : Goes p e below s C S Q T (mkF m pc' Ls (.int v :: rest))) : Goes p e below s C S Q T (mkF m pc Ls rest) := by
  subst hp; subst hv; exact Goes.go (fun _ k => XS.bipush X.here hx rfl hd k) h
theorem own_sipush (X : Stand p l e R s m args below meth c T locs cells slots) (hx : p.tables.exec = Jvm.exec) (pc' : Nat) (hp : pc + 3 = pc') {i : Int} (v : Int32) (hd : decode c.code pc = .ok (.sipush i, 3)) (hv : (Int16.ofInt i).toInt32 = v) (h : Goes p e below s C S Q T (mkF m pc' Ls (.int v :: rest))) : Goes p e below s C S Q T (mkF m pc Ls rest) := by
  subst hp; subst hv; exact Goes.go (fun _ k => XS.sipush X.here hx rfl hd k) h
theorem own_lconst (X : Stand p l e R s m args below meth c T locs cells slots) (hx : p.tables.exec = Jvm.exec) (pc' : Nat) (hp : pc + 1 = pc') {i : Fin 2} (v : Int64) (hd : decode c.code pc = .ok (.lconst i, 1)) (hv : Int64.ofNat i = v) (h : Goes p e below s C S Q T (mkF m pc' Ls (.long v :: rest))) : Goes p e below s C S Q T (mkF m pc Ls rest) := by
  subst hp; subst hv; exact Goes.go (fun _ k => XS.lconst X.here hx rfl hd k) h
theorem own_aconst_null (X : Stand p l e R s m args below meth c T locs cells slots) (hx : p.tables.exec = Jvm.exec) (pc' : Nat) (hp : pc + 1 = pc')  (hd : decode c.code pc = .ok (.aconst_null, 1))  (h : Goes p e below s C S Q T (mkF m pc' Ls (.null :: rest))) : Goes p e below s C S Q T (mkF m pc Ls rest) := by
  subst hp; exact Goes.go (fun _ k => XS.aconstNull X.here hx rfl hd k) h
theorem own_dup (X : Stand p l e R s m args below meth c T locs cells slots) (hx : p.tables.exec = Jvm.exec) (pc' : Nat) (hp : pc + 1 = pc') {v : Value} (hd : decode c.code pc = .ok (.dup, 1)) (hc : v.category = 1) (h : Goes p e below s C S Q T (mkF m pc' Ls (v :: v :: rest))) : Goes p e below s C S Q T (mkF m pc Ls (v :: rest)) := by
  subst hp; exact Goes.go (fun _ k => XS.dup X.here hx rfl hd rfl hc k) h
theorem own_pop (X : Stand p l e R s m args below meth c T locs cells slots) (hx : p.tables.exec = Jvm.exec) (pc' : Nat) (hp : pc + 1 = pc') {v : Value} (hd : decode c.code pc = .ok (.pop, 1)) (hc : v.category = 1) (h : Goes p e below s C S Q T (mkF m pc' Ls rest)) : Goes p e below s C S Q T (mkF m pc Ls (v :: rest)) := by
  subst hp; exact Goes.go (fun _ k => XS.pop X.here hx rfl hd rfl hc k) h
theorem own_dup_x1 (X : Stand p l e R s m args below meth c T locs cells slots) (hx : p.tables.exec = Jvm.exec) (pc' : Nat) (hp : pc + 1 = pc') {v w : Value} (hd : decode c.code pc = .ok (.dup_x1, 1)) (hc : v.category = 1) (hc' : w.category = 1) (h : Goes p e below s C S Q T (mkF m pc' Ls (v :: w :: v :: rest))) : Goes p e below s C S Q T (mkF m pc Ls (v :: w :: rest)) := by
  subst hp; exact Goes.go (fun _ k => XS.dupX1 X.here hx rfl hd rfl hc hc' k) h
theorem own_dup2L (X : Stand p l e R s m args below meth c T locs cells slots) (hx : p.tables.exec = Jvm.exec) (pc' : Nat) (hp : pc + 1 = pc') {v : Int64} (hd : decode c.code pc = .ok (.dup2, 1))  (h : Goes p e below s C S Q T (mkF m pc' Ls (.long v :: .long v :: rest))) : Goes p e below s C S Q T (mkF m pc Ls (.long v :: rest)) := by
  subst hp; exact Goes.go (fun _ k => Jvm.Free.XT.dup2L X.here hx rfl hd rfl k) h
theorem own_dup2 (X : Stand p l e R s m args below meth c T locs cells slots) (hx : p.tables.exec = Jvm.exec) (pc' : Nat) (hp : pc + 1 = pc') {v w : Value} (hd : decode c.code pc = .ok (.dup2, 1)) (hc : v.category = 1) (hc' : w.category = 1) (h : Goes p e below s C S Q T (mkF m pc' Ls (v :: w :: v :: w :: rest))) : Goes p e below s C S Q T (mkF m pc Ls (v :: w :: rest)) := by
  subst hp; exact Goes.go (fun _ k => Jvm.Free.XT.dup2 X.here hx rfl hd rfl hc hc' k) h
theorem own_iinc (X : Stand p l e R s m args below meth c T locs cells slots) (hx : p.tables.exec = Jvm.exec) (pc' : Nat) (hp : pc + 3 = pc') {k : Nat} {cst : Int} {x z : Int32} (Ls' : Array Slot) (hd : decode c.code pc = .ok (.iinc k cst, 3)) (hl : Ls[k]? = some (.val (.int x))) (hz : x + Int32.ofInt cst = z) (hl' : storeLocals Ls k (.int z) = some Ls') (h : Goes p e below s C S Q T (mkF m pc' Ls' rest)) : Goes p e below s C S Q T (mkF m pc Ls rest) := by
  subst hp; subst hz; exact Goes.go (fun _ k => XS.iinc X.here hx rfl hd hl hl' k) h
theorem own_goto (X : Stand p l e R s m args below meth c T locs cells slots) (hx : p.tables.exec = Jvm.exec) (pc' : Nat) {o : Int} (hd : decode c.code pc = .ok (.goto o, 3)) (ho : 0 ≤ (pc : Int) + o) (hp : ((pc : Int) + o).toNat = pc') (h : Goes p e below s C S Q T (mkF m pc' Ls rest)) : Goes p e below s C S Q T (mkF m pc Ls rest) :=
  Goes.go (fun _ k => XS.goto X.here hx rfl rfl hd ho hp k) h
theorem own_ifY (X : Stand p l e R s m args below meth c T locs cells slots) (hx : p.tables.exec = Jvm.exec) (pc' : Nat) {o : Int} {cd : ClassFile.Cond} {x : Int32} (hd : decode c.code pc = .ok (.ifCond cd o, 3)) (hc : ifCond.holds cd x = true) (ho : 0 ≤ (pc : Int) + o) (hp : ((pc : Int) + o).toNat = pc') (h : Goes p e below s C S Q T (mkF m pc' Ls rest)) : Goes p e below s C S Q T (mkF m pc Ls (.int x :: rest)) :=
  Goes.go (fun _ k => XS.ifYes X.here hx rfl rfl hd rfl hc ho hp k) h
theorem own_ifN (X : Stand p l e R s m args below meth c T locs cells slots) (hx : p.tables.exec = Jvm.exec) (pc' : Nat) {o : Int} {cd : ClassFile.Cond} {x : Int32} (hd : decode c.code pc = .ok (.ifCond cd o, 3)) (hc : ifCond.holds cd x = false) (hp : pc + 3 = pc') (h : Goes p e below s C S Q T (mkF m pc' Ls rest)) : Goes p e below s C S Q T (mkF m pc Ls (.int x :: rest)) := by
  subst hp; exact Goes.go (fun _ k => XS.ifNo X.here hx rfl hd rfl hc k) h
theorem own_icmpY (X : Stand p l e R s m args below meth c T locs cells slots) (hx : p.tables.exec = Jvm.exec) (pc' : Nat) {o : Int} {cd : ClassFile.Cond} {x y : Int32} (hd : decode c.code pc = .ok (.if_icmp cd o, 3)) (hc : if_icmp.holds cd x y = true) (ho : 0 ≤ (pc : Int) + o) (hp : ((pc : Int) + o).toNat = pc') (h : Goes p e below s C S Q T (mkF m pc' Ls rest)) : Goes p e below s C S Q T (mkF m pc Ls (.int y :: .int x :: rest)) :=
  Goes.go (fun _ k => XS.icmpYes X.here hx rfl rfl hd rfl hc ho hp k) h
theorem own_icmpN (X : Stand p l e R s m args below meth c T locs cells slots) (hx : p.tables.exec = Jvm.exec) (pc' : Nat) {o : Int} {cd : ClassFile.Cond} {x y : Int32} (hd : decode c.code pc = .ok (.if_icmp cd o, 3)) (hc : if_icmp.holds cd x y = false) (hp : pc + 3 = pc') (h : Goes p e below s C S Q T (mkF m pc' Ls rest)) : Goes p e below s C S Q T (mkF m pc Ls (.int y :: .int x :: rest)) := by
  subst hp; exact Goes.go (fun _ k => XS.icmpNo X.here hx rfl hd rfl hc k) h
theorem own_acmp (X : Stand p l e R s m args below meth c T locs cells slots) (hx : p.tables.exec = Jvm.exec) (pc' : Nat) {o : Int} {cd : ACond} {x y : Value} {same : Bool} (h1 : x.isRef = true) (h2 : y.isRef = true) (hd : decode c.code pc = .ok (.if_acmp cd o, 3)) (hq : decide (x = y) = same) (ho : 0 ≤ (pc : Int) + o) (hp : pc' = if acV cd same = true then ((pc : Int) + o).toNat else pc + 3) (h : Goes p e below s C S Q T (mkF m pc' Ls rest)) : Goes p e below s C S Q T (mkF m pc Ls (y :: x :: rest)) :=
  Goes.go (fun _ k => Jvm.RoadKit.acmp (g := mkF m pc Ls (y :: x :: rest)) X hx rfl h1 h2 rfl hd rfl hq ho hp k) h
theorem own_ifnullY (X : Stand p l e R s m args below meth c T locs cells slots) (hx : p.tables.exec = Jvm.exec) (pc' : Nat) {o : Int} (hd : decode c.code pc = .ok (.ifnull o, 3)) (ho : 0 ≤ (pc : Int) + o) (hp : ((pc : Int) + o).toNat = pc') (h : Goes p e below s C S Q T (mkF m pc' Ls rest)) : Goes p e below s C S Q T (mkF m pc Ls (.null :: rest)) :=
  Goes.go (fun _ k => XS.ifnullYes X.here hx rfl rfl hd rfl ho hp k) h
theorem own_ifnullN (X : Stand p l e R s m args below meth c T locs cells slots) (hx : p.tables.exec = Jvm.exec) (pc' : Nat) {o : Int} {b : Addr} (hd : decode c.code pc = .ok (.ifnull o, 3)) (hp : pc + 3 = pc') (h : Goes p e below s C S Q T (mkF m pc' Ls rest)) : Goes p e below s C S Q T (mkF m pc Ls (.ref b :: rest)) := by
  subst hp; exact Goes.go (fun _ k => XS.ifnullNo X.here hx rfl hd rfl k) h
theorem own_ifnonnullY (X : Stand p l e R s m args below meth c T locs cells slots) (hx : p.tables.exec = Jvm.exec) (pc' : Nat) {o : Int} {b : Addr} (hd : decode c.code pc = .ok (.ifnonnull o, 3)) (ho : 0 ≤ (pc : Int) + o) (hp : ((pc : Int) + o).toNat = pc') (h : Goes p e below s C S Q T (mkF m pc' Ls rest)) : Goes p e below s C S Q T (mkF m pc Ls (.ref b :: rest)) :=
  Goes.go (fun _ k => XS.ifnonnullYes X.here hx rfl rfl hd rfl ho hp k) h
theorem own_ifnonnullN (X : Stand p l e R s m args below meth c T locs cells slots) (hx : p.tables.exec = Jvm.exec) (pc' : Nat) {o : Int} (hd : decode c.code pc = .ok (.ifnonnull o, 3)) (hp : pc + 3 = pc') (h : Goes p e below s C S Q T (mkF m pc' Ls rest)) : Goes p e below s C S Q T (mkF m pc Ls (.null :: rest)) := by
  subst hp; exact Goes.go (fun _ k => XS.ifnonnullNo X.here hx rfl hd rfl k) h
end Steps1
/-- the branches on a long comparison -/
theorem Ltlt {x y : Int64} (h : x < y) : ifCond.holds .lt (lcmpW x y) = true ∧ ifCond.holds .ge (lcmpW x y) = false ∧ ifCond.holds .gt (lcmpW y x) = true ∧ ifCond.holds .le (lcmpW y x) = false :=
  ⟨(if0 _ _).trans (tlt ((lw_lt x y).mpr h)).1, (if0 _ _).trans (tlt ((lw_lt x y).mpr h)).2.1, (if0 _ _).trans (tlt ((lw_gt y x).mpr h)).2.2.1, (if0 _ _).trans (tlt ((lw_gt y x).mpr h)).2.2.2⟩
theorem Lflt {x y : Int64} (h : ¬ x < y) : ifCond.holds .lt (lcmpW x y) = false ∧ ifCond.holds .ge (lcmpW x y) = true ∧ ifCond.holds .gt (lcmpW y x) = false ∧ ifCond.holds .le (lcmpW y x) = true :=
  ⟨(if0 _ _).trans (flt fun q => h ((lw_lt x y).mp q)).1, (if0 _ _).trans (flt fun q => h ((lw_lt x y).mp q)).2.1, (if0 _ _).trans (flt fun q => h ((lw_gt y x).mp q)).2.2.1, (if0 _ _).trans (flt fun q => h ((lw_gt y x).mp q)).2.2.2⟩
theorem Lteq {x y : Int64} (h : x = y) : ifCond.holds .eq (lcmpW x y) = true ∧ ifCond.holds .ne (lcmpW x y) = false :=
  ⟨(if0 _ _).trans (teq ((lw_eq x y).mpr h)).1, (if0 _ _).trans (teq ((lw_eq x y).mpr h)).2⟩
theorem Lfeq {x y : Int64} (h : ¬ x = y) : ifCond.holds .eq (lcmpW x y) = false ∧ ifCond.holds .ne (lcmpW x y) = true :=
  ⟨(if0 _ _).trans (feq fun q => h ((lw_eq x y).mp q)).1, (if0 _ _).trans (feq fun q => h ((lw_eq x y).mp q)).2⟩
theorem Ztlt {x y : Int32} (h : x < y) : if_icmp.holds .lt x y = true ∧ if_icmp.holds .ge x y = false ∧ if_icmp.holds .gt y x = true ∧ if_icmp.holds .le y x = false := tlt h
/-- the pieces of a memory fact -/
theorem own_lt_ne {a b n : Nat} (h : a < n) (g : b = n) : a ≠ b := by omega
end Own
theorem own_eqv {args : Array Value} {s : State} {t u : Term} {v : Value} (hu : u.eval args s none [] s = some v) (h : (Jvm.Cond.eq t u).value args s none s [] = some true) : t.eval args s none [] s = some v := by
  cases ht : t.eval args s none [] s with
  | none => simp [Cond.value, ht] at h
  | some x =>
    simp only [Cond.value, ht, hu] at h
    cases x <;> cases v <;> simp_all
theorem own_fldv {args : Array Value} {s : State} {t u : Term} {a : Addr} {C n d : String} {v : Value} (ev : t.eval args s none [] s = some (.ref a)) (hu : u.eval args s none [] s = some v) (h : (Jvm.Cond.eq (Term.field t C n d) u).value args s none s [] = some true) : s.fieldOf? a C n d = some v :=
  (fld_at ev).symm.trans (own_eqv hu h)
theorem own_sta_keep {Z : State} {h h' : Heap} {C n d : String} {v : Value} {ws : List Addr} (F : Sta Z h C n d v) (K : Keep h h' ws) (q : ∀ x ∈ ws, ∀ cell : Cell, h[x]? = some cell → cell.vm.isStatics = false) : Sta Z h' C n d v := by
  obtain ⟨cf, i, k, f, st, cell, h1, h2, h3, h4, h5, h6, h7⟩ := F
  refine ⟨cf, i, k, f, st, cell, h1, h2, h3, h4, K.2.1 _ _ h5 (fun hm => ?_), h6, h7⟩
  have q1 := q _ hm cell h5
  rw [h6] at q1; cases q1
theorem own_eplain {Z : State} {h : Heap} {a : Addr} {C : String} (F : Exa Z h a C) : ∀ cell : Cell, h[a]? = some cell → cell.vm.isStatics = false := fun cell hc => by
  obtain ⟨c, k, h1, -, -, h4, -⟩ := F; cases h1.symm.trans hc; exact h4
theorem own_rplain {Z : State} {h : Heap} {a : Addr} {c : Cell} {ty : FieldType} (F : Arr Z h a c ty) : ∀ cell : Cell, h[a]? = some cell → cell.vm.isStatics = false := fun cell hc => by
  cases F.1.symm.trans hc; exact F.plain
theorem own_aplain {Z : State} {h : Heap} {a : Addr} {k : ClassId} {ty : FieldType} {n : Int32} {vs : List Value} {dv : Value} (F : Arv Z h a k ty n vs dv) : ∀ cell : Cell, h[a]? = some cell → cell.vm.isStatics = false := by
  obtain ⟨c, A, -⟩ := F; exact own_rplain A
theorem own_selP {s : State} {args : Array Value} {y : MethodName} {n : Nat} (wi : (Jvm.Cond.instantiable y.cls n).before args s = true) (wp : (Jvm.Cond.privateMethod y).before args s = true) (wn : (Jvm.Cond.instanceMethod y).before args s = true) (hy : y.cls ≠ "java/lang/invoke/MethodHandle" ∧ y.cls ≠ "java/lang/invoke/VarHandle") : (Jvm.Cond.selects y.cls y y).before args s = true := by
  obtain ⟨c, k, hc, hk, -, hniab, -, -⟩ := Cond.instantiable_spec wi
  exact Jvm.Stand.selects_self_of_private hc hk (Bool.or_eq_false_iff.mp hniab).1 (Cond.privateMethod_at wp) wn hy
theorem own_mod6 (x r : Int32) (h : r = ((x &&& (2147483647 : Int32)) % (6 : Int32))) : r = (0 : Int32) ∨ r = (1 : Int32) ∨ r = (2 : Int32) ∨ r = (3 : Int32) ∨ r = (4 : Int32) ∨ r = (5 : Int32) := by
  have hm : (x &&& (2147483647 : Int32)).toInt = x.toInt % 2147483648 := c_mask x (2147483647 : Int32) 31 (by decide) (by decide)
  have hr := (c_irem (x &&& (2147483647 : Int32)) (6 : Int32) 6 (by decide)).1 (by omega)
  have e0 : (0 : Int32).toInt = 0 := by decide
  have e1 : (1 : Int32).toInt = 1 := by decide
  have e2 : (2 : Int32).toInt = 2 := by decide
  have e3 : (3 : Int32).toInt = 3 := by decide
  have e4 : (4 : Int32).toInt = 4 := by decide
  have e5 : (5 : Int32).toInt = 5 := by decide
  rw [← h] at hr
  simp only [← Int32.toInt_inj, e0, e1, e2, e3, e4, e5]; omega
theorem own_same (now P q : Int64) : ((now + P) - (now + q)) = (P - q) := by
  have h1 := c_ladd now P
  have h2 := c_ladd now q
  have h3 := c_lsub (now + P) (now + q)
  have h4 := c_lsub P q
  have r1 := rng64 ((now + P) - (now + q))
  have r2 := rng64 (P - q)
  rw [← Int64.toInt_inj]; omega
theorem own_fin {now P q r t : Int64} (h1 : (r = ((now + P) - (now + q)) ∧ (0 : Int64) < ((now + P) - (now + q))) ∨ (r = (0 : Int64) ∧ ¬ (0 : Int64) < ((now + P) - (now + q)))) (h2 : (t = (P - q) ∧ (0 : Int64) < (P - q)) ∨ (t = (0 : Int64) ∧ ¬ (0 : Int64) < (P - q))) : r = t := by
  rw [own_same] at h1
  rcases h1 with h1 | h1 <;> rcases h2 with h2 | h2
  · rw [h1.1, h2.1]
  · exact absurd h1.2 h2.2
  · exact absurd h2.2 h1.2
  · rw [h1.1, h2.1]
theorem own_d1_0 : decode prog_23_method_1_code 0 = .ok (.aload_n 0, 1) := by decide +kernel
theorem own_d1_1 : decode prog_23_method_1_code 1 = .ok (.invokespecial 1, 3) := by decide +kernel
theorem own_d1_4 : decode prog_23_method_1_code 4 = .ok (.return_, 1) := by decide +kernel
theorem own_pn_com_example_pooler_pooler_pool_Backoff : plainName "com/example/pooler/pooler/pool/Backoff" = true := by first | (simp [plainName, overriddenIn]; done) | decide +kernel
def Q1 (Z : State) (bt : Addr) (h0 : Heap) (n0 : Nat) (v : Option Value) (h : Heap) (L : List Loc) : Prop := v = none ∧ Fr n0 L ∧ h = h0
set_option maxRecDepth 65536 in
set_option maxHeartbeats 40000000 in
theorem rm1 (l : Launch) (Z : State) (a0 : Array Value) (hw : ∀ d ∈ tables_1, d.before a0 Z = true) (ws : List Jvm.Cond) (bt : Addr) (h0 : Heap) (n0 : Nat) (Z0 : n0 ≤ h0.size)  :
    MetFree l (⟨"com/example/pooler/pooler/pool/Backoff", "<init>", "()V"⟩ : MethodName) (head1 (Jvm.Cond.code (⟨"com/example/pooler/pooler/pool/Backoff", "<init>", "()V"⟩ : MethodName) prog_23_method_1_code 1 none :: ws) ({ frames := 1, cells := 0, slots := 0, locals := 12 } : Room)) (fun a U => a = #[(.ref bt)] ∧ Z.Warmed39 U.vm ∧ U.heap = h0) (fun _ _ _ _ _ => True) (fun _ U o U' => ∃ v L, o = .returned v ∧ Q1 Z bt h0 n0 v U'.heap L ∧ FrameEnd U o U' L ({ frames := 1, cells := 0, slots := 0, locals := 12 } : Room).cells ({ frames := 1, cells := 0, slots := 0, locals := 12 } : Room).slots) := by
  refine MetFree.of_bodySF (plainFor_of_name own_pn_com_example_pooler_pooler_pool_Backoff) hisR ?_
  intro p e s m args below meth c s₁ Bd hml0 hP hK
  obtain ⟨rfl, hZ, hh⟩ := hP
  have hx := Bd.exec
  have hby := Bd.bytes
  have hml : c.maxLocals = 1 := hml0
  have hlk := Bd.notSynchronized
  have hown : s.vm.findClass "com/example/pooler/pooler/pool/Backoff" = some m.cls := findClass_of_methodNamed Bd.named
  have hnm := (name_of_methodNamed Bd.named Bd.method).1
  have X0 : Stand p l e ({ frames := 1, cells := 0, slots := 0, locals := 12 } : Room) s m #[(.ref bt)] below meth c s₁ [] 0 0 := Stand.of_body Bd
  have e0 : s₁.heap = h0 := by rw [← hh, Bd.state]; rfl
  have N0 := Fr.nil n0
  refine own_enter (Q := Q1 Z bt h0 n0) (Ls := #[.val (.ref bt)]) (by first | rfl | (simp [entryFrame, mkF, argsToLocals, Value.category]; done)) ?_
  refine own_aloadN X0 hx 1 rfl (hb hby own_d1_0) rfl rfl ?_
  obtain ⟨T1, X1, e1, st1⟩ := initO X0 hx hZ hown (hw _ (List.mem_of_getElem? (i := 7) rfl)) (hw _ (List.mem_of_getElem? (i := 8) rfl)) (hw _ (List.mem_of_getElem? (i := 9) rfl)) e0 (g := (mkF m 1 #[.val (.ref bt)] [(.ref bt)])) rfl (by rw [hml]; rfl) rfl (hb hby own_d1_1) (by decide) (W := 0) (by show 2 * 0 + _ ≤ _; exact Nat.le_of_eq rfl) (by decide)
  refine Goes.go st1 ?_
  show Goes p e below s _ _ _ T1 (mkF m 4 #[.val (.ref bt)] [])
  refine own_retV X1 hx hlk Bd.returns (hb hby own_d1_4) (by decide) (by decide) e1 ?_
  exact ⟨rfl, N0, rfl⟩
theorem own_d4_0 : decode prog_23_method_5_code 0 = .ok (.aload_n 0, 1) := by decide +kernel
theorem own_d4_1 : decode prog_23_method_5_code 1 = .ok (.iconst 1, 1) := by decide +kernel
theorem own_d4_2 : decode prog_23_method_5_code 2 = .ok (.putfield 7, 3) := by decide +kernel
theorem own_d4_5 : decode prog_23_method_5_code 5 = .ok (.aload_n 0, 1) := by decide +kernel
theorem own_d4_6 : decode prog_23_method_5_code 6 = .ok (.lload_n 1, 1) := by decide +kernel
theorem own_d4_7 : decode prog_23_method_5_code 7 = .ok (.putfield 13, 3) := by decide +kernel
theorem own_d4_10 : decode prog_23_method_5_code 10 = .ok (.return_, 1) := by decide +kernel
def Q4 (Z : State) (bt : Addr) (be : Int64) (bu : Int32) (bo : Int64) (bf : Int32) (h0 : Heap) (n0 : Nat) (v : Option Value) (h : Heap) (L : List Loc) : Prop := v = none ∧ Fr n0 L ∧ Keep h0 h [bt] ∧ Fld Z h bt "com/example/pooler/pooler/pool/Backoff" "tried" "Z" (.int (1 : Int32)) ∧ Fld Z h bt "com/example/pooler/pooler/pool/Backoff" "endedAt" "J" (.long be) ∧ Fld Z h bt "com/example/pooler/pooler/pool/Backoff" "failuresInARow" "I" (.int bf)
set_option maxRecDepth 65536 in
set_option maxHeartbeats 40000000 in
theorem rm4 (l : Launch) (Z : State) (a0 : Array Value) (hw : ∀ d ∈ tables_1, d.before a0 Z = true) (ws : List Jvm.Cond) (bt : Addr) (be : Int64) (bu : Int32) (bo : Int64) (bf : Int32) (h0 : Heap) (n0 : Nat) (Z0 : n0 ≤ h0.size) (EB : Exa Z h0 bt "com/example/pooler/pooler/pool/Backoff") (gb : n0 ≤ bt) (Ft : Fld Z h0 bt "com/example/pooler/pooler/pool/Backoff" "tried" "Z" (.int bu)) (Fe : Fld Z h0 bt "com/example/pooler/pooler/pool/Backoff" "endedAt" "J" (.long bo)) (Ff : Fld Z h0 bt "com/example/pooler/pooler/pool/Backoff" "failuresInARow" "I" (.int bf)) :
    MetFree l (⟨"com/example/pooler/pooler/pool/Backoff", "ended", "(J)V"⟩ : MethodName) (head1 (Jvm.Cond.code (⟨"com/example/pooler/pooler/pool/Backoff", "ended", "(J)V"⟩ : MethodName) prog_23_method_5_code 3 none :: ws) ({ frames := 0, cells := 0, slots := 0, locals := 0 } : Room)) (fun a U => a = #[(.ref bt), (.long be)] ∧ Z.Warmed39 U.vm ∧ U.heap = h0) (fun _ _ _ _ _ => True) (fun _ U o U' => ∃ v L, o = .returned v ∧ Q4 Z bt be bu bo bf h0 n0 v U'.heap L ∧ FrameEnd U o U' L ({ frames := 0, cells := 0, slots := 0, locals := 0 } : Room).cells ({ frames := 0, cells := 0, slots := 0, locals := 0 } : Room).slots) := by
  refine MetFree.of_bodySF (plainFor_of_name own_pn_com_example_pooler_pooler_pool_Backoff) hisR ?_
  intro p e s m args below meth c s₁ Bd hml0 hP hK
  obtain ⟨rfl, hZ, hh⟩ := hP
  have hx := Bd.exec
  have hby := Bd.bytes
  have hml : c.maxLocals = 3 := hml0
  have hlk := Bd.notSynchronized
  have hown : s.vm.findClass "com/example/pooler/pooler/pool/Backoff" = some m.cls := findClass_of_methodNamed Bd.named
  have hnm := (name_of_methodNamed Bd.named Bd.method).1
  have X0 : Stand p l e ({ frames := 0, cells := 0, slots := 0, locals := 0 } : Room) s m #[(.ref bt), (.long be)] below meth c s₁ [] 0 0 := Stand.of_body Bd
  have e0 : s₁.heap = h0 := by rw [← hh, Bd.state]; rfl
  have N0 := Fr.nil n0
  have K0 : Keep h0 h0 [bt] := Keep.refl _ _
  refine own_enter (Q := Q4 Z bt be bu bo bf h0 n0) (Ls := #[.val (.ref bt), .val (.long be), .second]) (by first | rfl | (simp [entryFrame, mkF, argsToLocals, Value.category]; done)) ?_
  refine own_aloadN X0 hx 1 rfl (hb hby own_d4_0) rfl rfl ?_
  refine own_iconst X0 hx 2 rfl (1 : Int32) (hb hby own_d4_1) (by decide) ?_
  obtain ⟨T1, h1, X1, e1, W1, st1⟩ := putFN X0 hx hZ hown (hw _ (List.mem_of_getElem? (i := 19) rfl)) Via.refl e0 Ft EB (Or.inl (hw _ (List.mem_of_getElem? (i := 20) rfl))) (hw _ (List.mem_of_getElem? (i := 2) rfl)) (ty := .boolean) (v' := (.int (1 : Int32))) (by decide) rfl (by decide) (g := (mkF m 2 #[.val (.ref bt), .val (.long be), .second] [(.int (1 : Int32)), (.ref bt)])) rfl rfl (hb hby own_d4_2)
  have N1 := Fr.snoc X1 N0 gb
  have f2 := EB.wr W1
  have f3 := Ft.same W1
  have f4 := Fe.other W1 (Or.inr (slot_ne (Or.inl (hw _ (List.mem_of_getElem? (i := 22) rfl))) (Or.inl (hw _ (List.mem_of_getElem? (i := 20) rfl))) (by decide) (t := .long) (t' := .boolean) (by decide) (by decide)))
  have f5 := Ff.other W1 (Or.inr (slot_ne (Or.inl (hw _ (List.mem_of_getElem? (i := 24) rfl))) (Or.inl (hw _ (List.mem_of_getElem? (i := 20) rfl))) (by decide) (t := .int) (t' := .boolean) (by decide) (by decide)))
  have K1 := K0.wr W1 (Or.inl (List.mem_of_getElem? (i := 0) rfl))
  have Z1 := Nat.le_trans Z0 (Nat.le_of_eq W1.size.symm)
  refine Goes.go st1 ?_
  show Goes p e below s _ _ _ T1 (mkF m 5 #[.val (.ref bt), .val (.long be), .second] [])
  refine own_aloadN X1 hx 6 rfl (hb hby own_d4_5) rfl rfl ?_
  refine own_lloadN X1 hx 7 rfl (hb hby own_d4_6) rfl ?_
  obtain ⟨T6, h6, X6, e6, W6, st6⟩ := putF X1 hx hZ hown (host := "") (Or.inl (hw _ (List.mem_of_getElem? (i := 21) rfl))) Via.refl e1 f4 f2 (Or.inl (hw _ (List.mem_of_getElem? (i := 22) rfl))) (hw _ (List.mem_of_getElem? (i := 2) rfl)) (ty := .long) (by decide) rfl rfl (g := (mkF m 7 #[.val (.ref bt), .val (.long be), .second] [(.long be), (.ref bt)])) rfl rfl (hb hby own_d4_7)
  have N6 := Fr.snoc X6 N1 gb
  have f7 := f2.wr W6
  have f8 := f3.other W6 (Or.inr (slot_ne (Or.inl (hw _ (List.mem_of_getElem? (i := 20) rfl))) (Or.inl (hw _ (List.mem_of_getElem? (i := 22) rfl))) (by decide) (t := .boolean) (t' := .long) (by decide) (by decide)))
  have f9 := f4.same W6
  have f10 := f5.other W6 (Or.inr (slot_ne (Or.inl (hw _ (List.mem_of_getElem? (i := 24) rfl))) (Or.inl (hw _ (List.mem_of_getElem? (i := 22) rfl))) (by decide) (t := .int) (t' := .long) (by decide) (by decide)))
  have K6 := K1.wr W6 (Or.inl (List.mem_of_getElem? (i := 0) rfl))
  have Z6 := Nat.le_trans Z1 (Nat.le_of_eq W6.size.symm)
  refine Goes.go st6 ?_
  show Goes p e below s _ _ _ T6 (mkF m 10 #[.val (.ref bt), .val (.long be), .second] [])
  refine own_retV X6 hx hlk Bd.returns (hb hby own_d4_10) (by decide) (by decide) e6 ?_
  exact ⟨rfl, N6, K6, f8, f9, f10⟩
theorem own_pd0 : parseMethodDescriptor "(J)V" = some ⟨[.long], none⟩ := by decide +kernel
theorem own_d3_0 : decode prog_23_method_4_code 0 = .ok (.aload_n 0, 1) := by decide +kernel
theorem own_d3_1 : decode prog_23_method_4_code 1 = .ok (.lload_n 1, 1) := by decide +kernel
theorem own_d3_2 : decode prog_23_method_4_code 2 = .ok (.invokevirtual 27, 3) := by decide +kernel
theorem own_d3_5 : decode prog_23_method_4_code 5 = .ok (.aload_n 0, 1) := by decide +kernel
theorem own_d3_6 : decode prog_23_method_4_code 6 = .ok (.dup, 1) := by decide +kernel
theorem own_d3_7 : decode prog_23_method_4_code 7 = .ok (.getfield 31, 3) := by decide +kernel
theorem own_d3_10 : decode prog_23_method_4_code 10 = .ok (.iconst 1, 1) := by decide +kernel
theorem own_d3_11 : decode prog_23_method_4_code 11 = .ok (.iadd, 1) := by decide +kernel
theorem own_d3_12 : decode prog_23_method_4_code 12 = .ok (.putfield 31, 3) := by decide +kernel
theorem own_d3_15 : decode prog_23_method_4_code 15 = .ok (.return_, 1) := by decide +kernel
def Qfa0 (Z : State) (bt : Addr) (be : Int64) (bu : Int32) (bo : Int64) (h0 : Heap) (n0 : Nat) (v : Option Value) (h : Heap) (L : List Loc) : Prop := v = none ∧ Fr n0 L ∧ Keep h0 h [bt] ∧ Fld Z h bt "com/example/pooler/pooler/pool/Backoff" "tried" "Z" (.int (1 : Int32)) ∧ Fld Z h bt "com/example/pooler/pooler/pool/Backoff" "endedAt" "J" (.long be) ∧ Fld Z h bt "com/example/pooler/pooler/pool/Backoff" "failuresInARow" "I" (.int (1 : Int32))
set_option maxRecDepth 65536 in
set_option maxHeartbeats 40000000 in
theorem rmfa0 (l : Launch) (Z : State) (a0 : Array Value) (hw : ∀ d ∈ tables_1, d.before a0 Z = true) (ws : List Jvm.Cond) (bt : Addr) (be : Int64) (bu : Int32) (bo : Int64) (h0 : Heap) (n0 : Nat) (Z0 : n0 ≤ h0.size) (EB : Exa Z h0 bt "com/example/pooler/pooler/pool/Backoff") (gb : n0 ≤ bt) (Ft : Fld Z h0 bt "com/example/pooler/pooler/pool/Backoff" "tried" "Z" (.int bu)) (Fe : Fld Z h0 bt "com/example/pooler/pooler/pool/Backoff" "endedAt" "J" (.long bo)) (Ff : Fld Z h0 bt "com/example/pooler/pooler/pool/Backoff" "failuresInARow" "I" (.int (0 : Int32))) :
    MetFree l (⟨"com/example/pooler/pooler/pool/Backoff", "failed", "(J)V"⟩ : MethodName) (head1 (Jvm.Cond.code (⟨"com/example/pooler/pooler/pool/Backoff", "failed", "(J)V"⟩ : MethodName) prog_23_method_4_code 3 none :: ws) ({ frames := 1, cells := 0, slots := 0, locals := 14 } : Room)) (fun a U => a = #[(.ref bt), (.long be)] ∧ Z.Warmed39 U.vm ∧ U.heap = h0) (fun _ _ _ _ _ => True) (fun _ U o U' => ∃ v L, o = .returned v ∧ Qfa0 Z bt be bu bo h0 n0 v U'.heap L ∧ FrameEnd U o U' L ({ frames := 1, cells := 0, slots := 0, locals := 14 } : Room).cells ({ frames := 1, cells := 0, slots := 0, locals := 14 } : Room).slots) := by
  refine MetFree.of_bodySF (plainFor_of_name own_pn_com_example_pooler_pooler_pool_Backoff) hisR ?_
  intro p e s m args below meth c s₁ Bd hml0 hP hK
  obtain ⟨rfl, hZ, hh⟩ := hP
  have hx := Bd.exec
  have hby := Bd.bytes
  have hml : c.maxLocals = 3 := hml0
  have hlk := Bd.notSynchronized
  have hown : s.vm.findClass "com/example/pooler/pooler/pool/Backoff" = some m.cls := findClass_of_methodNamed Bd.named
  have hnm := (name_of_methodNamed Bd.named Bd.method).1
  have X0 : Stand p l e ({ frames := 1, cells := 0, slots := 0, locals := 14 } : Room) s m #[(.ref bt), (.long be)] below meth c s₁ [] 0 0 := Stand.of_body Bd
  have e0 : s₁.heap = h0 := by rw [← hh, Bd.state]; rfl
  have N0 := Fr.nil n0
  have K0 : Keep h0 h0 [bt] := Keep.refl _ _
  refine own_enter (Q := Qfa0 Z bt be bu bo h0 n0) (Ls := #[.val (.ref bt), .val (.long be), .second]) (by first | rfl | (simp [entryFrame, mkF, argsToLocals, Value.category]; done)) ?_
  refine own_aloadN X0 hx 1 rfl (hb hby own_d3_0) rfl rfl ?_
  refine own_lloadN X0 hx 2 rfl (hb hby own_d3_1) rfl ?_
  obtain ⟨cq1, q1, q1'⟩ := EB.cell
  obtain ⟨_, _, ⟨T1, L1, k1, n1⟩, -, X1, ⟨Lc1, hQ1, l1, y1, z1⟩, st1⟩ := X0.privateBack hx (y := (⟨"com/example/pooler/pooler/pool/Backoff", "ended", "(J)V"⟩ : MethodName)) hown (mvT hZ (hw _ (List.mem_of_getElem? (i := 15) rfl))) (mvT hZ (hw _ (List.mem_of_getElem? (i := 16) rfl))) (own_selP (mvT hZ (hw _ (List.mem_of_getElem? (i := 2) rfl))) (mvP hZ (hw _ (List.mem_of_getElem? (i := 17) rfl))) (mvT hZ (hw _ (List.mem_of_getElem? (i := 16) rfl))) (by decide)) (Cond.privateMethod_at (mvP hZ (hw _ (List.mem_of_getElem? (i := 17) rfl)) (args := #[]))) (mvT hZ (hw _ (List.mem_of_getElem? (i := 18) rfl))) (by decide) (backOf (W := 0) (rm4 l Z a0 hw [] bt be bu bo (0 : Int32) h0 n0 Z0 EB gb Ft Fe Ff) hZ (hw _ (List.mem_of_getElem? (i := 18) rfl)) (hw _ (List.mem_of_getElem? (i := 3) rfl)) (by decide) (by decide)) (g := (mkF m 2 #[.val (.ref bt), .val (.long be), .second] [(.long be), (.ref bt)])) rfl (by rw [hml]; rfl) (Steps.refl _) (a := bt) (by rw [e0]; exact q1) q1' (argsL := [(.long be)]) (rest := []) (lenOf own_pd0 rfl) rfl (by show 2 * 0 + _ ≤ _; exact Nat.le_of_eq rfl) (hb hby own_d3_2) (fun _ _ => ⟨rfl, e0, (by decide : 0 + 0 ≤ _), (by decide : 0 + 0 ≤ _)⟩)
  dsimp only [Pt.U, Pt.locs, Pt.cells, Pt.slots] at X1 l1 y1 z1 st1 hQ1
  subst l1 y1 z1
  obtain ⟨rfl, N1q, K1q, f1_0, f1_1, f1_2⟩ := hQ1
  have N1 := Fr.app N0 N1q
  have f2 := EB.keep K1q
  have K1 := K0.trans K1q (allS (Or.inl (List.mem_of_getElem? (i := 0) rfl)) all0)
  have Z1 := Nat.le_trans Z0 K1q.1
  refine Goes.tr st1 ?_
  show Goes p e below s _ _ _ T1 (mkF m 5 #[.val (.ref bt), .val (.long be), .second] [])
  refine own_aloadN X1 hx 6 rfl (hb hby own_d3_5) rfl rfl ?_
  refine own_dup X1 hx 7 rfl (hb hby own_d3_6) rfl ?_
  obtain ⟨T3, X3, e3, st3⟩ := getF X1 hx hZ hown (host := "") (Or.inl (hw _ (List.mem_of_getElem? (i := 23) rfl))) Via.refl rfl f1_2 (g := (mkF m 7 #[.val (.ref bt), .val (.long be), .second] [(.ref bt), (.ref bt)])) rfl rfl (hb hby own_d3_7)
  refine Goes.go st3 ?_
  show Goes p e below s _ _ _ T3 (mkF m 10 #[.val (.ref bt), .val (.long be), .second] [(.int (0 : Int32)), (.ref bt)])
  refine own_iconst X3 hx 11 rfl (1 : Int32) (hb hby own_d3_10) (by decide) ?_
  refine own_iadd X3 hx 12 rfl (z := (1 : Int32)) (hb hby own_d3_11) (by decide) ?_
  obtain ⟨T4, h4, X4, e4, W4, st4⟩ := putF X3 hx hZ hown (host := "") (Or.inl (hw _ (List.mem_of_getElem? (i := 23) rfl))) Via.refl e3 f1_2 f2 (Or.inl (hw _ (List.mem_of_getElem? (i := 24) rfl))) (hw _ (List.mem_of_getElem? (i := 2) rfl)) (ty := .int) (by decide) rfl rfl (g := (mkF m 12 #[.val (.ref bt), .val (.long be), .second] [(.int (1 : Int32)), (.ref bt)])) rfl rfl (hb hby own_d3_12)
  have N4 := Fr.snoc X4 N1 gb
  have f5 := f2.wr W4
  have f6 := f1_0.other W4 (Or.inr (slot_ne (Or.inl (hw _ (List.mem_of_getElem? (i := 20) rfl))) (Or.inl (hw _ (List.mem_of_getElem? (i := 24) rfl))) (by decide) (t := .boolean) (t' := .int) (by decide) (by decide)))
  have f7 := f1_1.other W4 (Or.inr (slot_ne (Or.inl (hw _ (List.mem_of_getElem? (i := 22) rfl))) (Or.inl (hw _ (List.mem_of_getElem? (i := 24) rfl))) (by decide) (t := .long) (t' := .int) (by decide) (by decide)))
  have f8 := f1_2.same W4
  have K4 := K1.wr W4 (Or.inl (List.mem_of_getElem? (i := 0) rfl))
  have Z4 := Nat.le_trans Z1 (Nat.le_of_eq W4.size.symm)
  refine Goes.go st4 ?_
  show Goes p e below s _ _ _ T4 (mkF m 15 #[.val (.ref bt), .val (.long be), .second] [])
  refine own_retV X4 hx hlk Bd.returns (hb hby own_d3_15) (by decide) (by decide) e4 ?_
  exact ⟨rfl, N4, K4, f6, f7, f8⟩
def Qfa1 (Z : State) (bt : Addr) (be : Int64) (bu : Int32) (bo : Int64) (h0 : Heap) (n0 : Nat) (v : Option Value) (h : Heap) (L : List Loc) : Prop := v = none ∧ Fr n0 L ∧ Keep h0 h [bt] ∧ Fld Z h bt "com/example/pooler/pooler/pool/Backoff" "tried" "Z" (.int (1 : Int32)) ∧ Fld Z h bt "com/example/pooler/pooler/pool/Backoff" "endedAt" "J" (.long be) ∧ Fld Z h bt "com/example/pooler/pooler/pool/Backoff" "failuresInARow" "I" (.int (2 : Int32))
set_option maxRecDepth 65536 in
set_option maxHeartbeats 40000000 in
theorem rmfa1 (l : Launch) (Z : State) (a0 : Array Value) (hw : ∀ d ∈ tables_1, d.before a0 Z = true) (ws : List Jvm.Cond) (bt : Addr) (be : Int64) (bu : Int32) (bo : Int64) (h0 : Heap) (n0 : Nat) (Z0 : n0 ≤ h0.size) (EB : Exa Z h0 bt "com/example/pooler/pooler/pool/Backoff") (gb : n0 ≤ bt) (Ft : Fld Z h0 bt "com/example/pooler/pooler/pool/Backoff" "tried" "Z" (.int bu)) (Fe : Fld Z h0 bt "com/example/pooler/pooler/pool/Backoff" "endedAt" "J" (.long bo)) (Ff : Fld Z h0 bt "com/example/pooler/pooler/pool/Backoff" "failuresInARow" "I" (.int (1 : Int32))) :
    MetFree l (⟨"com/example/pooler/pooler/pool/Backoff", "failed", "(J)V"⟩ : MethodName) (head1 (Jvm.Cond.code (⟨"com/example/pooler/pooler/pool/Backoff", "failed", "(J)V"⟩ : MethodName) prog_23_method_4_code 3 none :: ws) ({ frames := 1, cells := 0, slots := 0, locals := 14 } : Room)) (fun a U => a = #[(.ref bt), (.long be)] ∧ Z.Warmed39 U.vm ∧ U.heap = h0) (fun _ _ _ _ _ => True) (fun _ U o U' => ∃ v L, o = .returned v ∧ Qfa1 Z bt be bu bo h0 n0 v U'.heap L ∧ FrameEnd U o U' L ({ frames := 1, cells := 0, slots := 0, locals := 14 } : Room).cells ({ frames := 1, cells := 0, slots := 0, locals := 14 } : Room).slots) := by
  refine MetFree.of_bodySF (plainFor_of_name own_pn_com_example_pooler_pooler_pool_Backoff) hisR ?_
  intro p e s m args below meth c s₁ Bd hml0 hP hK
  obtain ⟨rfl, hZ, hh⟩ := hP
  have hx := Bd.exec
  have hby := Bd.bytes
  have hml : c.maxLocals = 3 := hml0
  have hlk := Bd.notSynchronized
  have hown : s.vm.findClass "com/example/pooler/pooler/pool/Backoff" = some m.cls := findClass_of_methodNamed Bd.named
  have hnm := (name_of_methodNamed Bd.named Bd.method).1
  have X0 : Stand p l e ({ frames := 1, cells := 0, slots := 0, locals := 14 } : Room) s m #[(.ref bt), (.long be)] below meth c s₁ [] 0 0 := Stand.of_body Bd
  have e0 : s₁.heap = h0 := by rw [← hh, Bd.state]; rfl
  have N0 := Fr.nil n0
  have K0 : Keep h0 h0 [bt] := Keep.refl _ _
  refine own_enter (Q := Qfa1 Z bt be bu bo h0 n0) (Ls := #[.val (.ref bt), .val (.long be), .second]) (by first | rfl | (simp [entryFrame, mkF, argsToLocals, Value.category]; done)) ?_
  refine own_aloadN X0 hx 1 rfl (hb hby own_d3_0) rfl rfl ?_
  refine own_lloadN X0 hx 2 rfl (hb hby own_d3_1) rfl ?_
  obtain ⟨cq1, q1, q1'⟩ := EB.cell
  obtain ⟨_, _, ⟨T1, L1, k1, n1⟩, -, X1, ⟨Lc1, hQ1, l1, y1, z1⟩, st1⟩ := X0.privateBack hx (y := (⟨"com/example/pooler/pooler/pool/Backoff", "ended", "(J)V"⟩ : MethodName)) hown (mvT hZ (hw _ (List.mem_of_getElem? (i := 15) rfl))) (mvT hZ (hw _ (List.mem_of_getElem? (i := 16) rfl))) (own_selP (mvT hZ (hw _ (List.mem_of_getElem? (i := 2) rfl))) (mvP hZ (hw _ (List.mem_of_getElem? (i := 17) rfl))) (mvT hZ (hw _ (List.mem_of_getElem? (i := 16) rfl))) (by decide)) (Cond.privateMethod_at (mvP hZ (hw _ (List.mem_of_getElem? (i := 17) rfl)) (args := #[]))) (mvT hZ (hw _ (List.mem_of_getElem? (i := 18) rfl))) (by decide) (backOf (W := 0) (rm4 l Z a0 hw [] bt be bu bo (1 : Int32) h0 n0 Z0 EB gb Ft Fe Ff) hZ (hw _ (List.mem_of_getElem? (i := 18) rfl)) (hw _ (List.mem_of_getElem? (i := 3) rfl)) (by decide) (by decide)) (g := (mkF m 2 #[.val (.ref bt), .val (.long be), .second] [(.long be), (.ref bt)])) rfl (by rw [hml]; rfl) (Steps.refl _) (a := bt) (by rw [e0]; exact q1) q1' (argsL := [(.long be)]) (rest := []) (lenOf own_pd0 rfl) rfl (by show 2 * 0 + _ ≤ _; exact Nat.le_of_eq rfl) (hb hby own_d3_2) (fun _ _ => ⟨rfl, e0, (by decide : 0 + 0 ≤ _), (by decide : 0 + 0 ≤ _)⟩)
  dsimp only [Pt.U, Pt.locs, Pt.cells, Pt.slots] at X1 l1 y1 z1 st1 hQ1
  subst l1 y1 z1
  obtain ⟨rfl, N1q, K1q, f1_0, f1_1, f1_2⟩ := hQ1
  have N1 := Fr.app N0 N1q
  have f2 := EB.keep K1q
  have K1 := K0.trans K1q (allS (Or.inl (List.mem_of_getElem? (i := 0) rfl)) all0)
  have Z1 := Nat.le_trans Z0 K1q.1
  refine Goes.tr st1 ?_
  show Goes p e below s _ _ _ T1 (mkF m 5 #[.val (.ref bt), .val (.long be), .second] [])
  refine own_aloadN X1 hx 6 rfl (hb hby own_d3_5) rfl rfl ?_
  refine own_dup X1 hx 7 rfl (hb hby own_d3_6) rfl ?_
  obtain ⟨T3, X3, e3, st3⟩ := getF X1 hx hZ hown (host := "") (Or.inl (hw _ (List.mem_of_getElem? (i := 23) rfl))) Via.refl rfl f1_2 (g := (mkF m 7 #[.val (.ref bt), .val (.long be), .second] [(.ref bt), (.ref bt)])) rfl rfl (hb hby own_d3_7)
  refine Goes.go st3 ?_
  show Goes p e below s _ _ _ T3 (mkF m 10 #[.val (.ref bt), .val (.long be), .second] [(.int (1 : Int32)), (.ref bt)])
  refine own_iconst X3 hx 11 rfl (1 : Int32) (hb hby own_d3_10) (by decide) ?_
  refine own_iadd X3 hx 12 rfl (z := (2 : Int32)) (hb hby own_d3_11) (by decide) ?_
  obtain ⟨T4, h4, X4, e4, W4, st4⟩ := putF X3 hx hZ hown (host := "") (Or.inl (hw _ (List.mem_of_getElem? (i := 23) rfl))) Via.refl e3 f1_2 f2 (Or.inl (hw _ (List.mem_of_getElem? (i := 24) rfl))) (hw _ (List.mem_of_getElem? (i := 2) rfl)) (ty := .int) (by decide) rfl rfl (g := (mkF m 12 #[.val (.ref bt), .val (.long be), .second] [(.int (2 : Int32)), (.ref bt)])) rfl rfl (hb hby own_d3_12)
  have N4 := Fr.snoc X4 N1 gb
  have f5 := f2.wr W4
  have f6 := f1_0.other W4 (Or.inr (slot_ne (Or.inl (hw _ (List.mem_of_getElem? (i := 20) rfl))) (Or.inl (hw _ (List.mem_of_getElem? (i := 24) rfl))) (by decide) (t := .boolean) (t' := .int) (by decide) (by decide)))
  have f7 := f1_1.other W4 (Or.inr (slot_ne (Or.inl (hw _ (List.mem_of_getElem? (i := 22) rfl))) (Or.inl (hw _ (List.mem_of_getElem? (i := 24) rfl))) (by decide) (t := .long) (t' := .int) (by decide) (by decide)))
  have f8 := f1_2.same W4
  have K4 := K1.wr W4 (Or.inl (List.mem_of_getElem? (i := 0) rfl))
  have Z4 := Nat.le_trans Z1 (Nat.le_of_eq W4.size.symm)
  refine Goes.go st4 ?_
  show Goes p e below s _ _ _ T4 (mkF m 15 #[.val (.ref bt), .val (.long be), .second] [])
  refine own_retV X4 hx hlk Bd.returns (hb hby own_d3_15) (by decide) (by decide) e4 ?_
  exact ⟨rfl, N4, K4, f6, f7, f8⟩
def Qfa2 (Z : State) (bt : Addr) (be : Int64) (bu : Int32) (bo : Int64) (h0 : Heap) (n0 : Nat) (v : Option Value) (h : Heap) (L : List Loc) : Prop := v = none ∧ Fr n0 L ∧ Keep h0 h [bt] ∧ Fld Z h bt "com/example/pooler/pooler/pool/Backoff" "tried" "Z" (.int (1 : Int32)) ∧ Fld Z h bt "com/example/pooler/pooler/pool/Backoff" "endedAt" "J" (.long be) ∧ Fld Z h bt "com/example/pooler/pooler/pool/Backoff" "failuresInARow" "I" (.int (3 : Int32))
set_option maxRecDepth 65536 in
set_option maxHeartbeats 40000000 in
theorem rmfa2 (l : Launch) (Z : State) (a0 : Array Value) (hw : ∀ d ∈ tables_1, d.before a0 Z = true) (ws : List Jvm.Cond) (bt : Addr) (be : Int64) (bu : Int32) (bo : Int64) (h0 : Heap) (n0 : Nat) (Z0 : n0 ≤ h0.size) (EB : Exa Z h0 bt "com/example/pooler/pooler/pool/Backoff") (gb : n0 ≤ bt) (Ft : Fld Z h0 bt "com/example/pooler/pooler/pool/Backoff" "tried" "Z" (.int bu)) (Fe : Fld Z h0 bt "com/example/pooler/pooler/pool/Backoff" "endedAt" "J" (.long bo)) (Ff : Fld Z h0 bt "com/example/pooler/pooler/pool/Backoff" "failuresInARow" "I" (.int (2 : Int32))) :
    MetFree l (⟨"com/example/pooler/pooler/pool/Backoff", "failed", "(J)V"⟩ : MethodName) (head1 (Jvm.Cond.code (⟨"com/example/pooler/pooler/pool/Backoff", "failed", "(J)V"⟩ : MethodName) prog_23_method_4_code 3 none :: ws) ({ frames := 1, cells := 0, slots := 0, locals := 14 } : Room)) (fun a U => a = #[(.ref bt), (.long be)] ∧ Z.Warmed39 U.vm ∧ U.heap = h0) (fun _ _ _ _ _ => True) (fun _ U o U' => ∃ v L, o = .returned v ∧ Qfa2 Z bt be bu bo h0 n0 v U'.heap L ∧ FrameEnd U o U' L ({ frames := 1, cells := 0, slots := 0, locals := 14 } : Room).cells ({ frames := 1, cells := 0, slots := 0, locals := 14 } : Room).slots) := by
  refine MetFree.of_bodySF (plainFor_of_name own_pn_com_example_pooler_pooler_pool_Backoff) hisR ?_
  intro p e s m args below meth c s₁ Bd hml0 hP hK
  obtain ⟨rfl, hZ, hh⟩ := hP
  have hx := Bd.exec
  have hby := Bd.bytes
  have hml : c.maxLocals = 3 := hml0
  have hlk := Bd.notSynchronized
  have hown : s.vm.findClass "com/example/pooler/pooler/pool/Backoff" = some m.cls := findClass_of_methodNamed Bd.named
  have hnm := (name_of_methodNamed Bd.named Bd.method).1
  have X0 : Stand p l e ({ frames := 1, cells := 0, slots := 0, locals := 14 } : Room) s m #[(.ref bt), (.long be)] below meth c s₁ [] 0 0 := Stand.of_body Bd
  have e0 : s₁.heap = h0 := by rw [← hh, Bd.state]; rfl
  have N0 := Fr.nil n0
  have K0 : Keep h0 h0 [bt] := Keep.refl _ _
  refine own_enter (Q := Qfa2 Z bt be bu bo h0 n0) (Ls := #[.val (.ref bt), .val (.long be), .second]) (by first | rfl | (simp [entryFrame, mkF, argsToLocals, Value.category]; done)) ?_
  refine own_aloadN X0 hx 1 rfl (hb hby own_d3_0) rfl rfl ?_
  refine own_lloadN X0 hx 2 rfl (hb hby own_d3_1) rfl ?_
  obtain ⟨cq1, q1, q1'⟩ := EB.cell
  obtain ⟨_, _, ⟨T1, L1, k1, n1⟩, -, X1, ⟨Lc1, hQ1, l1, y1, z1⟩, st1⟩ := X0.privateBack hx (y := (⟨"com/example/pooler/pooler/pool/Backoff", "ended", "(J)V"⟩ : MethodName)) hown (mvT hZ (hw _ (List.mem_of_getElem? (i := 15) rfl))) (mvT hZ (hw _ (List.mem_of_getElem? (i := 16) rfl))) (own_selP (mvT hZ (hw _ (List.mem_of_getElem? (i := 2) rfl))) (mvP hZ (hw _ (List.mem_of_getElem? (i := 17) rfl))) (mvT hZ (hw _ (List.mem_of_getElem? (i := 16) rfl))) (by decide)) (Cond.privateMethod_at (mvP hZ (hw _ (List.mem_of_getElem? (i := 17) rfl)) (args := #[]))) (mvT hZ (hw _ (List.mem_of_getElem? (i := 18) rfl))) (by decide) (backOf (W := 0) (rm4 l Z a0 hw [] bt be bu bo (2 : Int32) h0 n0 Z0 EB gb Ft Fe Ff) hZ (hw _ (List.mem_of_getElem? (i := 18) rfl)) (hw _ (List.mem_of_getElem? (i := 3) rfl)) (by decide) (by decide)) (g := (mkF m 2 #[.val (.ref bt), .val (.long be), .second] [(.long be), (.ref bt)])) rfl (by rw [hml]; rfl) (Steps.refl _) (a := bt) (by rw [e0]; exact q1) q1' (argsL := [(.long be)]) (rest := []) (lenOf own_pd0 rfl) rfl (by show 2 * 0 + _ ≤ _; exact Nat.le_of_eq rfl) (hb hby own_d3_2) (fun _ _ => ⟨rfl, e0, (by decide : 0 + 0 ≤ _), (by decide : 0 + 0 ≤ _)⟩)
  dsimp only [Pt.U, Pt.locs, Pt.cells, Pt.slots] at X1 l1 y1 z1 st1 hQ1
  subst l1 y1 z1
  obtain ⟨rfl, N1q, K1q, f1_0, f1_1, f1_2⟩ := hQ1
  have N1 := Fr.app N0 N1q
  have f2 := EB.keep K1q
  have K1 := K0.trans K1q (allS (Or.inl (List.mem_of_getElem? (i := 0) rfl)) all0)
  have Z1 := Nat.le_trans Z0 K1q.1
  refine Goes.tr st1 ?_
  show Goes p e below s _ _ _ T1 (mkF m 5 #[.val (.ref bt), .val (.long be), .second] [])
  refine own_aloadN X1 hx 6 rfl (hb hby own_d3_5) rfl rfl ?_
  refine own_dup X1 hx 7 rfl (hb hby own_d3_6) rfl ?_
  obtain ⟨T3, X3, e3, st3⟩ := getF X1 hx hZ hown (host := "") (Or.inl (hw _ (List.mem_of_getElem? (i := 23) rfl))) Via.refl rfl f1_2 (g := (mkF m 7 #[.val (.ref bt), .val (.long be), .second] [(.ref bt), (.ref bt)])) rfl rfl (hb hby own_d3_7)
  refine Goes.go st3 ?_
  show Goes p e below s _ _ _ T3 (mkF m 10 #[.val (.ref bt), .val (.long be), .second] [(.int (2 : Int32)), (.ref bt)])
  refine own_iconst X3 hx 11 rfl (1 : Int32) (hb hby own_d3_10) (by decide) ?_
  refine own_iadd X3 hx 12 rfl (z := (3 : Int32)) (hb hby own_d3_11) (by decide) ?_
  obtain ⟨T4, h4, X4, e4, W4, st4⟩ := putF X3 hx hZ hown (host := "") (Or.inl (hw _ (List.mem_of_getElem? (i := 23) rfl))) Via.refl e3 f1_2 f2 (Or.inl (hw _ (List.mem_of_getElem? (i := 24) rfl))) (hw _ (List.mem_of_getElem? (i := 2) rfl)) (ty := .int) (by decide) rfl rfl (g := (mkF m 12 #[.val (.ref bt), .val (.long be), .second] [(.int (3 : Int32)), (.ref bt)])) rfl rfl (hb hby own_d3_12)
  have N4 := Fr.snoc X4 N1 gb
  have f5 := f2.wr W4
  have f6 := f1_0.other W4 (Or.inr (slot_ne (Or.inl (hw _ (List.mem_of_getElem? (i := 20) rfl))) (Or.inl (hw _ (List.mem_of_getElem? (i := 24) rfl))) (by decide) (t := .boolean) (t' := .int) (by decide) (by decide)))
  have f7 := f1_1.other W4 (Or.inr (slot_ne (Or.inl (hw _ (List.mem_of_getElem? (i := 22) rfl))) (Or.inl (hw _ (List.mem_of_getElem? (i := 24) rfl))) (by decide) (t := .long) (t' := .int) (by decide) (by decide)))
  have f8 := f1_2.same W4
  have K4 := K1.wr W4 (Or.inl (List.mem_of_getElem? (i := 0) rfl))
  have Z4 := Nat.le_trans Z1 (Nat.le_of_eq W4.size.symm)
  refine Goes.go st4 ?_
  show Goes p e below s _ _ _ T4 (mkF m 15 #[.val (.ref bt), .val (.long be), .second] [])
  refine own_retV X4 hx hlk Bd.returns (hb hby own_d3_15) (by decide) (by decide) e4 ?_
  exact ⟨rfl, N4, K4, f6, f7, f8⟩
def Qfa3 (Z : State) (bt : Addr) (be : Int64) (bu : Int32) (bo : Int64) (h0 : Heap) (n0 : Nat) (v : Option Value) (h : Heap) (L : List Loc) : Prop := v = none ∧ Fr n0 L ∧ Keep h0 h [bt] ∧ Fld Z h bt "com/example/pooler/pooler/pool/Backoff" "tried" "Z" (.int (1 : Int32)) ∧ Fld Z h bt "com/example/pooler/pooler/pool/Backoff" "endedAt" "J" (.long be) ∧ Fld Z h bt "com/example/pooler/pooler/pool/Backoff" "failuresInARow" "I" (.int (4 : Int32))
set_option maxRecDepth 65536 in
set_option maxHeartbeats 40000000 in
theorem rmfa3 (l : Launch) (Z : State) (a0 : Array Value) (hw : ∀ d ∈ tables_1, d.before a0 Z = true) (ws : List Jvm.Cond) (bt : Addr) (be : Int64) (bu : Int32) (bo : Int64) (h0 : Heap) (n0 : Nat) (Z0 : n0 ≤ h0.size) (EB : Exa Z h0 bt "com/example/pooler/pooler/pool/Backoff") (gb : n0 ≤ bt) (Ft : Fld Z h0 bt "com/example/pooler/pooler/pool/Backoff" "tried" "Z" (.int bu)) (Fe : Fld Z h0 bt "com/example/pooler/pooler/pool/Backoff" "endedAt" "J" (.long bo)) (Ff : Fld Z h0 bt "com/example/pooler/pooler/pool/Backoff" "failuresInARow" "I" (.int (3 : Int32))) :
    MetFree l (⟨"com/example/pooler/pooler/pool/Backoff", "failed", "(J)V"⟩ : MethodName) (head1 (Jvm.Cond.code (⟨"com/example/pooler/pooler/pool/Backoff", "failed", "(J)V"⟩ : MethodName) prog_23_method_4_code 3 none :: ws) ({ frames := 1, cells := 0, slots := 0, locals := 14 } : Room)) (fun a U => a = #[(.ref bt), (.long be)] ∧ Z.Warmed39 U.vm ∧ U.heap = h0) (fun _ _ _ _ _ => True) (fun _ U o U' => ∃ v L, o = .returned v ∧ Qfa3 Z bt be bu bo h0 n0 v U'.heap L ∧ FrameEnd U o U' L ({ frames := 1, cells := 0, slots := 0, locals := 14 } : Room).cells ({ frames := 1, cells := 0, slots := 0, locals := 14 } : Room).slots) := by
  refine MetFree.of_bodySF (plainFor_of_name own_pn_com_example_pooler_pooler_pool_Backoff) hisR ?_
  intro p e s m args below meth c s₁ Bd hml0 hP hK
  obtain ⟨rfl, hZ, hh⟩ := hP
  have hx := Bd.exec
  have hby := Bd.bytes
  have hml : c.maxLocals = 3 := hml0
  have hlk := Bd.notSynchronized
  have hown : s.vm.findClass "com/example/pooler/pooler/pool/Backoff" = some m.cls := findClass_of_methodNamed Bd.named
  have hnm := (name_of_methodNamed Bd.named Bd.method).1
  have X0 : Stand p l e ({ frames := 1, cells := 0, slots := 0, locals := 14 } : Room) s m #[(.ref bt), (.long be)] below meth c s₁ [] 0 0 := Stand.of_body Bd
  have e0 : s₁.heap = h0 := by rw [← hh, Bd.state]; rfl
  have N0 := Fr.nil n0
  have K0 : Keep h0 h0 [bt] := Keep.refl _ _
  refine own_enter (Q := Qfa3 Z bt be bu bo h0 n0) (Ls := #[.val (.ref bt), .val (.long be), .second]) (by first | rfl | (simp [entryFrame, mkF, argsToLocals, Value.category]; done)) ?_
  refine own_aloadN X0 hx 1 rfl (hb hby own_d3_0) rfl rfl ?_
  refine own_lloadN X0 hx 2 rfl (hb hby own_d3_1) rfl ?_
  obtain ⟨cq1, q1, q1'⟩ := EB.cell
  obtain ⟨_, _, ⟨T1, L1, k1, n1⟩, -, X1, ⟨Lc1, hQ1, l1, y1, z1⟩, st1⟩ := X0.privateBack hx (y := (⟨"com/example/pooler/pooler/pool/Backoff", "ended", "(J)V"⟩ : MethodName)) hown (mvT hZ (hw _ (List.mem_of_getElem? (i := 15) rfl))) (mvT hZ (hw _ (List.mem_of_getElem? (i := 16) rfl))) (own_selP (mvT hZ (hw _ (List.mem_of_getElem? (i := 2) rfl))) (mvP hZ (hw _ (List.mem_of_getElem? (i := 17) rfl))) (mvT hZ (hw _ (List.mem_of_getElem? (i := 16) rfl))) (by decide)) (Cond.privateMethod_at (mvP hZ (hw _ (List.mem_of_getElem? (i := 17) rfl)) (args := #[]))) (mvT hZ (hw _ (List.mem_of_getElem? (i := 18) rfl))) (by decide) (backOf (W := 0) (rm4 l Z a0 hw [] bt be bu bo (3 : Int32) h0 n0 Z0 EB gb Ft Fe Ff) hZ (hw _ (List.mem_of_getElem? (i := 18) rfl)) (hw _ (List.mem_of_getElem? (i := 3) rfl)) (by decide) (by decide)) (g := (mkF m 2 #[.val (.ref bt), .val (.long be), .second] [(.long be), (.ref bt)])) rfl (by rw [hml]; rfl) (Steps.refl _) (a := bt) (by rw [e0]; exact q1) q1' (argsL := [(.long be)]) (rest := []) (lenOf own_pd0 rfl) rfl (by show 2 * 0 + _ ≤ _; exact Nat.le_of_eq rfl) (hb hby own_d3_2) (fun _ _ => ⟨rfl, e0, (by decide : 0 + 0 ≤ _), (by decide : 0 + 0 ≤ _)⟩)
  dsimp only [Pt.U, Pt.locs, Pt.cells, Pt.slots] at X1 l1 y1 z1 st1 hQ1
  subst l1 y1 z1
  obtain ⟨rfl, N1q, K1q, f1_0, f1_1, f1_2⟩ := hQ1
  have N1 := Fr.app N0 N1q
  have f2 := EB.keep K1q
  have K1 := K0.trans K1q (allS (Or.inl (List.mem_of_getElem? (i := 0) rfl)) all0)
  have Z1 := Nat.le_trans Z0 K1q.1
  refine Goes.tr st1 ?_
  show Goes p e below s _ _ _ T1 (mkF m 5 #[.val (.ref bt), .val (.long be), .second] [])
  refine own_aloadN X1 hx 6 rfl (hb hby own_d3_5) rfl rfl ?_
  refine own_dup X1 hx 7 rfl (hb hby own_d3_6) rfl ?_
  obtain ⟨T3, X3, e3, st3⟩ := getF X1 hx hZ hown (host := "") (Or.inl (hw _ (List.mem_of_getElem? (i := 23) rfl))) Via.refl rfl f1_2 (g := (mkF m 7 #[.val (.ref bt), .val (.long be), .second] [(.ref bt), (.ref bt)])) rfl rfl (hb hby own_d3_7)
  refine Goes.go st3 ?_
  show Goes p e below s _ _ _ T3 (mkF m 10 #[.val (.ref bt), .val (.long be), .second] [(.int (3 : Int32)), (.ref bt)])
  refine own_iconst X3 hx 11 rfl (1 : Int32) (hb hby own_d3_10) (by decide) ?_
  refine own_iadd X3 hx 12 rfl (z := (4 : Int32)) (hb hby own_d3_11) (by decide) ?_
  obtain ⟨T4, h4, X4, e4, W4, st4⟩ := putF X3 hx hZ hown (host := "") (Or.inl (hw _ (List.mem_of_getElem? (i := 23) rfl))) Via.refl e3 f1_2 f2 (Or.inl (hw _ (List.mem_of_getElem? (i := 24) rfl))) (hw _ (List.mem_of_getElem? (i := 2) rfl)) (ty := .int) (by decide) rfl rfl (g := (mkF m 12 #[.val (.ref bt), .val (.long be), .second] [(.int (4 : Int32)), (.ref bt)])) rfl rfl (hb hby own_d3_12)
  have N4 := Fr.snoc X4 N1 gb
  have f5 := f2.wr W4
  have f6 := f1_0.other W4 (Or.inr (slot_ne (Or.inl (hw _ (List.mem_of_getElem? (i := 20) rfl))) (Or.inl (hw _ (List.mem_of_getElem? (i := 24) rfl))) (by decide) (t := .boolean) (t' := .int) (by decide) (by decide)))
  have f7 := f1_1.other W4 (Or.inr (slot_ne (Or.inl (hw _ (List.mem_of_getElem? (i := 22) rfl))) (Or.inl (hw _ (List.mem_of_getElem? (i := 24) rfl))) (by decide) (t := .long) (t' := .int) (by decide) (by decide)))
  have f8 := f1_2.same W4
  have K4 := K1.wr W4 (Or.inl (List.mem_of_getElem? (i := 0) rfl))
  have Z4 := Nat.le_trans Z1 (Nat.le_of_eq W4.size.symm)
  refine Goes.go st4 ?_
  show Goes p e below s _ _ _ T4 (mkF m 15 #[.val (.ref bt), .val (.long be), .second] [])
  refine own_retV X4 hx hlk Bd.returns (hb hby own_d3_15) (by decide) (by decide) e4 ?_
  exact ⟨rfl, N4, K4, f6, f7, f8⟩
def Qfa4 (Z : State) (bt : Addr) (be : Int64) (bu : Int32) (bo : Int64) (h0 : Heap) (n0 : Nat) (v : Option Value) (h : Heap) (L : List Loc) : Prop := v = none ∧ Fr n0 L ∧ Keep h0 h [bt] ∧ Fld Z h bt "com/example/pooler/pooler/pool/Backoff" "tried" "Z" (.int (1 : Int32)) ∧ Fld Z h bt "com/example/pooler/pooler/pool/Backoff" "endedAt" "J" (.long be) ∧ Fld Z h bt "com/example/pooler/pooler/pool/Backoff" "failuresInARow" "I" (.int (5 : Int32))
set_option maxRecDepth 65536 in
set_option maxHeartbeats 40000000 in
theorem rmfa4 (l : Launch) (Z : State) (a0 : Array Value) (hw : ∀ d ∈ tables_1, d.before a0 Z = true) (ws : List Jvm.Cond) (bt : Addr) (be : Int64) (bu : Int32) (bo : Int64) (h0 : Heap) (n0 : Nat) (Z0 : n0 ≤ h0.size) (EB : Exa Z h0 bt "com/example/pooler/pooler/pool/Backoff") (gb : n0 ≤ bt) (Ft : Fld Z h0 bt "com/example/pooler/pooler/pool/Backoff" "tried" "Z" (.int bu)) (Fe : Fld Z h0 bt "com/example/pooler/pooler/pool/Backoff" "endedAt" "J" (.long bo)) (Ff : Fld Z h0 bt "com/example/pooler/pooler/pool/Backoff" "failuresInARow" "I" (.int (4 : Int32))) :
    MetFree l (⟨"com/example/pooler/pooler/pool/Backoff", "failed", "(J)V"⟩ : MethodName) (head1 (Jvm.Cond.code (⟨"com/example/pooler/pooler/pool/Backoff", "failed", "(J)V"⟩ : MethodName) prog_23_method_4_code 3 none :: ws) ({ frames := 1, cells := 0, slots := 0, locals := 14 } : Room)) (fun a U => a = #[(.ref bt), (.long be)] ∧ Z.Warmed39 U.vm ∧ U.heap = h0) (fun _ _ _ _ _ => True) (fun _ U o U' => ∃ v L, o = .returned v ∧ Qfa4 Z bt be bu bo h0 n0 v U'.heap L ∧ FrameEnd U o U' L ({ frames := 1, cells := 0, slots := 0, locals := 14 } : Room).cells ({ frames := 1, cells := 0, slots := 0, locals := 14 } : Room).slots) := by
  refine MetFree.of_bodySF (plainFor_of_name own_pn_com_example_pooler_pooler_pool_Backoff) hisR ?_
  intro p e s m args below meth c s₁ Bd hml0 hP hK
  obtain ⟨rfl, hZ, hh⟩ := hP
  have hx := Bd.exec
  have hby := Bd.bytes
  have hml : c.maxLocals = 3 := hml0
  have hlk := Bd.notSynchronized
  have hown : s.vm.findClass "com/example/pooler/pooler/pool/Backoff" = some m.cls := findClass_of_methodNamed Bd.named
  have hnm := (name_of_methodNamed Bd.named Bd.method).1
  have X0 : Stand p l e ({ frames := 1, cells := 0, slots := 0, locals := 14 } : Room) s m #[(.ref bt), (.long be)] below meth c s₁ [] 0 0 := Stand.of_body Bd
  have e0 : s₁.heap = h0 := by rw [← hh, Bd.state]; rfl
  have N0 := Fr.nil n0
  have K0 : Keep h0 h0 [bt] := Keep.refl _ _
  refine own_enter (Q := Qfa4 Z bt be bu bo h0 n0) (Ls := #[.val (.ref bt), .val (.long be), .second]) (by first | rfl | (simp [entryFrame, mkF, argsToLocals, Value.category]; done)) ?_
  refine own_aloadN X0 hx 1 rfl (hb hby own_d3_0) rfl rfl ?_
  refine own_lloadN X0 hx 2 rfl (hb hby own_d3_1) rfl ?_
  obtain ⟨cq1, q1, q1'⟩ := EB.cell
  obtain ⟨_, _, ⟨T1, L1, k1, n1⟩, -, X1, ⟨Lc1, hQ1, l1, y1, z1⟩, st1⟩ := X0.privateBack hx (y := (⟨"com/example/pooler/pooler/pool/Backoff", "ended", "(J)V"⟩ : MethodName)) hown (mvT hZ (hw _ (List.mem_of_getElem? (i := 15) rfl))) (mvT hZ (hw _ (List.mem_of_getElem? (i := 16) rfl))) (own_selP (mvT hZ (hw _ (List.mem_of_getElem? (i := 2) rfl))) (mvP hZ (hw _ (List.mem_of_getElem? (i := 17) rfl))) (mvT hZ (hw _ (List.mem_of_getElem? (i := 16) rfl))) (by decide)) (Cond.privateMethod_at (mvP hZ (hw _ (List.mem_of_getElem? (i := 17) rfl)) (args := #[]))) (mvT hZ (hw _ (List.mem_of_getElem? (i := 18) rfl))) (by decide) (backOf (W := 0) (rm4 l Z a0 hw [] bt be bu bo (4 : Int32) h0 n0 Z0 EB gb Ft Fe Ff) hZ (hw _ (List.mem_of_getElem? (i := 18) rfl)) (hw _ (List.mem_of_getElem? (i := 3) rfl)) (by decide) (by decide)) (g := (mkF m 2 #[.val (.ref bt), .val (.long be), .second] [(.long be), (.ref bt)])) rfl (by rw [hml]; rfl) (Steps.refl _) (a := bt) (by rw [e0]; exact q1) q1' (argsL := [(.long be)]) (rest := []) (lenOf own_pd0 rfl) rfl (by show 2 * 0 + _ ≤ _; exact Nat.le_of_eq rfl) (hb hby own_d3_2) (fun _ _ => ⟨rfl, e0, (by decide : 0 + 0 ≤ _), (by decide : 0 + 0 ≤ _)⟩)
  dsimp only [Pt.U, Pt.locs, Pt.cells, Pt.slots] at X1 l1 y1 z1 st1 hQ1
  subst l1 y1 z1
  obtain ⟨rfl, N1q, K1q, f1_0, f1_1, f1_2⟩ := hQ1
  have N1 := Fr.app N0 N1q
  have f2 := EB.keep K1q
  have K1 := K0.trans K1q (allS (Or.inl (List.mem_of_getElem? (i := 0) rfl)) all0)
  have Z1 := Nat.le_trans Z0 K1q.1
  refine Goes.tr st1 ?_
  show Goes p e below s _ _ _ T1 (mkF m 5 #[.val (.ref bt), .val (.long be), .second] [])
  refine own_aloadN X1 hx 6 rfl (hb hby own_d3_5) rfl rfl ?_
  refine own_dup X1 hx 7 rfl (hb hby own_d3_6) rfl ?_
  obtain ⟨T3, X3, e3, st3⟩ := getF X1 hx hZ hown (host := "") (Or.inl (hw _ (List.mem_of_getElem? (i := 23) rfl))) Via.refl rfl f1_2 (g := (mkF m 7 #[.val (.ref bt), .val (.long be), .second] [(.ref bt), (.ref bt)])) rfl rfl (hb hby own_d3_7)
  refine Goes.go st3 ?_
  show Goes p e below s _ _ _ T3 (mkF m 10 #[.val (.ref bt), .val (.long be), .second] [(.int (4 : Int32)), (.ref bt)])
  refine own_iconst X3 hx 11 rfl (1 : Int32) (hb hby own_d3_10) (by decide) ?_
  refine own_iadd X3 hx 12 rfl (z := (5 : Int32)) (hb hby own_d3_11) (by decide) ?_
  obtain ⟨T4, h4, X4, e4, W4, st4⟩ := putF X3 hx hZ hown (host := "") (Or.inl (hw _ (List.mem_of_getElem? (i := 23) rfl))) Via.refl e3 f1_2 f2 (Or.inl (hw _ (List.mem_of_getElem? (i := 24) rfl))) (hw _ (List.mem_of_getElem? (i := 2) rfl)) (ty := .int) (by decide) rfl rfl (g := (mkF m 12 #[.val (.ref bt), .val (.long be), .second] [(.int (5 : Int32)), (.ref bt)])) rfl rfl (hb hby own_d3_12)
  have N4 := Fr.snoc X4 N1 gb
  have f5 := f2.wr W4
  have f6 := f1_0.other W4 (Or.inr (slot_ne (Or.inl (hw _ (List.mem_of_getElem? (i := 20) rfl))) (Or.inl (hw _ (List.mem_of_getElem? (i := 24) rfl))) (by decide) (t := .boolean) (t' := .int) (by decide) (by decide)))
  have f7 := f1_1.other W4 (Or.inr (slot_ne (Or.inl (hw _ (List.mem_of_getElem? (i := 22) rfl))) (Or.inl (hw _ (List.mem_of_getElem? (i := 24) rfl))) (by decide) (t := .long) (t' := .int) (by decide) (by decide)))
  have f8 := f1_2.same W4
  have K4 := K1.wr W4 (Or.inl (List.mem_of_getElem? (i := 0) rfl))
  have Z4 := Nat.le_trans Z1 (Nat.le_of_eq W4.size.symm)
  refine Goes.go st4 ?_
  show Goes p e below s _ _ _ T4 (mkF m 15 #[.val (.ref bt), .val (.long be), .second] [])
  refine own_retV X4 hx hlk Bd.returns (hb hby own_d3_15) (by decide) (by decide) e4 ?_
  exact ⟨rfl, N4, K4, f6, f7, f8⟩
def Qfa5 (Z : State) (bt : Addr) (be : Int64) (bu : Int32) (bo : Int64) (h0 : Heap) (n0 : Nat) (v : Option Value) (h : Heap) (L : List Loc) : Prop := v = none ∧ Fr n0 L ∧ Keep h0 h [bt] ∧ Fld Z h bt "com/example/pooler/pooler/pool/Backoff" "tried" "Z" (.int (1 : Int32)) ∧ Fld Z h bt "com/example/pooler/pooler/pool/Backoff" "endedAt" "J" (.long be) ∧ Fld Z h bt "com/example/pooler/pooler/pool/Backoff" "failuresInARow" "I" (.int (6 : Int32))
set_option maxRecDepth 65536 in
set_option maxHeartbeats 40000000 in
theorem rmfa5 (l : Launch) (Z : State) (a0 : Array Value) (hw : ∀ d ∈ tables_1, d.before a0 Z = true) (ws : List Jvm.Cond) (bt : Addr) (be : Int64) (bu : Int32) (bo : Int64) (h0 : Heap) (n0 : Nat) (Z0 : n0 ≤ h0.size) (EB : Exa Z h0 bt "com/example/pooler/pooler/pool/Backoff") (gb : n0 ≤ bt) (Ft : Fld Z h0 bt "com/example/pooler/pooler/pool/Backoff" "tried" "Z" (.int bu)) (Fe : Fld Z h0 bt "com/example/pooler/pooler/pool/Backoff" "endedAt" "J" (.long bo)) (Ff : Fld Z h0 bt "com/example/pooler/pooler/pool/Backoff" "failuresInARow" "I" (.int (5 : Int32))) :
    MetFree l (⟨"com/example/pooler/pooler/pool/Backoff", "failed", "(J)V"⟩ : MethodName) (head1 (Jvm.Cond.code (⟨"com/example/pooler/pooler/pool/Backoff", "failed", "(J)V"⟩ : MethodName) prog_23_method_4_code 3 none :: ws) ({ frames := 1, cells := 0, slots := 0, locals := 14 } : Room)) (fun a U => a = #[(.ref bt), (.long be)] ∧ Z.Warmed39 U.vm ∧ U.heap = h0) (fun _ _ _ _ _ => True) (fun _ U o U' => ∃ v L, o = .returned v ∧ Qfa5 Z bt be bu bo h0 n0 v U'.heap L ∧ FrameEnd U o U' L ({ frames := 1, cells := 0, slots := 0, locals := 14 } : Room).cells ({ frames := 1, cells := 0, slots := 0, locals := 14 } : Room).slots) := by
  refine MetFree.of_bodySF (plainFor_of_name own_pn_com_example_pooler_pooler_pool_Backoff) hisR ?_
  intro p e s m args below meth c s₁ Bd hml0 hP hK
  obtain ⟨rfl, hZ, hh⟩ := hP
  have hx := Bd.exec
  have hby := Bd.bytes
  have hml : c.maxLocals = 3 := hml0
  have hlk := Bd.notSynchronized
  have hown : s.vm.findClass "com/example/pooler/pooler/pool/Backoff" = some m.cls := findClass_of_methodNamed Bd.named
  have hnm := (name_of_methodNamed Bd.named Bd.method).1
  have X0 : Stand p l e ({ frames := 1, cells := 0, slots := 0, locals := 14 } : Room) s m #[(.ref bt), (.long be)] below meth c s₁ [] 0 0 := Stand.of_body Bd
  have e0 : s₁.heap = h0 := by rw [← hh, Bd.state]; rfl
  have N0 := Fr.nil n0
  have K0 : Keep h0 h0 [bt] := Keep.refl _ _
  refine own_enter (Q := Qfa5 Z bt be bu bo h0 n0) (Ls := #[.val (.ref bt), .val (.long be), .second]) (by first | rfl | (simp [entryFrame, mkF, argsToLocals, Value.category]; done)) ?_
  refine own_aloadN X0 hx 1 rfl (hb hby own_d3_0) rfl rfl ?_
  refine own_lloadN X0 hx 2 rfl (hb hby own_d3_1) rfl ?_
  obtain ⟨cq1, q1, q1'⟩ := EB.cell
  obtain ⟨_, _, ⟨T1, L1, k1, n1⟩, -, X1, ⟨Lc1, hQ1, l1, y1, z1⟩, st1⟩ := X0.privateBack hx (y := (⟨"com/example/pooler/pooler/pool/Backoff", "ended", "(J)V"⟩ : MethodName)) hown (mvT hZ (hw _ (List.mem_of_getElem? (i := 15) rfl))) (mvT hZ (hw _ (List.mem_of_getElem? (i := 16) rfl))) (own_selP (mvT hZ (hw _ (List.mem_of_getElem? (i := 2) rfl))) (mvP hZ (hw _ (List.mem_of_getElem? (i := 17) rfl))) (mvT hZ (hw _ (List.mem_of_getElem? (i := 16) rfl))) (by decide)) (Cond.privateMethod_at (mvP hZ (hw _ (List.mem_of_getElem? (i := 17) rfl)) (args := #[]))) (mvT hZ (hw _ (List.mem_of_getElem? (i := 18) rfl))) (by decide) (backOf (W := 0) (rm4 l Z a0 hw [] bt be bu bo (5 : Int32) h0 n0 Z0 EB gb Ft Fe Ff) hZ (hw _ (List.mem_of_getElem? (i := 18) rfl)) (hw _ (List.mem_of_getElem? (i := 3) rfl)) (by decide) (by decide)) (g := (mkF m 2 #[.val (.ref bt), .val (.long be), .second] [(.long be), (.ref bt)])) rfl (by rw [hml]; rfl) (Steps.refl _) (a := bt) (by rw [e0]; exact q1) q1' (argsL := [(.long be)]) (rest := []) (lenOf own_pd0 rfl) rfl (by show 2 * 0 + _ ≤ _; exact Nat.le_of_eq rfl) (hb hby own_d3_2) (fun _ _ => ⟨rfl, e0, (by decide : 0 + 0 ≤ _), (by decide : 0 + 0 ≤ _)⟩)
  dsimp only [Pt.U, Pt.locs, Pt.cells, Pt.slots] at X1 l1 y1 z1 st1 hQ1
  subst l1 y1 z1
  obtain ⟨rfl, N1q, K1q, f1_0, f1_1, f1_2⟩ := hQ1
  have N1 := Fr.app N0 N1q
  have f2 := EB.keep K1q
  have K1 := K0.trans K1q (allS (Or.inl (List.mem_of_getElem? (i := 0) rfl)) all0)
  have Z1 := Nat.le_trans Z0 K1q.1
  refine Goes.tr st1 ?_
  show Goes p e below s _ _ _ T1 (mkF m 5 #[.val (.ref bt), .val (.long be), .second] [])
  refine own_aloadN X1 hx 6 rfl (hb hby own_d3_5) rfl rfl ?_
  refine own_dup X1 hx 7 rfl (hb hby own_d3_6) rfl ?_
  obtain ⟨T3, X3, e3, st3⟩ := getF X1 hx hZ hown (host := "") (Or.inl (hw _ (List.mem_of_getElem? (i := 23) rfl))) Via.refl rfl f1_2 (g := (mkF m 7 #[.val (.ref bt), .val (.long be), .second] [(.ref bt), (.ref bt)])) rfl rfl (hb hby own_d3_7)
  refine Goes.go st3 ?_
  show Goes p e below s _ _ _ T3 (mkF m 10 #[.val (.ref bt), .val (.long be), .second] [(.int (5 : Int32)), (.ref bt)])
  refine own_iconst X3 hx 11 rfl (1 : Int32) (hb hby own_d3_10) (by decide) ?_
  refine own_iadd X3 hx 12 rfl (z := (6 : Int32)) (hb hby own_d3_11) (by decide) ?_
  obtain ⟨T4, h4, X4, e4, W4, st4⟩ := putF X3 hx hZ hown (host := "") (Or.inl (hw _ (List.mem_of_getElem? (i := 23) rfl))) Via.refl e3 f1_2 f2 (Or.inl (hw _ (List.mem_of_getElem? (i := 24) rfl))) (hw _ (List.mem_of_getElem? (i := 2) rfl)) (ty := .int) (by decide) rfl rfl (g := (mkF m 12 #[.val (.ref bt), .val (.long be), .second] [(.int (6 : Int32)), (.ref bt)])) rfl rfl (hb hby own_d3_12)
  have N4 := Fr.snoc X4 N1 gb
  have f5 := f2.wr W4
  have f6 := f1_0.other W4 (Or.inr (slot_ne (Or.inl (hw _ (List.mem_of_getElem? (i := 20) rfl))) (Or.inl (hw _ (List.mem_of_getElem? (i := 24) rfl))) (by decide) (t := .boolean) (t' := .int) (by decide) (by decide)))
  have f7 := f1_1.other W4 (Or.inr (slot_ne (Or.inl (hw _ (List.mem_of_getElem? (i := 22) rfl))) (Or.inl (hw _ (List.mem_of_getElem? (i := 24) rfl))) (by decide) (t := .long) (t' := .int) (by decide) (by decide)))
  have f8 := f1_2.same W4
  have K4 := K1.wr W4 (Or.inl (List.mem_of_getElem? (i := 0) rfl))
  have Z4 := Nat.le_trans Z1 (Nat.le_of_eq W4.size.symm)
  refine Goes.go st4 ?_
  show Goes p e below s _ _ _ T4 (mkF m 15 #[.val (.ref bt), .val (.long be), .second] [])
  refine own_retV X4 hx hlk Bd.returns (hb hby own_d3_15) (by decide) (by decide) e4 ?_
  exact ⟨rfl, N4, K4, f6, f7, f8⟩
theorem own_d10_0 : decode prog_23_method_3_code 0 = .ok (.aload_n 0, 1) := by decide +kernel
theorem own_d10_1 : decode prog_23_method_3_code 1 = .ok (.lload_n 1, 1) := by decide +kernel
theorem own_d10_2 : decode prog_23_method_3_code 2 = .ok (.invokevirtual 27, 3) := by decide +kernel
theorem own_d10_5 : decode prog_23_method_3_code 5 = .ok (.aload_n 0, 1) := by decide +kernel
theorem own_d10_6 : decode prog_23_method_3_code 6 = .ok (.iconst 0, 1) := by decide +kernel
theorem own_d10_7 : decode prog_23_method_3_code 7 = .ok (.putfield 31, 3) := by decide +kernel
theorem own_d10_10 : decode prog_23_method_3_code 10 = .ok (.return_, 1) := by decide +kernel
def Q10 (Z : State) (bt : Addr) (be : Int64) (bu : Int32) (bo : Int64) (bf : Int32) (h0 : Heap) (n0 : Nat) (v : Option Value) (h : Heap) (L : List Loc) : Prop := v = none ∧ Fr n0 L ∧ Keep h0 h [bt] ∧ Fld Z h bt "com/example/pooler/pooler/pool/Backoff" "tried" "Z" (.int (1 : Int32)) ∧ Fld Z h bt "com/example/pooler/pooler/pool/Backoff" "endedAt" "J" (.long be) ∧ Fld Z h bt "com/example/pooler/pooler/pool/Backoff" "failuresInARow" "I" (.int (0 : Int32))
set_option maxRecDepth 65536 in
set_option maxHeartbeats 40000000 in
theorem rm10 (l : Launch) (Z : State) (a0 : Array Value) (hw : ∀ d ∈ tables_1, d.before a0 Z = true) (ws : List Jvm.Cond) (bt : Addr) (be : Int64) (bu : Int32) (bo : Int64) (bf : Int32) (h0 : Heap) (n0 : Nat) (Z0 : n0 ≤ h0.size) (EB : Exa Z h0 bt "com/example/pooler/pooler/pool/Backoff") (gb : n0 ≤ bt) (Ft : Fld Z h0 bt "com/example/pooler/pooler/pool/Backoff" "tried" "Z" (.int bu)) (Fe : Fld Z h0 bt "com/example/pooler/pooler/pool/Backoff" "endedAt" "J" (.long bo)) (Ff : Fld Z h0 bt "com/example/pooler/pooler/pool/Backoff" "failuresInARow" "I" (.int bf)) :
    MetFree l (⟨"com/example/pooler/pooler/pool/Backoff", "opened", "(J)V"⟩ : MethodName) (head1 (Jvm.Cond.code (⟨"com/example/pooler/pooler/pool/Backoff", "opened", "(J)V"⟩ : MethodName) prog_23_method_3_code 3 none :: ws) ({ frames := 1, cells := 0, slots := 0, locals := 14 } : Room)) (fun a U => a = #[(.ref bt), (.long be)] ∧ Z.Warmed39 U.vm ∧ U.heap = h0) (fun _ _ _ _ _ => True) (fun _ U o U' => ∃ v L, o = .returned v ∧ Q10 Z bt be bu bo bf h0 n0 v U'.heap L ∧ FrameEnd U o U' L ({ frames := 1, cells := 0, slots := 0, locals := 14 } : Room).cells ({ frames := 1, cells := 0, slots := 0, locals := 14 } : Room).slots) := by
  refine MetFree.of_bodySF (plainFor_of_name own_pn_com_example_pooler_pooler_pool_Backoff) hisR ?_
  intro p e s m args below meth c s₁ Bd hml0 hP hK
  obtain ⟨rfl, hZ, hh⟩ := hP
  have hx := Bd.exec
  have hby := Bd.bytes
  have hml : c.maxLocals = 3 := hml0
  have hlk := Bd.notSynchronized
  have hown : s.vm.findClass "com/example/pooler/pooler/pool/Backoff" = some m.cls := findClass_of_methodNamed Bd.named
  have hnm := (name_of_methodNamed Bd.named Bd.method).1
  have X0 : Stand p l e ({ frames := 1, cells := 0, slots := 0, locals := 14 } : Room) s m #[(.ref bt), (.long be)] below meth c s₁ [] 0 0 := Stand.of_body Bd
  have e0 : s₁.heap = h0 := by rw [← hh, Bd.state]; rfl
  have N0 := Fr.nil n0
  have K0 : Keep h0 h0 [bt] := Keep.refl _ _
  refine own_enter (Q := Q10 Z bt be bu bo bf h0 n0) (Ls := #[.val (.ref bt), .val (.long be), .second]) (by first | rfl | (simp [entryFrame, mkF, argsToLocals, Value.category]; done)) ?_
  refine own_aloadN X0 hx 1 rfl (hb hby own_d10_0) rfl rfl ?_
  refine own_lloadN X0 hx 2 rfl (hb hby own_d10_1) rfl ?_
  obtain ⟨cq1, q1, q1'⟩ := EB.cell
  obtain ⟨_, _, ⟨T1, L1, k1, n1⟩, -, X1, ⟨Lc1, hQ1, l1, y1, z1⟩, st1⟩ := X0.privateBack hx (y := (⟨"com/example/pooler/pooler/pool/Backoff", "ended", "(J)V"⟩ : MethodName)) hown (mvT hZ (hw _ (List.mem_of_getElem? (i := 15) rfl))) (mvT hZ (hw _ (List.mem_of_getElem? (i := 16) rfl))) (own_selP (mvT hZ (hw _ (List.mem_of_getElem? (i := 2) rfl))) (mvP hZ (hw _ (List.mem_of_getElem? (i := 17) rfl))) (mvT hZ (hw _ (List.mem_of_getElem? (i := 16) rfl))) (by decide)) (Cond.privateMethod_at (mvP hZ (hw _ (List.mem_of_getElem? (i := 17) rfl)) (args := #[]))) (mvT hZ (hw _ (List.mem_of_getElem? (i := 18) rfl))) (by decide) (backOf (W := 0) (rm4 l Z a0 hw [] bt be bu bo bf h0 n0 Z0 EB gb Ft Fe Ff) hZ (hw _ (List.mem_of_getElem? (i := 18) rfl)) (hw _ (List.mem_of_getElem? (i := 3) rfl)) (by decide) (by decide)) (g := (mkF m 2 #[.val (.ref bt), .val (.long be), .second] [(.long be), (.ref bt)])) rfl (by rw [hml]; rfl) (Steps.refl _) (a := bt) (by rw [e0]; exact q1) q1' (argsL := [(.long be)]) (rest := []) (lenOf own_pd0 rfl) rfl (by show 2 * 0 + _ ≤ _; exact Nat.le_of_eq rfl) (hb hby own_d10_2) (fun _ _ => ⟨rfl, e0, (by decide : 0 + 0 ≤ _), (by decide : 0 + 0 ≤ _)⟩)
  dsimp only [Pt.U, Pt.locs, Pt.cells, Pt.slots] at X1 l1 y1 z1 st1 hQ1
  subst l1 y1 z1
  obtain ⟨rfl, N1q, K1q, f1_0, f1_1, f1_2⟩ := hQ1
  have N1 := Fr.app N0 N1q
  have f2 := EB.keep K1q
  have K1 := K0.trans K1q (allS (Or.inl (List.mem_of_getElem? (i := 0) rfl)) all0)
  have Z1 := Nat.le_trans Z0 K1q.1
  refine Goes.tr st1 ?_
  show Goes p e below s _ _ _ T1 (mkF m 5 #[.val (.ref bt), .val (.long be), .second] [])
  refine own_aloadN X1 hx 6 rfl (hb hby own_d10_5) rfl rfl ?_
  refine own_iconst X1 hx 7 rfl (0 : Int32) (hb hby own_d10_6) (by decide) ?_
  obtain ⟨T3, h3, X3, e3, W3, st3⟩ := putF X1 hx hZ hown (host := "") (Or.inl (hw _ (List.mem_of_getElem? (i := 23) rfl))) Via.refl rfl f1_2 f2 (Or.inl (hw _ (List.mem_of_getElem? (i := 24) rfl))) (hw _ (List.mem_of_getElem? (i := 2) rfl)) (ty := .int) (by decide) rfl rfl (g := (mkF m 7 #[.val (.ref bt), .val (.long be), .second] [(.int (0 : Int32)), (.ref bt)])) rfl rfl (hb hby own_d10_7)
  have N3 := Fr.snoc X3 N1 gb
  have f4 := f2.wr W3
  have f5 := f1_0.other W3 (Or.inr (slot_ne (Or.inl (hw _ (List.mem_of_getElem? (i := 20) rfl))) (Or.inl (hw _ (List.mem_of_getElem? (i := 24) rfl))) (by decide) (t := .boolean) (t' := .int) (by decide) (by decide)))
  have f6 := f1_1.other W3 (Or.inr (slot_ne (Or.inl (hw _ (List.mem_of_getElem? (i := 22) rfl))) (Or.inl (hw _ (List.mem_of_getElem? (i := 24) rfl))) (by decide) (t := .long) (t' := .int) (by decide) (by decide)))
  have f7 := f1_2.same W3
  have K3 := K1.wr W3 (Or.inl (List.mem_of_getElem? (i := 0) rfl))
  have Z3 := Nat.le_trans Z1 (Nat.le_of_eq W3.size.symm)
  refine Goes.go st3 ?_
  show Goes p e below s _ _ _ T3 (mkF m 10 #[.val (.ref bt), .val (.long be), .second] [])
  refine own_retV X3 hx hlk Bd.returns (hb hby own_d10_10) (by decide) (by decide) e3 ?_
  exact ⟨rfl, N3, K3, f5, f6, f7⟩
theorem own_d6_0 : decode jdk_29_method_66_code 0 = .ok (.lload_n 0, 1) := by decide +kernel
theorem own_d6_1 : decode jdk_29_method_66_code 1 = .ok (.lload_n 2, 1) := by decide +kernel
theorem own_d6_2 : decode jdk_29_method_66_code 2 = .ok (.lcmp, 1) := by decide +kernel
theorem own_d6_3 : decode jdk_29_method_66_code 3 = .ok (.ifCond .lt 7, 3) := by decide +kernel
theorem own_d6_6 : decode jdk_29_method_66_code 6 = .ok (.lload_n 0, 1) := by decide +kernel
theorem own_d6_7 : decode jdk_29_method_66_code 7 = .ok (.goto 4, 3) := by decide +kernel
theorem own_d6_10 : decode jdk_29_method_66_code 10 = .ok (.lload_n 2, 1) := by decide +kernel
theorem own_d6_11 : decode jdk_29_method_66_code 11 = .ok (.lreturn, 1) := by decide +kernel
def Q6 (Z : State) (mx : Int64) (my : Int64) (h0 : Heap) (n0 : Nat) (v : Option Value) (h : Heap) (L : List Loc) : Prop := ∃ mr : Int64, v = some (.long mr) ∧ Fr n0 L ∧ h = h0 ∧ ((mr = my ∧ mx < my) ∨ (mr = mx ∧ ¬ mx < my))
set_option maxRecDepth 65536 in
set_option maxHeartbeats 40000000 in
theorem rm6 (l : Launch) (Z : State) (a0 : Array Value) (hw : ∀ d ∈ tables_1, d.before a0 Z = true) (ws : List Jvm.Cond) (mx : Int64) (my : Int64) (h0 : Heap) (n0 : Nat) (Z0 : n0 ≤ h0.size)  :
    MetFree l (⟨"java/lang/Math", "max", "(JJ)J"⟩ : MethodName) (head1 (Jvm.Cond.code (⟨"java/lang/Math", "max", "(JJ)J"⟩ : MethodName) jdk_29_method_66_code 4 (some .long) :: ws) ({ frames := 0, cells := 0, slots := 0, locals := 0 } : Room)) (fun a U => a = #[(.long mx), (.long my)] ∧ Z.Warmed39 U.vm ∧ U.heap = h0) (fun _ _ _ _ _ => True) (fun _ U o U' => ∃ v L, o = .returned v ∧ Q6 Z mx my h0 n0 v U'.heap L ∧ FrameEnd U o U' L ({ frames := 0, cells := 0, slots := 0, locals := 0 } : Room).cells ({ frames := 0, cells := 0, slots := 0, locals := 0 } : Room).slots) := by
  refine MetFree.of_bodySF (Jvm.Free.JP.mathPlain rfl (by decide +kernel)) hisR ?_
  intro p e s m args below meth c s₁ Bd hml0 hP hK
  obtain ⟨rfl, hZ, hh⟩ := hP
  have hx := Bd.exec
  have hby := Bd.bytes
  have hml : c.maxLocals = 4 := hml0
  have hlk := Bd.notSynchronized
  have hown : s.vm.findClass "java/lang/Math" = some m.cls := findClass_of_methodNamed Bd.named
  have hnm := (name_of_methodNamed Bd.named Bd.method).1
  have X0 : Stand p l e ({ frames := 0, cells := 0, slots := 0, locals := 0 } : Room) s m #[(.long mx), (.long my)] below meth c s₁ [] 0 0 := Stand.of_body Bd
  have e0 : s₁.heap = h0 := by rw [← hh, Bd.state]; rfl
  have N0 := Fr.nil n0
  refine own_enter (Q := Q6 Z mx my h0 n0) (Ls := #[.val (.long mx), .second, .val (.long my), .second]) (by first | rfl | (simp [entryFrame, mkF, argsToLocals, Value.category]; done)) ?_
  refine own_lloadN X0 hx 1 rfl (hb hby own_d6_0) rfl ?_
  refine own_lloadN X0 hx 2 rfl (hb hby own_d6_1) rfl ?_
  refine own_lcmp X0 hx 3 rfl (hb hby own_d6_2) ?_
  by_cases hc3_1 : mx < my
  · refine own_ifY X0 hx 10 (hb hby own_d6_3) (Ltlt hc3_1).1 (by decide) (by decide) ?_
    refine own_lloadN X0 hx 11 rfl (hb hby own_d6_10) rfl ?_
    refine own_retJ X0 hx hlk Bd.returns (hb hby own_d6_11) (by decide) (by decide) e0 ?_
    exact ⟨my, rfl, N0, rfl, (by simp +decide [hc3_1])⟩
  · refine own_ifN X0 hx 6 (hb hby own_d6_3) (Lflt hc3_1).1 rfl ?_
    refine own_lloadN X0 hx 7 rfl (hb hby own_d6_6) rfl ?_
    refine own_goto X0 hx 11 (hb hby own_d6_7) (by decide) (by decide) ?_
    refine own_retJ X0 hx hlk Bd.returns (hb hby own_d6_11) (by decide) (by decide) e0 ?_
    exact ⟨mx, rfl, N0, rfl, (by simp +decide [hc3_1])⟩
theorem own_d9_0 : decode jdk_29_method_70_code 0 = .ok (.lload_n 0, 1) := by decide +kernel
theorem own_d9_1 : decode jdk_29_method_70_code 1 = .ok (.lload_n 2, 1) := by decide +kernel
theorem own_d9_2 : decode jdk_29_method_70_code 2 = .ok (.lcmp, 1) := by decide +kernel
theorem own_d9_3 : decode jdk_29_method_70_code 3 = .ok (.ifCond .gt 7, 3) := by decide +kernel
theorem own_d9_6 : decode jdk_29_method_70_code 6 = .ok (.lload_n 0, 1) := by decide +kernel
theorem own_d9_7 : decode jdk_29_method_70_code 7 = .ok (.goto 4, 3) := by decide +kernel
theorem own_d9_11 : decode jdk_29_method_70_code 11 = .ok (.lreturn, 1) := by decide +kernel
def Qmi100000000 (Z : State)  (h0 : Heap) (n0 : Nat) (v : Option Value) (h : Heap) (L : List Loc) : Prop := v = some (.long (100000000 : Int64)) ∧ Fr n0 L ∧ h = h0
set_option maxRecDepth 65536 in
set_option maxHeartbeats 40000000 in
theorem rmmi100000000 (l : Launch) (Z : State) (a0 : Array Value) (hw : ∀ d ∈ tables_1, d.before a0 Z = true) (ws : List Jvm.Cond)  (h0 : Heap) (n0 : Nat) (Z0 : n0 ≤ h0.size)  :
    MetFree l (⟨"java/lang/Math", "min", "(JJ)J"⟩ : MethodName) (head1 (Jvm.Cond.code (⟨"java/lang/Math", "min", "(JJ)J"⟩ : MethodName) jdk_29_method_70_code 4 (some .long) :: ws) ({ frames := 0, cells := 0, slots := 0, locals := 0 } : Room)) (fun a U => a = #[(.long (100000000 : Int64)), (.long (1000000000 : Int64))] ∧ Z.Warmed39 U.vm ∧ U.heap = h0) (fun _ _ _ _ _ => True) (fun _ U o U' => ∃ v L, o = .returned v ∧ Qmi100000000 Z  h0 n0 v U'.heap L ∧ FrameEnd U o U' L ({ frames := 0, cells := 0, slots := 0, locals := 0 } : Room).cells ({ frames := 0, cells := 0, slots := 0, locals := 0 } : Room).slots) := by
  refine MetFree.of_bodySF (Jvm.Free.JP.mathPlain rfl (by decide +kernel)) hisR ?_
  intro p e s m args below meth c s₁ Bd hml0 hP hK
  obtain ⟨rfl, hZ, hh⟩ := hP
  have hx := Bd.exec
  have hby := Bd.bytes
  have hml : c.maxLocals = 4 := hml0
  have hlk := Bd.notSynchronized
  have hown : s.vm.findClass "java/lang/Math" = some m.cls := findClass_of_methodNamed Bd.named
  have hnm := (name_of_methodNamed Bd.named Bd.method).1
  have X0 : Stand p l e ({ frames := 0, cells := 0, slots := 0, locals := 0 } : Room) s m #[(.long (100000000 : Int64)), (.long (1000000000 : Int64))] below meth c s₁ [] 0 0 := Stand.of_body Bd
  have e0 : s₁.heap = h0 := by rw [← hh, Bd.state]; rfl
  have N0 := Fr.nil n0
  refine own_enter (Q := Qmi100000000 Z  h0 n0) (Ls := #[.val (.long (100000000 : Int64)), .second, .val (.long (1000000000 : Int64)), .second]) (by first | rfl | (simp [entryFrame, mkF, argsToLocals, Value.category]; done)) ?_
  refine own_lloadN X0 hx 1 rfl (hb hby own_d9_0) rfl ?_
  refine own_lloadN X0 hx 2 rfl (hb hby own_d9_1) rfl ?_
  refine own_lcmp X0 hx 3 rfl (hb hby own_d9_2) ?_
  refine own_ifN X0 hx 6 (hb hby own_d9_3) (Lflt ((by decide) : ¬ ((1000000000 : Int64) < (100000000 : Int64)))).2.2.1 rfl ?_
  refine own_lloadN X0 hx 7 rfl (hb hby own_d9_6) rfl ?_
  refine own_goto X0 hx 11 (hb hby own_d9_7) (by decide) (by decide) ?_
  refine own_retJ X0 hx hlk Bd.returns (hb hby own_d9_11) (by decide) (by decide) e0 ?_
  exact ⟨rfl, N0, rfl⟩
theorem own_pd1 : parseMethodDescriptor "(JJ)J" = some ⟨[.long, .long], some .long⟩ := by decide +kernel
theorem own_d8_0 : decode prog_23_method_6_code 0 = .ok (.getstatic 35, 3) := by decide +kernel
theorem own_d8_3 : decode prog_23_method_6_code 3 = .ok (.lstore_n 1, 1) := by decide +kernel
theorem own_d8_4 : decode prog_23_method_6_code 4 = .ok (.iconst 1, 1) := by decide +kernel
theorem own_d8_5 : decode prog_23_method_6_code 5 = .ok (.istore_n 3, 1) := by decide +kernel
theorem own_d8_6 : decode prog_23_method_6_code 6 = .ok (.iload_n 3, 1) := by decide +kernel
theorem own_d8_7 : decode prog_23_method_6_code 7 = .ok (.aload_n 0, 1) := by decide +kernel
theorem own_d8_8 : decode prog_23_method_6_code 8 = .ok (.getfield 31, 3) := by decide +kernel
theorem own_d8_11 : decode prog_23_method_6_code 11 = .ok (.if_icmp .ge 23, 3) := by decide +kernel
theorem own_d8_34 : decode prog_23_method_6_code 34 = .ok (.lload_n 1, 1) := by decide +kernel
theorem own_d8_35 : decode prog_23_method_6_code 35 = .ok (.getstatic 38, 3) := by decide +kernel
theorem own_d8_38 : decode prog_23_method_6_code 38 = .ok (.invokestatic 43, 3) := by decide +kernel
theorem own_d8_41 : decode prog_23_method_6_code 41 = .ok (.lreturn, 1) := by decide +kernel
def Qpa1 (Z : State) (bt : Addr) (h0 : Heap) (n0 : Nat) (v : Option Value) (h : Heap) (L : List Loc) : Prop := v = some (.long (100000000 : Int64)) ∧ Fr n0 L ∧ h = h0
set_option maxRecDepth 65536 in
set_option maxHeartbeats 40000000 in
theorem rmpa1 (l : Launch) (Z : State) (a0 : Array Value) (hw : ∀ d ∈ tables_1, d.before a0 Z = true) (ws : List Jvm.Cond) (bt : Addr) (h0 : Heap) (n0 : Nat) (Z0 : n0 ≤ h0.size) (Ss : Sta Z h0 "com/example/pooler/pooler/pool/Backoff" "SHORTEST" "J" (.long (100000000 : Int64))) (Sl : Sta Z h0 "com/example/pooler/pooler/pool/Backoff" "LONGEST" "J" (.long (1000000000 : Int64))) (Ff : Fld Z h0 bt "com/example/pooler/pooler/pool/Backoff" "failuresInARow" "I" (.int (1 : Int32))) :
    MetFree l (⟨"com/example/pooler/pooler/pool/Backoff", "pause", "()J"⟩ : MethodName) (head1 (Jvm.Cond.code (⟨"com/example/pooler/pooler/pool/Backoff", "pause", "()J"⟩ : MethodName) prog_23_method_6_code 4 (some .long) :: ws) ({ frames := 1, cells := 0, slots := 0, locals := 15 } : Room)) (fun a U => a = #[(.ref bt)] ∧ Z.Warmed39 U.vm ∧ U.heap = h0) (fun _ _ _ _ _ => True) (fun _ U o U' => ∃ v L, o = .returned v ∧ Qpa1 Z bt h0 n0 v U'.heap L ∧ FrameEnd U o U' L ({ frames := 1, cells := 0, slots := 0, locals := 15 } : Room).cells ({ frames := 1, cells := 0, slots := 0, locals := 15 } : Room).slots) := by
  refine MetFree.of_bodySF (plainFor_of_name own_pn_com_example_pooler_pooler_pool_Backoff) hisR ?_
  intro p e s m args below meth c s₁ Bd hml0 hP hK
  obtain ⟨rfl, hZ, hh⟩ := hP
  have hx := Bd.exec
  have hby := Bd.bytes
  have hml : c.maxLocals = 4 := hml0
  have hlk := Bd.notSynchronized
  have hown : s.vm.findClass "com/example/pooler/pooler/pool/Backoff" = some m.cls := findClass_of_methodNamed Bd.named
  have hnm := (name_of_methodNamed Bd.named Bd.method).1
  have X0 : Stand p l e ({ frames := 1, cells := 0, slots := 0, locals := 15 } : Room) s m #[(.ref bt)] below meth c s₁ [] 0 0 := Stand.of_body Bd
  have e0 : s₁.heap = h0 := by rw [← hh, Bd.state]; rfl
  have N0 := Fr.nil n0
  refine own_enter (Q := Qpa1 Z bt h0 n0) (Ls := #[.val (.ref bt), .unset, .unset, .unset]) (by first | rfl | (simp [entryFrame, mkF, argsToLocals, Value.category]; done)) ?_
  obtain ⟨T1, X1, e1, st1⟩ := getS2 X0 hx hZ hown (host := "") (Or.inl (hw _ (List.mem_of_getElem? (i := 45) rfl))) Via.refl e0 Ss (g := (mkF m 0 #[.val (.ref bt), .unset, .unset, .unset] [])) rfl (hb hby own_d8_0)
  refine Goes.go st1 ?_
  show Goes p e below s _ _ _ T1 (mkF m 3 #[.val (.ref bt), .unset, .unset, .unset] [(.long (100000000 : Int64))])
  refine own_lstoreN X1 hx 4 rfl #[.val (.ref bt), .val (.long (100000000 : Int64)), .second, .unset] (hb hby own_d8_3) rfl ?_
  refine own_iconst X1 hx 5 rfl (1 : Int32) (hb hby own_d8_4) (by decide) ?_
  refine own_istoreN X1 hx 6 rfl #[.val (.ref bt), .val (.long (100000000 : Int64)), .second, .val (.int (1 : Int32))] (hb hby own_d8_5) rfl ?_
  refine own_iloadN X1 hx 7 rfl (hb hby own_d8_6) rfl ?_
  refine own_aloadN X1 hx 8 rfl (hb hby own_d8_7) rfl rfl ?_
  obtain ⟨T2, X2, e2, st2⟩ := getF X1 hx hZ hown (host := "") (Or.inl (hw _ (List.mem_of_getElem? (i := 23) rfl))) Via.refl e1 Ff (g := (mkF m 8 #[.val (.ref bt), .val (.long (100000000 : Int64)), .second, .val (.int (1 : Int32))] [(.ref bt), (.int (1 : Int32))])) rfl rfl (hb hby own_d8_8)
  refine Goes.go st2 ?_
  show Goes p e below s _ _ _ T2 (mkF m 11 #[.val (.ref bt), .val (.long (100000000 : Int64)), .second, .val (.int (1 : Int32))] [(.int (1 : Int32)), (.int (1 : Int32))])
  refine own_icmpY X2 hx 34 (hb hby own_d8_11) (flt ((by decide) : ¬ ((1 : Int32) < (1 : Int32)))).2.1 (by decide) (by decide) ?_
  refine own_lloadN X2 hx 35 rfl (hb hby own_d8_34) rfl ?_
  obtain ⟨T3, X3, e3, st3⟩ := getS2 X2 hx hZ hown (host := "") (Or.inl (hw _ (List.mem_of_getElem? (i := 47) rfl))) Via.refl e2 Sl (g := (mkF m 35 #[.val (.ref bt), .val (.long (100000000 : Int64)), .second, .val (.int (1 : Int32))] [(.long (100000000 : Int64))])) rfl (hb hby own_d8_35)
  refine Goes.go st3 ?_
  show Goes p e below s _ _ _ T3 (mkF m 38 #[.val (.ref bt), .val (.long (100000000 : Int64)), .second, .val (.int (1 : Int32))] [(.long (1000000000 : Int64)), (.long (100000000 : Int64))])
  obtain ⟨_, _, ⟨T4, L4, k4, n4⟩, -, X4, ⟨Lc4, hQ4, l4, y4, z4⟩, st4⟩ := Jvm.LawKit.callS X3 hx (y := (⟨"java/lang/Math", "min", "(JJ)J"⟩ : MethodName)) hown (mvT hZ (hw _ (List.mem_of_getElem? (i := 49) rfl))) (mvT hZ (hw _ (List.mem_of_getElem? (i := 50) rfl))) (mvT hZ (hw _ (List.mem_of_getElem? (i := 34) rfl))) (mvT hZ (hw _ (List.mem_of_getElem? (i := 51) rfl))) (by decide) (backOf (W := 0) (rmmi100000000 l Z a0 hw []  h0 n0 Z0 ) hZ (hw _ (List.mem_of_getElem? (i := 51) rfl)) (hw _ (List.mem_of_getElem? (i := 34) rfl)) (by decide) (by decide)) (g := (mkF m 38 #[.val (.ref bt), .val (.long (100000000 : Int64)), .second, .val (.int (1 : Int32))] [(.long (1000000000 : Int64)), (.long (100000000 : Int64))])) rfl (by rw [hml]; rfl) (argsL := [(.long (100000000 : Int64)), (.long (1000000000 : Int64))]) (rest := []) (lenOf own_pd1 rfl) rfl (by show 2 * 0 + _ ≤ _; exact Nat.le_of_eq rfl) (hb hby own_d8_38) (fun _ _ => ⟨rfl, e3, (by decide : 0 + 0 ≤ _), (by decide : 0 + 0 ≤ _)⟩)
  dsimp only [Pt.U, Pt.locs, Pt.cells, Pt.slots] at X4 l4 y4 z4 st4 hQ4
  subst l4 y4 z4
  obtain ⟨rfl, N4q, eh4⟩ := hQ4
  have N4 := Fr.app N0 N4q
  refine Goes.go st4 ?_
  show Goes p e below s _ _ _ T4 (mkF m 41 #[.val (.ref bt), .val (.long (100000000 : Int64)), .second, .val (.int (1 : Int32))] [(.long (100000000 : Int64))])
  refine own_retJ X4 hx hlk Bd.returns (hb hby own_d8_41) (by decide) (by decide) eh4 ?_
  exact ⟨rfl, N4, rfl⟩
theorem own_pd2 : parseMethodDescriptor "()J" = some ⟨[], some .long⟩ := by decide +kernel
theorem own_d7_0 : decode prog_23_method_2_code 0 = .ok (.lconst 0, 1) := by decide +kernel
theorem own_d7_1 : decode prog_23_method_2_code 1 = .ok (.lstore_n 3, 1) := by decide +kernel
theorem own_d7_2 : decode prog_23_method_2_code 2 = .ok (.aload_n 0, 1) := by decide +kernel
theorem own_d7_3 : decode prog_23_method_2_code 3 = .ok (.getfield 7, 3) := by decide +kernel
theorem own_d7_6 : decode prog_23_method_2_code 6 = .ok (.ifCond .eq 19, 3) := by decide +kernel
theorem own_d7_9 : decode prog_23_method_2_code 9 = .ok (.lconst 0, 1) := by decide +kernel
theorem own_d7_10 : decode prog_23_method_2_code 10 = .ok (.aload_n 0, 1) := by decide +kernel
theorem own_d7_11 : decode prog_23_method_2_code 11 = .ok (.getfield 13, 3) := by decide +kernel
theorem own_d7_14 : decode prog_23_method_2_code 14 = .ok (.aload_n 0, 1) := by decide +kernel
theorem own_d7_15 : decode prog_23_method_2_code 15 = .ok (.invokevirtual 17, 3) := by decide +kernel
theorem own_d7_18 : decode prog_23_method_2_code 18 = .ok (.ladd, 1) := by decide +kernel
theorem own_d7_19 : decode prog_23_method_2_code 19 = .ok (.lload_n 1, 1) := by decide +kernel
theorem own_d7_20 : decode prog_23_method_2_code 20 = .ok (.lsub, 1) := by decide +kernel
theorem own_d7_21 : decode prog_23_method_2_code 21 = .ok (.invokestatic 21, 3) := by decide +kernel
theorem own_d7_24 : decode prog_23_method_2_code 24 = .ok (.lstore_n 3, 1) := by decide +kernel
theorem own_d7_25 : decode prog_23_method_2_code 25 = .ok (.lload_n 3, 1) := by decide +kernel
theorem own_d7_26 : decode prog_23_method_2_code 26 = .ok (.lreturn, 1) := by decide +kernel
def Qde1 (Z : State) (bt : Addr) (bn : Int64) (be : Int64) (h0 : Heap) (n0 : Nat) (v : Option Value) (h : Heap) (L : List Loc) : Prop := ∃ br : Int64, v = some (.long br) ∧ Fr n0 L ∧ h = h0 ∧ ((br = ((be + (100000000 : Int64)) - bn) ∧ (0 : Int64) < ((be + (100000000 : Int64)) - bn)) ∨ (br = (0 : Int64) ∧ ¬ (0 : Int64) < ((be + (100000000 : Int64)) - bn)))
set_option maxRecDepth 65536 in
set_option maxHeartbeats 40000000 in
theorem rmde1 (l : Launch) (Z : State) (a0 : Array Value) (hw : ∀ d ∈ tables_1, d.before a0 Z = true) (ws : List Jvm.Cond) (bt : Addr) (bn : Int64) (be : Int64) (h0 : Heap) (n0 : Nat) (Z0 : n0 ≤ h0.size) (EB : Exa Z h0 bt "com/example/pooler/pooler/pool/Backoff") (Ss : Sta Z h0 "com/example/pooler/pooler/pool/Backoff" "SHORTEST" "J" (.long (100000000 : Int64))) (Sl : Sta Z h0 "com/example/pooler/pooler/pool/Backoff" "LONGEST" "J" (.long (1000000000 : Int64))) (Ft : Fld Z h0 bt "com/example/pooler/pooler/pool/Backoff" "tried" "Z" (.int (1 : Int32))) (Fe : Fld Z h0 bt "com/example/pooler/pooler/pool/Backoff" "endedAt" "J" (.long be)) (Ff : Fld Z h0 bt "com/example/pooler/pooler/pool/Backoff" "failuresInARow" "I" (.int (1 : Int32))) :
    MetFree l (⟨"com/example/pooler/pooler/pool/Backoff", "delay", "(J)J"⟩ : MethodName) (head1 (Jvm.Cond.code (⟨"com/example/pooler/pooler/pool/Backoff", "delay", "(J)J"⟩ : MethodName) prog_23_method_2_code 5 (some .long) :: ws) ({ frames := 2, cells := 0, slots := 0, locals := 34 } : Room)) (fun a U => a = #[(.ref bt), (.long bn)] ∧ Z.Warmed39 U.vm ∧ U.heap = h0) (fun _ _ _ _ _ => True) (fun _ U o U' => ∃ v L, o = .returned v ∧ Qde1 Z bt bn be h0 n0 v U'.heap L ∧ FrameEnd U o U' L ({ frames := 2, cells := 0, slots := 0, locals := 34 } : Room).cells ({ frames := 2, cells := 0, slots := 0, locals := 34 } : Room).slots) := by
  refine MetFree.of_bodySF (plainFor_of_name own_pn_com_example_pooler_pooler_pool_Backoff) hisR ?_
  intro p e s m args below meth c s₁ Bd hml0 hP hK
  obtain ⟨rfl, hZ, hh⟩ := hP
  have hx := Bd.exec
  have hby := Bd.bytes
  have hml : c.maxLocals = 5 := hml0
  have hlk := Bd.notSynchronized
  have hown : s.vm.findClass "com/example/pooler/pooler/pool/Backoff" = some m.cls := findClass_of_methodNamed Bd.named
  have hnm := (name_of_methodNamed Bd.named Bd.method).1
  have X0 : Stand p l e ({ frames := 2, cells := 0, slots := 0, locals := 34 } : Room) s m #[(.ref bt), (.long bn)] below meth c s₁ [] 0 0 := Stand.of_body Bd
  have e0 : s₁.heap = h0 := by rw [← hh, Bd.state]; rfl
  have N0 := Fr.nil n0
  refine own_enter (Q := Qde1 Z bt bn be h0 n0) (Ls := #[.val (.ref bt), .val (.long bn), .second, .unset, .unset]) (by first | rfl | (simp [entryFrame, mkF, argsToLocals, Value.category]; done)) ?_
  refine own_lconst X0 hx 1 rfl (0 : Int64) (hb hby own_d7_0) (by decide) ?_
  refine own_lstoreN X0 hx 2 rfl #[.val (.ref bt), .val (.long bn), .second, .val (.long (0 : Int64)), .second] (hb hby own_d7_1) rfl ?_
  refine own_aloadN X0 hx 3 rfl (hb hby own_d7_2) rfl rfl ?_
  obtain ⟨T1, X1, e1, st1⟩ := getF X0 hx hZ hown (host := "") (Or.inl (hw _ (List.mem_of_getElem? (i := 19) rfl))) Via.refl e0 Ft (g := (mkF m 3 #[.val (.ref bt), .val (.long bn), .second, .val (.long (0 : Int64)), .second] [(.ref bt)])) rfl rfl (hb hby own_d7_3)
  refine Goes.go st1 ?_
  show Goes p e below s _ _ _ T1 (mkF m 6 #[.val (.ref bt), .val (.long bn), .second, .val (.long (0 : Int64)), .second] [(.int (1 : Int32))])
  refine own_ifN X1 hx 9 (hb hby own_d7_6) ((if0 _ _).trans (feq ((by decide) : ¬ ((1 : Int32) = (0 : Int32)))).1) rfl ?_
  refine own_lconst X1 hx 10 rfl (0 : Int64) (hb hby own_d7_9) (by decide) ?_
  refine own_aloadN X1 hx 11 rfl (hb hby own_d7_10) rfl rfl ?_
  obtain ⟨T2, X2, e2, st2⟩ := getF X1 hx hZ hown (host := "") (Or.inl (hw _ (List.mem_of_getElem? (i := 21) rfl))) Via.refl e1 Fe (g := (mkF m 11 #[.val (.ref bt), .val (.long bn), .second, .val (.long (0 : Int64)), .second] [(.ref bt), (.long (0 : Int64))])) rfl rfl (hb hby own_d7_11)
  refine Goes.go st2 ?_
  show Goes p e below s _ _ _ T2 (mkF m 14 #[.val (.ref bt), .val (.long bn), .second, .val (.long (0 : Int64)), .second] [(.long be), (.long (0 : Int64))])
  refine own_aloadN X2 hx 15 rfl (hb hby own_d7_14) rfl rfl ?_
  obtain ⟨cq3, q3, q3'⟩ := EB.cell
  obtain ⟨_, _, ⟨T3, L3, k3, n3⟩, -, X3, ⟨Lc3, hQ3, l3, y3, z3⟩, st3⟩ := X2.privateBack hx (y := (⟨"com/example/pooler/pooler/pool/Backoff", "pause", "()J"⟩ : MethodName)) hown (mvT hZ (hw _ (List.mem_of_getElem? (i := 41) rfl))) (mvT hZ (hw _ (List.mem_of_getElem? (i := 42) rfl))) (own_selP (mvT hZ (hw _ (List.mem_of_getElem? (i := 2) rfl))) (mvP hZ (hw _ (List.mem_of_getElem? (i := 43) rfl))) (mvT hZ (hw _ (List.mem_of_getElem? (i := 42) rfl))) (by decide)) (Cond.privateMethod_at (mvP hZ (hw _ (List.mem_of_getElem? (i := 43) rfl)) (args := #[]))) (mvT hZ (hw _ (List.mem_of_getElem? (i := 44) rfl))) (by decide) (backOf (W := 4) (rmpa1 l Z a0 hw [] bt h0 n0 Z0 Ss Sl Ff) hZ (hw _ (List.mem_of_getElem? (i := 44) rfl)) (hw _ (List.mem_of_getElem? (i := 3) rfl)) (by decide) (by decide)) (g := (mkF m 15 #[.val (.ref bt), .val (.long bn), .second, .val (.long (0 : Int64)), .second] [(.ref bt), (.long be), (.long (0 : Int64))])) rfl (by rw [hml]; rfl) (Steps.refl _) (a := bt) (by rw [e2]; exact q3) q3' (argsL := []) (rest := [(.long be), (.long (0 : Int64))]) (lenOf own_pd2 rfl) rfl (by show 2 * 0 + _ ≤ _; exact Nat.le_of_eq rfl) (hb hby own_d7_15) (fun _ _ => ⟨rfl, e2, (by decide : 0 + 0 ≤ _), (by decide : 0 + 0 ≤ _)⟩)
  dsimp only [Pt.U, Pt.locs, Pt.cells, Pt.slots] at X3 l3 y3 z3 st3 hQ3
  subst l3 y3 z3
  obtain ⟨rfl, N3q, eh3⟩ := hQ3
  have N3 := Fr.app N0 N3q
  refine Goes.tr st3 ?_
  show Goes p e below s _ _ _ T3 (mkF m 18 #[.val (.ref bt), .val (.long bn), .second, .val (.long (0 : Int64)), .second] [(.long (100000000 : Int64)), (.long be), (.long (0 : Int64))])
  refine own_ladd X3 hx 19 rfl (hb hby own_d7_18) rfl ?_
  refine own_lloadN X3 hx 20 rfl (hb hby own_d7_19) rfl ?_
  refine own_lsub X3 hx 21 rfl (hb hby own_d7_20) rfl ?_
  obtain ⟨_, _, ⟨T4, L4, k4, n4⟩, -, X4, ⟨Lc4, hQ4, l4, y4, z4⟩, st4⟩ := Jvm.LawKit.callS X3 hx (y := (⟨"java/lang/Math", "max", "(JJ)J"⟩ : MethodName)) hown (mvT hZ (hw _ (List.mem_of_getElem? (i := 52) rfl))) (mvT hZ (hw _ (List.mem_of_getElem? (i := 33) rfl))) (mvT hZ (hw _ (List.mem_of_getElem? (i := 34) rfl))) (mvT hZ (hw _ (List.mem_of_getElem? (i := 35) rfl))) (by decide) (backOf (W := 0) (rm6 l Z a0 hw [] (0 : Int64) ((be + (100000000 : Int64)) - bn) h0 n0 Z0 ) hZ (hw _ (List.mem_of_getElem? (i := 35) rfl)) (hw _ (List.mem_of_getElem? (i := 34) rfl)) (by decide) (by decide)) (g := (mkF m 21 #[.val (.ref bt), .val (.long bn), .second, .val (.long (0 : Int64)), .second] [(.long ((be + (100000000 : Int64)) - bn)), (.long (0 : Int64))])) rfl (by rw [hml]; rfl) (argsL := [(.long (0 : Int64)), (.long ((be + (100000000 : Int64)) - bn))]) (rest := []) (lenOf own_pd1 rfl) rfl (by show 2 * 0 + _ ≤ _; exact Nat.le_of_eq rfl) (hb hby own_d7_21) (fun _ _ => ⟨rfl, eh3, (by decide : 0 + 0 ≤ _), (by decide : 0 + 0 ≤ _)⟩)
  dsimp only [Pt.U, Pt.locs, Pt.cells, Pt.slots] at X4 l4 y4 z4 st4 hQ4
  subst l4 y4 z4
  obtain ⟨mr_4, rfl, N4q, eh4, pr4_0⟩ := hQ4
  have N4 := Fr.app N3 N4q
  refine Goes.go st4 ?_
  show Goes p e below s _ _ _ T4 (mkF m 24 #[.val (.ref bt), .val (.long bn), .second, .val (.long (0 : Int64)), .second] [(.long mr_4)])
  refine own_lstoreN X4 hx 25 rfl #[.val (.ref bt), .val (.long bn), .second, .val (.long mr_4), .second] (hb hby own_d7_24) rfl ?_
  refine own_lloadN X4 hx 26 rfl (hb hby own_d7_25) rfl ?_
  refine own_retJ X4 hx hlk Bd.returns (hb hby own_d7_26) (by decide) (by decide) eh4 ?_
  exact ⟨mr_4, rfl, N4, rfl, pr4_0⟩
def Qmi200000000 (Z : State)  (h0 : Heap) (n0 : Nat) (v : Option Value) (h : Heap) (L : List Loc) : Prop := v = some (.long (200000000 : Int64)) ∧ Fr n0 L ∧ h = h0
set_option maxRecDepth 65536 in
set_option maxHeartbeats 40000000 in
theorem rmmi200000000 (l : Launch) (Z : State) (a0 : Array Value) (hw : ∀ d ∈ tables_1, d.before a0 Z = true) (ws : List Jvm.Cond)  (h0 : Heap) (n0 : Nat) (Z0 : n0 ≤ h0.size)  :
    MetFree l (⟨"java/lang/Math", "min", "(JJ)J"⟩ : MethodName) (head1 (Jvm.Cond.code (⟨"java/lang/Math", "min", "(JJ)J"⟩ : MethodName) jdk_29_method_70_code 4 (some .long) :: ws) ({ frames := 0, cells := 0, slots := 0, locals := 0 } : Room)) (fun a U => a = #[(.long (200000000 : Int64)), (.long (1000000000 : Int64))] ∧ Z.Warmed39 U.vm ∧ U.heap = h0) (fun _ _ _ _ _ => True) (fun _ U o U' => ∃ v L, o = .returned v ∧ Qmi200000000 Z  h0 n0 v U'.heap L ∧ FrameEnd U o U' L ({ frames := 0, cells := 0, slots := 0, locals := 0 } : Room).cells ({ frames := 0, cells := 0, slots := 0, locals := 0 } : Room).slots) := by
  refine MetFree.of_bodySF (Jvm.Free.JP.mathPlain rfl (by decide +kernel)) hisR ?_
  intro p e s m args below meth c s₁ Bd hml0 hP hK
  obtain ⟨rfl, hZ, hh⟩ := hP
  have hx := Bd.exec
  have hby := Bd.bytes
  have hml : c.maxLocals = 4 := hml0
  have hlk := Bd.notSynchronized
  have hown : s.vm.findClass "java/lang/Math" = some m.cls := findClass_of_methodNamed Bd.named
  have hnm := (name_of_methodNamed Bd.named Bd.method).1
  have X0 : Stand p l e ({ frames := 0, cells := 0, slots := 0, locals := 0 } : Room) s m #[(.long (200000000 : Int64)), (.long (1000000000 : Int64))] below meth c s₁ [] 0 0 := Stand.of_body Bd
  have e0 : s₁.heap = h0 := by rw [← hh, Bd.state]; rfl
  have N0 := Fr.nil n0
  refine own_enter (Q := Qmi200000000 Z  h0 n0) (Ls := #[.val (.long (200000000 : Int64)), .second, .val (.long (1000000000 : Int64)), .second]) (by first | rfl | (simp [entryFrame, mkF, argsToLocals, Value.category]; done)) ?_
  refine own_lloadN X0 hx 1 rfl (hb hby own_d9_0) rfl ?_
  refine own_lloadN X0 hx 2 rfl (hb hby own_d9_1) rfl ?_
  refine own_lcmp X0 hx 3 rfl (hb hby own_d9_2) ?_
  refine own_ifN X0 hx 6 (hb hby own_d9_3) (Lflt ((by decide) : ¬ ((1000000000 : Int64) < (200000000 : Int64)))).2.2.1 rfl ?_
  refine own_lloadN X0 hx 7 rfl (hb hby own_d9_6) rfl ?_
  refine own_goto X0 hx 11 (hb hby own_d9_7) (by decide) (by decide) ?_
  refine own_retJ X0 hx hlk Bd.returns (hb hby own_d9_11) (by decide) (by decide) e0 ?_
  exact ⟨rfl, N0, rfl⟩
theorem own_d8_14 : decode prog_23_method_6_code 14 = .ok (.lload_n 1, 1) := by decide +kernel
theorem own_d8_15 : decode prog_23_method_6_code 15 = .ok (.getstatic 38, 3) := by decide +kernel
theorem own_d8_18 : decode prog_23_method_6_code 18 = .ok (.lcmp, 1) := by decide +kernel
theorem own_d8_19 : decode prog_23_method_6_code 19 = .ok (.ifCond .ge 15, 3) := by decide +kernel
theorem own_d8_22 : decode prog_23_method_6_code 22 = .ok (.lload_n 1, 1) := by decide +kernel
theorem own_d8_23 : decode prog_23_method_6_code 23 = .ok (.ldc2_w 41, 3) := by decide +kernel
theorem own_d8_26 : decode prog_23_method_6_code 26 = .ok (.lmul, 1) := by decide +kernel
theorem own_d8_27 : decode prog_23_method_6_code 27 = .ok (.lstore_n 1, 1) := by decide +kernel
theorem own_d8_28 : decode prog_23_method_6_code 28 = .ok (.iinc 3 1, 3) := by decide +kernel
theorem own_d8_31 : decode prog_23_method_6_code 31 = .ok (.goto (-25), 3) := by decide +kernel
def Qpa2 (Z : State) (bt : Addr) (h0 : Heap) (n0 : Nat) (v : Option Value) (h : Heap) (L : List Loc) : Prop := v = some (.long (200000000 : Int64)) ∧ Fr n0 L ∧ h = h0
set_option maxRecDepth 65536 in
set_option maxHeartbeats 40000000 in
theorem rmpa2 (l : Launch) (Z : State) (a0 : Array Value) (hw : ∀ d ∈ tables_1, d.before a0 Z = true) (ws : List Jvm.Cond) (bt : Addr) (h0 : Heap) (n0 : Nat) (Z0 : n0 ≤ h0.size) (Ss : Sta Z h0 "com/example/pooler/pooler/pool/Backoff" "SHORTEST" "J" (.long (100000000 : Int64))) (Sl : Sta Z h0 "com/example/pooler/pooler/pool/Backoff" "LONGEST" "J" (.long (1000000000 : Int64))) (Ff : Fld Z h0 bt "com/example/pooler/pooler/pool/Backoff" "failuresInARow" "I" (.int (2 : Int32))) :
    MetFree l (⟨"com/example/pooler/pooler/pool/Backoff", "pause", "()J"⟩ : MethodName) (head1 (Jvm.Cond.code (⟨"com/example/pooler/pooler/pool/Backoff", "pause", "()J"⟩ : MethodName) prog_23_method_6_code 4 (some .long) :: ws) ({ frames := 1, cells := 0, slots := 0, locals := 15 } : Room)) (fun a U => a = #[(.ref bt)] ∧ Z.Warmed39 U.vm ∧ U.heap = h0) (fun _ _ _ _ _ => True) (fun _ U o U' => ∃ v L, o = .returned v ∧ Qpa2 Z bt h0 n0 v U'.heap L ∧ FrameEnd U o U' L ({ frames := 1, cells := 0, slots := 0, locals := 15 } : Room).cells ({ frames := 1, cells := 0, slots := 0, locals := 15 } : Room).slots) := by
  refine MetFree.of_bodySF (plainFor_of_name own_pn_com_example_pooler_pooler_pool_Backoff) hisR ?_
  intro p e s m args below meth c s₁ Bd hml0 hP hK
  obtain ⟨rfl, hZ, hh⟩ := hP
  have hx := Bd.exec
  have hby := Bd.bytes
  have hml : c.maxLocals = 4 := hml0
  have hlk := Bd.notSynchronized
  have hown : s.vm.findClass "com/example/pooler/pooler/pool/Backoff" = some m.cls := findClass_of_methodNamed Bd.named
  have hnm := (name_of_methodNamed Bd.named Bd.method).1
  have X0 : Stand p l e ({ frames := 1, cells := 0, slots := 0, locals := 15 } : Room) s m #[(.ref bt)] below meth c s₁ [] 0 0 := Stand.of_body Bd
  have e0 : s₁.heap = h0 := by rw [← hh, Bd.state]; rfl
  have N0 := Fr.nil n0
  refine own_enter (Q := Qpa2 Z bt h0 n0) (Ls := #[.val (.ref bt), .unset, .unset, .unset]) (by first | rfl | (simp [entryFrame, mkF, argsToLocals, Value.category]; done)) ?_
  obtain ⟨T1, X1, e1, st1⟩ := getS2 X0 hx hZ hown (host := "") (Or.inl (hw _ (List.mem_of_getElem? (i := 45) rfl))) Via.refl e0 Ss (g := (mkF m 0 #[.val (.ref bt), .unset, .unset, .unset] [])) rfl (hb hby own_d8_0)
  refine Goes.go st1 ?_
  show Goes p e below s _ _ _ T1 (mkF m 3 #[.val (.ref bt), .unset, .unset, .unset] [(.long (100000000 : Int64))])
  refine own_lstoreN X1 hx 4 rfl #[.val (.ref bt), .val (.long (100000000 : Int64)), .second, .unset] (hb hby own_d8_3) rfl ?_
  refine own_iconst X1 hx 5 rfl (1 : Int32) (hb hby own_d8_4) (by decide) ?_
  refine own_istoreN X1 hx 6 rfl #[.val (.ref bt), .val (.long (100000000 : Int64)), .second, .val (.int (1 : Int32))] (hb hby own_d8_5) rfl ?_
  refine own_iloadN X1 hx 7 rfl (hb hby own_d8_6) rfl ?_
  refine own_aloadN X1 hx 8 rfl (hb hby own_d8_7) rfl rfl ?_
  obtain ⟨T2, X2, e2, st2⟩ := getF X1 hx hZ hown (host := "") (Or.inl (hw _ (List.mem_of_getElem? (i := 23) rfl))) Via.refl e1 Ff (g := (mkF m 8 #[.val (.ref bt), .val (.long (100000000 : Int64)), .second, .val (.int (1 : Int32))] [(.ref bt), (.int (1 : Int32))])) rfl rfl (hb hby own_d8_8)
  refine Goes.go st2 ?_
  show Goes p e below s _ _ _ T2 (mkF m 11 #[.val (.ref bt), .val (.long (100000000 : Int64)), .second, .val (.int (1 : Int32))] [(.int (2 : Int32)), (.int (1 : Int32))])
  refine own_icmpN X2 hx 14 (hb hby own_d8_11) (tlt ((by decide) : (1 : Int32) < (2 : Int32))).2.1 rfl ?_
  refine own_lloadN X2 hx 15 rfl (hb hby own_d8_14) rfl ?_
  obtain ⟨T3, X3, e3, st3⟩ := getS2 X2 hx hZ hown (host := "") (Or.inl (hw _ (List.mem_of_getElem? (i := 47) rfl))) Via.refl e2 Sl (g := (mkF m 15 #[.val (.ref bt), .val (.long (100000000 : Int64)), .second, .val (.int (1 : Int32))] [(.long (100000000 : Int64))])) rfl (hb hby own_d8_15)
  refine Goes.go st3 ?_
  show Goes p e below s _ _ _ T3 (mkF m 18 #[.val (.ref bt), .val (.long (100000000 : Int64)), .second, .val (.int (1 : Int32))] [(.long (1000000000 : Int64)), (.long (100000000 : Int64))])
  refine own_lcmp X3 hx 19 rfl (hb hby own_d8_18) ?_
  refine own_ifN X3 hx 22 (hb hby own_d8_19) (Ltlt ((by decide) : (100000000 : Int64) < (1000000000 : Int64))).2.1 rfl ?_
  refine own_lloadN X3 hx 23 rfl (hb hby own_d8_22) rfl ?_
  refine Goes.go (X3.ldc2Long hx hown (mvT hZ (hw _ (List.mem_of_getElem? (i := 53) rfl))) (g := (mkF m 23 #[.val (.ref bt), .val (.long (100000000 : Int64)), .second, .val (.int (1 : Int32))] [(.long (100000000 : Int64))])) rfl (hb hby own_d8_23)) ?_
  show Goes p e below s _ _ _ T3 (mkF m 26 #[.val (.ref bt), .val (.long (100000000 : Int64)), .second, .val (.int (1 : Int32))] [(.long (2 : Int64)), (.long (100000000 : Int64))])
  refine own_lmul X3 hx 27 rfl (z := (200000000 : Int64)) (hb hby own_d8_26) (by decide) ?_
  refine own_lstoreN X3 hx 28 rfl #[.val (.ref bt), .val (.long (200000000 : Int64)), .second, .val (.int (1 : Int32))] (hb hby own_d8_27) rfl ?_
  refine own_iinc X3 hx 31 rfl #[.val (.ref bt), .val (.long (200000000 : Int64)), .second, .val (.int (2 : Int32))] (hb hby own_d8_28) rfl (by decide) rfl ?_
  refine own_goto X3 hx 6 (hb hby own_d8_31) (by decide) (by decide) ?_
  refine own_iloadN X3 hx 7 rfl (hb hby own_d8_6) rfl ?_
  refine own_aloadN X3 hx 8 rfl (hb hby own_d8_7) rfl rfl ?_
  obtain ⟨T4, X4, e4, st4⟩ := getF X3 hx hZ hown (host := "") (Or.inl (hw _ (List.mem_of_getElem? (i := 23) rfl))) Via.refl e3 Ff (g := (mkF m 8 #[.val (.ref bt), .val (.long (200000000 : Int64)), .second, .val (.int (2 : Int32))] [(.ref bt), (.int (2 : Int32))])) rfl rfl (hb hby own_d8_8)
  refine Goes.go st4 ?_
  show Goes p e below s _ _ _ T4 (mkF m 11 #[.val (.ref bt), .val (.long (200000000 : Int64)), .second, .val (.int (2 : Int32))] [(.int (2 : Int32)), (.int (2 : Int32))])
  refine own_icmpY X4 hx 34 (hb hby own_d8_11) (flt ((by decide) : ¬ ((2 : Int32) < (2 : Int32)))).2.1 (by decide) (by decide) ?_
  refine own_lloadN X4 hx 35 rfl (hb hby own_d8_34) rfl ?_
  obtain ⟨T5, X5, e5, st5⟩ := getS2 X4 hx hZ hown (host := "") (Or.inl (hw _ (List.mem_of_getElem? (i := 47) rfl))) Via.refl e4 Sl (g := (mkF m 35 #[.val (.ref bt), .val (.long (200000000 : Int64)), .second, .val (.int (2 : Int32))] [(.long (200000000 : Int64))])) rfl (hb hby own_d8_35)
  refine Goes.go st5 ?_
  show Goes p e below s _ _ _ T5 (mkF m 38 #[.val (.ref bt), .val (.long (200000000 : Int64)), .second, .val (.int (2 : Int32))] [(.long (1000000000 : Int64)), (.long (200000000 : Int64))])
  obtain ⟨_, _, ⟨T6, L6, k6, n6⟩, -, X6, ⟨Lc6, hQ6, l6, y6, z6⟩, st6⟩ := Jvm.LawKit.callS X5 hx (y := (⟨"java/lang/Math", "min", "(JJ)J"⟩ : MethodName)) hown (mvT hZ (hw _ (List.mem_of_getElem? (i := 49) rfl))) (mvT hZ (hw _ (List.mem_of_getElem? (i := 50) rfl))) (mvT hZ (hw _ (List.mem_of_getElem? (i := 34) rfl))) (mvT hZ (hw _ (List.mem_of_getElem? (i := 51) rfl))) (by decide) (backOf (W := 0) (rmmi200000000 l Z a0 hw []  h0 n0 Z0 ) hZ (hw _ (List.mem_of_getElem? (i := 51) rfl)) (hw _ (List.mem_of_getElem? (i := 34) rfl)) (by decide) (by decide)) (g := (mkF m 38 #[.val (.ref bt), .val (.long (200000000 : Int64)), .second, .val (.int (2 : Int32))] [(.long (1000000000 : Int64)), (.long (200000000 : Int64))])) rfl (by rw [hml]; rfl) (argsL := [(.long (200000000 : Int64)), (.long (1000000000 : Int64))]) (rest := []) (lenOf own_pd1 rfl) rfl (by show 2 * 0 + _ ≤ _; exact Nat.le_of_eq rfl) (hb hby own_d8_38) (fun _ _ => ⟨rfl, e5, (by decide : 0 + 0 ≤ _), (by decide : 0 + 0 ≤ _)⟩)
  dsimp only [Pt.U, Pt.locs, Pt.cells, Pt.slots] at X6 l6 y6 z6 st6 hQ6
  subst l6 y6 z6
  obtain ⟨rfl, N6q, eh6⟩ := hQ6
  have N6 := Fr.app N0 N6q
  refine Goes.go st6 ?_
  show Goes p e below s _ _ _ T6 (mkF m 41 #[.val (.ref bt), .val (.long (200000000 : Int64)), .second, .val (.int (2 : Int32))] [(.long (200000000 : Int64))])
  refine own_retJ X6 hx hlk Bd.returns (hb hby own_d8_41) (by decide) (by decide) eh6 ?_
  exact ⟨rfl, N6, rfl⟩
def Qde2 (Z : State) (bt : Addr) (bn : Int64) (be : Int64) (h0 : Heap) (n0 : Nat) (v : Option Value) (h : Heap) (L : List Loc) : Prop := ∃ br : Int64, v = some (.long br) ∧ Fr n0 L ∧ h = h0 ∧ ((br = ((be + (200000000 : Int64)) - bn) ∧ (0 : Int64) < ((be + (200000000 : Int64)) - bn)) ∨ (br = (0 : Int64) ∧ ¬ (0 : Int64) < ((be + (200000000 : Int64)) - bn)))
set_option maxRecDepth 65536 in
set_option maxHeartbeats 40000000 in
theorem rmde2 (l : Launch) (Z : State) (a0 : Array Value) (hw : ∀ d ∈ tables_1, d.before a0 Z = true) (ws : List Jvm.Cond) (bt : Addr) (bn : Int64) (be : Int64) (h0 : Heap) (n0 : Nat) (Z0 : n0 ≤ h0.size) (EB : Exa Z h0 bt "com/example/pooler/pooler/pool/Backoff") (Ss : Sta Z h0 "com/example/pooler/pooler/pool/Backoff" "SHORTEST" "J" (.long (100000000 : Int64))) (Sl : Sta Z h0 "com/example/pooler/pooler/pool/Backoff" "LONGEST" "J" (.long (1000000000 : Int64))) (Ft : Fld Z h0 bt "com/example/pooler/pooler/pool/Backoff" "tried" "Z" (.int (1 : Int32))) (Fe : Fld Z h0 bt "com/example/pooler/pooler/pool/Backoff" "endedAt" "J" (.long be)) (Ff : Fld Z h0 bt "com/example/pooler/pooler/pool/Backoff" "failuresInARow" "I" (.int (2 : Int32))) :
    MetFree l (⟨"com/example/pooler/pooler/pool/Backoff", "delay", "(J)J"⟩ : MethodName) (head1 (Jvm.Cond.code (⟨"com/example/pooler/pooler/pool/Backoff", "delay", "(J)J"⟩ : MethodName) prog_23_method_2_code 5 (some .long) :: ws) ({ frames := 2, cells := 0, slots := 0, locals := 34 } : Room)) (fun a U => a = #[(.ref bt), (.long bn)] ∧ Z.Warmed39 U.vm ∧ U.heap = h0) (fun _ _ _ _ _ => True) (fun _ U o U' => ∃ v L, o = .returned v ∧ Qde2 Z bt bn be h0 n0 v U'.heap L ∧ FrameEnd U o U' L ({ frames := 2, cells := 0, slots := 0, locals := 34 } : Room).cells ({ frames := 2, cells := 0, slots := 0, locals := 34 } : Room).slots) := by
  refine MetFree.of_bodySF (plainFor_of_name own_pn_com_example_pooler_pooler_pool_Backoff) hisR ?_
  intro p e s m args below meth c s₁ Bd hml0 hP hK
  obtain ⟨rfl, hZ, hh⟩ := hP
  have hx := Bd.exec
  have hby := Bd.bytes
  have hml : c.maxLocals = 5 := hml0
  have hlk := Bd.notSynchronized
  have hown : s.vm.findClass "com/example/pooler/pooler/pool/Backoff" = some m.cls := findClass_of_methodNamed Bd.named
  have hnm := (name_of_methodNamed Bd.named Bd.method).1
  have X0 : Stand p l e ({ frames := 2, cells := 0, slots := 0, locals := 34 } : Room) s m #[(.ref bt), (.long bn)] below meth c s₁ [] 0 0 := Stand.of_body Bd
  have e0 : s₁.heap = h0 := by rw [← hh, Bd.state]; rfl
  have N0 := Fr.nil n0
  refine own_enter (Q := Qde2 Z bt bn be h0 n0) (Ls := #[.val (.ref bt), .val (.long bn), .second, .unset, .unset]) (by first | rfl | (simp [entryFrame, mkF, argsToLocals, Value.category]; done)) ?_
  refine own_lconst X0 hx 1 rfl (0 : Int64) (hb hby own_d7_0) (by decide) ?_
  refine own_lstoreN X0 hx 2 rfl #[.val (.ref bt), .val (.long bn), .second, .val (.long (0 : Int64)), .second] (hb hby own_d7_1) rfl ?_
  refine own_aloadN X0 hx 3 rfl (hb hby own_d7_2) rfl rfl ?_
  obtain ⟨T1, X1, e1, st1⟩ := getF X0 hx hZ hown (host := "") (Or.inl (hw _ (List.mem_of_getElem? (i := 19) rfl))) Via.refl e0 Ft (g := (mkF m 3 #[.val (.ref bt), .val (.long bn), .second, .val (.long (0 : Int64)), .second] [(.ref bt)])) rfl rfl (hb hby own_d7_3)
  refine Goes.go st1 ?_
  show Goes p e below s _ _ _ T1 (mkF m 6 #[.val (.ref bt), .val (.long bn), .second, .val (.long (0 : Int64)), .second] [(.int (1 : Int32))])
  refine own_ifN X1 hx 9 (hb hby own_d7_6) ((if0 _ _).trans (feq ((by decide) : ¬ ((1 : Int32) = (0 : Int32)))).1) rfl ?_
  refine own_lconst X1 hx 10 rfl (0 : Int64) (hb hby own_d7_9) (by decide) ?_
  refine own_aloadN X1 hx 11 rfl (hb hby own_d7_10) rfl rfl ?_
  obtain ⟨T2, X2, e2, st2⟩ := getF X1 hx hZ hown (host := "") (Or.inl (hw _ (List.mem_of_getElem? (i := 21) rfl))) Via.refl e1 Fe (g := (mkF m 11 #[.val (.ref bt), .val (.long bn), .second, .val (.long (0 : Int64)), .second] [(.ref bt), (.long (0 : Int64))])) rfl rfl (hb hby own_d7_11)
  refine Goes.go st2 ?_
  show Goes p e below s _ _ _ T2 (mkF m 14 #[.val (.ref bt), .val (.long bn), .second, .val (.long (0 : Int64)), .second] [(.long be), (.long (0 : Int64))])
  refine own_aloadN X2 hx 15 rfl (hb hby own_d7_14) rfl rfl ?_
  obtain ⟨cq3, q3, q3'⟩ := EB.cell
  obtain ⟨_, _, ⟨T3, L3, k3, n3⟩, -, X3, ⟨Lc3, hQ3, l3, y3, z3⟩, st3⟩ := X2.privateBack hx (y := (⟨"com/example/pooler/pooler/pool/Backoff", "pause", "()J"⟩ : MethodName)) hown (mvT hZ (hw _ (List.mem_of_getElem? (i := 41) rfl))) (mvT hZ (hw _ (List.mem_of_getElem? (i := 42) rfl))) (own_selP (mvT hZ (hw _ (List.mem_of_getElem? (i := 2) rfl))) (mvP hZ (hw _ (List.mem_of_getElem? (i := 43) rfl))) (mvT hZ (hw _ (List.mem_of_getElem? (i := 42) rfl))) (by decide)) (Cond.privateMethod_at (mvP hZ (hw _ (List.mem_of_getElem? (i := 43) rfl)) (args := #[]))) (mvT hZ (hw _ (List.mem_of_getElem? (i := 44) rfl))) (by decide) (backOf (W := 4) (rmpa2 l Z a0 hw [] bt h0 n0 Z0 Ss Sl Ff) hZ (hw _ (List.mem_of_getElem? (i := 44) rfl)) (hw _ (List.mem_of_getElem? (i := 3) rfl)) (by decide) (by decide)) (g := (mkF m 15 #[.val (.ref bt), .val (.long bn), .second, .val (.long (0 : Int64)), .second] [(.ref bt), (.long be), (.long (0 : Int64))])) rfl (by rw [hml]; rfl) (Steps.refl _) (a := bt) (by rw [e2]; exact q3) q3' (argsL := []) (rest := [(.long be), (.long (0 : Int64))]) (lenOf own_pd2 rfl) rfl (by show 2 * 0 + _ ≤ _; exact Nat.le_of_eq rfl) (hb hby own_d7_15) (fun _ _ => ⟨rfl, e2, (by decide : 0 + 0 ≤ _), (by decide : 0 + 0 ≤ _)⟩)
  dsimp only [Pt.U, Pt.locs, Pt.cells, Pt.slots] at X3 l3 y3 z3 st3 hQ3
  subst l3 y3 z3
  obtain ⟨rfl, N3q, eh3⟩ := hQ3
  have N3 := Fr.app N0 N3q
  refine Goes.tr st3 ?_
  show Goes p e below s _ _ _ T3 (mkF m 18 #[.val (.ref bt), .val (.long bn), .second, .val (.long (0 : Int64)), .second] [(.long (200000000 : Int64)), (.long be), (.long (0 : Int64))])
  refine own_ladd X3 hx 19 rfl (hb hby own_d7_18) rfl ?_
  refine own_lloadN X3 hx 20 rfl (hb hby own_d7_19) rfl ?_
  refine own_lsub X3 hx 21 rfl (hb hby own_d7_20) rfl ?_
  obtain ⟨_, _, ⟨T4, L4, k4, n4⟩, -, X4, ⟨Lc4, hQ4, l4, y4, z4⟩, st4⟩ := Jvm.LawKit.callS X3 hx (y := (⟨"java/lang/Math", "max", "(JJ)J"⟩ : MethodName)) hown (mvT hZ (hw _ (List.mem_of_getElem? (i := 52) rfl))) (mvT hZ (hw _ (List.mem_of_getElem? (i := 33) rfl))) (mvT hZ (hw _ (List.mem_of_getElem? (i := 34) rfl))) (mvT hZ (hw _ (List.mem_of_getElem? (i := 35) rfl))) (by decide) (backOf (W := 0) (rm6 l Z a0 hw [] (0 : Int64) ((be + (200000000 : Int64)) - bn) h0 n0 Z0 ) hZ (hw _ (List.mem_of_getElem? (i := 35) rfl)) (hw _ (List.mem_of_getElem? (i := 34) rfl)) (by decide) (by decide)) (g := (mkF m 21 #[.val (.ref bt), .val (.long bn), .second, .val (.long (0 : Int64)), .second] [(.long ((be + (200000000 : Int64)) - bn)), (.long (0 : Int64))])) rfl (by rw [hml]; rfl) (argsL := [(.long (0 : Int64)), (.long ((be + (200000000 : Int64)) - bn))]) (rest := []) (lenOf own_pd1 rfl) rfl (by show 2 * 0 + _ ≤ _; exact Nat.le_of_eq rfl) (hb hby own_d7_21) (fun _ _ => ⟨rfl, eh3, (by decide : 0 + 0 ≤ _), (by decide : 0 + 0 ≤ _)⟩)
  dsimp only [Pt.U, Pt.locs, Pt.cells, Pt.slots] at X4 l4 y4 z4 st4 hQ4
  subst l4 y4 z4
  obtain ⟨mr_4, rfl, N4q, eh4, pr4_0⟩ := hQ4
  have N4 := Fr.app N3 N4q
  refine Goes.go st4 ?_
  show Goes p e below s _ _ _ T4 (mkF m 24 #[.val (.ref bt), .val (.long bn), .second, .val (.long (0 : Int64)), .second] [(.long mr_4)])
  refine own_lstoreN X4 hx 25 rfl #[.val (.ref bt), .val (.long bn), .second, .val (.long mr_4), .second] (hb hby own_d7_24) rfl ?_
  refine own_lloadN X4 hx 26 rfl (hb hby own_d7_25) rfl ?_
  refine own_retJ X4 hx hlk Bd.returns (hb hby own_d7_26) (by decide) (by decide) eh4 ?_
  exact ⟨mr_4, rfl, N4, rfl, pr4_0⟩
def Qmi400000000 (Z : State)  (h0 : Heap) (n0 : Nat) (v : Option Value) (h : Heap) (L : List Loc) : Prop := v = some (.long (400000000 : Int64)) ∧ Fr n0 L ∧ h = h0
set_option maxRecDepth 65536 in
set_option maxHeartbeats 40000000 in
theorem rmmi400000000 (l : Launch) (Z : State) (a0 : Array Value) (hw : ∀ d ∈ tables_1, d.before a0 Z = true) (ws : List Jvm.Cond)  (h0 : Heap) (n0 : Nat) (Z0 : n0 ≤ h0.size)  :
    MetFree l (⟨"java/lang/Math", "min", "(JJ)J"⟩ : MethodName) (head1 (Jvm.Cond.code (⟨"java/lang/Math", "min", "(JJ)J"⟩ : MethodName) jdk_29_method_70_code 4 (some .long) :: ws) ({ frames := 0, cells := 0, slots := 0, locals := 0 } : Room)) (fun a U => a = #[(.long (400000000 : Int64)), (.long (1000000000 : Int64))] ∧ Z.Warmed39 U.vm ∧ U.heap = h0) (fun _ _ _ _ _ => True) (fun _ U o U' => ∃ v L, o = .returned v ∧ Qmi400000000 Z  h0 n0 v U'.heap L ∧ FrameEnd U o U' L ({ frames := 0, cells := 0, slots := 0, locals := 0 } : Room).cells ({ frames := 0, cells := 0, slots := 0, locals := 0 } : Room).slots) := by
  refine MetFree.of_bodySF (Jvm.Free.JP.mathPlain rfl (by decide +kernel)) hisR ?_
  intro p e s m args below meth c s₁ Bd hml0 hP hK
  obtain ⟨rfl, hZ, hh⟩ := hP
  have hx := Bd.exec
  have hby := Bd.bytes
  have hml : c.maxLocals = 4 := hml0
  have hlk := Bd.notSynchronized
  have hown : s.vm.findClass "java/lang/Math" = some m.cls := findClass_of_methodNamed Bd.named
  have hnm := (name_of_methodNamed Bd.named Bd.method).1
  have X0 : Stand p l e ({ frames := 0, cells := 0, slots := 0, locals := 0 } : Room) s m #[(.long (400000000 : Int64)), (.long (1000000000 : Int64))] below meth c s₁ [] 0 0 := Stand.of_body Bd
  have e0 : s₁.heap = h0 := by rw [← hh, Bd.state]; rfl
  have N0 := Fr.nil n0
  refine own_enter (Q := Qmi400000000 Z  h0 n0) (Ls := #[.val (.long (400000000 : Int64)), .second, .val (.long (1000000000 : Int64)), .second]) (by first | rfl | (simp [entryFrame, mkF, argsToLocals, Value.category]; done)) ?_
  refine own_lloadN X0 hx 1 rfl (hb hby own_d9_0) rfl ?_
  refine own_lloadN X0 hx 2 rfl (hb hby own_d9_1) rfl ?_
  refine own_lcmp X0 hx 3 rfl (hb hby own_d9_2) ?_
  refine own_ifN X0 hx 6 (hb hby own_d9_3) (Lflt ((by decide) : ¬ ((1000000000 : Int64) < (400000000 : Int64)))).2.2.1 rfl ?_
  refine own_lloadN X0 hx 7 rfl (hb hby own_d9_6) rfl ?_
  refine own_goto X0 hx 11 (hb hby own_d9_7) (by decide) (by decide) ?_
  refine own_retJ X0 hx hlk Bd.returns (hb hby own_d9_11) (by decide) (by decide) e0 ?_
  exact ⟨rfl, N0, rfl⟩
def Qpa3 (Z : State) (bt : Addr) (h0 : Heap) (n0 : Nat) (v : Option Value) (h : Heap) (L : List Loc) : Prop := v = some (.long (400000000 : Int64)) ∧ Fr n0 L ∧ h = h0
set_option maxRecDepth 65536 in
set_option maxHeartbeats 40000000 in
theorem rmpa3 (l : Launch) (Z : State) (a0 : Array Value) (hw : ∀ d ∈ tables_1, d.before a0 Z = true) (ws : List Jvm.Cond) (bt : Addr) (h0 : Heap) (n0 : Nat) (Z0 : n0 ≤ h0.size) (Ss : Sta Z h0 "com/example/pooler/pooler/pool/Backoff" "SHORTEST" "J" (.long (100000000 : Int64))) (Sl : Sta Z h0 "com/example/pooler/pooler/pool/Backoff" "LONGEST" "J" (.long (1000000000 : Int64))) (Ff : Fld Z h0 bt "com/example/pooler/pooler/pool/Backoff" "failuresInARow" "I" (.int (3 : Int32))) :
    MetFree l (⟨"com/example/pooler/pooler/pool/Backoff", "pause", "()J"⟩ : MethodName) (head1 (Jvm.Cond.code (⟨"com/example/pooler/pooler/pool/Backoff", "pause", "()J"⟩ : MethodName) prog_23_method_6_code 4 (some .long) :: ws) ({ frames := 1, cells := 0, slots := 0, locals := 15 } : Room)) (fun a U => a = #[(.ref bt)] ∧ Z.Warmed39 U.vm ∧ U.heap = h0) (fun _ _ _ _ _ => True) (fun _ U o U' => ∃ v L, o = .returned v ∧ Qpa3 Z bt h0 n0 v U'.heap L ∧ FrameEnd U o U' L ({ frames := 1, cells := 0, slots := 0, locals := 15 } : Room).cells ({ frames := 1, cells := 0, slots := 0, locals := 15 } : Room).slots) := by
  refine MetFree.of_bodySF (plainFor_of_name own_pn_com_example_pooler_pooler_pool_Backoff) hisR ?_
  intro p e s m args below meth c s₁ Bd hml0 hP hK
  obtain ⟨rfl, hZ, hh⟩ := hP
  have hx := Bd.exec
  have hby := Bd.bytes
  have hml : c.maxLocals = 4 := hml0
  have hlk := Bd.notSynchronized
  have hown : s.vm.findClass "com/example/pooler/pooler/pool/Backoff" = some m.cls := findClass_of_methodNamed Bd.named
  have hnm := (name_of_methodNamed Bd.named Bd.method).1
  have X0 : Stand p l e ({ frames := 1, cells := 0, slots := 0, locals := 15 } : Room) s m #[(.ref bt)] below meth c s₁ [] 0 0 := Stand.of_body Bd
  have e0 : s₁.heap = h0 := by rw [← hh, Bd.state]; rfl
  have N0 := Fr.nil n0
  refine own_enter (Q := Qpa3 Z bt h0 n0) (Ls := #[.val (.ref bt), .unset, .unset, .unset]) (by first | rfl | (simp [entryFrame, mkF, argsToLocals, Value.category]; done)) ?_
  obtain ⟨T1, X1, e1, st1⟩ := getS2 X0 hx hZ hown (host := "") (Or.inl (hw _ (List.mem_of_getElem? (i := 45) rfl))) Via.refl e0 Ss (g := (mkF m 0 #[.val (.ref bt), .unset, .unset, .unset] [])) rfl (hb hby own_d8_0)
  refine Goes.go st1 ?_
  show Goes p e below s _ _ _ T1 (mkF m 3 #[.val (.ref bt), .unset, .unset, .unset] [(.long (100000000 : Int64))])
  refine own_lstoreN X1 hx 4 rfl #[.val (.ref bt), .val (.long (100000000 : Int64)), .second, .unset] (hb hby own_d8_3) rfl ?_
  refine own_iconst X1 hx 5 rfl (1 : Int32) (hb hby own_d8_4) (by decide) ?_
  refine own_istoreN X1 hx 6 rfl #[.val (.ref bt), .val (.long (100000000 : Int64)), .second, .val (.int (1 : Int32))] (hb hby own_d8_5) rfl ?_
  refine own_iloadN X1 hx 7 rfl (hb hby own_d8_6) rfl ?_
  refine own_aloadN X1 hx 8 rfl (hb hby own_d8_7) rfl rfl ?_
  obtain ⟨T2, X2, e2, st2⟩ := getF X1 hx hZ hown (host := "") (Or.inl (hw _ (List.mem_of_getElem? (i := 23) rfl))) Via.refl e1 Ff (g := (mkF m 8 #[.val (.ref bt), .val (.long (100000000 : Int64)), .second, .val (.int (1 : Int32))] [(.ref bt), (.int (1 : Int32))])) rfl rfl (hb hby own_d8_8)
  refine Goes.go st2 ?_
  show Goes p e below s _ _ _ T2 (mkF m 11 #[.val (.ref bt), .val (.long (100000000 : Int64)), .second, .val (.int (1 : Int32))] [(.int (3 : Int32)), (.int (1 : Int32))])
  refine own_icmpN X2 hx 14 (hb hby own_d8_11) (tlt ((by decide) : (1 : Int32) < (3 : Int32))).2.1 rfl ?_
  refine own_lloadN X2 hx 15 rfl (hb hby own_d8_14) rfl ?_
  obtain ⟨T3, X3, e3, st3⟩ := getS2 X2 hx hZ hown (host := "") (Or.inl (hw _ (List.mem_of_getElem? (i := 47) rfl))) Via.refl e2 Sl (g := (mkF m 15 #[.val (.ref bt), .val (.long (100000000 : Int64)), .second, .val (.int (1 : Int32))] [(.long (100000000 : Int64))])) rfl (hb hby own_d8_15)
  refine Goes.go st3 ?_
  show Goes p e below s _ _ _ T3 (mkF m 18 #[.val (.ref bt), .val (.long (100000000 : Int64)), .second, .val (.int (1 : Int32))] [(.long (1000000000 : Int64)), (.long (100000000 : Int64))])
  refine own_lcmp X3 hx 19 rfl (hb hby own_d8_18) ?_
  refine own_ifN X3 hx 22 (hb hby own_d8_19) (Ltlt ((by decide) : (100000000 : Int64) < (1000000000 : Int64))).2.1 rfl ?_
  refine own_lloadN X3 hx 23 rfl (hb hby own_d8_22) rfl ?_
  refine Goes.go (X3.ldc2Long hx hown (mvT hZ (hw _ (List.mem_of_getElem? (i := 53) rfl))) (g := (mkF m 23 #[.val (.ref bt), .val (.long (100000000 : Int64)), .second, .val (.int (1 : Int32))] [(.long (100000000 : Int64))])) rfl (hb hby own_d8_23)) ?_
  show Goes p e below s _ _ _ T3 (mkF m 26 #[.val (.ref bt), .val (.long (100000000 : Int64)), .second, .val (.int (1 : Int32))] [(.long (2 : Int64)), (.long (100000000 : Int64))])
  refine own_lmul X3 hx 27 rfl (z := (200000000 : Int64)) (hb hby own_d8_26) (by decide) ?_
  refine own_lstoreN X3 hx 28 rfl #[.val (.ref bt), .val (.long (200000000 : Int64)), .second, .val (.int (1 : Int32))] (hb hby own_d8_27) rfl ?_
  refine own_iinc X3 hx 31 rfl #[.val (.ref bt), .val (.long (200000000 : Int64)), .second, .val (.int (2 : Int32))] (hb hby own_d8_28) rfl (by decide) rfl ?_
  refine own_goto X3 hx 6 (hb hby own_d8_31) (by decide) (by decide) ?_
  refine own_iloadN X3 hx 7 rfl (hb hby own_d8_6) rfl ?_
  refine own_aloadN X3 hx 8 rfl (hb hby own_d8_7) rfl rfl ?_
  obtain ⟨T4, X4, e4, st4⟩ := getF X3 hx hZ hown (host := "") (Or.inl (hw _ (List.mem_of_getElem? (i := 23) rfl))) Via.refl e3 Ff (g := (mkF m 8 #[.val (.ref bt), .val (.long (200000000 : Int64)), .second, .val (.int (2 : Int32))] [(.ref bt), (.int (2 : Int32))])) rfl rfl (hb hby own_d8_8)
  refine Goes.go st4 ?_
  show Goes p e below s _ _ _ T4 (mkF m 11 #[.val (.ref bt), .val (.long (200000000 : Int64)), .second, .val (.int (2 : Int32))] [(.int (3 : Int32)), (.int (2 : Int32))])
  refine own_icmpN X4 hx 14 (hb hby own_d8_11) (tlt ((by decide) : (2 : Int32) < (3 : Int32))).2.1 rfl ?_
  refine own_lloadN X4 hx 15 rfl (hb hby own_d8_14) rfl ?_
  obtain ⟨T5, X5, e5, st5⟩ := getS2 X4 hx hZ hown (host := "") (Or.inl (hw _ (List.mem_of_getElem? (i := 47) rfl))) Via.refl e4 Sl (g := (mkF m 15 #[.val (.ref bt), .val (.long (200000000 : Int64)), .second, .val (.int (2 : Int32))] [(.long (200000000 : Int64))])) rfl (hb hby own_d8_15)
  refine Goes.go st5 ?_
  show Goes p e below s _ _ _ T5 (mkF m 18 #[.val (.ref bt), .val (.long (200000000 : Int64)), .second, .val (.int (2 : Int32))] [(.long (1000000000 : Int64)), (.long (200000000 : Int64))])
  refine own_lcmp X5 hx 19 rfl (hb hby own_d8_18) ?_
  refine own_ifN X5 hx 22 (hb hby own_d8_19) (Ltlt ((by decide) : (200000000 : Int64) < (1000000000 : Int64))).2.1 rfl ?_
  refine own_lloadN X5 hx 23 rfl (hb hby own_d8_22) rfl ?_
  refine Goes.go (X5.ldc2Long hx hown (mvT hZ (hw _ (List.mem_of_getElem? (i := 53) rfl))) (g := (mkF m 23 #[.val (.ref bt), .val (.long (200000000 : Int64)), .second, .val (.int (2 : Int32))] [(.long (200000000 : Int64))])) rfl (hb hby own_d8_23)) ?_
  show Goes p e below s _ _ _ T5 (mkF m 26 #[.val (.ref bt), .val (.long (200000000 : Int64)), .second, .val (.int (2 : Int32))] [(.long (2 : Int64)), (.long (200000000 : Int64))])
  refine own_lmul X5 hx 27 rfl (z := (400000000 : Int64)) (hb hby own_d8_26) (by decide) ?_
  refine own_lstoreN X5 hx 28 rfl #[.val (.ref bt), .val (.long (400000000 : Int64)), .second, .val (.int (2 : Int32))] (hb hby own_d8_27) rfl ?_
  refine own_iinc X5 hx 31 rfl #[.val (.ref bt), .val (.long (400000000 : Int64)), .second, .val (.int (3 : Int32))] (hb hby own_d8_28) rfl (by decide) rfl ?_
  refine own_goto X5 hx 6 (hb hby own_d8_31) (by decide) (by decide) ?_
  refine own_iloadN X5 hx 7 rfl (hb hby own_d8_6) rfl ?_
  refine own_aloadN X5 hx 8 rfl (hb hby own_d8_7) rfl rfl ?_
  obtain ⟨T6, X6, e6, st6⟩ := getF X5 hx hZ hown (host := "") (Or.inl (hw _ (List.mem_of_getElem? (i := 23) rfl))) Via.refl e5 Ff (g := (mkF m 8 #[.val (.ref bt), .val (.long (400000000 : Int64)), .second, .val (.int (3 : Int32))] [(.ref bt), (.int (3 : Int32))])) rfl rfl (hb hby own_d8_8)
  refine Goes.go st6 ?_
  show Goes p e below s _ _ _ T6 (mkF m 11 #[.val (.ref bt), .val (.long (400000000 : Int64)), .second, .val (.int (3 : Int32))] [(.int (3 : Int32)), (.int (3 : Int32))])
  refine own_icmpY X6 hx 34 (hb hby own_d8_11) (flt ((by decide) : ¬ ((3 : Int32) < (3 : Int32)))).2.1 (by decide) (by decide) ?_
  refine own_lloadN X6 hx 35 rfl (hb hby own_d8_34) rfl ?_
  obtain ⟨T7, X7, e7, st7⟩ := getS2 X6 hx hZ hown (host := "") (Or.inl (hw _ (List.mem_of_getElem? (i := 47) rfl))) Via.refl e6 Sl (g := (mkF m 35 #[.val (.ref bt), .val (.long (400000000 : Int64)), .second, .val (.int (3 : Int32))] [(.long (400000000 : Int64))])) rfl (hb hby own_d8_35)
  refine Goes.go st7 ?_
  show Goes p e below s _ _ _ T7 (mkF m 38 #[.val (.ref bt), .val (.long (400000000 : Int64)), .second, .val (.int (3 : Int32))] [(.long (1000000000 : Int64)), (.long (400000000 : Int64))])
  obtain ⟨_, _, ⟨T8, L8, k8, n8⟩, -, X8, ⟨Lc8, hQ8, l8, y8, z8⟩, st8⟩ := Jvm.LawKit.callS X7 hx (y := (⟨"java/lang/Math", "min", "(JJ)J"⟩ : MethodName)) hown (mvT hZ (hw _ (List.mem_of_getElem? (i := 49) rfl))) (mvT hZ (hw _ (List.mem_of_getElem? (i := 50) rfl))) (mvT hZ (hw _ (List.mem_of_getElem? (i := 34) rfl))) (mvT hZ (hw _ (List.mem_of_getElem? (i := 51) rfl))) (by decide) (backOf (W := 0) (rmmi400000000 l Z a0 hw []  h0 n0 Z0 ) hZ (hw _ (List.mem_of_getElem? (i := 51) rfl)) (hw _ (List.mem_of_getElem? (i := 34) rfl)) (by decide) (by decide)) (g := (mkF m 38 #[.val (.ref bt), .val (.long (400000000 : Int64)), .second, .val (.int (3 : Int32))] [(.long (1000000000 : Int64)), (.long (400000000 : Int64))])) rfl (by rw [hml]; rfl) (argsL := [(.long (400000000 : Int64)), (.long (1000000000 : Int64))]) (rest := []) (lenOf own_pd1 rfl) rfl (by show 2 * 0 + _ ≤ _; exact Nat.le_of_eq rfl) (hb hby own_d8_38) (fun _ _ => ⟨rfl, e7, (by decide : 0 + 0 ≤ _), (by decide : 0 + 0 ≤ _)⟩)
  dsimp only [Pt.U, Pt.locs, Pt.cells, Pt.slots] at X8 l8 y8 z8 st8 hQ8
  subst l8 y8 z8
  obtain ⟨rfl, N8q, eh8⟩ := hQ8
  have N8 := Fr.app N0 N8q
  refine Goes.go st8 ?_
  show Goes p e below s _ _ _ T8 (mkF m 41 #[.val (.ref bt), .val (.long (400000000 : Int64)), .second, .val (.int (3 : Int32))] [(.long (400000000 : Int64))])
  refine own_retJ X8 hx hlk Bd.returns (hb hby own_d8_41) (by decide) (by decide) eh8 ?_
  exact ⟨rfl, N8, rfl⟩
def Qde3 (Z : State) (bt : Addr) (bn : Int64) (be : Int64) (h0 : Heap) (n0 : Nat) (v : Option Value) (h : Heap) (L : List Loc) : Prop := ∃ br : Int64, v = some (.long br) ∧ Fr n0 L ∧ h = h0 ∧ ((br = ((be + (400000000 : Int64)) - bn) ∧ (0 : Int64) < ((be + (400000000 : Int64)) - bn)) ∨ (br = (0 : Int64) ∧ ¬ (0 : Int64) < ((be + (400000000 : Int64)) - bn)))
set_option maxRecDepth 65536 in
set_option maxHeartbeats 40000000 in
theorem rmde3 (l : Launch) (Z : State) (a0 : Array Value) (hw : ∀ d ∈ tables_1, d.before a0 Z = true) (ws : List Jvm.Cond) (bt : Addr) (bn : Int64) (be : Int64) (h0 : Heap) (n0 : Nat) (Z0 : n0 ≤ h0.size) (EB : Exa Z h0 bt "com/example/pooler/pooler/pool/Backoff") (Ss : Sta Z h0 "com/example/pooler/pooler/pool/Backoff" "SHORTEST" "J" (.long (100000000 : Int64))) (Sl : Sta Z h0 "com/example/pooler/pooler/pool/Backoff" "LONGEST" "J" (.long (1000000000 : Int64))) (Ft : Fld Z h0 bt "com/example/pooler/pooler/pool/Backoff" "tried" "Z" (.int (1 : Int32))) (Fe : Fld Z h0 bt "com/example/pooler/pooler/pool/Backoff" "endedAt" "J" (.long be)) (Ff : Fld Z h0 bt "com/example/pooler/pooler/pool/Backoff" "failuresInARow" "I" (.int (3 : Int32))) :
    MetFree l (⟨"com/example/pooler/pooler/pool/Backoff", "delay", "(J)J"⟩ : MethodName) (head1 (Jvm.Cond.code (⟨"com/example/pooler/pooler/pool/Backoff", "delay", "(J)J"⟩ : MethodName) prog_23_method_2_code 5 (some .long) :: ws) ({ frames := 2, cells := 0, slots := 0, locals := 34 } : Room)) (fun a U => a = #[(.ref bt), (.long bn)] ∧ Z.Warmed39 U.vm ∧ U.heap = h0) (fun _ _ _ _ _ => True) (fun _ U o U' => ∃ v L, o = .returned v ∧ Qde3 Z bt bn be h0 n0 v U'.heap L ∧ FrameEnd U o U' L ({ frames := 2, cells := 0, slots := 0, locals := 34 } : Room).cells ({ frames := 2, cells := 0, slots := 0, locals := 34 } : Room).slots) := by
  refine MetFree.of_bodySF (plainFor_of_name own_pn_com_example_pooler_pooler_pool_Backoff) hisR ?_
  intro p e s m args below meth c s₁ Bd hml0 hP hK
  obtain ⟨rfl, hZ, hh⟩ := hP
  have hx := Bd.exec
  have hby := Bd.bytes
  have hml : c.maxLocals = 5 := hml0
  have hlk := Bd.notSynchronized
  have hown : s.vm.findClass "com/example/pooler/pooler/pool/Backoff" = some m.cls := findClass_of_methodNamed Bd.named
  have hnm := (name_of_methodNamed Bd.named Bd.method).1
  have X0 : Stand p l e ({ frames := 2, cells := 0, slots := 0, locals := 34 } : Room) s m #[(.ref bt), (.long bn)] below meth c s₁ [] 0 0 := Stand.of_body Bd
  have e0 : s₁.heap = h0 := by rw [← hh, Bd.state]; rfl
  have N0 := Fr.nil n0
  refine own_enter (Q := Qde3 Z bt bn be h0 n0) (Ls := #[.val (.ref bt), .val (.long bn), .second, .unset, .unset]) (by first | rfl | (simp [entryFrame, mkF, argsToLocals, Value.category]; done)) ?_
  refine own_lconst X0 hx 1 rfl (0 : Int64) (hb hby own_d7_0) (by decide) ?_
  refine own_lstoreN X0 hx 2 rfl #[.val (.ref bt), .val (.long bn), .second, .val (.long (0 : Int64)), .second] (hb hby own_d7_1) rfl ?_
  refine own_aloadN X0 hx 3 rfl (hb hby own_d7_2) rfl rfl ?_
  obtain ⟨T1, X1, e1, st1⟩ := getF X0 hx hZ hown (host := "") (Or.inl (hw _ (List.mem_of_getElem? (i := 19) rfl))) Via.refl e0 Ft (g := (mkF m 3 #[.val (.ref bt), .val (.long bn), .second, .val (.long (0 : Int64)), .second] [(.ref bt)])) rfl rfl (hb hby own_d7_3)
  refine Goes.go st1 ?_
  show Goes p e below s _ _ _ T1 (mkF m 6 #[.val (.ref bt), .val (.long bn), .second, .val (.long (0 : Int64)), .second] [(.int (1 : Int32))])
  refine own_ifN X1 hx 9 (hb hby own_d7_6) ((if0 _ _).trans (feq ((by decide) : ¬ ((1 : Int32) = (0 : Int32)))).1) rfl ?_
  refine own_lconst X1 hx 10 rfl (0 : Int64) (hb hby own_d7_9) (by decide) ?_
  refine own_aloadN X1 hx 11 rfl (hb hby own_d7_10) rfl rfl ?_
  obtain ⟨T2, X2, e2, st2⟩ := getF X1 hx hZ hown (host := "") (Or.inl (hw _ (List.mem_of_getElem? (i := 21) rfl))) Via.refl e1 Fe (g := (mkF m 11 #[.val (.ref bt), .val (.long bn), .second, .val (.long (0 : Int64)), .second] [(.ref bt), (.long (0 : Int64))])) rfl rfl (hb hby own_d7_11)
  refine Goes.go st2 ?_
  show Goes p e below s _ _ _ T2 (mkF m 14 #[.val (.ref bt), .val (.long bn), .second, .val (.long (0 : Int64)), .second] [(.long be), (.long (0 : Int64))])
  refine own_aloadN X2 hx 15 rfl (hb hby own_d7_14) rfl rfl ?_
  obtain ⟨cq3, q3, q3'⟩ := EB.cell
  obtain ⟨_, _, ⟨T3, L3, k3, n3⟩, -, X3, ⟨Lc3, hQ3, l3, y3, z3⟩, st3⟩ := X2.privateBack hx (y := (⟨"com/example/pooler/pooler/pool/Backoff", "pause", "()J"⟩ : MethodName)) hown (mvT hZ (hw _ (List.mem_of_getElem? (i := 41) rfl))) (mvT hZ (hw _ (List.mem_of_getElem? (i := 42) rfl))) (own_selP (mvT hZ (hw _ (List.mem_of_getElem? (i := 2) rfl))) (mvP hZ (hw _ (List.mem_of_getElem? (i := 43) rfl))) (mvT hZ (hw _ (List.mem_of_getElem? (i := 42) rfl))) (by decide)) (Cond.privateMethod_at (mvP hZ (hw _ (List.mem_of_getElem? (i := 43) rfl)) (args := #[]))) (mvT hZ (hw _ (List.mem_of_getElem? (i := 44) rfl))) (by decide) (backOf (W := 4) (rmpa3 l Z a0 hw [] bt h0 n0 Z0 Ss Sl Ff) hZ (hw _ (List.mem_of_getElem? (i := 44) rfl)) (hw _ (List.mem_of_getElem? (i := 3) rfl)) (by decide) (by decide)) (g := (mkF m 15 #[.val (.ref bt), .val (.long bn), .second, .val (.long (0 : Int64)), .second] [(.ref bt), (.long be), (.long (0 : Int64))])) rfl (by rw [hml]; rfl) (Steps.refl _) (a := bt) (by rw [e2]; exact q3) q3' (argsL := []) (rest := [(.long be), (.long (0 : Int64))]) (lenOf own_pd2 rfl) rfl (by show 2 * 0 + _ ≤ _; exact Nat.le_of_eq rfl) (hb hby own_d7_15) (fun _ _ => ⟨rfl, e2, (by decide : 0 + 0 ≤ _), (by decide : 0 + 0 ≤ _)⟩)
  dsimp only [Pt.U, Pt.locs, Pt.cells, Pt.slots] at X3 l3 y3 z3 st3 hQ3
  subst l3 y3 z3
  obtain ⟨rfl, N3q, eh3⟩ := hQ3
  have N3 := Fr.app N0 N3q
  refine Goes.tr st3 ?_
  show Goes p e below s _ _ _ T3 (mkF m 18 #[.val (.ref bt), .val (.long bn), .second, .val (.long (0 : Int64)), .second] [(.long (400000000 : Int64)), (.long be), (.long (0 : Int64))])
  refine own_ladd X3 hx 19 rfl (hb hby own_d7_18) rfl ?_
  refine own_lloadN X3 hx 20 rfl (hb hby own_d7_19) rfl ?_
  refine own_lsub X3 hx 21 rfl (hb hby own_d7_20) rfl ?_
  obtain ⟨_, _, ⟨T4, L4, k4, n4⟩, -, X4, ⟨Lc4, hQ4, l4, y4, z4⟩, st4⟩ := Jvm.LawKit.callS X3 hx (y := (⟨"java/lang/Math", "max", "(JJ)J"⟩ : MethodName)) hown (mvT hZ (hw _ (List.mem_of_getElem? (i := 52) rfl))) (mvT hZ (hw _ (List.mem_of_getElem? (i := 33) rfl))) (mvT hZ (hw _ (List.mem_of_getElem? (i := 34) rfl))) (mvT hZ (hw _ (List.mem_of_getElem? (i := 35) rfl))) (by decide) (backOf (W := 0) (rm6 l Z a0 hw [] (0 : Int64) ((be + (400000000 : Int64)) - bn) h0 n0 Z0 ) hZ (hw _ (List.mem_of_getElem? (i := 35) rfl)) (hw _ (List.mem_of_getElem? (i := 34) rfl)) (by decide) (by decide)) (g := (mkF m 21 #[.val (.ref bt), .val (.long bn), .second, .val (.long (0 : Int64)), .second] [(.long ((be + (400000000 : Int64)) - bn)), (.long (0 : Int64))])) rfl (by rw [hml]; rfl) (argsL := [(.long (0 : Int64)), (.long ((be + (400000000 : Int64)) - bn))]) (rest := []) (lenOf own_pd1 rfl) rfl (by show 2 * 0 + _ ≤ _; exact Nat.le_of_eq rfl) (hb hby own_d7_21) (fun _ _ => ⟨rfl, eh3, (by decide : 0 + 0 ≤ _), (by decide : 0 + 0 ≤ _)⟩)
  dsimp only [Pt.U, Pt.locs, Pt.cells, Pt.slots] at X4 l4 y4 z4 st4 hQ4
  subst l4 y4 z4
  obtain ⟨mr_4, rfl, N4q, eh4, pr4_0⟩ := hQ4
  have N4 := Fr.app N3 N4q
  refine Goes.go st4 ?_
  show Goes p e below s _ _ _ T4 (mkF m 24 #[.val (.ref bt), .val (.long bn), .second, .val (.long (0 : Int64)), .second] [(.long mr_4)])
  refine own_lstoreN X4 hx 25 rfl #[.val (.ref bt), .val (.long bn), .second, .val (.long mr_4), .second] (hb hby own_d7_24) rfl ?_
  refine own_lloadN X4 hx 26 rfl (hb hby own_d7_25) rfl ?_
  refine own_retJ X4 hx hlk Bd.returns (hb hby own_d7_26) (by decide) (by decide) eh4 ?_
  exact ⟨mr_4, rfl, N4, rfl, pr4_0⟩
def Qmi800000000 (Z : State)  (h0 : Heap) (n0 : Nat) (v : Option Value) (h : Heap) (L : List Loc) : Prop := v = some (.long (800000000 : Int64)) ∧ Fr n0 L ∧ h = h0
set_option maxRecDepth 65536 in
set_option maxHeartbeats 40000000 in
theorem rmmi800000000 (l : Launch) (Z : State) (a0 : Array Value) (hw : ∀ d ∈ tables_1, d.before a0 Z = true) (ws : List Jvm.Cond)  (h0 : Heap) (n0 : Nat) (Z0 : n0 ≤ h0.size)  :
    MetFree l (⟨"java/lang/Math", "min", "(JJ)J"⟩ : MethodName) (head1 (Jvm.Cond.code (⟨"java/lang/Math", "min", "(JJ)J"⟩ : MethodName) jdk_29_method_70_code 4 (some .long) :: ws) ({ frames := 0, cells := 0, slots := 0, locals := 0 } : Room)) (fun a U => a = #[(.long (800000000 : Int64)), (.long (1000000000 : Int64))] ∧ Z.Warmed39 U.vm ∧ U.heap = h0) (fun _ _ _ _ _ => True) (fun _ U o U' => ∃ v L, o = .returned v ∧ Qmi800000000 Z  h0 n0 v U'.heap L ∧ FrameEnd U o U' L ({ frames := 0, cells := 0, slots := 0, locals := 0 } : Room).cells ({ frames := 0, cells := 0, slots := 0, locals := 0 } : Room).slots) := by
  refine MetFree.of_bodySF (Jvm.Free.JP.mathPlain rfl (by decide +kernel)) hisR ?_
  intro p e s m args below meth c s₁ Bd hml0 hP hK
  obtain ⟨rfl, hZ, hh⟩ := hP
  have hx := Bd.exec
  have hby := Bd.bytes
  have hml : c.maxLocals = 4 := hml0
  have hlk := Bd.notSynchronized
  have hown : s.vm.findClass "java/lang/Math" = some m.cls := findClass_of_methodNamed Bd.named
  have hnm := (name_of_methodNamed Bd.named Bd.method).1
  have X0 : Stand p l e ({ frames := 0, cells := 0, slots := 0, locals := 0 } : Room) s m #[(.long (800000000 : Int64)), (.long (1000000000 : Int64))] below meth c s₁ [] 0 0 := Stand.of_body Bd
  have e0 : s₁.heap = h0 := by rw [← hh, Bd.state]; rfl
  have N0 := Fr.nil n0
  refine own_enter (Q := Qmi800000000 Z  h0 n0) (Ls := #[.val (.long (800000000 : Int64)), .second, .val (.long (1000000000 : Int64)), .second]) (by first | rfl | (simp [entryFrame, mkF, argsToLocals, Value.category]; done)) ?_
  refine own_lloadN X0 hx 1 rfl (hb hby own_d9_0) rfl ?_
  refine own_lloadN X0 hx 2 rfl (hb hby own_d9_1) rfl ?_
  refine own_lcmp X0 hx 3 rfl (hb hby own_d9_2) ?_
  refine own_ifN X0 hx 6 (hb hby own_d9_3) (Lflt ((by decide) : ¬ ((1000000000 : Int64) < (800000000 : Int64)))).2.2.1 rfl ?_
  refine own_lloadN X0 hx 7 rfl (hb hby own_d9_6) rfl ?_
  refine own_goto X0 hx 11 (hb hby own_d9_7) (by decide) (by decide) ?_
  refine own_retJ X0 hx hlk Bd.returns (hb hby own_d9_11) (by decide) (by decide) e0 ?_
  exact ⟨rfl, N0, rfl⟩
def Qpa4 (Z : State) (bt : Addr) (h0 : Heap) (n0 : Nat) (v : Option Value) (h : Heap) (L : List Loc) : Prop := v = some (.long (800000000 : Int64)) ∧ Fr n0 L ∧ h = h0
set_option maxRecDepth 65536 in
set_option maxHeartbeats 40000000 in
theorem rmpa4 (l : Launch) (Z : State) (a0 : Array Value) (hw : ∀ d ∈ tables_1, d.before a0 Z = true) (ws : List Jvm.Cond) (bt : Addr) (h0 : Heap) (n0 : Nat) (Z0 : n0 ≤ h0.size) (Ss : Sta Z h0 "com/example/pooler/pooler/pool/Backoff" "SHORTEST" "J" (.long (100000000 : Int64))) (Sl : Sta Z h0 "com/example/pooler/pooler/pool/Backoff" "LONGEST" "J" (.long (1000000000 : Int64))) (Ff : Fld Z h0 bt "com/example/pooler/pooler/pool/Backoff" "failuresInARow" "I" (.int (4 : Int32))) :
    MetFree l (⟨"com/example/pooler/pooler/pool/Backoff", "pause", "()J"⟩ : MethodName) (head1 (Jvm.Cond.code (⟨"com/example/pooler/pooler/pool/Backoff", "pause", "()J"⟩ : MethodName) prog_23_method_6_code 4 (some .long) :: ws) ({ frames := 1, cells := 0, slots := 0, locals := 15 } : Room)) (fun a U => a = #[(.ref bt)] ∧ Z.Warmed39 U.vm ∧ U.heap = h0) (fun _ _ _ _ _ => True) (fun _ U o U' => ∃ v L, o = .returned v ∧ Qpa4 Z bt h0 n0 v U'.heap L ∧ FrameEnd U o U' L ({ frames := 1, cells := 0, slots := 0, locals := 15 } : Room).cells ({ frames := 1, cells := 0, slots := 0, locals := 15 } : Room).slots) := by
  refine MetFree.of_bodySF (plainFor_of_name own_pn_com_example_pooler_pooler_pool_Backoff) hisR ?_
  intro p e s m args below meth c s₁ Bd hml0 hP hK
  obtain ⟨rfl, hZ, hh⟩ := hP
  have hx := Bd.exec
  have hby := Bd.bytes
  have hml : c.maxLocals = 4 := hml0
  have hlk := Bd.notSynchronized
  have hown : s.vm.findClass "com/example/pooler/pooler/pool/Backoff" = some m.cls := findClass_of_methodNamed Bd.named
  have hnm := (name_of_methodNamed Bd.named Bd.method).1
  have X0 : Stand p l e ({ frames := 1, cells := 0, slots := 0, locals := 15 } : Room) s m #[(.ref bt)] below meth c s₁ [] 0 0 := Stand.of_body Bd
  have e0 : s₁.heap = h0 := by rw [← hh, Bd.state]; rfl
  have N0 := Fr.nil n0
  refine own_enter (Q := Qpa4 Z bt h0 n0) (Ls := #[.val (.ref bt), .unset, .unset, .unset]) (by first | rfl | (simp [entryFrame, mkF, argsToLocals, Value.category]; done)) ?_
  obtain ⟨T1, X1, e1, st1⟩ := getS2 X0 hx hZ hown (host := "") (Or.inl (hw _ (List.mem_of_getElem? (i := 45) rfl))) Via.refl e0 Ss (g := (mkF m 0 #[.val (.ref bt), .unset, .unset, .unset] [])) rfl (hb hby own_d8_0)
  refine Goes.go st1 ?_
  show Goes p e below s _ _ _ T1 (mkF m 3 #[.val (.ref bt), .unset, .unset, .unset] [(.long (100000000 : Int64))])
  refine own_lstoreN X1 hx 4 rfl #[.val (.ref bt), .val (.long (100000000 : Int64)), .second, .unset] (hb hby own_d8_3) rfl ?_
  refine own_iconst X1 hx 5 rfl (1 : Int32) (hb hby own_d8_4) (by decide) ?_
  refine own_istoreN X1 hx 6 rfl #[.val (.ref bt), .val (.long (100000000 : Int64)), .second, .val (.int (1 : Int32))] (hb hby own_d8_5) rfl ?_
  refine own_iloadN X1 hx 7 rfl (hb hby own_d8_6) rfl ?_
  refine own_aloadN X1 hx 8 rfl (hb hby own_d8_7) rfl rfl ?_
  obtain ⟨T2, X2, e2, st2⟩ := getF X1 hx hZ hown (host := "") (Or.inl (hw _ (List.mem_of_getElem? (i := 23) rfl))) Via.refl e1 Ff (g := (mkF m 8 #[.val (.ref bt), .val (.long (100000000 : Int64)), .second, .val (.int (1 : Int32))] [(.ref bt), (.int (1 : Int32))])) rfl rfl (hb hby own_d8_8)
  refine Goes.go st2 ?_
  show Goes p e below s _ _ _ T2 (mkF m 11 #[.val (.ref bt), .val (.long (100000000 : Int64)), .second, .val (.int (1 : Int32))] [(.int (4 : Int32)), (.int (1 : Int32))])
  refine own_icmpN X2 hx 14 (hb hby own_d8_11) (tlt ((by decide) : (1 : Int32) < (4 : Int32))).2.1 rfl ?_
  refine own_lloadN X2 hx 15 rfl (hb hby own_d8_14) rfl ?_
  obtain ⟨T3, X3, e3, st3⟩ := getS2 X2 hx hZ hown (host := "") (Or.inl (hw _ (List.mem_of_getElem? (i := 47) rfl))) Via.refl e2 Sl (g := (mkF m 15 #[.val (.ref bt), .val (.long (100000000 : Int64)), .second, .val (.int (1 : Int32))] [(.long (100000000 : Int64))])) rfl (hb hby own_d8_15)
  refine Goes.go st3 ?_
  show Goes p e below s _ _ _ T3 (mkF m 18 #[.val (.ref bt), .val (.long (100000000 : Int64)), .second, .val (.int (1 : Int32))] [(.long (1000000000 : Int64)), (.long (100000000 : Int64))])
  refine own_lcmp X3 hx 19 rfl (hb hby own_d8_18) ?_
  refine own_ifN X3 hx 22 (hb hby own_d8_19) (Ltlt ((by decide) : (100000000 : Int64) < (1000000000 : Int64))).2.1 rfl ?_
  refine own_lloadN X3 hx 23 rfl (hb hby own_d8_22) rfl ?_
  refine Goes.go (X3.ldc2Long hx hown (mvT hZ (hw _ (List.mem_of_getElem? (i := 53) rfl))) (g := (mkF m 23 #[.val (.ref bt), .val (.long (100000000 : Int64)), .second, .val (.int (1 : Int32))] [(.long (100000000 : Int64))])) rfl (hb hby own_d8_23)) ?_
  show Goes p e below s _ _ _ T3 (mkF m 26 #[.val (.ref bt), .val (.long (100000000 : Int64)), .second, .val (.int (1 : Int32))] [(.long (2 : Int64)), (.long (100000000 : Int64))])
  refine own_lmul X3 hx 27 rfl (z := (200000000 : Int64)) (hb hby own_d8_26) (by decide) ?_
  refine own_lstoreN X3 hx 28 rfl #[.val (.ref bt), .val (.long (200000000 : Int64)), .second, .val (.int (1 : Int32))] (hb hby own_d8_27) rfl ?_
  refine own_iinc X3 hx 31 rfl #[.val (.ref bt), .val (.long (200000000 : Int64)), .second, .val (.int (2 : Int32))] (hb hby own_d8_28) rfl (by decide) rfl ?_
  refine own_goto X3 hx 6 (hb hby own_d8_31) (by decide) (by decide) ?_
  refine own_iloadN X3 hx 7 rfl (hb hby own_d8_6) rfl ?_
  refine own_aloadN X3 hx 8 rfl (hb hby own_d8_7) rfl rfl ?_
  obtain ⟨T4, X4, e4, st4⟩ := getF X3 hx hZ hown (host := "") (Or.inl (hw _ (List.mem_of_getElem? (i := 23) rfl))) Via.refl e3 Ff (g := (mkF m 8 #[.val (.ref bt), .val (.long (200000000 : Int64)), .second, .val (.int (2 : Int32))] [(.ref bt), (.int (2 : Int32))])) rfl rfl (hb hby own_d8_8)
  refine Goes.go st4 ?_
  show Goes p e below s _ _ _ T4 (mkF m 11 #[.val (.ref bt), .val (.long (200000000 : Int64)), .second, .val (.int (2 : Int32))] [(.int (4 : Int32)), (.int (2 : Int32))])
  refine own_icmpN X4 hx 14 (hb hby own_d8_11) (tlt ((by decide) : (2 : Int32) < (4 : Int32))).2.1 rfl ?_
  refine own_lloadN X4 hx 15 rfl (hb hby own_d8_14) rfl ?_
  obtain ⟨T5, X5, e5, st5⟩ := getS2 X4 hx hZ hown (host := "") (Or.inl (hw _ (List.mem_of_getElem? (i := 47) rfl))) Via.refl e4 Sl (g := (mkF m 15 #[.val (.ref bt), .val (.long (200000000 : Int64)), .second, .val (.int (2 : Int32))] [(.long (200000000 : Int64))])) rfl (hb hby own_d8_15)
  refine Goes.go st5 ?_
  show Goes p e below s _ _ _ T5 (mkF m 18 #[.val (.ref bt), .val (.long (200000000 : Int64)), .second, .val (.int (2 : Int32))] [(.long (1000000000 : Int64)), (.long (200000000 : Int64))])
  refine own_lcmp X5 hx 19 rfl (hb hby own_d8_18) ?_
  refine own_ifN X5 hx 22 (hb hby own_d8_19) (Ltlt ((by decide) : (200000000 : Int64) < (1000000000 : Int64))).2.1 rfl ?_
  refine own_lloadN X5 hx 23 rfl (hb hby own_d8_22) rfl ?_
  refine Goes.go (X5.ldc2Long hx hown (mvT hZ (hw _ (List.mem_of_getElem? (i := 53) rfl))) (g := (mkF m 23 #[.val (.ref bt), .val (.long (200000000 : Int64)), .second, .val (.int (2 : Int32))] [(.long (200000000 : Int64))])) rfl (hb hby own_d8_23)) ?_
  show Goes p e below s _ _ _ T5 (mkF m 26 #[.val (.ref bt), .val (.long (200000000 : Int64)), .second, .val (.int (2 : Int32))] [(.long (2 : Int64)), (.long (200000000 : Int64))])
  refine own_lmul X5 hx 27 rfl (z := (400000000 : Int64)) (hb hby own_d8_26) (by decide) ?_
  refine own_lstoreN X5 hx 28 rfl #[.val (.ref bt), .val (.long (400000000 : Int64)), .second, .val (.int (2 : Int32))] (hb hby own_d8_27) rfl ?_
  refine own_iinc X5 hx 31 rfl #[.val (.ref bt), .val (.long (400000000 : Int64)), .second, .val (.int (3 : Int32))] (hb hby own_d8_28) rfl (by decide) rfl ?_
  refine own_goto X5 hx 6 (hb hby own_d8_31) (by decide) (by decide) ?_
  refine own_iloadN X5 hx 7 rfl (hb hby own_d8_6) rfl ?_
  refine own_aloadN X5 hx 8 rfl (hb hby own_d8_7) rfl rfl ?_
  obtain ⟨T6, X6, e6, st6⟩ := getF X5 hx hZ hown (host := "") (Or.inl (hw _ (List.mem_of_getElem? (i := 23) rfl))) Via.refl e5 Ff (g := (mkF m 8 #[.val (.ref bt), .val (.long (400000000 : Int64)), .second, .val (.int (3 : Int32))] [(.ref bt), (.int (3 : Int32))])) rfl rfl (hb hby own_d8_8)
  refine Goes.go st6 ?_
  show Goes p e below s _ _ _ T6 (mkF m 11 #[.val (.ref bt), .val (.long (400000000 : Int64)), .second, .val (.int (3 : Int32))] [(.int (4 : Int32)), (.int (3 : Int32))])
  refine own_icmpN X6 hx 14 (hb hby own_d8_11) (tlt ((by decide) : (3 : Int32) < (4 : Int32))).2.1 rfl ?_
  refine own_lloadN X6 hx 15 rfl (hb hby own_d8_14) rfl ?_
  obtain ⟨T7, X7, e7, st7⟩ := getS2 X6 hx hZ hown (host := "") (Or.inl (hw _ (List.mem_of_getElem? (i := 47) rfl))) Via.refl e6 Sl (g := (mkF m 15 #[.val (.ref bt), .val (.long (400000000 : Int64)), .second, .val (.int (3 : Int32))] [(.long (400000000 : Int64))])) rfl (hb hby own_d8_15)
  refine Goes.go st7 ?_
  show Goes p e below s _ _ _ T7 (mkF m 18 #[.val (.ref bt), .val (.long (400000000 : Int64)), .second, .val (.int (3 : Int32))] [(.long (1000000000 : Int64)), (.long (400000000 : Int64))])
  refine own_lcmp X7 hx 19 rfl (hb hby own_d8_18) ?_
  refine own_ifN X7 hx 22 (hb hby own_d8_19) (Ltlt ((by decide) : (400000000 : Int64) < (1000000000 : Int64))).2.1 rfl ?_
  refine own_lloadN X7 hx 23 rfl (hb hby own_d8_22) rfl ?_
  refine Goes.go (X7.ldc2Long hx hown (mvT hZ (hw _ (List.mem_of_getElem? (i := 53) rfl))) (g := (mkF m 23 #[.val (.ref bt), .val (.long (400000000 : Int64)), .second, .val (.int (3 : Int32))] [(.long (400000000 : Int64))])) rfl (hb hby own_d8_23)) ?_
  show Goes p e below s _ _ _ T7 (mkF m 26 #[.val (.ref bt), .val (.long (400000000 : Int64)), .second, .val (.int (3 : Int32))] [(.long (2 : Int64)), (.long (400000000 : Int64))])
  refine own_lmul X7 hx 27 rfl (z := (800000000 : Int64)) (hb hby own_d8_26) (by decide) ?_
  refine own_lstoreN X7 hx 28 rfl #[.val (.ref bt), .val (.long (800000000 : Int64)), .second, .val (.int (3 : Int32))] (hb hby own_d8_27) rfl ?_
  refine own_iinc X7 hx 31 rfl #[.val (.ref bt), .val (.long (800000000 : Int64)), .second, .val (.int (4 : Int32))] (hb hby own_d8_28) rfl (by decide) rfl ?_
  refine own_goto X7 hx 6 (hb hby own_d8_31) (by decide) (by decide) ?_
  refine own_iloadN X7 hx 7 rfl (hb hby own_d8_6) rfl ?_
  refine own_aloadN X7 hx 8 rfl (hb hby own_d8_7) rfl rfl ?_
  obtain ⟨T8, X8, e8, st8⟩ := getF X7 hx hZ hown (host := "") (Or.inl (hw _ (List.mem_of_getElem? (i := 23) rfl))) Via.refl e7 Ff (g := (mkF m 8 #[.val (.ref bt), .val (.long (800000000 : Int64)), .second, .val (.int (4 : Int32))] [(.ref bt), (.int (4 : Int32))])) rfl rfl (hb hby own_d8_8)
  refine Goes.go st8 ?_
  show Goes p e below s _ _ _ T8 (mkF m 11 #[.val (.ref bt), .val (.long (800000000 : Int64)), .second, .val (.int (4 : Int32))] [(.int (4 : Int32)), (.int (4 : Int32))])
  refine own_icmpY X8 hx 34 (hb hby own_d8_11) (flt ((by decide) : ¬ ((4 : Int32) < (4 : Int32)))).2.1 (by decide) (by decide) ?_
  refine own_lloadN X8 hx 35 rfl (hb hby own_d8_34) rfl ?_
  obtain ⟨T9, X9, e9, st9⟩ := getS2 X8 hx hZ hown (host := "") (Or.inl (hw _ (List.mem_of_getElem? (i := 47) rfl))) Via.refl e8 Sl (g := (mkF m 35 #[.val (.ref bt), .val (.long (800000000 : Int64)), .second, .val (.int (4 : Int32))] [(.long (800000000 : Int64))])) rfl (hb hby own_d8_35)
  refine Goes.go st9 ?_
  show Goes p e below s _ _ _ T9 (mkF m 38 #[.val (.ref bt), .val (.long (800000000 : Int64)), .second, .val (.int (4 : Int32))] [(.long (1000000000 : Int64)), (.long (800000000 : Int64))])
  obtain ⟨_, _, ⟨T10, L10, k10, n10⟩, -, X10, ⟨Lc10, hQ10, l10, y10, z10⟩, st10⟩ := Jvm.LawKit.callS X9 hx (y := (⟨"java/lang/Math", "min", "(JJ)J"⟩ : MethodName)) hown (mvT hZ (hw _ (List.mem_of_getElem? (i := 49) rfl))) (mvT hZ (hw _ (List.mem_of_getElem? (i := 50) rfl))) (mvT hZ (hw _ (List.mem_of_getElem? (i := 34) rfl))) (mvT hZ (hw _ (List.mem_of_getElem? (i := 51) rfl))) (by decide) (backOf (W := 0) (rmmi800000000 l Z a0 hw []  h0 n0 Z0 ) hZ (hw _ (List.mem_of_getElem? (i := 51) rfl)) (hw _ (List.mem_of_getElem? (i := 34) rfl)) (by decide) (by decide)) (g := (mkF m 38 #[.val (.ref bt), .val (.long (800000000 : Int64)), .second, .val (.int (4 : Int32))] [(.long (1000000000 : Int64)), (.long (800000000 : Int64))])) rfl (by rw [hml]; rfl) (argsL := [(.long (800000000 : Int64)), (.long (1000000000 : Int64))]) (rest := []) (lenOf own_pd1 rfl) rfl (by show 2 * 0 + _ ≤ _; exact Nat.le_of_eq rfl) (hb hby own_d8_38) (fun _ _ => ⟨rfl, e9, (by decide : 0 + 0 ≤ _), (by decide : 0 + 0 ≤ _)⟩)
  dsimp only [Pt.U, Pt.locs, Pt.cells, Pt.slots] at X10 l10 y10 z10 st10 hQ10
  subst l10 y10 z10
  obtain ⟨rfl, N10q, eh10⟩ := hQ10
  have N10 := Fr.app N0 N10q
  refine Goes.go st10 ?_
  show Goes p e below s _ _ _ T10 (mkF m 41 #[.val (.ref bt), .val (.long (800000000 : Int64)), .second, .val (.int (4 : Int32))] [(.long (800000000 : Int64))])
  refine own_retJ X10 hx hlk Bd.returns (hb hby own_d8_41) (by decide) (by decide) eh10 ?_
  exact ⟨rfl, N10, rfl⟩
def Qde4 (Z : State) (bt : Addr) (bn : Int64) (be : Int64) (h0 : Heap) (n0 : Nat) (v : Option Value) (h : Heap) (L : List Loc) : Prop := ∃ br : Int64, v = some (.long br) ∧ Fr n0 L ∧ h = h0 ∧ ((br = ((be + (800000000 : Int64)) - bn) ∧ (0 : Int64) < ((be + (800000000 : Int64)) - bn)) ∨ (br = (0 : Int64) ∧ ¬ (0 : Int64) < ((be + (800000000 : Int64)) - bn)))
set_option maxRecDepth 65536 in
set_option maxHeartbeats 40000000 in
theorem rmde4 (l : Launch) (Z : State) (a0 : Array Value) (hw : ∀ d ∈ tables_1, d.before a0 Z = true) (ws : List Jvm.Cond) (bt : Addr) (bn : Int64) (be : Int64) (h0 : Heap) (n0 : Nat) (Z0 : n0 ≤ h0.size) (EB : Exa Z h0 bt "com/example/pooler/pooler/pool/Backoff") (Ss : Sta Z h0 "com/example/pooler/pooler/pool/Backoff" "SHORTEST" "J" (.long (100000000 : Int64))) (Sl : Sta Z h0 "com/example/pooler/pooler/pool/Backoff" "LONGEST" "J" (.long (1000000000 : Int64))) (Ft : Fld Z h0 bt "com/example/pooler/pooler/pool/Backoff" "tried" "Z" (.int (1 : Int32))) (Fe : Fld Z h0 bt "com/example/pooler/pooler/pool/Backoff" "endedAt" "J" (.long be)) (Ff : Fld Z h0 bt "com/example/pooler/pooler/pool/Backoff" "failuresInARow" "I" (.int (4 : Int32))) :
    MetFree l (⟨"com/example/pooler/pooler/pool/Backoff", "delay", "(J)J"⟩ : MethodName) (head1 (Jvm.Cond.code (⟨"com/example/pooler/pooler/pool/Backoff", "delay", "(J)J"⟩ : MethodName) prog_23_method_2_code 5 (some .long) :: ws) ({ frames := 2, cells := 0, slots := 0, locals := 34 } : Room)) (fun a U => a = #[(.ref bt), (.long bn)] ∧ Z.Warmed39 U.vm ∧ U.heap = h0) (fun _ _ _ _ _ => True) (fun _ U o U' => ∃ v L, o = .returned v ∧ Qde4 Z bt bn be h0 n0 v U'.heap L ∧ FrameEnd U o U' L ({ frames := 2, cells := 0, slots := 0, locals := 34 } : Room).cells ({ frames := 2, cells := 0, slots := 0, locals := 34 } : Room).slots) := by
  refine MetFree.of_bodySF (plainFor_of_name own_pn_com_example_pooler_pooler_pool_Backoff) hisR ?_
  intro p e s m args below meth c s₁ Bd hml0 hP hK
  obtain ⟨rfl, hZ, hh⟩ := hP
  have hx := Bd.exec
  have hby := Bd.bytes
  have hml : c.maxLocals = 5 := hml0
  have hlk := Bd.notSynchronized
  have hown : s.vm.findClass "com/example/pooler/pooler/pool/Backoff" = some m.cls := findClass_of_methodNamed Bd.named
  have hnm := (name_of_methodNamed Bd.named Bd.method).1
  have X0 : Stand p l e ({ frames := 2, cells := 0, slots := 0, locals := 34 } : Room) s m #[(.ref bt), (.long bn)] below meth c s₁ [] 0 0 := Stand.of_body Bd
  have e0 : s₁.heap = h0 := by rw [← hh, Bd.state]; rfl
  have N0 := Fr.nil n0
  refine own_enter (Q := Qde4 Z bt bn be h0 n0) (Ls := #[.val (.ref bt), .val (.long bn), .second, .unset, .unset]) (by first | rfl | (simp [entryFrame, mkF, argsToLocals, Value.category]; done)) ?_
  refine own_lconst X0 hx 1 rfl (0 : Int64) (hb hby own_d7_0) (by decide) ?_
  refine own_lstoreN X0 hx 2 rfl #[.val (.ref bt), .val (.long bn), .second, .val (.long (0 : Int64)), .second] (hb hby own_d7_1) rfl ?_
  refine own_aloadN X0 hx 3 rfl (hb hby own_d7_2) rfl rfl ?_
  obtain ⟨T1, X1, e1, st1⟩ := getF X0 hx hZ hown (host := "") (Or.inl (hw _ (List.mem_of_getElem? (i := 19) rfl))) Via.refl e0 Ft (g := (mkF m 3 #[.val (.ref bt), .val (.long bn), .second, .val (.long (0 : Int64)), .second] [(.ref bt)])) rfl rfl (hb hby own_d7_3)
  refine Goes.go st1 ?_
  show Goes p e below s _ _ _ T1 (mkF m 6 #[.val (.ref bt), .val (.long bn), .second, .val (.long (0 : Int64)), .second] [(.int (1 : Int32))])
  refine own_ifN X1 hx 9 (hb hby own_d7_6) ((if0 _ _).trans (feq ((by decide) : ¬ ((1 : Int32) = (0 : Int32)))).1) rfl ?_
  refine own_lconst X1 hx 10 rfl (0 : Int64) (hb hby own_d7_9) (by decide) ?_
  refine own_aloadN X1 hx 11 rfl (hb hby own_d7_10) rfl rfl ?_
  obtain ⟨T2, X2, e2, st2⟩ := getF X1 hx hZ hown (host := "") (Or.inl (hw _ (List.mem_of_getElem? (i := 21) rfl))) Via.refl e1 Fe (g := (mkF m 11 #[.val (.ref bt), .val (.long bn), .second, .val (.long (0 : Int64)), .second] [(.ref bt), (.long (0 : Int64))])) rfl rfl (hb hby own_d7_11)
  refine Goes.go st2 ?_
  show Goes p e below s _ _ _ T2 (mkF m 14 #[.val (.ref bt), .val (.long bn), .second, .val (.long (0 : Int64)), .second] [(.long be), (.long (0 : Int64))])
  refine own_aloadN X2 hx 15 rfl (hb hby own_d7_14) rfl rfl ?_
  obtain ⟨cq3, q3, q3'⟩ := EB.cell
  obtain ⟨_, _, ⟨T3, L3, k3, n3⟩, -, X3, ⟨Lc3, hQ3, l3, y3, z3⟩, st3⟩ := X2.privateBack hx (y := (⟨"com/example/pooler/pooler/pool/Backoff", "pause", "()J"⟩ : MethodName)) hown (mvT hZ (hw _ (List.mem_of_getElem? (i := 41) rfl))) (mvT hZ (hw _ (List.mem_of_getElem? (i := 42) rfl))) (own_selP (mvT hZ (hw _ (List.mem_of_getElem? (i := 2) rfl))) (mvP hZ (hw _ (List.mem_of_getElem? (i := 43) rfl))) (mvT hZ (hw _ (List.mem_of_getElem? (i := 42) rfl))) (by decide)) (Cond.privateMethod_at (mvP hZ (hw _ (List.mem_of_getElem? (i := 43) rfl)) (args := #[]))) (mvT hZ (hw _ (List.mem_of_getElem? (i := 44) rfl))) (by decide) (backOf (W := 4) (rmpa4 l Z a0 hw [] bt h0 n0 Z0 Ss Sl Ff) hZ (hw _ (List.mem_of_getElem? (i := 44) rfl)) (hw _ (List.mem_of_getElem? (i := 3) rfl)) (by decide) (by decide)) (g := (mkF m 15 #[.val (.ref bt), .val (.long bn), .second, .val (.long (0 : Int64)), .second] [(.ref bt), (.long be), (.long (0 : Int64))])) rfl (by rw [hml]; rfl) (Steps.refl _) (a := bt) (by rw [e2]; exact q3) q3' (argsL := []) (rest := [(.long be), (.long (0 : Int64))]) (lenOf own_pd2 rfl) rfl (by show 2 * 0 + _ ≤ _; exact Nat.le_of_eq rfl) (hb hby own_d7_15) (fun _ _ => ⟨rfl, e2, (by decide : 0 + 0 ≤ _), (by decide : 0 + 0 ≤ _)⟩)
  dsimp only [Pt.U, Pt.locs, Pt.cells, Pt.slots] at X3 l3 y3 z3 st3 hQ3
  subst l3 y3 z3
  obtain ⟨rfl, N3q, eh3⟩ := hQ3
  have N3 := Fr.app N0 N3q
  refine Goes.tr st3 ?_
  show Goes p e below s _ _ _ T3 (mkF m 18 #[.val (.ref bt), .val (.long bn), .second, .val (.long (0 : Int64)), .second] [(.long (800000000 : Int64)), (.long be), (.long (0 : Int64))])
  refine own_ladd X3 hx 19 rfl (hb hby own_d7_18) rfl ?_
  refine own_lloadN X3 hx 20 rfl (hb hby own_d7_19) rfl ?_
  refine own_lsub X3 hx 21 rfl (hb hby own_d7_20) rfl ?_
  obtain ⟨_, _, ⟨T4, L4, k4, n4⟩, -, X4, ⟨Lc4, hQ4, l4, y4, z4⟩, st4⟩ := Jvm.LawKit.callS X3 hx (y := (⟨"java/lang/Math", "max", "(JJ)J"⟩ : MethodName)) hown (mvT hZ (hw _ (List.mem_of_getElem? (i := 52) rfl))) (mvT hZ (hw _ (List.mem_of_getElem? (i := 33) rfl))) (mvT hZ (hw _ (List.mem_of_getElem? (i := 34) rfl))) (mvT hZ (hw _ (List.mem_of_getElem? (i := 35) rfl))) (by decide) (backOf (W := 0) (rm6 l Z a0 hw [] (0 : Int64) ((be + (800000000 : Int64)) - bn) h0 n0 Z0 ) hZ (hw _ (List.mem_of_getElem? (i := 35) rfl)) (hw _ (List.mem_of_getElem? (i := 34) rfl)) (by decide) (by decide)) (g := (mkF m 21 #[.val (.ref bt), .val (.long bn), .second, .val (.long (0 : Int64)), .second] [(.long ((be + (800000000 : Int64)) - bn)), (.long (0 : Int64))])) rfl (by rw [hml]; rfl) (argsL := [(.long (0 : Int64)), (.long ((be + (800000000 : Int64)) - bn))]) (rest := []) (lenOf own_pd1 rfl) rfl (by show 2 * 0 + _ ≤ _; exact Nat.le_of_eq rfl) (hb hby own_d7_21) (fun _ _ => ⟨rfl, eh3, (by decide : 0 + 0 ≤ _), (by decide : 0 + 0 ≤ _)⟩)
  dsimp only [Pt.U, Pt.locs, Pt.cells, Pt.slots] at X4 l4 y4 z4 st4 hQ4
  subst l4 y4 z4
  obtain ⟨mr_4, rfl, N4q, eh4, pr4_0⟩ := hQ4
  have N4 := Fr.app N3 N4q
  refine Goes.go st4 ?_
  show Goes p e below s _ _ _ T4 (mkF m 24 #[.val (.ref bt), .val (.long bn), .second, .val (.long (0 : Int64)), .second] [(.long mr_4)])
  refine own_lstoreN X4 hx 25 rfl #[.val (.ref bt), .val (.long bn), .second, .val (.long mr_4), .second] (hb hby own_d7_24) rfl ?_
  refine own_lloadN X4 hx 26 rfl (hb hby own_d7_25) rfl ?_
  refine own_retJ X4 hx hlk Bd.returns (hb hby own_d7_26) (by decide) (by decide) eh4 ?_
  exact ⟨mr_4, rfl, N4, rfl, pr4_0⟩
theorem own_d9_10 : decode jdk_29_method_70_code 10 = .ok (.lload_n 2, 1) := by decide +kernel
def Qmi1600000000 (Z : State)  (h0 : Heap) (n0 : Nat) (v : Option Value) (h : Heap) (L : List Loc) : Prop := v = some (.long (1000000000 : Int64)) ∧ Fr n0 L ∧ h = h0
set_option maxRecDepth 65536 in
set_option maxHeartbeats 40000000 in
theorem rmmi1600000000 (l : Launch) (Z : State) (a0 : Array Value) (hw : ∀ d ∈ tables_1, d.before a0 Z = true) (ws : List Jvm.Cond)  (h0 : Heap) (n0 : Nat) (Z0 : n0 ≤ h0.size)  :
    MetFree l (⟨"java/lang/Math", "min", "(JJ)J"⟩ : MethodName) (head1 (Jvm.Cond.code (⟨"java/lang/Math", "min", "(JJ)J"⟩ : MethodName) jdk_29_method_70_code 4 (some .long) :: ws) ({ frames := 0, cells := 0, slots := 0, locals := 0 } : Room)) (fun a U => a = #[(.long (1600000000 : Int64)), (.long (1000000000 : Int64))] ∧ Z.Warmed39 U.vm ∧ U.heap = h0) (fun _ _ _ _ _ => True) (fun _ U o U' => ∃ v L, o = .returned v ∧ Qmi1600000000 Z  h0 n0 v U'.heap L ∧ FrameEnd U o U' L ({ frames := 0, cells := 0, slots := 0, locals := 0 } : Room).cells ({ frames := 0, cells := 0, slots := 0, locals := 0 } : Room).slots) := by
  refine MetFree.of_bodySF (Jvm.Free.JP.mathPlain rfl (by decide +kernel)) hisR ?_
  intro p e s m args below meth c s₁ Bd hml0 hP hK
  obtain ⟨rfl, hZ, hh⟩ := hP
  have hx := Bd.exec
  have hby := Bd.bytes
  have hml : c.maxLocals = 4 := hml0
  have hlk := Bd.notSynchronized
  have hown : s.vm.findClass "java/lang/Math" = some m.cls := findClass_of_methodNamed Bd.named
  have hnm := (name_of_methodNamed Bd.named Bd.method).1
  have X0 : Stand p l e ({ frames := 0, cells := 0, slots := 0, locals := 0 } : Room) s m #[(.long (1600000000 : Int64)), (.long (1000000000 : Int64))] below meth c s₁ [] 0 0 := Stand.of_body Bd
  have e0 : s₁.heap = h0 := by rw [← hh, Bd.state]; rfl
  have N0 := Fr.nil n0
  refine own_enter (Q := Qmi1600000000 Z  h0 n0) (Ls := #[.val (.long (1600000000 : Int64)), .second, .val (.long (1000000000 : Int64)), .second]) (by first | rfl | (simp [entryFrame, mkF, argsToLocals, Value.category]; done)) ?_
  refine own_lloadN X0 hx 1 rfl (hb hby own_d9_0) rfl ?_
  refine own_lloadN X0 hx 2 rfl (hb hby own_d9_1) rfl ?_
  refine own_lcmp X0 hx 3 rfl (hb hby own_d9_2) ?_
  refine own_ifY X0 hx 10 (hb hby own_d9_3) (Ltlt ((by decide) : (1000000000 : Int64) < (1600000000 : Int64))).2.2.1 (by decide) (by decide) ?_
  refine own_lloadN X0 hx 11 rfl (hb hby own_d9_10) rfl ?_
  refine own_retJ X0 hx hlk Bd.returns (hb hby own_d9_11) (by decide) (by decide) e0 ?_
  exact ⟨rfl, N0, rfl⟩
def Qpa5 (Z : State) (bt : Addr) (h0 : Heap) (n0 : Nat) (v : Option Value) (h : Heap) (L : List Loc) : Prop := v = some (.long (1000000000 : Int64)) ∧ Fr n0 L ∧ h = h0
set_option maxRecDepth 65536 in
set_option maxHeartbeats 40000000 in
theorem rmpa5 (l : Launch) (Z : State) (a0 : Array Value) (hw : ∀ d ∈ tables_1, d.before a0 Z = true) (ws : List Jvm.Cond) (bt : Addr) (h0 : Heap) (n0 : Nat) (Z0 : n0 ≤ h0.size) (Ss : Sta Z h0 "com/example/pooler/pooler/pool/Backoff" "SHORTEST" "J" (.long (100000000 : Int64))) (Sl : Sta Z h0 "com/example/pooler/pooler/pool/Backoff" "LONGEST" "J" (.long (1000000000 : Int64))) (Ff : Fld Z h0 bt "com/example/pooler/pooler/pool/Backoff" "failuresInARow" "I" (.int (5 : Int32))) :
    MetFree l (⟨"com/example/pooler/pooler/pool/Backoff", "pause", "()J"⟩ : MethodName) (head1 (Jvm.Cond.code (⟨"com/example/pooler/pooler/pool/Backoff", "pause", "()J"⟩ : MethodName) prog_23_method_6_code 4 (some .long) :: ws) ({ frames := 1, cells := 0, slots := 0, locals := 15 } : Room)) (fun a U => a = #[(.ref bt)] ∧ Z.Warmed39 U.vm ∧ U.heap = h0) (fun _ _ _ _ _ => True) (fun _ U o U' => ∃ v L, o = .returned v ∧ Qpa5 Z bt h0 n0 v U'.heap L ∧ FrameEnd U o U' L ({ frames := 1, cells := 0, slots := 0, locals := 15 } : Room).cells ({ frames := 1, cells := 0, slots := 0, locals := 15 } : Room).slots) := by
  refine MetFree.of_bodySF (plainFor_of_name own_pn_com_example_pooler_pooler_pool_Backoff) hisR ?_
  intro p e s m args below meth c s₁ Bd hml0 hP hK
  obtain ⟨rfl, hZ, hh⟩ := hP
  have hx := Bd.exec
  have hby := Bd.bytes
  have hml : c.maxLocals = 4 := hml0
  have hlk := Bd.notSynchronized
  have hown : s.vm.findClass "com/example/pooler/pooler/pool/Backoff" = some m.cls := findClass_of_methodNamed Bd.named
  have hnm := (name_of_methodNamed Bd.named Bd.method).1
  have X0 : Stand p l e ({ frames := 1, cells := 0, slots := 0, locals := 15 } : Room) s m #[(.ref bt)] below meth c s₁ [] 0 0 := Stand.of_body Bd
  have e0 : s₁.heap = h0 := by rw [← hh, Bd.state]; rfl
  have N0 := Fr.nil n0
  refine own_enter (Q := Qpa5 Z bt h0 n0) (Ls := #[.val (.ref bt), .unset, .unset, .unset]) (by first | rfl | (simp [entryFrame, mkF, argsToLocals, Value.category]; done)) ?_
  obtain ⟨T1, X1, e1, st1⟩ := getS2 X0 hx hZ hown (host := "") (Or.inl (hw _ (List.mem_of_getElem? (i := 45) rfl))) Via.refl e0 Ss (g := (mkF m 0 #[.val (.ref bt), .unset, .unset, .unset] [])) rfl (hb hby own_d8_0)
  refine Goes.go st1 ?_
  show Goes p e below s _ _ _ T1 (mkF m 3 #[.val (.ref bt), .unset, .unset, .unset] [(.long (100000000 : Int64))])
  refine own_lstoreN X1 hx 4 rfl #[.val (.ref bt), .val (.long (100000000 : Int64)), .second, .unset] (hb hby own_d8_3) rfl ?_
  refine own_iconst X1 hx 5 rfl (1 : Int32) (hb hby own_d8_4) (by decide) ?_
  refine own_istoreN X1 hx 6 rfl #[.val (.ref bt), .val (.long (100000000 : Int64)), .second, .val (.int (1 : Int32))] (hb hby own_d8_5) rfl ?_
  refine own_iloadN X1 hx 7 rfl (hb hby own_d8_6) rfl ?_
  refine own_aloadN X1 hx 8 rfl (hb hby own_d8_7) rfl rfl ?_
  obtain ⟨T2, X2, e2, st2⟩ := getF X1 hx hZ hown (host := "") (Or.inl (hw _ (List.mem_of_getElem? (i := 23) rfl))) Via.refl e1 Ff (g := (mkF m 8 #[.val (.ref bt), .val (.long (100000000 : Int64)), .second, .val (.int (1 : Int32))] [(.ref bt), (.int (1 : Int32))])) rfl rfl (hb hby own_d8_8)
  refine Goes.go st2 ?_
  show Goes p e below s _ _ _ T2 (mkF m 11 #[.val (.ref bt), .val (.long (100000000 : Int64)), .second, .val (.int (1 : Int32))] [(.int (5 : Int32)), (.int (1 : Int32))])
  refine own_icmpN X2 hx 14 (hb hby own_d8_11) (tlt ((by decide) : (1 : Int32) < (5 : Int32))).2.1 rfl ?_
  refine own_lloadN X2 hx 15 rfl (hb hby own_d8_14) rfl ?_
  obtain ⟨T3, X3, e3, st3⟩ := getS2 X2 hx hZ hown (host := "") (Or.inl (hw _ (List.mem_of_getElem? (i := 47) rfl))) Via.refl e2 Sl (g := (mkF m 15 #[.val (.ref bt), .val (.long (100000000 : Int64)), .second, .val (.int (1 : Int32))] [(.long (100000000 : Int64))])) rfl (hb hby own_d8_15)
  refine Goes.go st3 ?_
  show Goes p e below s _ _ _ T3 (mkF m 18 #[.val (.ref bt), .val (.long (100000000 : Int64)), .second, .val (.int (1 : Int32))] [(.long (1000000000 : Int64)), (.long (100000000 : Int64))])
  refine own_lcmp X3 hx 19 rfl (hb hby own_d8_18) ?_
  refine own_ifN X3 hx 22 (hb hby own_d8_19) (Ltlt ((by decide) : (100000000 : Int64) < (1000000000 : Int64))).2.1 rfl ?_
  refine own_lloadN X3 hx 23 rfl (hb hby own_d8_22) rfl ?_
  refine Goes.go (X3.ldc2Long hx hown (mvT hZ (hw _ (List.mem_of_getElem? (i := 53) rfl))) (g := (mkF m 23 #[.val (.ref bt), .val (.long (100000000 : Int64)), .second, .val (.int (1 : Int32))] [(.long (100000000 : Int64))])) rfl (hb hby own_d8_23)) ?_
  show Goes p e below s _ _ _ T3 (mkF m 26 #[.val (.ref bt), .val (.long (100000000 : Int64)), .second, .val (.int (1 : Int32))] [(.long (2 : Int64)), (.long (100000000 : Int64))])
  refine own_lmul X3 hx 27 rfl (z := (200000000 : Int64)) (hb hby own_d8_26) (by decide) ?_
  refine own_lstoreN X3 hx 28 rfl #[.val (.ref bt), .val (.long (200000000 : Int64)), .second, .val (.int (1 : Int32))] (hb hby own_d8_27) rfl ?_
  refine own_iinc X3 hx 31 rfl #[.val (.ref bt), .val (.long (200000000 : Int64)), .second, .val (.int (2 : Int32))] (hb hby own_d8_28) rfl (by decide) rfl ?_
  refine own_goto X3 hx 6 (hb hby own_d8_31) (by decide) (by decide) ?_
  refine own_iloadN X3 hx 7 rfl (hb hby own_d8_6) rfl ?_
  refine own_aloadN X3 hx 8 rfl (hb hby own_d8_7) rfl rfl ?_
  obtain ⟨T4, X4, e4, st4⟩ := getF X3 hx hZ hown (host := "") (Or.inl (hw _ (List.mem_of_getElem? (i := 23) rfl))) Via.refl e3 Ff (g := (mkF m 8 #[.val (.ref bt), .val (.long (200000000 : Int64)), .second, .val (.int (2 : Int32))] [(.ref bt), (.int (2 : Int32))])) rfl rfl (hb hby own_d8_8)
  refine Goes.go st4 ?_
  show Goes p e below s _ _ _ T4 (mkF m 11 #[.val (.ref bt), .val (.long (200000000 : Int64)), .second, .val (.int (2 : Int32))] [(.int (5 : Int32)), (.int (2 : Int32))])
  refine own_icmpN X4 hx 14 (hb hby own_d8_11) (tlt ((by decide) : (2 : Int32) < (5 : Int32))).2.1 rfl ?_
  refine own_lloadN X4 hx 15 rfl (hb hby own_d8_14) rfl ?_
  obtain ⟨T5, X5, e5, st5⟩ := getS2 X4 hx hZ hown (host := "") (Or.inl (hw _ (List.mem_of_getElem? (i := 47) rfl))) Via.refl e4 Sl (g := (mkF m 15 #[.val (.ref bt), .val (.long (200000000 : Int64)), .second, .val (.int (2 : Int32))] [(.long (200000000 : Int64))])) rfl (hb hby own_d8_15)
  refine Goes.go st5 ?_
  show Goes p e below s _ _ _ T5 (mkF m 18 #[.val (.ref bt), .val (.long (200000000 : Int64)), .second, .val (.int (2 : Int32))] [(.long (1000000000 : Int64)), (.long (200000000 : Int64))])
  refine own_lcmp X5 hx 19 rfl (hb hby own_d8_18) ?_
  refine own_ifN X5 hx 22 (hb hby own_d8_19) (Ltlt ((by decide) : (200000000 : Int64) < (1000000000 : Int64))).2.1 rfl ?_
  refine own_lloadN X5 hx 23 rfl (hb hby own_d8_22) rfl ?_
  refine Goes.go (X5.ldc2Long hx hown (mvT hZ (hw _ (List.mem_of_getElem? (i := 53) rfl))) (g := (mkF m 23 #[.val (.ref bt), .val (.long (200000000 : Int64)), .second, .val (.int (2 : Int32))] [(.long (200000000 : Int64))])) rfl (hb hby own_d8_23)) ?_
  show Goes p e below s _ _ _ T5 (mkF m 26 #[.val (.ref bt), .val (.long (200000000 : Int64)), .second, .val (.int (2 : Int32))] [(.long (2 : Int64)), (.long (200000000 : Int64))])
  refine own_lmul X5 hx 27 rfl (z := (400000000 : Int64)) (hb hby own_d8_26) (by decide) ?_
  refine own_lstoreN X5 hx 28 rfl #[.val (.ref bt), .val (.long (400000000 : Int64)), .second, .val (.int (2 : Int32))] (hb hby own_d8_27) rfl ?_
  refine own_iinc X5 hx 31 rfl #[.val (.ref bt), .val (.long (400000000 : Int64)), .second, .val (.int (3 : Int32))] (hb hby own_d8_28) rfl (by decide) rfl ?_
  refine own_goto X5 hx 6 (hb hby own_d8_31) (by decide) (by decide) ?_
  refine own_iloadN X5 hx 7 rfl (hb hby own_d8_6) rfl ?_
  refine own_aloadN X5 hx 8 rfl (hb hby own_d8_7) rfl rfl ?_
  obtain ⟨T6, X6, e6, st6⟩ := getF X5 hx hZ hown (host := "") (Or.inl (hw _ (List.mem_of_getElem? (i := 23) rfl))) Via.refl e5 Ff (g := (mkF m 8 #[.val (.ref bt), .val (.long (400000000 : Int64)), .second, .val (.int (3 : Int32))] [(.ref bt), (.int (3 : Int32))])) rfl rfl (hb hby own_d8_8)
  refine Goes.go st6 ?_
  show Goes p e below s _ _ _ T6 (mkF m 11 #[.val (.ref bt), .val (.long (400000000 : Int64)), .second, .val (.int (3 : Int32))] [(.int (5 : Int32)), (.int (3 : Int32))])
  refine own_icmpN X6 hx 14 (hb hby own_d8_11) (tlt ((by decide) : (3 : Int32) < (5 : Int32))).2.1 rfl ?_
  refine own_lloadN X6 hx 15 rfl (hb hby own_d8_14) rfl ?_
  obtain ⟨T7, X7, e7, st7⟩ := getS2 X6 hx hZ hown (host := "") (Or.inl (hw _ (List.mem_of_getElem? (i := 47) rfl))) Via.refl e6 Sl (g := (mkF m 15 #[.val (.ref bt), .val (.long (400000000 : Int64)), .second, .val (.int (3 : Int32))] [(.long (400000000 : Int64))])) rfl (hb hby own_d8_15)
  refine Goes.go st7 ?_
  show Goes p e below s _ _ _ T7 (mkF m 18 #[.val (.ref bt), .val (.long (400000000 : Int64)), .second, .val (.int (3 : Int32))] [(.long (1000000000 : Int64)), (.long (400000000 : Int64))])
  refine own_lcmp X7 hx 19 rfl (hb hby own_d8_18) ?_
  refine own_ifN X7 hx 22 (hb hby own_d8_19) (Ltlt ((by decide) : (400000000 : Int64) < (1000000000 : Int64))).2.1 rfl ?_
  refine own_lloadN X7 hx 23 rfl (hb hby own_d8_22) rfl ?_
  refine Goes.go (X7.ldc2Long hx hown (mvT hZ (hw _ (List.mem_of_getElem? (i := 53) rfl))) (g := (mkF m 23 #[.val (.ref bt), .val (.long (400000000 : Int64)), .second, .val (.int (3 : Int32))] [(.long (400000000 : Int64))])) rfl (hb hby own_d8_23)) ?_
  show Goes p e below s _ _ _ T7 (mkF m 26 #[.val (.ref bt), .val (.long (400000000 : Int64)), .second, .val (.int (3 : Int32))] [(.long (2 : Int64)), (.long (400000000 : Int64))])
  refine own_lmul X7 hx 27 rfl (z := (800000000 : Int64)) (hb hby own_d8_26) (by decide) ?_
  refine own_lstoreN X7 hx 28 rfl #[.val (.ref bt), .val (.long (800000000 : Int64)), .second, .val (.int (3 : Int32))] (hb hby own_d8_27) rfl ?_
  refine own_iinc X7 hx 31 rfl #[.val (.ref bt), .val (.long (800000000 : Int64)), .second, .val (.int (4 : Int32))] (hb hby own_d8_28) rfl (by decide) rfl ?_
  refine own_goto X7 hx 6 (hb hby own_d8_31) (by decide) (by decide) ?_
  refine own_iloadN X7 hx 7 rfl (hb hby own_d8_6) rfl ?_
  refine own_aloadN X7 hx 8 rfl (hb hby own_d8_7) rfl rfl ?_
  obtain ⟨T8, X8, e8, st8⟩ := getF X7 hx hZ hown (host := "") (Or.inl (hw _ (List.mem_of_getElem? (i := 23) rfl))) Via.refl e7 Ff (g := (mkF m 8 #[.val (.ref bt), .val (.long (800000000 : Int64)), .second, .val (.int (4 : Int32))] [(.ref bt), (.int (4 : Int32))])) rfl rfl (hb hby own_d8_8)
  refine Goes.go st8 ?_
  show Goes p e below s _ _ _ T8 (mkF m 11 #[.val (.ref bt), .val (.long (800000000 : Int64)), .second, .val (.int (4 : Int32))] [(.int (5 : Int32)), (.int (4 : Int32))])
  refine own_icmpN X8 hx 14 (hb hby own_d8_11) (tlt ((by decide) : (4 : Int32) < (5 : Int32))).2.1 rfl ?_
  refine own_lloadN X8 hx 15 rfl (hb hby own_d8_14) rfl ?_
  obtain ⟨T9, X9, e9, st9⟩ := getS2 X8 hx hZ hown (host := "") (Or.inl (hw _ (List.mem_of_getElem? (i := 47) rfl))) Via.refl e8 Sl (g := (mkF m 15 #[.val (.ref bt), .val (.long (800000000 : Int64)), .second, .val (.int (4 : Int32))] [(.long (800000000 : Int64))])) rfl (hb hby own_d8_15)
  refine Goes.go st9 ?_
  show Goes p e below s _ _ _ T9 (mkF m 18 #[.val (.ref bt), .val (.long (800000000 : Int64)), .second, .val (.int (4 : Int32))] [(.long (1000000000 : Int64)), (.long (800000000 : Int64))])
  refine own_lcmp X9 hx 19 rfl (hb hby own_d8_18) ?_
  refine own_ifN X9 hx 22 (hb hby own_d8_19) (Ltlt ((by decide) : (800000000 : Int64) < (1000000000 : Int64))).2.1 rfl ?_
  refine own_lloadN X9 hx 23 rfl (hb hby own_d8_22) rfl ?_
  refine Goes.go (X9.ldc2Long hx hown (mvT hZ (hw _ (List.mem_of_getElem? (i := 53) rfl))) (g := (mkF m 23 #[.val (.ref bt), .val (.long (800000000 : Int64)), .second, .val (.int (4 : Int32))] [(.long (800000000 : Int64))])) rfl (hb hby own_d8_23)) ?_
  show Goes p e below s _ _ _ T9 (mkF m 26 #[.val (.ref bt), .val (.long (800000000 : Int64)), .second, .val (.int (4 : Int32))] [(.long (2 : Int64)), (.long (800000000 : Int64))])
  refine own_lmul X9 hx 27 rfl (z := (1600000000 : Int64)) (hb hby own_d8_26) (by decide) ?_
  refine own_lstoreN X9 hx 28 rfl #[.val (.ref bt), .val (.long (1600000000 : Int64)), .second, .val (.int (4 : Int32))] (hb hby own_d8_27) rfl ?_
  refine own_iinc X9 hx 31 rfl #[.val (.ref bt), .val (.long (1600000000 : Int64)), .second, .val (.int (5 : Int32))] (hb hby own_d8_28) rfl (by decide) rfl ?_
  refine own_goto X9 hx 6 (hb hby own_d8_31) (by decide) (by decide) ?_
  refine own_iloadN X9 hx 7 rfl (hb hby own_d8_6) rfl ?_
  refine own_aloadN X9 hx 8 rfl (hb hby own_d8_7) rfl rfl ?_
  obtain ⟨T10, X10, e10, st10⟩ := getF X9 hx hZ hown (host := "") (Or.inl (hw _ (List.mem_of_getElem? (i := 23) rfl))) Via.refl e9 Ff (g := (mkF m 8 #[.val (.ref bt), .val (.long (1600000000 : Int64)), .second, .val (.int (5 : Int32))] [(.ref bt), (.int (5 : Int32))])) rfl rfl (hb hby own_d8_8)
  refine Goes.go st10 ?_
  show Goes p e below s _ _ _ T10 (mkF m 11 #[.val (.ref bt), .val (.long (1600000000 : Int64)), .second, .val (.int (5 : Int32))] [(.int (5 : Int32)), (.int (5 : Int32))])
  refine own_icmpY X10 hx 34 (hb hby own_d8_11) (flt ((by decide) : ¬ ((5 : Int32) < (5 : Int32)))).2.1 (by decide) (by decide) ?_
  refine own_lloadN X10 hx 35 rfl (hb hby own_d8_34) rfl ?_
  obtain ⟨T11, X11, e11, st11⟩ := getS2 X10 hx hZ hown (host := "") (Or.inl (hw _ (List.mem_of_getElem? (i := 47) rfl))) Via.refl e10 Sl (g := (mkF m 35 #[.val (.ref bt), .val (.long (1600000000 : Int64)), .second, .val (.int (5 : Int32))] [(.long (1600000000 : Int64))])) rfl (hb hby own_d8_35)
  refine Goes.go st11 ?_
  show Goes p e below s _ _ _ T11 (mkF m 38 #[.val (.ref bt), .val (.long (1600000000 : Int64)), .second, .val (.int (5 : Int32))] [(.long (1000000000 : Int64)), (.long (1600000000 : Int64))])
  obtain ⟨_, _, ⟨T12, L12, k12, n12⟩, -, X12, ⟨Lc12, hQ12, l12, y12, z12⟩, st12⟩ := Jvm.LawKit.callS X11 hx (y := (⟨"java/lang/Math", "min", "(JJ)J"⟩ : MethodName)) hown (mvT hZ (hw _ (List.mem_of_getElem? (i := 49) rfl))) (mvT hZ (hw _ (List.mem_of_getElem? (i := 50) rfl))) (mvT hZ (hw _ (List.mem_of_getElem? (i := 34) rfl))) (mvT hZ (hw _ (List.mem_of_getElem? (i := 51) rfl))) (by decide) (backOf (W := 0) (rmmi1600000000 l Z a0 hw []  h0 n0 Z0 ) hZ (hw _ (List.mem_of_getElem? (i := 51) rfl)) (hw _ (List.mem_of_getElem? (i := 34) rfl)) (by decide) (by decide)) (g := (mkF m 38 #[.val (.ref bt), .val (.long (1600000000 : Int64)), .second, .val (.int (5 : Int32))] [(.long (1000000000 : Int64)), (.long (1600000000 : Int64))])) rfl (by rw [hml]; rfl) (argsL := [(.long (1600000000 : Int64)), (.long (1000000000 : Int64))]) (rest := []) (lenOf own_pd1 rfl) rfl (by show 2 * 0 + _ ≤ _; exact Nat.le_of_eq rfl) (hb hby own_d8_38) (fun _ _ => ⟨rfl, e11, (by decide : 0 + 0 ≤ _), (by decide : 0 + 0 ≤ _)⟩)
  dsimp only [Pt.U, Pt.locs, Pt.cells, Pt.slots] at X12 l12 y12 z12 st12 hQ12
  subst l12 y12 z12
  obtain ⟨rfl, N12q, eh12⟩ := hQ12
  have N12 := Fr.app N0 N12q
  refine Goes.go st12 ?_
  show Goes p e below s _ _ _ T12 (mkF m 41 #[.val (.ref bt), .val (.long (1600000000 : Int64)), .second, .val (.int (5 : Int32))] [(.long (1000000000 : Int64))])
  refine own_retJ X12 hx hlk Bd.returns (hb hby own_d8_41) (by decide) (by decide) eh12 ?_
  exact ⟨rfl, N12, rfl⟩
def Qde5 (Z : State) (bt : Addr) (bn : Int64) (be : Int64) (h0 : Heap) (n0 : Nat) (v : Option Value) (h : Heap) (L : List Loc) : Prop := ∃ br : Int64, v = some (.long br) ∧ Fr n0 L ∧ h = h0 ∧ ((br = ((be + (1000000000 : Int64)) - bn) ∧ (0 : Int64) < ((be + (1000000000 : Int64)) - bn)) ∨ (br = (0 : Int64) ∧ ¬ (0 : Int64) < ((be + (1000000000 : Int64)) - bn)))
set_option maxRecDepth 65536 in
set_option maxHeartbeats 40000000 in
theorem rmde5 (l : Launch) (Z : State) (a0 : Array Value) (hw : ∀ d ∈ tables_1, d.before a0 Z = true) (ws : List Jvm.Cond) (bt : Addr) (bn : Int64) (be : Int64) (h0 : Heap) (n0 : Nat) (Z0 : n0 ≤ h0.size) (EB : Exa Z h0 bt "com/example/pooler/pooler/pool/Backoff") (Ss : Sta Z h0 "com/example/pooler/pooler/pool/Backoff" "SHORTEST" "J" (.long (100000000 : Int64))) (Sl : Sta Z h0 "com/example/pooler/pooler/pool/Backoff" "LONGEST" "J" (.long (1000000000 : Int64))) (Ft : Fld Z h0 bt "com/example/pooler/pooler/pool/Backoff" "tried" "Z" (.int (1 : Int32))) (Fe : Fld Z h0 bt "com/example/pooler/pooler/pool/Backoff" "endedAt" "J" (.long be)) (Ff : Fld Z h0 bt "com/example/pooler/pooler/pool/Backoff" "failuresInARow" "I" (.int (5 : Int32))) :
    MetFree l (⟨"com/example/pooler/pooler/pool/Backoff", "delay", "(J)J"⟩ : MethodName) (head1 (Jvm.Cond.code (⟨"com/example/pooler/pooler/pool/Backoff", "delay", "(J)J"⟩ : MethodName) prog_23_method_2_code 5 (some .long) :: ws) ({ frames := 2, cells := 0, slots := 0, locals := 34 } : Room)) (fun a U => a = #[(.ref bt), (.long bn)] ∧ Z.Warmed39 U.vm ∧ U.heap = h0) (fun _ _ _ _ _ => True) (fun _ U o U' => ∃ v L, o = .returned v ∧ Qde5 Z bt bn be h0 n0 v U'.heap L ∧ FrameEnd U o U' L ({ frames := 2, cells := 0, slots := 0, locals := 34 } : Room).cells ({ frames := 2, cells := 0, slots := 0, locals := 34 } : Room).slots) := by
  refine MetFree.of_bodySF (plainFor_of_name own_pn_com_example_pooler_pooler_pool_Backoff) hisR ?_
  intro p e s m args below meth c s₁ Bd hml0 hP hK
  obtain ⟨rfl, hZ, hh⟩ := hP
  have hx := Bd.exec
  have hby := Bd.bytes
  have hml : c.maxLocals = 5 := hml0
  have hlk := Bd.notSynchronized
  have hown : s.vm.findClass "com/example/pooler/pooler/pool/Backoff" = some m.cls := findClass_of_methodNamed Bd.named
  have hnm := (name_of_methodNamed Bd.named Bd.method).1
  have X0 : Stand p l e ({ frames := 2, cells := 0, slots := 0, locals := 34 } : Room) s m #[(.ref bt), (.long bn)] below meth c s₁ [] 0 0 := Stand.of_body Bd
  have e0 : s₁.heap = h0 := by rw [← hh, Bd.state]; rfl
  have N0 := Fr.nil n0
  refine own_enter (Q := Qde5 Z bt bn be h0 n0) (Ls := #[.val (.ref bt), .val (.long bn), .second, .unset, .unset]) (by first | rfl | (simp [entryFrame, mkF, argsToLocals, Value.category]; done)) ?_
  refine own_lconst X0 hx 1 rfl (0 : Int64) (hb hby own_d7_0) (by decide) ?_
  refine own_lstoreN X0 hx 2 rfl #[.val (.ref bt), .val (.long bn), .second, .val (.long (0 : Int64)), .second] (hb hby own_d7_1) rfl ?_
  refine own_aloadN X0 hx 3 rfl (hb hby own_d7_2) rfl rfl ?_
  obtain ⟨T1, X1, e1, st1⟩ := getF X0 hx hZ hown (host := "") (Or.inl (hw _ (List.mem_of_getElem? (i := 19) rfl))) Via.refl e0 Ft (g := (mkF m 3 #[.val (.ref bt), .val (.long bn), .second, .val (.long (0 : Int64)), .second] [(.ref bt)])) rfl rfl (hb hby own_d7_3)
  refine Goes.go st1 ?_
  show Goes p e below s _ _ _ T1 (mkF m 6 #[.val (.ref bt), .val (.long bn), .second, .val (.long (0 : Int64)), .second] [(.int (1 : Int32))])
  refine own_ifN X1 hx 9 (hb hby own_d7_6) ((if0 _ _).trans (feq ((by decide) : ¬ ((1 : Int32) = (0 : Int32)))).1) rfl ?_
  refine own_lconst X1 hx 10 rfl (0 : Int64) (hb hby own_d7_9) (by decide) ?_
  refine own_aloadN X1 hx 11 rfl (hb hby own_d7_10) rfl rfl ?_
  obtain ⟨T2, X2, e2, st2⟩ := getF X1 hx hZ hown (host := "") (Or.inl (hw _ (List.mem_of_getElem? (i := 21) rfl))) Via.refl e1 Fe (g := (mkF m 11 #[.val (.ref bt), .val (.long bn), .second, .val (.long (0 : Int64)), .second] [(.ref bt), (.long (0 : Int64))])) rfl rfl (hb hby own_d7_11)
  refine Goes.go st2 ?_
  show Goes p e below s _ _ _ T2 (mkF m 14 #[.val (.ref bt), .val (.long bn), .second, .val (.long (0 : Int64)), .second] [(.long be), (.long (0 : Int64))])
  refine own_aloadN X2 hx 15 rfl (hb hby own_d7_14) rfl rfl ?_
  obtain ⟨cq3, q3, q3'⟩ := EB.cell
  obtain ⟨_, _, ⟨T3, L3, k3, n3⟩, -, X3, ⟨Lc3, hQ3, l3, y3, z3⟩, st3⟩ := X2.privateBack hx (y := (⟨"com/example/pooler/pooler/pool/Backoff", "pause", "()J"⟩ : MethodName)) hown (mvT hZ (hw _ (List.mem_of_getElem? (i := 41) rfl))) (mvT hZ (hw _ (List.mem_of_getElem? (i := 42) rfl))) (own_selP (mvT hZ (hw _ (List.mem_of_getElem? (i := 2) rfl))) (mvP hZ (hw _ (List.mem_of_getElem? (i := 43) rfl))) (mvT hZ (hw _ (List.mem_of_getElem? (i := 42) rfl))) (by decide)) (Cond.privateMethod_at (mvP hZ (hw _ (List.mem_of_getElem? (i := 43) rfl)) (args := #[]))) (mvT hZ (hw _ (List.mem_of_getElem? (i := 44) rfl))) (by decide) (backOf (W := 4) (rmpa5 l Z a0 hw [] bt h0 n0 Z0 Ss Sl Ff) hZ (hw _ (List.mem_of_getElem? (i := 44) rfl)) (hw _ (List.mem_of_getElem? (i := 3) rfl)) (by decide) (by decide)) (g := (mkF m 15 #[.val (.ref bt), .val (.long bn), .second, .val (.long (0 : Int64)), .second] [(.ref bt), (.long be), (.long (0 : Int64))])) rfl (by rw [hml]; rfl) (Steps.refl _) (a := bt) (by rw [e2]; exact q3) q3' (argsL := []) (rest := [(.long be), (.long (0 : Int64))]) (lenOf own_pd2 rfl) rfl (by show 2 * 0 + _ ≤ _; exact Nat.le_of_eq rfl) (hb hby own_d7_15) (fun _ _ => ⟨rfl, e2, (by decide : 0 + 0 ≤ _), (by decide : 0 + 0 ≤ _)⟩)
  dsimp only [Pt.U, Pt.locs, Pt.cells, Pt.slots] at X3 l3 y3 z3 st3 hQ3
  subst l3 y3 z3
  obtain ⟨rfl, N3q, eh3⟩ := hQ3
  have N3 := Fr.app N0 N3q
  refine Goes.tr st3 ?_
  show Goes p e below s _ _ _ T3 (mkF m 18 #[.val (.ref bt), .val (.long bn), .second, .val (.long (0 : Int64)), .second] [(.long (1000000000 : Int64)), (.long be), (.long (0 : Int64))])
  refine own_ladd X3 hx 19 rfl (hb hby own_d7_18) rfl ?_
  refine own_lloadN X3 hx 20 rfl (hb hby own_d7_19) rfl ?_
  refine own_lsub X3 hx 21 rfl (hb hby own_d7_20) rfl ?_
  obtain ⟨_, _, ⟨T4, L4, k4, n4⟩, -, X4, ⟨Lc4, hQ4, l4, y4, z4⟩, st4⟩ := Jvm.LawKit.callS X3 hx (y := (⟨"java/lang/Math", "max", "(JJ)J"⟩ : MethodName)) hown (mvT hZ (hw _ (List.mem_of_getElem? (i := 52) rfl))) (mvT hZ (hw _ (List.mem_of_getElem? (i := 33) rfl))) (mvT hZ (hw _ (List.mem_of_getElem? (i := 34) rfl))) (mvT hZ (hw _ (List.mem_of_getElem? (i := 35) rfl))) (by decide) (backOf (W := 0) (rm6 l Z a0 hw [] (0 : Int64) ((be + (1000000000 : Int64)) - bn) h0 n0 Z0 ) hZ (hw _ (List.mem_of_getElem? (i := 35) rfl)) (hw _ (List.mem_of_getElem? (i := 34) rfl)) (by decide) (by decide)) (g := (mkF m 21 #[.val (.ref bt), .val (.long bn), .second, .val (.long (0 : Int64)), .second] [(.long ((be + (1000000000 : Int64)) - bn)), (.long (0 : Int64))])) rfl (by rw [hml]; rfl) (argsL := [(.long (0 : Int64)), (.long ((be + (1000000000 : Int64)) - bn))]) (rest := []) (lenOf own_pd1 rfl) rfl (by show 2 * 0 + _ ≤ _; exact Nat.le_of_eq rfl) (hb hby own_d7_21) (fun _ _ => ⟨rfl, eh3, (by decide : 0 + 0 ≤ _), (by decide : 0 + 0 ≤ _)⟩)
  dsimp only [Pt.U, Pt.locs, Pt.cells, Pt.slots] at X4 l4 y4 z4 st4 hQ4
  subst l4 y4 z4
  obtain ⟨mr_4, rfl, N4q, eh4, pr4_0⟩ := hQ4
  have N4 := Fr.app N3 N4q
  refine Goes.go st4 ?_
  show Goes p e below s _ _ _ T4 (mkF m 24 #[.val (.ref bt), .val (.long bn), .second, .val (.long (0 : Int64)), .second] [(.long mr_4)])
  refine own_lstoreN X4 hx 25 rfl #[.val (.ref bt), .val (.long bn), .second, .val (.long mr_4), .second] (hb hby own_d7_24) rfl ?_
  refine own_lloadN X4 hx 26 rfl (hb hby own_d7_25) rfl ?_
  refine own_retJ X4 hx hlk Bd.returns (hb hby own_d7_26) (by decide) (by decide) eh4 ?_
  exact ⟨mr_4, rfl, N4, rfl, pr4_0⟩
def Qpa6 (Z : State) (bt : Addr) (h0 : Heap) (n0 : Nat) (v : Option Value) (h : Heap) (L : List Loc) : Prop := v = some (.long (1000000000 : Int64)) ∧ Fr n0 L ∧ h = h0
set_option maxRecDepth 65536 in
set_option maxHeartbeats 40000000 in
theorem rmpa6 (l : Launch) (Z : State) (a0 : Array Value) (hw : ∀ d ∈ tables_1, d.before a0 Z = true) (ws : List Jvm.Cond) (bt : Addr) (h0 : Heap) (n0 : Nat) (Z0 : n0 ≤ h0.size) (Ss : Sta Z h0 "com/example/pooler/pooler/pool/Backoff" "SHORTEST" "J" (.long (100000000 : Int64))) (Sl : Sta Z h0 "com/example/pooler/pooler/pool/Backoff" "LONGEST" "J" (.long (1000000000 : Int64))) (Ff : Fld Z h0 bt "com/example/pooler/pooler/pool/Backoff" "failuresInARow" "I" (.int (6 : Int32))) :
    MetFree l (⟨"com/example/pooler/pooler/pool/Backoff", "pause", "()J"⟩ : MethodName) (head1 (Jvm.Cond.code (⟨"com/example/pooler/pooler/pool/Backoff", "pause", "()J"⟩ : MethodName) prog_23_method_6_code 4 (some .long) :: ws) ({ frames := 1, cells := 0, slots := 0, locals := 15 } : Room)) (fun a U => a = #[(.ref bt)] ∧ Z.Warmed39 U.vm ∧ U.heap = h0) (fun _ _ _ _ _ => True) (fun _ U o U' => ∃ v L, o = .returned v ∧ Qpa6 Z bt h0 n0 v U'.heap L ∧ FrameEnd U o U' L ({ frames := 1, cells := 0, slots := 0, locals := 15 } : Room).cells ({ frames := 1, cells := 0, slots := 0, locals := 15 } : Room).slots) := by
  refine MetFree.of_bodySF (plainFor_of_name own_pn_com_example_pooler_pooler_pool_Backoff) hisR ?_
  intro p e s m args below meth c s₁ Bd hml0 hP hK
  obtain ⟨rfl, hZ, hh⟩ := hP
  have hx := Bd.exec
  have hby := Bd.bytes
  have hml : c.maxLocals = 4 := hml0
  have hlk := Bd.notSynchronized
  have hown : s.vm.findClass "com/example/pooler/pooler/pool/Backoff" = some m.cls := findClass_of_methodNamed Bd.named
  have hnm := (name_of_methodNamed Bd.named Bd.method).1
  have X0 : Stand p l e ({ frames := 1, cells := 0, slots := 0, locals := 15 } : Room) s m #[(.ref bt)] below meth c s₁ [] 0 0 := Stand.of_body Bd
  have e0 : s₁.heap = h0 := by rw [← hh, Bd.state]; rfl
  have N0 := Fr.nil n0
  refine own_enter (Q := Qpa6 Z bt h0 n0) (Ls := #[.val (.ref bt), .unset, .unset, .unset]) (by first | rfl | (simp [entryFrame, mkF, argsToLocals, Value.category]; done)) ?_
  obtain ⟨T1, X1, e1, st1⟩ := getS2 X0 hx hZ hown (host := "") (Or.inl (hw _ (List.mem_of_getElem? (i := 45) rfl))) Via.refl e0 Ss (g := (mkF m 0 #[.val (.ref bt), .unset, .unset, .unset] [])) rfl (hb hby own_d8_0)
  refine Goes.go st1 ?_
  show Goes p e below s _ _ _ T1 (mkF m 3 #[.val (.ref bt), .unset, .unset, .unset] [(.long (100000000 : Int64))])
  refine own_lstoreN X1 hx 4 rfl #[.val (.ref bt), .val (.long (100000000 : Int64)), .second, .unset] (hb hby own_d8_3) rfl ?_
  refine own_iconst X1 hx 5 rfl (1 : Int32) (hb hby own_d8_4) (by decide) ?_
  refine own_istoreN X1 hx 6 rfl #[.val (.ref bt), .val (.long (100000000 : Int64)), .second, .val (.int (1 : Int32))] (hb hby own_d8_5) rfl ?_
  refine own_iloadN X1 hx 7 rfl (hb hby own_d8_6) rfl ?_
  refine own_aloadN X1 hx 8 rfl (hb hby own_d8_7) rfl rfl ?_
  obtain ⟨T2, X2, e2, st2⟩ := getF X1 hx hZ hown (host := "") (Or.inl (hw _ (List.mem_of_getElem? (i := 23) rfl))) Via.refl e1 Ff (g := (mkF m 8 #[.val (.ref bt), .val (.long (100000000 : Int64)), .second, .val (.int (1 : Int32))] [(.ref bt), (.int (1 : Int32))])) rfl rfl (hb hby own_d8_8)
  refine Goes.go st2 ?_
  show Goes p e below s _ _ _ T2 (mkF m 11 #[.val (.ref bt), .val (.long (100000000 : Int64)), .second, .val (.int (1 : Int32))] [(.int (6 : Int32)), (.int (1 : Int32))])
  refine own_icmpN X2 hx 14 (hb hby own_d8_11) (tlt ((by decide) : (1 : Int32) < (6 : Int32))).2.1 rfl ?_
  refine own_lloadN X2 hx 15 rfl (hb hby own_d8_14) rfl ?_
  obtain ⟨T3, X3, e3, st3⟩ := getS2 X2 hx hZ hown (host := "") (Or.inl (hw _ (List.mem_of_getElem? (i := 47) rfl))) Via.refl e2 Sl (g := (mkF m 15 #[.val (.ref bt), .val (.long (100000000 : Int64)), .second, .val (.int (1 : Int32))] [(.long (100000000 : Int64))])) rfl (hb hby own_d8_15)
  refine Goes.go st3 ?_
  show Goes p e below s _ _ _ T3 (mkF m 18 #[.val (.ref bt), .val (.long (100000000 : Int64)), .second, .val (.int (1 : Int32))] [(.long (1000000000 : Int64)), (.long (100000000 : Int64))])
  refine own_lcmp X3 hx 19 rfl (hb hby own_d8_18) ?_
  refine own_ifN X3 hx 22 (hb hby own_d8_19) (Ltlt ((by decide) : (100000000 : Int64) < (1000000000 : Int64))).2.1 rfl ?_
  refine own_lloadN X3 hx 23 rfl (hb hby own_d8_22) rfl ?_
  refine Goes.go (X3.ldc2Long hx hown (mvT hZ (hw _ (List.mem_of_getElem? (i := 53) rfl))) (g := (mkF m 23 #[.val (.ref bt), .val (.long (100000000 : Int64)), .second, .val (.int (1 : Int32))] [(.long (100000000 : Int64))])) rfl (hb hby own_d8_23)) ?_
  show Goes p e below s _ _ _ T3 (mkF m 26 #[.val (.ref bt), .val (.long (100000000 : Int64)), .second, .val (.int (1 : Int32))] [(.long (2 : Int64)), (.long (100000000 : Int64))])
  refine own_lmul X3 hx 27 rfl (z := (200000000 : Int64)) (hb hby own_d8_26) (by decide) ?_
  refine own_lstoreN X3 hx 28 rfl #[.val (.ref bt), .val (.long (200000000 : Int64)), .second, .val (.int (1 : Int32))] (hb hby own_d8_27) rfl ?_
  refine own_iinc X3 hx 31 rfl #[.val (.ref bt), .val (.long (200000000 : Int64)), .second, .val (.int (2 : Int32))] (hb hby own_d8_28) rfl (by decide) rfl ?_
  refine own_goto X3 hx 6 (hb hby own_d8_31) (by decide) (by decide) ?_
  refine own_iloadN X3 hx 7 rfl (hb hby own_d8_6) rfl ?_
  refine own_aloadN X3 hx 8 rfl (hb hby own_d8_7) rfl rfl ?_
  obtain ⟨T4, X4, e4, st4⟩ := getF X3 hx hZ hown (host := "") (Or.inl (hw _ (List.mem_of_getElem? (i := 23) rfl))) Via.refl e3 Ff (g := (mkF m 8 #[.val (.ref bt), .val (.long (200000000 : Int64)), .second, .val (.int (2 : Int32))] [(.ref bt), (.int (2 : Int32))])) rfl rfl (hb hby own_d8_8)
  refine Goes.go st4 ?_
  show Goes p e below s _ _ _ T4 (mkF m 11 #[.val (.ref bt), .val (.long (200000000 : Int64)), .second, .val (.int (2 : Int32))] [(.int (6 : Int32)), (.int (2 : Int32))])
  refine own_icmpN X4 hx 14 (hb hby own_d8_11) (tlt ((by decide) : (2 : Int32) < (6 : Int32))).2.1 rfl ?_
  refine own_lloadN X4 hx 15 rfl (hb hby own_d8_14) rfl ?_
  obtain ⟨T5, X5, e5, st5⟩ := getS2 X4 hx hZ hown (host := "") (Or.inl (hw _ (List.mem_of_getElem? (i := 47) rfl))) Via.refl e4 Sl (g := (mkF m 15 #[.val (.ref bt), .val (.long (200000000 : Int64)), .second, .val (.int (2 : Int32))] [(.long (200000000 : Int64))])) rfl (hb hby own_d8_15)
  refine Goes.go st5 ?_
  show Goes p e below s _ _ _ T5 (mkF m 18 #[.val (.ref bt), .val (.long (200000000 : Int64)), .second, .val (.int (2 : Int32))] [(.long (1000000000 : Int64)), (.long (200000000 : Int64))])
  refine own_lcmp X5 hx 19 rfl (hb hby own_d8_18) ?_
  refine own_ifN X5 hx 22 (hb hby own_d8_19) (Ltlt ((by decide) : (200000000 : Int64) < (1000000000 : Int64))).2.1 rfl ?_
  refine own_lloadN X5 hx 23 rfl (hb hby own_d8_22) rfl ?_
  refine Goes.go (X5.ldc2Long hx hown (mvT hZ (hw _ (List.mem_of_getElem? (i := 53) rfl))) (g := (mkF m 23 #[.val (.ref bt), .val (.long (200000000 : Int64)), .second, .val (.int (2 : Int32))] [(.long (200000000 : Int64))])) rfl (hb hby own_d8_23)) ?_
  show Goes p e below s _ _ _ T5 (mkF m 26 #[.val (.ref bt), .val (.long (200000000 : Int64)), .second, .val (.int (2 : Int32))] [(.long (2 : Int64)), (.long (200000000 : Int64))])
  refine own_lmul X5 hx 27 rfl (z := (400000000 : Int64)) (hb hby own_d8_26) (by decide) ?_
  refine own_lstoreN X5 hx 28 rfl #[.val (.ref bt), .val (.long (400000000 : Int64)), .second, .val (.int (2 : Int32))] (hb hby own_d8_27) rfl ?_
  refine own_iinc X5 hx 31 rfl #[.val (.ref bt), .val (.long (400000000 : Int64)), .second, .val (.int (3 : Int32))] (hb hby own_d8_28) rfl (by decide) rfl ?_
  refine own_goto X5 hx 6 (hb hby own_d8_31) (by decide) (by decide) ?_
  refine own_iloadN X5 hx 7 rfl (hb hby own_d8_6) rfl ?_
  refine own_aloadN X5 hx 8 rfl (hb hby own_d8_7) rfl rfl ?_
  obtain ⟨T6, X6, e6, st6⟩ := getF X5 hx hZ hown (host := "") (Or.inl (hw _ (List.mem_of_getElem? (i := 23) rfl))) Via.refl e5 Ff (g := (mkF m 8 #[.val (.ref bt), .val (.long (400000000 : Int64)), .second, .val (.int (3 : Int32))] [(.ref bt), (.int (3 : Int32))])) rfl rfl (hb hby own_d8_8)
  refine Goes.go st6 ?_
  show Goes p e below s _ _ _ T6 (mkF m 11 #[.val (.ref bt), .val (.long (400000000 : Int64)), .second, .val (.int (3 : Int32))] [(.int (6 : Int32)), (.int (3 : Int32))])
  refine own_icmpN X6 hx 14 (hb hby own_d8_11) (tlt ((by decide) : (3 : Int32) < (6 : Int32))).2.1 rfl ?_
  refine own_lloadN X6 hx 15 rfl (hb hby own_d8_14) rfl ?_
  obtain ⟨T7, X7, e7, st7⟩ := getS2 X6 hx hZ hown (host := "") (Or.inl (hw _ (List.mem_of_getElem? (i := 47) rfl))) Via.refl e6 Sl (g := (mkF m 15 #[.val (.ref bt), .val (.long (400000000 : Int64)), .second, .val (.int (3 : Int32))] [(.long (400000000 : Int64))])) rfl (hb hby own_d8_15)
  refine Goes.go st7 ?_
  show Goes p e below s _ _ _ T7 (mkF m 18 #[.val (.ref bt), .val (.long (400000000 : Int64)), .second, .val (.int (3 : Int32))] [(.long (1000000000 : Int64)), (.long (400000000 : Int64))])
  refine own_lcmp X7 hx 19 rfl (hb hby own_d8_18) ?_
  refine own_ifN X7 hx 22 (hb hby own_d8_19) (Ltlt ((by decide) : (400000000 : Int64) < (1000000000 : Int64))).2.1 rfl ?_
  refine own_lloadN X7 hx 23 rfl (hb hby own_d8_22) rfl ?_
  refine Goes.go (X7.ldc2Long hx hown (mvT hZ (hw _ (List.mem_of_getElem? (i := 53) rfl))) (g := (mkF m 23 #[.val (.ref bt), .val (.long (400000000 : Int64)), .second, .val (.int (3 : Int32))] [(.long (400000000 : Int64))])) rfl (hb hby own_d8_23)) ?_
  show Goes p e below s _ _ _ T7 (mkF m 26 #[.val (.ref bt), .val (.long (400000000 : Int64)), .second, .val (.int (3 : Int32))] [(.long (2 : Int64)), (.long (400000000 : Int64))])
  refine own_lmul X7 hx 27 rfl (z := (800000000 : Int64)) (hb hby own_d8_26) (by decide) ?_
  refine own_lstoreN X7 hx 28 rfl #[.val (.ref bt), .val (.long (800000000 : Int64)), .second, .val (.int (3 : Int32))] (hb hby own_d8_27) rfl ?_
  refine own_iinc X7 hx 31 rfl #[.val (.ref bt), .val (.long (800000000 : Int64)), .second, .val (.int (4 : Int32))] (hb hby own_d8_28) rfl (by decide) rfl ?_
  refine own_goto X7 hx 6 (hb hby own_d8_31) (by decide) (by decide) ?_
  refine own_iloadN X7 hx 7 rfl (hb hby own_d8_6) rfl ?_
  refine own_aloadN X7 hx 8 rfl (hb hby own_d8_7) rfl rfl ?_
  obtain ⟨T8, X8, e8, st8⟩ := getF X7 hx hZ hown (host := "") (Or.inl (hw _ (List.mem_of_getElem? (i := 23) rfl))) Via.refl e7 Ff (g := (mkF m 8 #[.val (.ref bt), .val (.long (800000000 : Int64)), .second, .val (.int (4 : Int32))] [(.ref bt), (.int (4 : Int32))])) rfl rfl (hb hby own_d8_8)
  refine Goes.go st8 ?_
  show Goes p e below s _ _ _ T8 (mkF m 11 #[.val (.ref bt), .val (.long (800000000 : Int64)), .second, .val (.int (4 : Int32))] [(.int (6 : Int32)), (.int (4 : Int32))])
  refine own_icmpN X8 hx 14 (hb hby own_d8_11) (tlt ((by decide) : (4 : Int32) < (6 : Int32))).2.1 rfl ?_
  refine own_lloadN X8 hx 15 rfl (hb hby own_d8_14) rfl ?_
  obtain ⟨T9, X9, e9, st9⟩ := getS2 X8 hx hZ hown (host := "") (Or.inl (hw _ (List.mem_of_getElem? (i := 47) rfl))) Via.refl e8 Sl (g := (mkF m 15 #[.val (.ref bt), .val (.long (800000000 : Int64)), .second, .val (.int (4 : Int32))] [(.long (800000000 : Int64))])) rfl (hb hby own_d8_15)
  refine Goes.go st9 ?_
  show Goes p e below s _ _ _ T9 (mkF m 18 #[.val (.ref bt), .val (.long (800000000 : Int64)), .second, .val (.int (4 : Int32))] [(.long (1000000000 : Int64)), (.long (800000000 : Int64))])
  refine own_lcmp X9 hx 19 rfl (hb hby own_d8_18) ?_
  refine own_ifN X9 hx 22 (hb hby own_d8_19) (Ltlt ((by decide) : (800000000 : Int64) < (1000000000 : Int64))).2.1 rfl ?_
  refine own_lloadN X9 hx 23 rfl (hb hby own_d8_22) rfl ?_
  refine Goes.go (X9.ldc2Long hx hown (mvT hZ (hw _ (List.mem_of_getElem? (i := 53) rfl))) (g := (mkF m 23 #[.val (.ref bt), .val (.long (800000000 : Int64)), .second, .val (.int (4 : Int32))] [(.long (800000000 : Int64))])) rfl (hb hby own_d8_23)) ?_
  show Goes p e below s _ _ _ T9 (mkF m 26 #[.val (.ref bt), .val (.long (800000000 : Int64)), .second, .val (.int (4 : Int32))] [(.long (2 : Int64)), (.long (800000000 : Int64))])
  refine own_lmul X9 hx 27 rfl (z := (1600000000 : Int64)) (hb hby own_d8_26) (by decide) ?_
  refine own_lstoreN X9 hx 28 rfl #[.val (.ref bt), .val (.long (1600000000 : Int64)), .second, .val (.int (4 : Int32))] (hb hby own_d8_27) rfl ?_
  refine own_iinc X9 hx 31 rfl #[.val (.ref bt), .val (.long (1600000000 : Int64)), .second, .val (.int (5 : Int32))] (hb hby own_d8_28) rfl (by decide) rfl ?_
  refine own_goto X9 hx 6 (hb hby own_d8_31) (by decide) (by decide) ?_
  refine own_iloadN X9 hx 7 rfl (hb hby own_d8_6) rfl ?_
  refine own_aloadN X9 hx 8 rfl (hb hby own_d8_7) rfl rfl ?_
  obtain ⟨T10, X10, e10, st10⟩ := getF X9 hx hZ hown (host := "") (Or.inl (hw _ (List.mem_of_getElem? (i := 23) rfl))) Via.refl e9 Ff (g := (mkF m 8 #[.val (.ref bt), .val (.long (1600000000 : Int64)), .second, .val (.int (5 : Int32))] [(.ref bt), (.int (5 : Int32))])) rfl rfl (hb hby own_d8_8)
  refine Goes.go st10 ?_
  show Goes p e below s _ _ _ T10 (mkF m 11 #[.val (.ref bt), .val (.long (1600000000 : Int64)), .second, .val (.int (5 : Int32))] [(.int (6 : Int32)), (.int (5 : Int32))])
  refine own_icmpN X10 hx 14 (hb hby own_d8_11) (tlt ((by decide) : (5 : Int32) < (6 : Int32))).2.1 rfl ?_
  refine own_lloadN X10 hx 15 rfl (hb hby own_d8_14) rfl ?_
  obtain ⟨T11, X11, e11, st11⟩ := getS2 X10 hx hZ hown (host := "") (Or.inl (hw _ (List.mem_of_getElem? (i := 47) rfl))) Via.refl e10 Sl (g := (mkF m 15 #[.val (.ref bt), .val (.long (1600000000 : Int64)), .second, .val (.int (5 : Int32))] [(.long (1600000000 : Int64))])) rfl (hb hby own_d8_15)
  refine Goes.go st11 ?_
  show Goes p e below s _ _ _ T11 (mkF m 18 #[.val (.ref bt), .val (.long (1600000000 : Int64)), .second, .val (.int (5 : Int32))] [(.long (1000000000 : Int64)), (.long (1600000000 : Int64))])
  refine own_lcmp X11 hx 19 rfl (hb hby own_d8_18) ?_
  refine own_ifY X11 hx 34 (hb hby own_d8_19) (Lflt ((by decide) : ¬ ((1600000000 : Int64) < (1000000000 : Int64)))).2.1 (by decide) (by decide) ?_
  refine own_lloadN X11 hx 35 rfl (hb hby own_d8_34) rfl ?_
  obtain ⟨T12, X12, e12, st12⟩ := getS2 X11 hx hZ hown (host := "") (Or.inl (hw _ (List.mem_of_getElem? (i := 47) rfl))) Via.refl e11 Sl (g := (mkF m 35 #[.val (.ref bt), .val (.long (1600000000 : Int64)), .second, .val (.int (5 : Int32))] [(.long (1600000000 : Int64))])) rfl (hb hby own_d8_35)
  refine Goes.go st12 ?_
  show Goes p e below s _ _ _ T12 (mkF m 38 #[.val (.ref bt), .val (.long (1600000000 : Int64)), .second, .val (.int (5 : Int32))] [(.long (1000000000 : Int64)), (.long (1600000000 : Int64))])
  obtain ⟨_, _, ⟨T13, L13, k13, n13⟩, -, X13, ⟨Lc13, hQ13, l13, y13, z13⟩, st13⟩ := Jvm.LawKit.callS X12 hx (y := (⟨"java/lang/Math", "min", "(JJ)J"⟩ : MethodName)) hown (mvT hZ (hw _ (List.mem_of_getElem? (i := 49) rfl))) (mvT hZ (hw _ (List.mem_of_getElem? (i := 50) rfl))) (mvT hZ (hw _ (List.mem_of_getElem? (i := 34) rfl))) (mvT hZ (hw _ (List.mem_of_getElem? (i := 51) rfl))) (by decide) (backOf (W := 0) (rmmi1600000000 l Z a0 hw []  h0 n0 Z0 ) hZ (hw _ (List.mem_of_getElem? (i := 51) rfl)) (hw _ (List.mem_of_getElem? (i := 34) rfl)) (by decide) (by decide)) (g := (mkF m 38 #[.val (.ref bt), .val (.long (1600000000 : Int64)), .second, .val (.int (5 : Int32))] [(.long (1000000000 : Int64)), (.long (1600000000 : Int64))])) rfl (by rw [hml]; rfl) (argsL := [(.long (1600000000 : Int64)), (.long (1000000000 : Int64))]) (rest := []) (lenOf own_pd1 rfl) rfl (by show 2 * 0 + _ ≤ _; exact Nat.le_of_eq rfl) (hb hby own_d8_38) (fun _ _ => ⟨rfl, e12, (by decide : 0 + 0 ≤ _), (by decide : 0 + 0 ≤ _)⟩)
  dsimp only [Pt.U, Pt.locs, Pt.cells, Pt.slots] at X13 l13 y13 z13 st13 hQ13
  subst l13 y13 z13
  obtain ⟨rfl, N13q, eh13⟩ := hQ13
  have N13 := Fr.app N0 N13q
  refine Goes.go st13 ?_
  show Goes p e below s _ _ _ T13 (mkF m 41 #[.val (.ref bt), .val (.long (1600000000 : Int64)), .second, .val (.int (5 : Int32))] [(.long (1000000000 : Int64))])
  refine own_retJ X13 hx hlk Bd.returns (hb hby own_d8_41) (by decide) (by decide) eh13 ?_
  exact ⟨rfl, N13, rfl⟩
def Qde6 (Z : State) (bt : Addr) (bn : Int64) (be : Int64) (h0 : Heap) (n0 : Nat) (v : Option Value) (h : Heap) (L : List Loc) : Prop := ∃ br : Int64, v = some (.long br) ∧ Fr n0 L ∧ h = h0 ∧ ((br = ((be + (1000000000 : Int64)) - bn) ∧ (0 : Int64) < ((be + (1000000000 : Int64)) - bn)) ∨ (br = (0 : Int64) ∧ ¬ (0 : Int64) < ((be + (1000000000 : Int64)) - bn)))
set_option maxRecDepth 65536 in
set_option maxHeartbeats 40000000 in
theorem rmde6 (l : Launch) (Z : State) (a0 : Array Value) (hw : ∀ d ∈ tables_1, d.before a0 Z = true) (ws : List Jvm.Cond) (bt : Addr) (bn : Int64) (be : Int64) (h0 : Heap) (n0 : Nat) (Z0 : n0 ≤ h0.size) (EB : Exa Z h0 bt "com/example/pooler/pooler/pool/Backoff") (Ss : Sta Z h0 "com/example/pooler/pooler/pool/Backoff" "SHORTEST" "J" (.long (100000000 : Int64))) (Sl : Sta Z h0 "com/example/pooler/pooler/pool/Backoff" "LONGEST" "J" (.long (1000000000 : Int64))) (Ft : Fld Z h0 bt "com/example/pooler/pooler/pool/Backoff" "tried" "Z" (.int (1 : Int32))) (Fe : Fld Z h0 bt "com/example/pooler/pooler/pool/Backoff" "endedAt" "J" (.long be)) (Ff : Fld Z h0 bt "com/example/pooler/pooler/pool/Backoff" "failuresInARow" "I" (.int (6 : Int32))) :
    MetFree l (⟨"com/example/pooler/pooler/pool/Backoff", "delay", "(J)J"⟩ : MethodName) (head1 (Jvm.Cond.code (⟨"com/example/pooler/pooler/pool/Backoff", "delay", "(J)J"⟩ : MethodName) prog_23_method_2_code 5 (some .long) :: ws) ({ frames := 2, cells := 0, slots := 0, locals := 34 } : Room)) (fun a U => a = #[(.ref bt), (.long bn)] ∧ Z.Warmed39 U.vm ∧ U.heap = h0) (fun _ _ _ _ _ => True) (fun _ U o U' => ∃ v L, o = .returned v ∧ Qde6 Z bt bn be h0 n0 v U'.heap L ∧ FrameEnd U o U' L ({ frames := 2, cells := 0, slots := 0, locals := 34 } : Room).cells ({ frames := 2, cells := 0, slots := 0, locals := 34 } : Room).slots) := by
  refine MetFree.of_bodySF (plainFor_of_name own_pn_com_example_pooler_pooler_pool_Backoff) hisR ?_
  intro p e s m args below meth c s₁ Bd hml0 hP hK
  obtain ⟨rfl, hZ, hh⟩ := hP
  have hx := Bd.exec
  have hby := Bd.bytes
  have hml : c.maxLocals = 5 := hml0
  have hlk := Bd.notSynchronized
  have hown : s.vm.findClass "com/example/pooler/pooler/pool/Backoff" = some m.cls := findClass_of_methodNamed Bd.named
  have hnm := (name_of_methodNamed Bd.named Bd.method).1
  have X0 : Stand p l e ({ frames := 2, cells := 0, slots := 0, locals := 34 } : Room) s m #[(.ref bt), (.long bn)] below meth c s₁ [] 0 0 := Stand.of_body Bd
  have e0 : s₁.heap = h0 := by rw [← hh, Bd.state]; rfl
  have N0 := Fr.nil n0
  refine own_enter (Q := Qde6 Z bt bn be h0 n0) (Ls := #[.val (.ref bt), .val (.long bn), .second, .unset, .unset]) (by first | rfl | (simp [entryFrame, mkF, argsToLocals, Value.category]; done)) ?_
  refine own_lconst X0 hx 1 rfl (0 : Int64) (hb hby own_d7_0) (by decide) ?_
  refine own_lstoreN X0 hx 2 rfl #[.val (.ref bt), .val (.long bn), .second, .val (.long (0 : Int64)), .second] (hb hby own_d7_1) rfl ?_
  refine own_aloadN X0 hx 3 rfl (hb hby own_d7_2) rfl rfl ?_
  obtain ⟨T1, X1, e1, st1⟩ := getF X0 hx hZ hown (host := "") (Or.inl (hw _ (List.mem_of_getElem? (i := 19) rfl))) Via.refl e0 Ft (g := (mkF m 3 #[.val (.ref bt), .val (.long bn), .second, .val (.long (0 : Int64)), .second] [(.ref bt)])) rfl rfl (hb hby own_d7_3)
  refine Goes.go st1 ?_
  show Goes p e below s _ _ _ T1 (mkF m 6 #[.val (.ref bt), .val (.long bn), .second, .val (.long (0 : Int64)), .second] [(.int (1 : Int32))])
  refine own_ifN X1 hx 9 (hb hby own_d7_6) ((if0 _ _).trans (feq ((by decide) : ¬ ((1 : Int32) = (0 : Int32)))).1) rfl ?_
  refine own_lconst X1 hx 10 rfl (0 : Int64) (hb hby own_d7_9) (by decide) ?_
  refine own_aloadN X1 hx 11 rfl (hb hby own_d7_10) rfl rfl ?_
  obtain ⟨T2, X2, e2, st2⟩ := getF X1 hx hZ hown (host := "") (Or.inl (hw _ (List.mem_of_getElem? (i := 21) rfl))) Via.refl e1 Fe (g := (mkF m 11 #[.val (.ref bt), .val (.long bn), .second, .val (.long (0 : Int64)), .second] [(.ref bt), (.long (0 : Int64))])) rfl rfl (hb hby own_d7_11)
  refine Goes.go st2 ?_
  show Goes p e below s _ _ _ T2 (mkF m 14 #[.val (.ref bt), .val (.long bn), .second, .val (.long (0 : Int64)), .second] [(.long be), (.long (0 : Int64))])
  refine own_aloadN X2 hx 15 rfl (hb hby own_d7_14) rfl rfl ?_
  obtain ⟨cq3, q3, q3'⟩ := EB.cell
  obtain ⟨_, _, ⟨T3, L3, k3, n3⟩, -, X3, ⟨Lc3, hQ3, l3, y3, z3⟩, st3⟩ := X2.privateBack hx (y := (⟨"com/example/pooler/pooler/pool/Backoff", "pause", "()J"⟩ : MethodName)) hown (mvT hZ (hw _ (List.mem_of_getElem? (i := 41) rfl))) (mvT hZ (hw _ (List.mem_of_getElem? (i := 42) rfl))) (own_selP (mvT hZ (hw _ (List.mem_of_getElem? (i := 2) rfl))) (mvP hZ (hw _ (List.mem_of_getElem? (i := 43) rfl))) (mvT hZ (hw _ (List.mem_of_getElem? (i := 42) rfl))) (by decide)) (Cond.privateMethod_at (mvP hZ (hw _ (List.mem_of_getElem? (i := 43) rfl)) (args := #[]))) (mvT hZ (hw _ (List.mem_of_getElem? (i := 44) rfl))) (by decide) (backOf (W := 4) (rmpa6 l Z a0 hw [] bt h0 n0 Z0 Ss Sl Ff) hZ (hw _ (List.mem_of_getElem? (i := 44) rfl)) (hw _ (List.mem_of_getElem? (i := 3) rfl)) (by decide) (by decide)) (g := (mkF m 15 #[.val (.ref bt), .val (.long bn), .second, .val (.long (0 : Int64)), .second] [(.ref bt), (.long be), (.long (0 : Int64))])) rfl (by rw [hml]; rfl) (Steps.refl _) (a := bt) (by rw [e2]; exact q3) q3' (argsL := []) (rest := [(.long be), (.long (0 : Int64))]) (lenOf own_pd2 rfl) rfl (by show 2 * 0 + _ ≤ _; exact Nat.le_of_eq rfl) (hb hby own_d7_15) (fun _ _ => ⟨rfl, e2, (by decide : 0 + 0 ≤ _), (by decide : 0 + 0 ≤ _)⟩)
  dsimp only [Pt.U, Pt.locs, Pt.cells, Pt.slots] at X3 l3 y3 z3 st3 hQ3
  subst l3 y3 z3
  obtain ⟨rfl, N3q, eh3⟩ := hQ3
  have N3 := Fr.app N0 N3q
  refine Goes.tr st3 ?_
  show Goes p e below s _ _ _ T3 (mkF m 18 #[.val (.ref bt), .val (.long bn), .second, .val (.long (0 : Int64)), .second] [(.long (1000000000 : Int64)), (.long be), (.long (0 : Int64))])
  refine own_ladd X3 hx 19 rfl (hb hby own_d7_18) rfl ?_
  refine own_lloadN X3 hx 20 rfl (hb hby own_d7_19) rfl ?_
  refine own_lsub X3 hx 21 rfl (hb hby own_d7_20) rfl ?_
  obtain ⟨_, _, ⟨T4, L4, k4, n4⟩, -, X4, ⟨Lc4, hQ4, l4, y4, z4⟩, st4⟩ := Jvm.LawKit.callS X3 hx (y := (⟨"java/lang/Math", "max", "(JJ)J"⟩ : MethodName)) hown (mvT hZ (hw _ (List.mem_of_getElem? (i := 52) rfl))) (mvT hZ (hw _ (List.mem_of_getElem? (i := 33) rfl))) (mvT hZ (hw _ (List.mem_of_getElem? (i := 34) rfl))) (mvT hZ (hw _ (List.mem_of_getElem? (i := 35) rfl))) (by decide) (backOf (W := 0) (rm6 l Z a0 hw [] (0 : Int64) ((be + (1000000000 : Int64)) - bn) h0 n0 Z0 ) hZ (hw _ (List.mem_of_getElem? (i := 35) rfl)) (hw _ (List.mem_of_getElem? (i := 34) rfl)) (by decide) (by decide)) (g := (mkF m 21 #[.val (.ref bt), .val (.long bn), .second, .val (.long (0 : Int64)), .second] [(.long ((be + (1000000000 : Int64)) - bn)), (.long (0 : Int64))])) rfl (by rw [hml]; rfl) (argsL := [(.long (0 : Int64)), (.long ((be + (1000000000 : Int64)) - bn))]) (rest := []) (lenOf own_pd1 rfl) rfl (by show 2 * 0 + _ ≤ _; exact Nat.le_of_eq rfl) (hb hby own_d7_21) (fun _ _ => ⟨rfl, eh3, (by decide : 0 + 0 ≤ _), (by decide : 0 + 0 ≤ _)⟩)
  dsimp only [Pt.U, Pt.locs, Pt.cells, Pt.slots] at X4 l4 y4 z4 st4 hQ4
  subst l4 y4 z4
  obtain ⟨mr_4, rfl, N4q, eh4, pr4_0⟩ := hQ4
  have N4 := Fr.app N3 N4q
  refine Goes.go st4 ?_
  show Goes p e below s _ _ _ T4 (mkF m 24 #[.val (.ref bt), .val (.long bn), .second, .val (.long (0 : Int64)), .second] [(.long mr_4)])
  refine own_lstoreN X4 hx 25 rfl #[.val (.ref bt), .val (.long bn), .second, .val (.long mr_4), .second] (hb hby own_d7_24) rfl ?_
  refine own_lloadN X4 hx 26 rfl (hb hby own_d7_25) rfl ?_
  refine own_retJ X4 hx hlk Bd.returns (hb hby own_d7_26) (by decide) (by decide) eh4 ?_
  exact ⟨mr_4, rfl, N4, rfl, pr4_0⟩
theorem own_d5_0 : decode method_2_code 0 = .ok (.ldc2_w 7, 3) := by decide +kernel
theorem own_d5_3 : decode method_2_code 3 = .ok (.lstore_n 1, 1) := by decide +kernel
theorem own_d5_4 : decode method_2_code 4 = .ok (.iload_n 0, 1) := by decide +kernel
theorem own_d5_5 : decode method_2_code 5 = .ok (.iconst 1, 1) := by decide +kernel
theorem own_d5_6 : decode method_2_code 6 = .ok (.if_icmp .gt 10, 3) := by decide +kernel
theorem own_d5_9 : decode method_2_code 9 = .ok (.ldc2_w 9, 3) := by decide +kernel
theorem own_d5_12 : decode method_2_code 12 = .ok (.lstore_n 1, 1) := by decide +kernel
theorem own_d5_13 : decode method_2_code 13 = .ok (.goto 36, 3) := by decide +kernel
theorem own_d5_49 : decode method_2_code 49 = .ok (.lload_n 1, 1) := by decide +kernel
theorem own_d5_50 : decode method_2_code 50 = .ok (.ldc2_w 17, 3) := by decide +kernel
theorem own_d5_53 : decode method_2_code 53 = .ok (.lmul, 1) := by decide +kernel
theorem own_d5_54 : decode method_2_code 54 = .ok (.lreturn, 1) := by decide +kernel
theorem own_pn_com_example_pooler_pooler_pool_BackoffFailedPinLaw : plainName "com/example/pooler/pooler/pool/BackoffFailedPinLaw" = true := by first | (simp [plainName, overriddenIn]; done) | decide +kernel
def Qep1 (Z : State)  (h0 : Heap) (n0 : Nat) (v : Option Value) (h : Heap) (L : List Loc) : Prop := v = some (.long (100000000 : Int64)) ∧ Fr n0 L ∧ h = h0
set_option maxRecDepth 65536 in
set_option maxHeartbeats 40000000 in
theorem rmep1 (l : Launch) (Z : State) (a0 : Array Value) (hw : ∀ d ∈ tables_1, d.before a0 Z = true) (ws : List Jvm.Cond)  (h0 : Heap) (n0 : Nat) (Z0 : n0 ≤ h0.size)  :
    MetFree l (⟨"com/example/pooler/pooler/pool/BackoffFailedPinLaw", "expectedPause", "(I)J"⟩ : MethodName) (head1 (Jvm.Cond.code (⟨"com/example/pooler/pooler/pool/BackoffFailedPinLaw", "expectedPause", "(I)J"⟩ : MethodName) method_2_code 3 (some .long) :: ws) ({ frames := 0, cells := 0, slots := 0, locals := 0 } : Room)) (fun a U => a = #[(.int (1 : Int32))] ∧ Z.Warmed39 U.vm ∧ U.heap = h0) (fun _ _ _ _ _ => True) (fun _ U o U' => ∃ v L, o = .returned v ∧ Qep1 Z  h0 n0 v U'.heap L ∧ FrameEnd U o U' L ({ frames := 0, cells := 0, slots := 0, locals := 0 } : Room).cells ({ frames := 0, cells := 0, slots := 0, locals := 0 } : Room).slots) := by
  refine MetFree.of_bodySF (plainFor_of_name own_pn_com_example_pooler_pooler_pool_BackoffFailedPinLaw) hisR ?_
  intro p e s m args below meth c s₁ Bd hml0 hP hK
  obtain ⟨rfl, hZ, hh⟩ := hP
  have hx := Bd.exec
  have hby := Bd.bytes
  have hml : c.maxLocals = 3 := hml0
  have hlk := Bd.notSynchronized
  have hown : s.vm.findClass "com/example/pooler/pooler/pool/BackoffFailedPinLaw" = some m.cls := findClass_of_methodNamed Bd.named
  have hnm := (name_of_methodNamed Bd.named Bd.method).1
  have X0 : Stand p l e ({ frames := 0, cells := 0, slots := 0, locals := 0 } : Room) s m #[(.int (1 : Int32))] below meth c s₁ [] 0 0 := Stand.of_body Bd
  have e0 : s₁.heap = h0 := by rw [← hh, Bd.state]; rfl
  have N0 := Fr.nil n0
  refine own_enter (Q := Qep1 Z  h0 n0) (Ls := #[.val (.int (1 : Int32)), .unset, .unset]) (by first | rfl | (simp [entryFrame, mkF, argsToLocals, Value.category]; done)) ?_
  refine Goes.go (X0.ldc2Long hx hown (mvT hZ (hw _ (List.mem_of_getElem? (i := 29) rfl))) (g := (mkF m 0 #[.val (.int (1 : Int32)), .unset, .unset] [])) rfl (hb hby own_d5_0)) ?_
  show Goes p e below s _ _ _ s₁ (mkF m 3 #[.val (.int (1 : Int32)), .unset, .unset] [(.long (1000 : Int64))])
  refine own_lstoreN X0 hx 4 rfl #[.val (.int (1 : Int32)), .val (.long (1000 : Int64)), .second] (hb hby own_d5_3) rfl ?_
  refine own_iloadN X0 hx 5 rfl (hb hby own_d5_4) rfl ?_
  refine own_iconst X0 hx 6 rfl (1 : Int32) (hb hby own_d5_5) (by decide) ?_
  refine own_icmpN X0 hx 9 (hb hby own_d5_6) (flt ((by decide) : ¬ ((1 : Int32) < (1 : Int32)))).2.2.1 rfl ?_
  refine Goes.go (X0.ldc2Long hx hown (mvT hZ (hw _ (List.mem_of_getElem? (i := 30) rfl))) (g := (mkF m 9 #[.val (.int (1 : Int32)), .val (.long (1000 : Int64)), .second] [])) rfl (hb hby own_d5_9)) ?_
  show Goes p e below s _ _ _ s₁ (mkF m 12 #[.val (.int (1 : Int32)), .val (.long (1000 : Int64)), .second] [(.long (100 : Int64))])
  refine own_lstoreN X0 hx 13 rfl #[.val (.int (1 : Int32)), .val (.long (100 : Int64)), .second] (hb hby own_d5_12) rfl ?_
  refine own_goto X0 hx 49 (hb hby own_d5_13) (by decide) (by decide) ?_
  refine own_lloadN X0 hx 50 rfl (hb hby own_d5_49) rfl ?_
  refine Goes.go (X0.ldc2Long hx hown (mvT hZ (hw _ (List.mem_of_getElem? (i := 31) rfl))) (g := (mkF m 50 #[.val (.int (1 : Int32)), .val (.long (100 : Int64)), .second] [(.long (100 : Int64))])) rfl (hb hby own_d5_50)) ?_
  show Goes p e below s _ _ _ s₁ (mkF m 53 #[.val (.int (1 : Int32)), .val (.long (100 : Int64)), .second] [(.long (1000000 : Int64)), (.long (100 : Int64))])
  refine own_lmul X0 hx 54 rfl (z := (100000000 : Int64)) (hb hby own_d5_53) (by decide) ?_
  refine own_retJ X0 hx hlk Bd.returns (hb hby own_d5_54) (by decide) (by decide) e0 ?_
  exact ⟨rfl, N0, rfl⟩
theorem own_d5_16 : decode method_2_code 16 = .ok (.iload_n 0, 1) := by decide +kernel
theorem own_d5_17 : decode method_2_code 17 = .ok (.iconst 2, 1) := by decide +kernel
theorem own_d5_18 : decode method_2_code 18 = .ok (.if_icmp .ne 10, 3) := by decide +kernel
theorem own_d5_21 : decode method_2_code 21 = .ok (.ldc2_w 11, 3) := by decide +kernel
theorem own_d5_24 : decode method_2_code 24 = .ok (.lstore_n 1, 1) := by decide +kernel
theorem own_d5_25 : decode method_2_code 25 = .ok (.goto 24, 3) := by decide +kernel
def Qep2 (Z : State)  (h0 : Heap) (n0 : Nat) (v : Option Value) (h : Heap) (L : List Loc) : Prop := v = some (.long (200000000 : Int64)) ∧ Fr n0 L ∧ h = h0
set_option maxRecDepth 65536 in
set_option maxHeartbeats 40000000 in
theorem rmep2 (l : Launch) (Z : State) (a0 : Array Value) (hw : ∀ d ∈ tables_1, d.before a0 Z = true) (ws : List Jvm.Cond)  (h0 : Heap) (n0 : Nat) (Z0 : n0 ≤ h0.size)  :
    MetFree l (⟨"com/example/pooler/pooler/pool/BackoffFailedPinLaw", "expectedPause", "(I)J"⟩ : MethodName) (head1 (Jvm.Cond.code (⟨"com/example/pooler/pooler/pool/BackoffFailedPinLaw", "expectedPause", "(I)J"⟩ : MethodName) method_2_code 3 (some .long) :: ws) ({ frames := 0, cells := 0, slots := 0, locals := 0 } : Room)) (fun a U => a = #[(.int (2 : Int32))] ∧ Z.Warmed39 U.vm ∧ U.heap = h0) (fun _ _ _ _ _ => True) (fun _ U o U' => ∃ v L, o = .returned v ∧ Qep2 Z  h0 n0 v U'.heap L ∧ FrameEnd U o U' L ({ frames := 0, cells := 0, slots := 0, locals := 0 } : Room).cells ({ frames := 0, cells := 0, slots := 0, locals := 0 } : Room).slots) := by
  refine MetFree.of_bodySF (plainFor_of_name own_pn_com_example_pooler_pooler_pool_BackoffFailedPinLaw) hisR ?_
  intro p e s m args below meth c s₁ Bd hml0 hP hK
  obtain ⟨rfl, hZ, hh⟩ := hP
  have hx := Bd.exec
  have hby := Bd.bytes
  have hml : c.maxLocals = 3 := hml0
  have hlk := Bd.notSynchronized
  have hown : s.vm.findClass "com/example/pooler/pooler/pool/BackoffFailedPinLaw" = some m.cls := findClass_of_methodNamed Bd.named
  have hnm := (name_of_methodNamed Bd.named Bd.method).1
  have X0 : Stand p l e ({ frames := 0, cells := 0, slots := 0, locals := 0 } : Room) s m #[(.int (2 : Int32))] below meth c s₁ [] 0 0 := Stand.of_body Bd
  have e0 : s₁.heap = h0 := by rw [← hh, Bd.state]; rfl
  have N0 := Fr.nil n0
  refine own_enter (Q := Qep2 Z  h0 n0) (Ls := #[.val (.int (2 : Int32)), .unset, .unset]) (by first | rfl | (simp [entryFrame, mkF, argsToLocals, Value.category]; done)) ?_
  refine Goes.go (X0.ldc2Long hx hown (mvT hZ (hw _ (List.mem_of_getElem? (i := 29) rfl))) (g := (mkF m 0 #[.val (.int (2 : Int32)), .unset, .unset] [])) rfl (hb hby own_d5_0)) ?_
  show Goes p e below s _ _ _ s₁ (mkF m 3 #[.val (.int (2 : Int32)), .unset, .unset] [(.long (1000 : Int64))])
  refine own_lstoreN X0 hx 4 rfl #[.val (.int (2 : Int32)), .val (.long (1000 : Int64)), .second] (hb hby own_d5_3) rfl ?_
  refine own_iloadN X0 hx 5 rfl (hb hby own_d5_4) rfl ?_
  refine own_iconst X0 hx 6 rfl (1 : Int32) (hb hby own_d5_5) (by decide) ?_
  refine own_icmpY X0 hx 16 (hb hby own_d5_6) (tlt ((by decide) : (1 : Int32) < (2 : Int32))).2.2.1 (by decide) (by decide) ?_
  refine own_iloadN X0 hx 17 rfl (hb hby own_d5_16) rfl ?_
  refine own_iconst X0 hx 18 rfl (2 : Int32) (hb hby own_d5_17) (by decide) ?_
  refine own_icmpN X0 hx 21 (hb hby own_d5_18) (teq ((by decide) : (2 : Int32) = (2 : Int32))).2 rfl ?_
  refine Goes.go (X0.ldc2Long hx hown (mvT hZ (hw _ (List.mem_of_getElem? (i := 54) rfl))) (g := (mkF m 21 #[.val (.int (2 : Int32)), .val (.long (1000 : Int64)), .second] [])) rfl (hb hby own_d5_21)) ?_
  show Goes p e below s _ _ _ s₁ (mkF m 24 #[.val (.int (2 : Int32)), .val (.long (1000 : Int64)), .second] [(.long (200 : Int64))])
  refine own_lstoreN X0 hx 25 rfl #[.val (.int (2 : Int32)), .val (.long (200 : Int64)), .second] (hb hby own_d5_24) rfl ?_
  refine own_goto X0 hx 49 (hb hby own_d5_25) (by decide) (by decide) ?_
  refine own_lloadN X0 hx 50 rfl (hb hby own_d5_49) rfl ?_
  refine Goes.go (X0.ldc2Long hx hown (mvT hZ (hw _ (List.mem_of_getElem? (i := 31) rfl))) (g := (mkF m 50 #[.val (.int (2 : Int32)), .val (.long (200 : Int64)), .second] [(.long (200 : Int64))])) rfl (hb hby own_d5_50)) ?_
  show Goes p e below s _ _ _ s₁ (mkF m 53 #[.val (.int (2 : Int32)), .val (.long (200 : Int64)), .second] [(.long (1000000 : Int64)), (.long (200 : Int64))])
  refine own_lmul X0 hx 54 rfl (z := (200000000 : Int64)) (hb hby own_d5_53) (by decide) ?_
  refine own_retJ X0 hx hlk Bd.returns (hb hby own_d5_54) (by decide) (by decide) e0 ?_
  exact ⟨rfl, N0, rfl⟩
theorem own_d5_28 : decode method_2_code 28 = .ok (.iload_n 0, 1) := by decide +kernel
theorem own_d5_29 : decode method_2_code 29 = .ok (.iconst 3, 1) := by decide +kernel
theorem own_d5_30 : decode method_2_code 30 = .ok (.if_icmp .ne 10, 3) := by decide +kernel
theorem own_d5_33 : decode method_2_code 33 = .ok (.ldc2_w 13, 3) := by decide +kernel
theorem own_d5_36 : decode method_2_code 36 = .ok (.lstore_n 1, 1) := by decide +kernel
theorem own_d5_37 : decode method_2_code 37 = .ok (.goto 12, 3) := by decide +kernel
def Qep3 (Z : State)  (h0 : Heap) (n0 : Nat) (v : Option Value) (h : Heap) (L : List Loc) : Prop := v = some (.long (400000000 : Int64)) ∧ Fr n0 L ∧ h = h0
set_option maxRecDepth 65536 in
set_option maxHeartbeats 40000000 in
theorem rmep3 (l : Launch) (Z : State) (a0 : Array Value) (hw : ∀ d ∈ tables_1, d.before a0 Z = true) (ws : List Jvm.Cond)  (h0 : Heap) (n0 : Nat) (Z0 : n0 ≤ h0.size)  :
    MetFree l (⟨"com/example/pooler/pooler/pool/BackoffFailedPinLaw", "expectedPause", "(I)J"⟩ : MethodName) (head1 (Jvm.Cond.code (⟨"com/example/pooler/pooler/pool/BackoffFailedPinLaw", "expectedPause", "(I)J"⟩ : MethodName) method_2_code 3 (some .long) :: ws) ({ frames := 0, cells := 0, slots := 0, locals := 0 } : Room)) (fun a U => a = #[(.int (3 : Int32))] ∧ Z.Warmed39 U.vm ∧ U.heap = h0) (fun _ _ _ _ _ => True) (fun _ U o U' => ∃ v L, o = .returned v ∧ Qep3 Z  h0 n0 v U'.heap L ∧ FrameEnd U o U' L ({ frames := 0, cells := 0, slots := 0, locals := 0 } : Room).cells ({ frames := 0, cells := 0, slots := 0, locals := 0 } : Room).slots) := by
  refine MetFree.of_bodySF (plainFor_of_name own_pn_com_example_pooler_pooler_pool_BackoffFailedPinLaw) hisR ?_
  intro p e s m args below meth c s₁ Bd hml0 hP hK
  obtain ⟨rfl, hZ, hh⟩ := hP
  have hx := Bd.exec
  have hby := Bd.bytes
  have hml : c.maxLocals = 3 := hml0
  have hlk := Bd.notSynchronized
  have hown : s.vm.findClass "com/example/pooler/pooler/pool/BackoffFailedPinLaw" = some m.cls := findClass_of_methodNamed Bd.named
  have hnm := (name_of_methodNamed Bd.named Bd.method).1
  have X0 : Stand p l e ({ frames := 0, cells := 0, slots := 0, locals := 0 } : Room) s m #[(.int (3 : Int32))] below meth c s₁ [] 0 0 := Stand.of_body Bd
  have e0 : s₁.heap = h0 := by rw [← hh, Bd.state]; rfl
  have N0 := Fr.nil n0
  refine own_enter (Q := Qep3 Z  h0 n0) (Ls := #[.val (.int (3 : Int32)), .unset, .unset]) (by first | rfl | (simp [entryFrame, mkF, argsToLocals, Value.category]; done)) ?_
  refine Goes.go (X0.ldc2Long hx hown (mvT hZ (hw _ (List.mem_of_getElem? (i := 29) rfl))) (g := (mkF m 0 #[.val (.int (3 : Int32)), .unset, .unset] [])) rfl (hb hby own_d5_0)) ?_
  show Goes p e below s _ _ _ s₁ (mkF m 3 #[.val (.int (3 : Int32)), .unset, .unset] [(.long (1000 : Int64))])
  refine own_lstoreN X0 hx 4 rfl #[.val (.int (3 : Int32)), .val (.long (1000 : Int64)), .second] (hb hby own_d5_3) rfl ?_
  refine own_iloadN X0 hx 5 rfl (hb hby own_d5_4) rfl ?_
  refine own_iconst X0 hx 6 rfl (1 : Int32) (hb hby own_d5_5) (by decide) ?_
  refine own_icmpY X0 hx 16 (hb hby own_d5_6) (tlt ((by decide) : (1 : Int32) < (3 : Int32))).2.2.1 (by decide) (by decide) ?_
  refine own_iloadN X0 hx 17 rfl (hb hby own_d5_16) rfl ?_
  refine own_iconst X0 hx 18 rfl (2 : Int32) (hb hby own_d5_17) (by decide) ?_
  refine own_icmpY X0 hx 28 (hb hby own_d5_18) (feq ((by decide) : ¬ ((3 : Int32) = (2 : Int32)))).2 (by decide) (by decide) ?_
  refine own_iloadN X0 hx 29 rfl (hb hby own_d5_28) rfl ?_
  refine own_iconst X0 hx 30 rfl (3 : Int32) (hb hby own_d5_29) (by decide) ?_
  refine own_icmpN X0 hx 33 (hb hby own_d5_30) (teq ((by decide) : (3 : Int32) = (3 : Int32))).2 rfl ?_
  refine Goes.go (X0.ldc2Long hx hown (mvT hZ (hw _ (List.mem_of_getElem? (i := 60) rfl))) (g := (mkF m 33 #[.val (.int (3 : Int32)), .val (.long (1000 : Int64)), .second] [])) rfl (hb hby own_d5_33)) ?_
  show Goes p e below s _ _ _ s₁ (mkF m 36 #[.val (.int (3 : Int32)), .val (.long (1000 : Int64)), .second] [(.long (400 : Int64))])
  refine own_lstoreN X0 hx 37 rfl #[.val (.int (3 : Int32)), .val (.long (400 : Int64)), .second] (hb hby own_d5_36) rfl ?_
  refine own_goto X0 hx 49 (hb hby own_d5_37) (by decide) (by decide) ?_
  refine own_lloadN X0 hx 50 rfl (hb hby own_d5_49) rfl ?_
  refine Goes.go (X0.ldc2Long hx hown (mvT hZ (hw _ (List.mem_of_getElem? (i := 31) rfl))) (g := (mkF m 50 #[.val (.int (3 : Int32)), .val (.long (400 : Int64)), .second] [(.long (400 : Int64))])) rfl (hb hby own_d5_50)) ?_
  show Goes p e below s _ _ _ s₁ (mkF m 53 #[.val (.int (3 : Int32)), .val (.long (400 : Int64)), .second] [(.long (1000000 : Int64)), (.long (400 : Int64))])
  refine own_lmul X0 hx 54 rfl (z := (400000000 : Int64)) (hb hby own_d5_53) (by decide) ?_
  refine own_retJ X0 hx hlk Bd.returns (hb hby own_d5_54) (by decide) (by decide) e0 ?_
  exact ⟨rfl, N0, rfl⟩
theorem own_d5_40 : decode method_2_code 40 = .ok (.iload_n 0, 1) := by decide +kernel
theorem own_d5_41 : decode method_2_code 41 = .ok (.iconst 4, 1) := by decide +kernel
theorem own_d5_42 : decode method_2_code 42 = .ok (.if_icmp .ne 7, 3) := by decide +kernel
theorem own_d5_45 : decode method_2_code 45 = .ok (.ldc2_w 15, 3) := by decide +kernel
theorem own_d5_48 : decode method_2_code 48 = .ok (.lstore_n 1, 1) := by decide +kernel
def Qep4 (Z : State)  (h0 : Heap) (n0 : Nat) (v : Option Value) (h : Heap) (L : List Loc) : Prop := v = some (.long (800000000 : Int64)) ∧ Fr n0 L ∧ h = h0
set_option maxRecDepth 65536 in
set_option maxHeartbeats 40000000 in
theorem rmep4 (l : Launch) (Z : State) (a0 : Array Value) (hw : ∀ d ∈ tables_1, d.before a0 Z = true) (ws : List Jvm.Cond)  (h0 : Heap) (n0 : Nat) (Z0 : n0 ≤ h0.size)  :
    MetFree l (⟨"com/example/pooler/pooler/pool/BackoffFailedPinLaw", "expectedPause", "(I)J"⟩ : MethodName) (head1 (Jvm.Cond.code (⟨"com/example/pooler/pooler/pool/BackoffFailedPinLaw", "expectedPause", "(I)J"⟩ : MethodName) method_2_code 3 (some .long) :: ws) ({ frames := 0, cells := 0, slots := 0, locals := 0 } : Room)) (fun a U => a = #[(.int (4 : Int32))] ∧ Z.Warmed39 U.vm ∧ U.heap = h0) (fun _ _ _ _ _ => True) (fun _ U o U' => ∃ v L, o = .returned v ∧ Qep4 Z  h0 n0 v U'.heap L ∧ FrameEnd U o U' L ({ frames := 0, cells := 0, slots := 0, locals := 0 } : Room).cells ({ frames := 0, cells := 0, slots := 0, locals := 0 } : Room).slots) := by
  refine MetFree.of_bodySF (plainFor_of_name own_pn_com_example_pooler_pooler_pool_BackoffFailedPinLaw) hisR ?_
  intro p e s m args below meth c s₁ Bd hml0 hP hK
  obtain ⟨rfl, hZ, hh⟩ := hP
  have hx := Bd.exec
  have hby := Bd.bytes
  have hml : c.maxLocals = 3 := hml0
  have hlk := Bd.notSynchronized
  have hown : s.vm.findClass "com/example/pooler/pooler/pool/BackoffFailedPinLaw" = some m.cls := findClass_of_methodNamed Bd.named
  have hnm := (name_of_methodNamed Bd.named Bd.method).1
  have X0 : Stand p l e ({ frames := 0, cells := 0, slots := 0, locals := 0 } : Room) s m #[(.int (4 : Int32))] below meth c s₁ [] 0 0 := Stand.of_body Bd
  have e0 : s₁.heap = h0 := by rw [← hh, Bd.state]; rfl
  have N0 := Fr.nil n0
  refine own_enter (Q := Qep4 Z  h0 n0) (Ls := #[.val (.int (4 : Int32)), .unset, .unset]) (by first | rfl | (simp [entryFrame, mkF, argsToLocals, Value.category]; done)) ?_
  refine Goes.go (X0.ldc2Long hx hown (mvT hZ (hw _ (List.mem_of_getElem? (i := 29) rfl))) (g := (mkF m 0 #[.val (.int (4 : Int32)), .unset, .unset] [])) rfl (hb hby own_d5_0)) ?_
  show Goes p e below s _ _ _ s₁ (mkF m 3 #[.val (.int (4 : Int32)), .unset, .unset] [(.long (1000 : Int64))])
  refine own_lstoreN X0 hx 4 rfl #[.val (.int (4 : Int32)), .val (.long (1000 : Int64)), .second] (hb hby own_d5_3) rfl ?_
  refine own_iloadN X0 hx 5 rfl (hb hby own_d5_4) rfl ?_
  refine own_iconst X0 hx 6 rfl (1 : Int32) (hb hby own_d5_5) (by decide) ?_
  refine own_icmpY X0 hx 16 (hb hby own_d5_6) (tlt ((by decide) : (1 : Int32) < (4 : Int32))).2.2.1 (by decide) (by decide) ?_
  refine own_iloadN X0 hx 17 rfl (hb hby own_d5_16) rfl ?_
  refine own_iconst X0 hx 18 rfl (2 : Int32) (hb hby own_d5_17) (by decide) ?_
  refine own_icmpY X0 hx 28 (hb hby own_d5_18) (feq ((by decide) : ¬ ((4 : Int32) = (2 : Int32)))).2 (by decide) (by decide) ?_
  refine own_iloadN X0 hx 29 rfl (hb hby own_d5_28) rfl ?_
  refine own_iconst X0 hx 30 rfl (3 : Int32) (hb hby own_d5_29) (by decide) ?_
  refine own_icmpY X0 hx 40 (hb hby own_d5_30) (feq ((by decide) : ¬ ((4 : Int32) = (3 : Int32)))).2 (by decide) (by decide) ?_
  refine own_iloadN X0 hx 41 rfl (hb hby own_d5_40) rfl ?_
  refine own_iconst X0 hx 42 rfl (4 : Int32) (hb hby own_d5_41) (by decide) ?_
  refine own_icmpN X0 hx 45 (hb hby own_d5_42) (teq ((by decide) : (4 : Int32) = (4 : Int32))).2 rfl ?_
  refine Goes.go (X0.ldc2Long hx hown (mvT hZ (hw _ (List.mem_of_getElem? (i := 61) rfl))) (g := (mkF m 45 #[.val (.int (4 : Int32)), .val (.long (1000 : Int64)), .second] [])) rfl (hb hby own_d5_45)) ?_
  show Goes p e below s _ _ _ s₁ (mkF m 48 #[.val (.int (4 : Int32)), .val (.long (1000 : Int64)), .second] [(.long (800 : Int64))])
  refine own_lstoreN X0 hx 49 rfl #[.val (.int (4 : Int32)), .val (.long (800 : Int64)), .second] (hb hby own_d5_48) rfl ?_
  refine own_lloadN X0 hx 50 rfl (hb hby own_d5_49) rfl ?_
  refine Goes.go (X0.ldc2Long hx hown (mvT hZ (hw _ (List.mem_of_getElem? (i := 31) rfl))) (g := (mkF m 50 #[.val (.int (4 : Int32)), .val (.long (800 : Int64)), .second] [(.long (800 : Int64))])) rfl (hb hby own_d5_50)) ?_
  show Goes p e below s _ _ _ s₁ (mkF m 53 #[.val (.int (4 : Int32)), .val (.long (800 : Int64)), .second] [(.long (1000000 : Int64)), (.long (800 : Int64))])
  refine own_lmul X0 hx 54 rfl (z := (800000000 : Int64)) (hb hby own_d5_53) (by decide) ?_
  refine own_retJ X0 hx hlk Bd.returns (hb hby own_d5_54) (by decide) (by decide) e0 ?_
  exact ⟨rfl, N0, rfl⟩
def Qep5 (Z : State)  (h0 : Heap) (n0 : Nat) (v : Option Value) (h : Heap) (L : List Loc) : Prop := v = some (.long (1000000000 : Int64)) ∧ Fr n0 L ∧ h = h0
set_option maxRecDepth 65536 in
set_option maxHeartbeats 40000000 in
theorem rmep5 (l : Launch) (Z : State) (a0 : Array Value) (hw : ∀ d ∈ tables_1, d.before a0 Z = true) (ws : List Jvm.Cond)  (h0 : Heap) (n0 : Nat) (Z0 : n0 ≤ h0.size)  :
    MetFree l (⟨"com/example/pooler/pooler/pool/BackoffFailedPinLaw", "expectedPause", "(I)J"⟩ : MethodName) (head1 (Jvm.Cond.code (⟨"com/example/pooler/pooler/pool/BackoffFailedPinLaw", "expectedPause", "(I)J"⟩ : MethodName) method_2_code 3 (some .long) :: ws) ({ frames := 0, cells := 0, slots := 0, locals := 0 } : Room)) (fun a U => a = #[(.int (5 : Int32))] ∧ Z.Warmed39 U.vm ∧ U.heap = h0) (fun _ _ _ _ _ => True) (fun _ U o U' => ∃ v L, o = .returned v ∧ Qep5 Z  h0 n0 v U'.heap L ∧ FrameEnd U o U' L ({ frames := 0, cells := 0, slots := 0, locals := 0 } : Room).cells ({ frames := 0, cells := 0, slots := 0, locals := 0 } : Room).slots) := by
  refine MetFree.of_bodySF (plainFor_of_name own_pn_com_example_pooler_pooler_pool_BackoffFailedPinLaw) hisR ?_
  intro p e s m args below meth c s₁ Bd hml0 hP hK
  obtain ⟨rfl, hZ, hh⟩ := hP
  have hx := Bd.exec
  have hby := Bd.bytes
  have hml : c.maxLocals = 3 := hml0
  have hlk := Bd.notSynchronized
  have hown : s.vm.findClass "com/example/pooler/pooler/pool/BackoffFailedPinLaw" = some m.cls := findClass_of_methodNamed Bd.named
  have hnm := (name_of_methodNamed Bd.named Bd.method).1
  have X0 : Stand p l e ({ frames := 0, cells := 0, slots := 0, locals := 0 } : Room) s m #[(.int (5 : Int32))] below meth c s₁ [] 0 0 := Stand.of_body Bd
  have e0 : s₁.heap = h0 := by rw [← hh, Bd.state]; rfl
  have N0 := Fr.nil n0
  refine own_enter (Q := Qep5 Z  h0 n0) (Ls := #[.val (.int (5 : Int32)), .unset, .unset]) (by first | rfl | (simp [entryFrame, mkF, argsToLocals, Value.category]; done)) ?_
  refine Goes.go (X0.ldc2Long hx hown (mvT hZ (hw _ (List.mem_of_getElem? (i := 29) rfl))) (g := (mkF m 0 #[.val (.int (5 : Int32)), .unset, .unset] [])) rfl (hb hby own_d5_0)) ?_
  show Goes p e below s _ _ _ s₁ (mkF m 3 #[.val (.int (5 : Int32)), .unset, .unset] [(.long (1000 : Int64))])
  refine own_lstoreN X0 hx 4 rfl #[.val (.int (5 : Int32)), .val (.long (1000 : Int64)), .second] (hb hby own_d5_3) rfl ?_
  refine own_iloadN X0 hx 5 rfl (hb hby own_d5_4) rfl ?_
  refine own_iconst X0 hx 6 rfl (1 : Int32) (hb hby own_d5_5) (by decide) ?_
  refine own_icmpY X0 hx 16 (hb hby own_d5_6) (tlt ((by decide) : (1 : Int32) < (5 : Int32))).2.2.1 (by decide) (by decide) ?_
  refine own_iloadN X0 hx 17 rfl (hb hby own_d5_16) rfl ?_
  refine own_iconst X0 hx 18 rfl (2 : Int32) (hb hby own_d5_17) (by decide) ?_
  refine own_icmpY X0 hx 28 (hb hby own_d5_18) (feq ((by decide) : ¬ ((5 : Int32) = (2 : Int32)))).2 (by decide) (by decide) ?_
  refine own_iloadN X0 hx 29 rfl (hb hby own_d5_28) rfl ?_
  refine own_iconst X0 hx 30 rfl (3 : Int32) (hb hby own_d5_29) (by decide) ?_
  refine own_icmpY X0 hx 40 (hb hby own_d5_30) (feq ((by decide) : ¬ ((5 : Int32) = (3 : Int32)))).2 (by decide) (by decide) ?_
  refine own_iloadN X0 hx 41 rfl (hb hby own_d5_40) rfl ?_
  refine own_iconst X0 hx 42 rfl (4 : Int32) (hb hby own_d5_41) (by decide) ?_
  refine own_icmpY X0 hx 49 (hb hby own_d5_42) (feq ((by decide) : ¬ ((5 : Int32) = (4 : Int32)))).2 (by decide) (by decide) ?_
  refine own_lloadN X0 hx 50 rfl (hb hby own_d5_49) rfl ?_
  refine Goes.go (X0.ldc2Long hx hown (mvT hZ (hw _ (List.mem_of_getElem? (i := 31) rfl))) (g := (mkF m 50 #[.val (.int (5 : Int32)), .val (.long (1000 : Int64)), .second] [(.long (1000 : Int64))])) rfl (hb hby own_d5_50)) ?_
  show Goes p e below s _ _ _ s₁ (mkF m 53 #[.val (.int (5 : Int32)), .val (.long (1000 : Int64)), .second] [(.long (1000000 : Int64)), (.long (1000 : Int64))])
  refine own_lmul X0 hx 54 rfl (z := (1000000000 : Int64)) (hb hby own_d5_53) (by decide) ?_
  refine own_retJ X0 hx hlk Bd.returns (hb hby own_d5_54) (by decide) (by decide) e0 ?_
  exact ⟨rfl, N0, rfl⟩
def Qep6 (Z : State)  (h0 : Heap) (n0 : Nat) (v : Option Value) (h : Heap) (L : List Loc) : Prop := v = some (.long (1000000000 : Int64)) ∧ Fr n0 L ∧ h = h0
set_option maxRecDepth 65536 in
set_option maxHeartbeats 40000000 in
theorem rmep6 (l : Launch) (Z : State) (a0 : Array Value) (hw : ∀ d ∈ tables_1, d.before a0 Z = true) (ws : List Jvm.Cond)  (h0 : Heap) (n0 : Nat) (Z0 : n0 ≤ h0.size)  :
    MetFree l (⟨"com/example/pooler/pooler/pool/BackoffFailedPinLaw", "expectedPause", "(I)J"⟩ : MethodName) (head1 (Jvm.Cond.code (⟨"com/example/pooler/pooler/pool/BackoffFailedPinLaw", "expectedPause", "(I)J"⟩ : MethodName) method_2_code 3 (some .long) :: ws) ({ frames := 0, cells := 0, slots := 0, locals := 0 } : Room)) (fun a U => a = #[(.int (6 : Int32))] ∧ Z.Warmed39 U.vm ∧ U.heap = h0) (fun _ _ _ _ _ => True) (fun _ U o U' => ∃ v L, o = .returned v ∧ Qep6 Z  h0 n0 v U'.heap L ∧ FrameEnd U o U' L ({ frames := 0, cells := 0, slots := 0, locals := 0 } : Room).cells ({ frames := 0, cells := 0, slots := 0, locals := 0 } : Room).slots) := by
  refine MetFree.of_bodySF (plainFor_of_name own_pn_com_example_pooler_pooler_pool_BackoffFailedPinLaw) hisR ?_
  intro p e s m args below meth c s₁ Bd hml0 hP hK
  obtain ⟨rfl, hZ, hh⟩ := hP
  have hx := Bd.exec
  have hby := Bd.bytes
  have hml : c.maxLocals = 3 := hml0
  have hlk := Bd.notSynchronized
  have hown : s.vm.findClass "com/example/pooler/pooler/pool/BackoffFailedPinLaw" = some m.cls := findClass_of_methodNamed Bd.named
  have hnm := (name_of_methodNamed Bd.named Bd.method).1
  have X0 : Stand p l e ({ frames := 0, cells := 0, slots := 0, locals := 0 } : Room) s m #[(.int (6 : Int32))] below meth c s₁ [] 0 0 := Stand.of_body Bd
  have e0 : s₁.heap = h0 := by rw [← hh, Bd.state]; rfl
  have N0 := Fr.nil n0
  refine own_enter (Q := Qep6 Z  h0 n0) (Ls := #[.val (.int (6 : Int32)), .unset, .unset]) (by first | rfl | (simp [entryFrame, mkF, argsToLocals, Value.category]; done)) ?_
  refine Goes.go (X0.ldc2Long hx hown (mvT hZ (hw _ (List.mem_of_getElem? (i := 29) rfl))) (g := (mkF m 0 #[.val (.int (6 : Int32)), .unset, .unset] [])) rfl (hb hby own_d5_0)) ?_
  show Goes p e below s _ _ _ s₁ (mkF m 3 #[.val (.int (6 : Int32)), .unset, .unset] [(.long (1000 : Int64))])
  refine own_lstoreN X0 hx 4 rfl #[.val (.int (6 : Int32)), .val (.long (1000 : Int64)), .second] (hb hby own_d5_3) rfl ?_
  refine own_iloadN X0 hx 5 rfl (hb hby own_d5_4) rfl ?_
  refine own_iconst X0 hx 6 rfl (1 : Int32) (hb hby own_d5_5) (by decide) ?_
  refine own_icmpY X0 hx 16 (hb hby own_d5_6) (tlt ((by decide) : (1 : Int32) < (6 : Int32))).2.2.1 (by decide) (by decide) ?_
  refine own_iloadN X0 hx 17 rfl (hb hby own_d5_16) rfl ?_
  refine own_iconst X0 hx 18 rfl (2 : Int32) (hb hby own_d5_17) (by decide) ?_
  refine own_icmpY X0 hx 28 (hb hby own_d5_18) (feq ((by decide) : ¬ ((6 : Int32) = (2 : Int32)))).2 (by decide) (by decide) ?_
  refine own_iloadN X0 hx 29 rfl (hb hby own_d5_28) rfl ?_
  refine own_iconst X0 hx 30 rfl (3 : Int32) (hb hby own_d5_29) (by decide) ?_
  refine own_icmpY X0 hx 40 (hb hby own_d5_30) (feq ((by decide) : ¬ ((6 : Int32) = (3 : Int32)))).2 (by decide) (by decide) ?_
  refine own_iloadN X0 hx 41 rfl (hb hby own_d5_40) rfl ?_
  refine own_iconst X0 hx 42 rfl (4 : Int32) (hb hby own_d5_41) (by decide) ?_
  refine own_icmpY X0 hx 49 (hb hby own_d5_42) (feq ((by decide) : ¬ ((6 : Int32) = (4 : Int32)))).2 (by decide) (by decide) ?_
  refine own_lloadN X0 hx 50 rfl (hb hby own_d5_49) rfl ?_
  refine Goes.go (X0.ldc2Long hx hown (mvT hZ (hw _ (List.mem_of_getElem? (i := 31) rfl))) (g := (mkF m 50 #[.val (.int (6 : Int32)), .val (.long (1000 : Int64)), .second] [(.long (1000 : Int64))])) rfl (hb hby own_d5_50)) ?_
  show Goes p e below s _ _ _ s₁ (mkF m 53 #[.val (.int (6 : Int32)), .val (.long (1000 : Int64)), .second] [(.long (1000000 : Int64)), (.long (1000 : Int64))])
  refine own_lmul X0 hx 54 rfl (z := (1000000000 : Int64)) (hb hby own_d5_53) (by decide) ?_
  refine own_retJ X0 hx hlk Bd.returns (hb hby own_d5_54) (by decide) (by decide) e0 ?_
  exact ⟨rfl, N0, rfl⟩
theorem own_pd3 : parseMethodDescriptor "()V" = some ⟨[], none⟩ := by decide +kernel
theorem own_pd4 : parseMethodDescriptor "(I)J" = some ⟨[.int], some .long⟩ := by decide +kernel
theorem own_pd5 : parseMethodDescriptor "(J)J" = some ⟨[.long], some .long⟩ := by decide +kernel
def Q0 (Z : State) (x0 : Int64) (x1 : Int32) (x2 : Int64) (x3 : Int32) (h0 : Heap) (n0 : Nat) (v : Option Value) (h : Heap) (L : List Loc) : Prop := v = some (.int 1) ∧ Fr n0 L
set_option maxRecDepth 65536 in
set_option maxHeartbeats 40000000 in
theorem rm0 (l : Launch) (Z : State) (a0 : Array Value) (hw : ∀ d ∈ tables_1, d.before a0 Z = true) (ws : List Jvm.Cond) (x0 : Int64) (x1 : Int32) (x2 : Int64) (x3 : Int32) (h0 : Heap) (n0 : Nat) (Z0 : n0 ≤ h0.size) (S_y_SHORTEST : Sta Z h0 "com/example/pooler/pooler/pool/Backoff" "SHORTEST" "J" (.long (100000000 : Int64))) (S_y_LONGEST : Sta Z h0 "com/example/pooler/pooler/pool/Backoff" "LONGEST" "J" (.long (1000000000 : Int64))) :
    MetFree l x (head1 (Jvm.Cond.code x code maxLocals ret :: ws) room_1) (fun a U => a = #[(.long x0), (.int x1), (.long x2), (.int x3)] ∧ Z.Warmed39 U.vm ∧ U.heap = h0) (fun _ _ _ _ _ => True) (fun _ U o U' => ∃ v L, o = .returned v ∧ Q0 Z x0 x1 x2 x3 h0 n0 v U'.heap L ∧ FrameEnd U o U' L 1 3) := by
  refine MetFree.of_bodySF (plainFor_of_name own_pn_com_example_pooler_pooler_pool_BackoffFailedPinLaw) hisR ?_
  intro p e s m args below meth c s₁ Bd hml0 hP hK
  obtain ⟨rfl, hZ, hh⟩ := hP
  have hx := Bd.exec
  have hby := Bd.bytes
  have hml : c.maxLocals = 14 := hml0
  have hlk := Bd.notSynchronized
  have hown : s.vm.findClass "com/example/pooler/pooler/pool/BackoffFailedPinLaw" = some m.cls := findClass_of_methodNamed Bd.named
  have hnm := (name_of_methodNamed Bd.named Bd.method).1
  have X0 : Stand p l e room_1 s m #[(.long x0), (.int x1), (.long x2), (.int x3)] below meth c s₁ [] 0 0 := Stand.of_body Bd
  have e0 : s₁.heap = h0 := by rw [← hh, Bd.state]; rfl
  have N0 := Fr.nil n0
  have K0 : Keep h0 h0 [] := Keep.refl _ _
  refine own_enter (Q := Q0 Z x0 x1 x2 x3 h0 n0) (Ls := #[.val (.long x0), .second, .val (.int x1), .val (.long x2), .second, .val (.int x3), .unset, .unset, .unset, .unset, .unset, .unset, .unset, .unset]) (by first | rfl | (simp [entryFrame, mkF, argsToLocals, Value.category, maxLocals]; done)) ?_
  refine own_iload X0 hx 2 rfl (hb hby at_0) rfl ?_
  refine Goes.go (X0.ldcInt hx hown (mvT hZ (hw _ (List.mem_of_getElem? (i := 0) rfl))) (g := (mkF m 2 #[.val (.long x0), .second, .val (.int x1), .val (.long x2), .second, .val (.int x3), .unset, .unset, .unset, .unset, .unset, .unset, .unset, .unset] [(.int x3)])) rfl (hb hby at_2)) ?_
  show Goes p e below s _ _ _ s₁ (mkF m 4 #[.val (.long x0), .second, .val (.int x1), .val (.long x2), .second, .val (.int x3), .unset, .unset, .unset, .unset, .unset, .unset, .unset, .unset] [(.int (2147483647 : Int32)), (.int x3)])
  refine own_iand X0 hx 5 rfl (hb hby at_4) rfl ?_
  refine own_bipush X0 hx 7 rfl (6 : Int32) (hb hby at_5) (by decide) ?_
  obtain ⟨mm, h_mm⟩ : ∃ z, z = ((x3 &&& (2147483647 : Int32)) % (6 : Int32)) := ⟨_, rfl⟩
  refine own_irem X0 hx 8 rfl (hb hby at_7) (by decide) h_mm.symm ?_
  have hmm := own_mod6 _ _ h_mm
  rcases hmm with rfl | rfl | rfl | rfl | rfl | rfl
  · refine own_istore X0 hx 10 rfl #[.val (.long x0), .second, .val (.int x1), .val (.long x2), .second, .val (.int x3), .val (.int (0 : Int32)), .unset, .unset, .unset, .unset, .unset, .unset, .unset] (hb hby at_8) rfl ?_
    refine own_iload X0 hx 12 rfl (hb hby at_10) rfl ?_
    refine own_bipush X0 hx 14 rfl (8 : Int32) (hb hby at_12) (by decide) ?_
    refine own_iushr X0 hx 15 rfl (hb hby at_14) rfl ?_
    refine own_iconst X0 hx 16 rfl (1 : Int32) (hb hby at_15) (by decide) ?_
    refine own_iand X0 hx 17 rfl (hb hby at_16) rfl ?_
    by_cases hc17_1 : (((x3.toUInt32 >>> ((8 : Int32) &&& 31).toUInt32).toInt32) &&& (1 : Int32)) = (0 : Int32)
    · refine own_ifY X0 hx 24 (hb hby at_17) ((if0 _ _).trans (teq hc17_1).1) (by decide) (by decide) ?_
      refine own_iconst X0 hx 25 rfl (0 : Int32) (hb hby at_24) (by decide) ?_
      refine own_istore X0 hx 27 rfl #[.val (.long x0), .second, .val (.int x1), .val (.long x2), .second, .val (.int x3), .val (.int (0 : Int32)), .val (.int (0 : Int32)), .unset, .unset, .unset, .unset, .unset, .unset] (hb hby at_25) rfl ?_
      obtain ⟨T2, h2, X2, e2, E2, A2, D2, -, st2⟩ := newO X0 hx hZ hown (hw _ (List.mem_of_getElem? (i := 1) rfl)) (hw _ (List.mem_of_getElem? (i := 2) rfl)) (hw _ (List.mem_of_getElem? (i := 3) rfl)) e0 (g := (mkF m 27 #[.val (.long x0), .second, .val (.int x1), .val (.long x2), .second, .val (.int x3), .val (.int (0 : Int32)), .val (.int (0 : Int32)), .unset, .unset, .unset, .unset, .unset, .unset] [])) rfl (hb hby at_27) (by decide) (by decide)
      obtain ⟨b2, g2⟩ : ∃ z, z = h0.size := ⟨_, rfl⟩
      rw [← g2] at A2 D2 st2
      have G2 : n0 ≤ b2 := Nat.le_trans Z0 (Nat.le_of_eq g2.symm)
      have H2 : h0.size ≤ b2 := Nat.le_trans K0.1 (Nat.le_of_eq g2.symm)
      have f3 := S_y_SHORTEST.ext E2
      have f4 := S_y_LONGEST.ext E2
      have K2 := K0.ext E2
      have Z2 := Nat.le_trans Z0 E2.1
      have f5 : Fld Z h2 b2 "com/example/pooler/pooler/pool/Backoff" "tried" "Z" (.int (0 : Int32)) := D2 (Or.inl (hw _ (List.mem_of_getElem? (i := 20) rfl))) (ty := .boolean) (by decide)
      have f6 : Fld Z h2 b2 "com/example/pooler/pooler/pool/Backoff" "endedAt" "J" (.long (0 : Int64)) := D2 (Or.inl (hw _ (List.mem_of_getElem? (i := 22) rfl))) (ty := .long) (by decide)
      have f7 : Fld Z h2 b2 "com/example/pooler/pooler/pool/Backoff" "failuresInARow" "I" (.int (0 : Int32)) := D2 (Or.inl (hw _ (List.mem_of_getElem? (i := 24) rfl))) (ty := .int) (by decide)
      refine Goes.go st2 ?_
      show Goes p e below s _ _ _ T2 (mkF m 30 #[.val (.long x0), .second, .val (.int x1), .val (.long x2), .second, .val (.int x3), .val (.int (0 : Int32)), .val (.int (0 : Int32)), .unset, .unset, .unset, .unset, .unset, .unset] [(.ref b2)])
      refine own_dup X2 hx 31 rfl (hb hby at_30) rfl ?_
      obtain ⟨_, _, ⟨T8, L8, k8, n8⟩, -, X8, ⟨Lc8, hQ8, l8, y8, z8⟩, st8⟩ := X2.specialBack hx (y := (⟨"com/example/pooler/pooler/pool/Backoff", "<init>", "()V"⟩ : MethodName)) rfl hown (mvT hZ (hw _ (List.mem_of_getElem? (i := 4) rfl))) (mvT hZ (hw _ (List.mem_of_getElem? (i := 5) rfl))) (mvT hZ (hw _ (List.mem_of_getElem? (i := 6) rfl))) (by decide) (backOf (W := 1) (rm1 l Z a0 hw [] b2 h2 n0 Z2 ) hZ (hw _ (List.mem_of_getElem? (i := 6) rfl)) (hw _ (List.mem_of_getElem? (i := 3) rfl)) (by decide) (by decide)) (g := (mkF m 31 #[.val (.long x0), .second, .val (.int x1), .val (.long x2), .second, .val (.int x3), .val (.int (0 : Int32)), .val (.int (0 : Int32)), .unset, .unset, .unset, .unset, .unset, .unset] [(.ref b2), (.ref b2)])) rfl (by rw [hml]; rfl) (Steps.refl _) (a := b2) (argsL := []) (rest := [(.ref b2)]) (lenOf own_pd3 rfl) rfl (by show 2 * 0 + _ ≤ _; exact Nat.le_of_eq rfl) (hb hby at_31) (fun _ _ => ⟨rfl, e2, (by decide : 1 + 0 ≤ _), (by decide : 3 + 0 ≤ _)⟩)
      dsimp only [Pt.U, Pt.locs, Pt.cells, Pt.slots] at X8 l8 y8 z8 st8 hQ8
      subst l8 y8 z8
      obtain ⟨rfl, N8q, eh8⟩ := hQ8
      have N8 := Fr.app N0 N8q
      refine Goes.tr st8 ?_
      show Goes p e below s _ _ _ T8 (mkF m 34 #[.val (.long x0), .second, .val (.int x1), .val (.long x2), .second, .val (.int x3), .val (.int (0 : Int32)), .val (.int (0 : Int32)), .unset, .unset, .unset, .unset, .unset, .unset] [(.ref b2)])
      refine own_astore X8 hx 36 rfl #[.val (.long x0), .second, .val (.int x1), .val (.long x2), .second, .val (.int x3), .val (.int (0 : Int32)), .val (.int (0 : Int32)), .val (.ref b2), .unset, .unset, .unset, .unset, .unset] (hb hby at_34) rfl rfl ?_
      refine own_iload X8 hx 38 rfl (hb hby at_36) rfl ?_
      refine own_iconst X8 hx 39 rfl (1 : Int32) (hb hby at_38) (by decide) ?_
      refine own_icmpY X8 hx 48 (hb hby at_39) (tlt ((by decide) : (0 : Int32) < (1 : Int32))).1 (by decide) (by decide) ?_
      refine own_iload X8 hx 50 rfl (hb hby at_48) rfl ?_
      refine own_iconst X8 hx 51 rfl (2 : Int32) (hb hby at_50) (by decide) ?_
      refine own_icmpY X8 hx 60 (hb hby at_51) (tlt ((by decide) : (0 : Int32) < (2 : Int32))).1 (by decide) (by decide) ?_
      refine own_iload X8 hx 62 rfl (hb hby at_60) rfl ?_
      refine own_iconst X8 hx 63 rfl (3 : Int32) (hb hby at_62) (by decide) ?_
      refine own_icmpY X8 hx 72 (hb hby at_63) (tlt ((by decide) : (0 : Int32) < (3 : Int32))).1 (by decide) (by decide) ?_
      refine own_iload X8 hx 74 rfl (hb hby at_72) rfl ?_
      refine own_iconst X8 hx 75 rfl (4 : Int32) (hb hby at_74) (by decide) ?_
      refine own_icmpY X8 hx 84 (hb hby at_75) (tlt ((by decide) : (0 : Int32) < (4 : Int32))).1 (by decide) (by decide) ?_
      refine own_iload X8 hx 86 rfl (hb hby at_84) rfl ?_
      refine own_iconst X8 hx 87 rfl (5 : Int32) (hb hby at_86) (by decide) ?_
      refine own_icmpY X8 hx 96 (hb hby at_87) (tlt ((by decide) : (0 : Int32) < (5 : Int32))).1 (by decide) (by decide) ?_
      refine own_iload X8 hx 98 rfl (hb hby at_96) rfl ?_
      refine own_ifY X8 hx 107 (hb hby at_98) ((if0 _ _).trans (teq ((by decide) : (0 : Int32) = (0 : Int32))).1) (by decide) (by decide) ?_
      refine own_aload X8 hx 109 rfl (hb hby at_107) rfl rfl ?_
      refine own_lloadN X8 hx 110 rfl (hb hby at_109) rfl ?_
      obtain ⟨cq9, kq9, q9a, q9b, q9c⟩ := isOf hZ eh8 A2
      obtain ⟨_, _, ⟨T9, L9, k9, n9⟩, -, X9, ⟨Lc9, hQ9, l9, y9, z9⟩, st9⟩ := X8.virtualBack hx (y := (⟨"com/example/pooler/pooler/pool/Backoff", "failed", "(J)V"⟩ : MethodName)) (z := (⟨"com/example/pooler/pooler/pool/Backoff", "failed", "(J)V"⟩ : MethodName)) hown (mvT hZ (hw _ (List.mem_of_getElem? (i := 10) rfl))) (mvT hZ (hw _ (List.mem_of_getElem? (i := 11) rfl))) (notFace_of_selects (args := #[]) (mvT hZ (hw _ (List.mem_of_getElem? (i := 13) rfl)))) (mvT hZ (hw _ (List.mem_of_getElem? (i := 13) rfl))) (mvT hZ (hw _ (List.mem_of_getElem? (i := 12) rfl))) (by decide) (backOf (W := 0) (rmfa0 l Z a0 hw [] b2 x0 (0 : Int32) (0 : Int64) h2 n0 Z2 A2 G2 f5 f6 f7) hZ (hw _ (List.mem_of_getElem? (i := 14) rfl)) (hw _ (List.mem_of_getElem? (i := 3) rfl)) (by decide) (by decide)) q9a q9c (g := (mkF m 110 #[.val (.long x0), .second, .val (.int x1), .val (.long x2), .second, .val (.int x3), .val (.int (0 : Int32)), .val (.int (0 : Int32)), .val (.ref b2), .unset, .unset, .unset, .unset, .unset] [(.long x0), (.ref b2)])) rfl (by rw [hml]; rfl) (Steps.refl _) (argsL := [(.long x0)]) (rest := []) (lenOf own_pd0 rfl) rfl (by show 2 * 0 + _ ≤ _; exact Nat.le_of_eq rfl) (hb hby at_110) (fun _ _ => ⟨rfl, eh8, (by decide : 1 + 0 ≤ _), (by decide : 3 + 0 ≤ _)⟩)
      dsimp only [Pt.U, Pt.locs, Pt.cells, Pt.slots] at X9 l9 y9 z9 st9 hQ9
      subst l9 y9 z9
      obtain ⟨rfl, N9q, K9q, f9_0, f9_1, f9_2⟩ := hQ9
      have N9 := Fr.app N8 N9q
      have f10 := own_sta_keep f3 K9q (allS (own_eplain A2) all0)
      have f11 := own_sta_keep f4 K9q (allS (own_eplain A2) all0)
      have f12 := A2.keep K9q
      have K9 := K2.trans K9q (allS (Or.inr H2) all0)
      have Z9 := Nat.le_trans Z2 K9q.1
      refine Goes.tr st9 ?_
      show Goes p e below s _ _ _ T9 (mkF m 113 #[.val (.long x0), .second, .val (.int x1), .val (.long x2), .second, .val (.int x3), .val (.int (0 : Int32)), .val (.int (0 : Int32)), .val (.ref b2), .unset, .unset, .unset, .unset, .unset] [])
      refine own_iload X9 hx 115 rfl (hb hby at_113) rfl ?_
      refine own_ifY X9 hx 122 (hb hby at_115) ((if0 _ _).trans (teq ((by decide) : (0 : Int32) = (0 : Int32))).1) (by decide) (by decide) ?_
      refine own_iload X9 hx 124 rfl (hb hby at_122) rfl ?_
      refine own_iconst X9 hx 125 rfl (1 : Int32) (hb hby at_124) (by decide) ?_
      refine own_iadd X9 hx 126 rfl (z := (1 : Int32)) (hb hby at_125) (by decide) ?_
      refine own_istore X9 hx 128 rfl #[.val (.long x0), .second, .val (.int x1), .val (.long x2), .second, .val (.int x3), .val (.int (0 : Int32)), .val (.int (0 : Int32)), .val (.ref b2), .val (.int (1 : Int32)), .unset, .unset, .unset, .unset] (hb hby at_126) rfl ?_
      refine own_lloadN X9 hx 129 rfl (hb hby at_128) rfl ?_
      refine own_iloadN X9 hx 130 rfl (hb hby at_129) rfl ?_
      refine own_i2l X9 hx 131 rfl (hb hby at_130) rfl ?_
      refine own_ladd X9 hx 132 rfl (hb hby at_131) rfl ?_
      refine own_lstore X9 hx 134 rfl #[.val (.long x0), .second, .val (.int x1), .val (.long x2), .second, .val (.int x3), .val (.int (0 : Int32)), .val (.int (0 : Int32)), .val (.ref b2), .val (.int (1 : Int32)), .val (.long (x0 + (x1.toInt64))), .second, .unset, .unset] (hb hby at_132) rfl ?_
      refine own_lconst X9 hx 135 rfl (0 : Int64) (hb hby at_134) (by decide) ?_
      refine own_iload X9 hx 137 rfl (hb hby at_135) rfl ?_
      obtain ⟨_, _, ⟨T13, L13, k13, n13⟩, -, X13, ⟨Lc13, hQ13, l13, y13, z13⟩, st13⟩ := Jvm.LawKit.callS X9 hx (y := (⟨"com/example/pooler/pooler/pool/BackoffFailedPinLaw", "expectedPause", "(I)J"⟩ : MethodName)) hown (mvT hZ (hw _ (List.mem_of_getElem? (i := 25) rfl))) (mvT hZ (hw _ (List.mem_of_getElem? (i := 26) rfl))) (mvT hZ (hw _ (List.mem_of_getElem? (i := 27) rfl))) (mvT hZ (hw _ (List.mem_of_getElem? (i := 28) rfl))) (by decide) (backOf (W := 2) (rmep1 l Z a0 hw []  T9.heap n0 Z9 ) hZ (hw _ (List.mem_of_getElem? (i := 28) rfl)) (hw _ (List.mem_of_getElem? (i := 27) rfl)) (by decide) (by decide)) (g := (mkF m 137 #[.val (.long x0), .second, .val (.int x1), .val (.long x2), .second, .val (.int x3), .val (.int (0 : Int32)), .val (.int (0 : Int32)), .val (.ref b2), .val (.int (1 : Int32)), .val (.long (x0 + (x1.toInt64))), .second, .unset, .unset] [(.int (1 : Int32)), (.long (0 : Int64))])) rfl (by rw [hml]; rfl) (argsL := [(.int (1 : Int32))]) (rest := [(.long (0 : Int64))]) (lenOf own_pd4 rfl) rfl (by show 2 * 0 + _ ≤ _; exact Nat.le_of_eq rfl) (hb hby at_137) (fun _ _ => ⟨rfl, rfl, (by decide : 1 + 0 ≤ _), (by decide : 3 + 0 ≤ _)⟩)
      dsimp only [Pt.U, Pt.locs, Pt.cells, Pt.slots] at X13 l13 y13 z13 st13 hQ13
      subst l13 y13 z13
      obtain ⟨rfl, N13q, eh13⟩ := hQ13
      have N13 := Fr.app N9 N13q
      refine Goes.go st13 ?_
      show Goes p e below s _ _ _ T13 (mkF m 140 #[.val (.long x0), .second, .val (.int x1), .val (.long x2), .second, .val (.int x3), .val (.int (0 : Int32)), .val (.int (0 : Int32)), .val (.ref b2), .val (.int (1 : Int32)), .val (.long (x0 + (x1.toInt64))), .second, .unset, .unset] [(.long (100000000 : Int64)), (.long (0 : Int64))])
      refine own_iloadN X13 hx 141 rfl (hb hby at_140) rfl ?_
      refine own_i2l X13 hx 142 rfl (hb hby at_141) rfl ?_
      refine own_lsub X13 hx 143 rfl (hb hby at_142) rfl ?_
      obtain ⟨_, _, ⟨T14, L14, k14, n14⟩, -, X14, ⟨Lc14, hQ14, l14, y14, z14⟩, st14⟩ := Jvm.LawKit.callS X13 hx (y := (⟨"java/lang/Math", "max", "(JJ)J"⟩ : MethodName)) hown (mvT hZ (hw _ (List.mem_of_getElem? (i := 32) rfl))) (mvT hZ (hw _ (List.mem_of_getElem? (i := 33) rfl))) (mvT hZ (hw _ (List.mem_of_getElem? (i := 34) rfl))) (mvT hZ (hw _ (List.mem_of_getElem? (i := 35) rfl))) (by decide) (backOf (W := 0) (rm6 l Z a0 hw [] (0 : Int64) ((100000000 : Int64) - (x1.toInt64)) T9.heap n0 Z9 ) hZ (hw _ (List.mem_of_getElem? (i := 35) rfl)) (hw _ (List.mem_of_getElem? (i := 34) rfl)) (by decide) (by decide)) (g := (mkF m 143 #[.val (.long x0), .second, .val (.int x1), .val (.long x2), .second, .val (.int x3), .val (.int (0 : Int32)), .val (.int (0 : Int32)), .val (.ref b2), .val (.int (1 : Int32)), .val (.long (x0 + (x1.toInt64))), .second, .unset, .unset] [(.long ((100000000 : Int64) - (x1.toInt64))), (.long (0 : Int64))])) rfl (by rw [hml]; rfl) (argsL := [(.long (0 : Int64)), (.long ((100000000 : Int64) - (x1.toInt64)))]) (rest := []) (lenOf own_pd1 rfl) rfl (by show 2 * 0 + _ ≤ _; exact Nat.le_of_eq rfl) (hb hby at_143) (fun _ _ => ⟨rfl, eh13, (by decide : 1 + 0 ≤ _), (by decide : 3 + 0 ≤ _)⟩)
      dsimp only [Pt.U, Pt.locs, Pt.cells, Pt.slots] at X14 l14 y14 z14 st14 hQ14
      subst l14 y14 z14
      obtain ⟨mr_14, rfl, N14q, eh14, pr14_0⟩ := hQ14
      have N14 := Fr.app N13 N14q
      refine Goes.go st14 ?_
      show Goes p e below s _ _ _ T14 (mkF m 146 #[.val (.long x0), .second, .val (.int x1), .val (.long x2), .second, .val (.int x3), .val (.int (0 : Int32)), .val (.int (0 : Int32)), .val (.ref b2), .val (.int (1 : Int32)), .val (.long (x0 + (x1.toInt64))), .second, .unset, .unset] [(.long mr_14)])
      refine own_lstore X14 hx 148 rfl #[.val (.long x0), .second, .val (.int x1), .val (.long x2), .second, .val (.int x3), .val (.int (0 : Int32)), .val (.int (0 : Int32)), .val (.ref b2), .val (.int (1 : Int32)), .val (.long (x0 + (x1.toInt64))), .second, .val (.long mr_14), .second] (hb hby at_146) rfl ?_
      refine own_aload X14 hx 150 rfl (hb hby at_148) rfl rfl ?_
      refine own_lload X14 hx 152 rfl (hb hby at_150) rfl ?_
      obtain ⟨cq15, kq15, q15a, q15b, q15c⟩ := isOf hZ eh14 f12
      obtain ⟨_, _, ⟨T15, L15, k15, n15⟩, -, X15, ⟨Lc15, hQ15, l15, y15, z15⟩, st15⟩ := X14.virtualBack hx (y := (⟨"com/example/pooler/pooler/pool/Backoff", "delay", "(J)J"⟩ : MethodName)) (z := (⟨"com/example/pooler/pooler/pool/Backoff", "delay", "(J)J"⟩ : MethodName)) hown (mvT hZ (hw _ (List.mem_of_getElem? (i := 36) rfl))) (mvT hZ (hw _ (List.mem_of_getElem? (i := 37) rfl))) (notFace_of_selects (args := #[]) (mvT hZ (hw _ (List.mem_of_getElem? (i := 39) rfl)))) (mvT hZ (hw _ (List.mem_of_getElem? (i := 39) rfl))) (mvT hZ (hw _ (List.mem_of_getElem? (i := 38) rfl))) (by decide) (backOf (W := 0) (rmde1 l Z a0 hw [] b2 (x0 + (x1.toInt64)) x0 T9.heap n0 Z9 f12 f10 f11 f9_0 f9_1 f9_2) hZ (hw _ (List.mem_of_getElem? (i := 40) rfl)) (hw _ (List.mem_of_getElem? (i := 3) rfl)) (by decide) (by decide)) q15a q15c (g := (mkF m 152 #[.val (.long x0), .second, .val (.int x1), .val (.long x2), .second, .val (.int x3), .val (.int (0 : Int32)), .val (.int (0 : Int32)), .val (.ref b2), .val (.int (1 : Int32)), .val (.long (x0 + (x1.toInt64))), .second, .val (.long mr_14), .second] [(.long (x0 + (x1.toInt64))), (.ref b2)])) rfl (by rw [hml]; rfl) (Steps.refl _) (argsL := [(.long (x0 + (x1.toInt64)))]) (rest := []) (lenOf own_pd5 rfl) rfl (by show 2 * 0 + _ ≤ _; exact Nat.le_of_eq rfl) (hb hby at_152) (fun _ _ => ⟨rfl, eh14, (by decide : 1 + 0 ≤ _), (by decide : 3 + 0 ≤ _)⟩)
      dsimp only [Pt.U, Pt.locs, Pt.cells, Pt.slots] at X15 l15 y15 z15 st15 hQ15
      subst l15 y15 z15
      obtain ⟨br_15, rfl, N15q, eh15, pr15_0⟩ := hQ15
      have N15 := Fr.app N14 N15q
      refine Goes.tr st15 ?_
      show Goes p e below s _ _ _ T15 (mkF m 155 #[.val (.long x0), .second, .val (.int x1), .val (.long x2), .second, .val (.int x3), .val (.int (0 : Int32)), .val (.int (0 : Int32)), .val (.ref b2), .val (.int (1 : Int32)), .val (.long (x0 + (x1.toInt64))), .second, .val (.long mr_14), .second] [(.long br_15)])
      refine own_lload X15 hx 157 rfl (hb hby at_155) rfl ?_
      refine own_lcmp X15 hx 158 rfl (hb hby at_157) ?_
      refine own_ifN X15 hx 161 (hb hby at_158) (Lteq (own_fin pr15_0 pr14_0 : br_15 = mr_14)).2 rfl ?_
      refine own_iconst X15 hx 162 rfl (1 : Int32) (hb hby at_161) (by decide) ?_
      refine own_goto X15 hx 166 (hb hby at_162) (by decide) (by decide) ?_
      refine own_retZ X15 hx hlk Bd.returns (by decide) (hb hby at_166) (by decide) (by decide) eh15 ?_
      exact ⟨rfl, N15⟩
    · refine own_ifN X0 hx 20 (hb hby at_17) ((if0 _ _).trans (feq hc17_1).1) rfl ?_
      refine own_iconst X0 hx 21 rfl (1 : Int32) (hb hby at_20) (by decide) ?_
      refine own_goto X0 hx 25 (hb hby at_21) (by decide) (by decide) ?_
      refine own_istore X0 hx 27 rfl #[.val (.long x0), .second, .val (.int x1), .val (.long x2), .second, .val (.int x3), .val (.int (0 : Int32)), .val (.int (1 : Int32)), .unset, .unset, .unset, .unset, .unset, .unset] (hb hby at_25) rfl ?_
      obtain ⟨T16, h16, X16, e16, E16, A16, D16, -, st16⟩ := newO X0 hx hZ hown (hw _ (List.mem_of_getElem? (i := 1) rfl)) (hw _ (List.mem_of_getElem? (i := 2) rfl)) (hw _ (List.mem_of_getElem? (i := 3) rfl)) e0 (g := (mkF m 27 #[.val (.long x0), .second, .val (.int x1), .val (.long x2), .second, .val (.int x3), .val (.int (0 : Int32)), .val (.int (1 : Int32)), .unset, .unset, .unset, .unset, .unset, .unset] [])) rfl (hb hby at_27) (by decide) (by decide)
      obtain ⟨b16, g16⟩ : ∃ z, z = h0.size := ⟨_, rfl⟩
      rw [← g16] at A16 D16 st16
      have G16 : n0 ≤ b16 := Nat.le_trans Z0 (Nat.le_of_eq g16.symm)
      have H16 : h0.size ≤ b16 := Nat.le_trans K0.1 (Nat.le_of_eq g16.symm)
      have f17 := S_y_SHORTEST.ext E16
      have f18 := S_y_LONGEST.ext E16
      have K16 := K0.ext E16
      have Z16 := Nat.le_trans Z0 E16.1
      have f19 : Fld Z h16 b16 "com/example/pooler/pooler/pool/Backoff" "tried" "Z" (.int (0 : Int32)) := D16 (Or.inl (hw _ (List.mem_of_getElem? (i := 20) rfl))) (ty := .boolean) (by decide)
      have f20 : Fld Z h16 b16 "com/example/pooler/pooler/pool/Backoff" "endedAt" "J" (.long (0 : Int64)) := D16 (Or.inl (hw _ (List.mem_of_getElem? (i := 22) rfl))) (ty := .long) (by decide)
      have f21 : Fld Z h16 b16 "com/example/pooler/pooler/pool/Backoff" "failuresInARow" "I" (.int (0 : Int32)) := D16 (Or.inl (hw _ (List.mem_of_getElem? (i := 24) rfl))) (ty := .int) (by decide)
      refine Goes.go st16 ?_
      show Goes p e below s _ _ _ T16 (mkF m 30 #[.val (.long x0), .second, .val (.int x1), .val (.long x2), .second, .val (.int x3), .val (.int (0 : Int32)), .val (.int (1 : Int32)), .unset, .unset, .unset, .unset, .unset, .unset] [(.ref b16)])
      refine own_dup X16 hx 31 rfl (hb hby at_30) rfl ?_
      obtain ⟨_, _, ⟨T22, L22, k22, n22⟩, -, X22, ⟨Lc22, hQ22, l22, y22, z22⟩, st22⟩ := X16.specialBack hx (y := (⟨"com/example/pooler/pooler/pool/Backoff", "<init>", "()V"⟩ : MethodName)) rfl hown (mvT hZ (hw _ (List.mem_of_getElem? (i := 4) rfl))) (mvT hZ (hw _ (List.mem_of_getElem? (i := 5) rfl))) (mvT hZ (hw _ (List.mem_of_getElem? (i := 6) rfl))) (by decide) (backOf (W := 1) (rm1 l Z a0 hw [] b16 h16 n0 Z16 ) hZ (hw _ (List.mem_of_getElem? (i := 6) rfl)) (hw _ (List.mem_of_getElem? (i := 3) rfl)) (by decide) (by decide)) (g := (mkF m 31 #[.val (.long x0), .second, .val (.int x1), .val (.long x2), .second, .val (.int x3), .val (.int (0 : Int32)), .val (.int (1 : Int32)), .unset, .unset, .unset, .unset, .unset, .unset] [(.ref b16), (.ref b16)])) rfl (by rw [hml]; rfl) (Steps.refl _) (a := b16) (argsL := []) (rest := [(.ref b16)]) (lenOf own_pd3 rfl) rfl (by show 2 * 0 + _ ≤ _; exact Nat.le_of_eq rfl) (hb hby at_31) (fun _ _ => ⟨rfl, e16, (by decide : 1 + 0 ≤ _), (by decide : 3 + 0 ≤ _)⟩)
      dsimp only [Pt.U, Pt.locs, Pt.cells, Pt.slots] at X22 l22 y22 z22 st22 hQ22
      subst l22 y22 z22
      obtain ⟨rfl, N22q, eh22⟩ := hQ22
      have N22 := Fr.app N0 N22q
      refine Goes.tr st22 ?_
      show Goes p e below s _ _ _ T22 (mkF m 34 #[.val (.long x0), .second, .val (.int x1), .val (.long x2), .second, .val (.int x3), .val (.int (0 : Int32)), .val (.int (1 : Int32)), .unset, .unset, .unset, .unset, .unset, .unset] [(.ref b16)])
      refine own_astore X22 hx 36 rfl #[.val (.long x0), .second, .val (.int x1), .val (.long x2), .second, .val (.int x3), .val (.int (0 : Int32)), .val (.int (1 : Int32)), .val (.ref b16), .unset, .unset, .unset, .unset, .unset] (hb hby at_34) rfl rfl ?_
      refine own_iload X22 hx 38 rfl (hb hby at_36) rfl ?_
      refine own_iconst X22 hx 39 rfl (1 : Int32) (hb hby at_38) (by decide) ?_
      refine own_icmpY X22 hx 48 (hb hby at_39) (tlt ((by decide) : (0 : Int32) < (1 : Int32))).1 (by decide) (by decide) ?_
      refine own_iload X22 hx 50 rfl (hb hby at_48) rfl ?_
      refine own_iconst X22 hx 51 rfl (2 : Int32) (hb hby at_50) (by decide) ?_
      refine own_icmpY X22 hx 60 (hb hby at_51) (tlt ((by decide) : (0 : Int32) < (2 : Int32))).1 (by decide) (by decide) ?_
      refine own_iload X22 hx 62 rfl (hb hby at_60) rfl ?_
      refine own_iconst X22 hx 63 rfl (3 : Int32) (hb hby at_62) (by decide) ?_
      refine own_icmpY X22 hx 72 (hb hby at_63) (tlt ((by decide) : (0 : Int32) < (3 : Int32))).1 (by decide) (by decide) ?_
      refine own_iload X22 hx 74 rfl (hb hby at_72) rfl ?_
      refine own_iconst X22 hx 75 rfl (4 : Int32) (hb hby at_74) (by decide) ?_
      refine own_icmpY X22 hx 84 (hb hby at_75) (tlt ((by decide) : (0 : Int32) < (4 : Int32))).1 (by decide) (by decide) ?_
      refine own_iload X22 hx 86 rfl (hb hby at_84) rfl ?_
      refine own_iconst X22 hx 87 rfl (5 : Int32) (hb hby at_86) (by decide) ?_
      refine own_icmpY X22 hx 96 (hb hby at_87) (tlt ((by decide) : (0 : Int32) < (5 : Int32))).1 (by decide) (by decide) ?_
      refine own_iload X22 hx 98 rfl (hb hby at_96) rfl ?_
      refine own_ifN X22 hx 101 (hb hby at_98) ((if0 _ _).trans (feq ((by decide) : ¬ ((1 : Int32) = (0 : Int32)))).1) rfl ?_
      refine own_aload X22 hx 103 rfl (hb hby at_101) rfl rfl ?_
      refine own_lloadN X22 hx 104 rfl (hb hby at_103) rfl ?_
      obtain ⟨cq23, kq23, q23a, q23b, q23c⟩ := isOf hZ eh22 A16
      obtain ⟨_, _, ⟨T23, L23, k23, n23⟩, -, X23, ⟨Lc23, hQ23, l23, y23, z23⟩, st23⟩ := X22.virtualBack hx (y := (⟨"com/example/pooler/pooler/pool/Backoff", "opened", "(J)V"⟩ : MethodName)) (z := (⟨"com/example/pooler/pooler/pool/Backoff", "opened", "(J)V"⟩ : MethodName)) hown (mvT hZ (hw _ (List.mem_of_getElem? (i := 55) rfl))) (mvT hZ (hw _ (List.mem_of_getElem? (i := 56) rfl))) (notFace_of_selects (args := #[]) (mvT hZ (hw _ (List.mem_of_getElem? (i := 58) rfl)))) (mvT hZ (hw _ (List.mem_of_getElem? (i := 58) rfl))) (mvT hZ (hw _ (List.mem_of_getElem? (i := 57) rfl))) (by decide) (backOf (W := 0) (rm10 l Z a0 hw [] b16 x2 (0 : Int32) (0 : Int64) (0 : Int32) h16 n0 Z16 A16 G16 f19 f20 f21) hZ (hw _ (List.mem_of_getElem? (i := 59) rfl)) (hw _ (List.mem_of_getElem? (i := 3) rfl)) (by decide) (by decide)) q23a q23c (g := (mkF m 104 #[.val (.long x0), .second, .val (.int x1), .val (.long x2), .second, .val (.int x3), .val (.int (0 : Int32)), .val (.int (1 : Int32)), .val (.ref b16), .unset, .unset, .unset, .unset, .unset] [(.long x2), (.ref b16)])) rfl (by rw [hml]; rfl) (Steps.refl _) (argsL := [(.long x2)]) (rest := []) (lenOf own_pd0 rfl) rfl (by show 2 * 0 + _ ≤ _; exact Nat.le_of_eq rfl) (hb hby at_104) (fun _ _ => ⟨rfl, eh22, (by decide : 1 + 0 ≤ _), (by decide : 3 + 0 ≤ _)⟩)
      dsimp only [Pt.U, Pt.locs, Pt.cells, Pt.slots] at X23 l23 y23 z23 st23 hQ23
      subst l23 y23 z23
      obtain ⟨rfl, N23q, K23q, f23_0, f23_1, f23_2⟩ := hQ23
      have N23 := Fr.app N22 N23q
      have f24 := own_sta_keep f17 K23q (allS (own_eplain A16) all0)
      have f25 := own_sta_keep f18 K23q (allS (own_eplain A16) all0)
      have f26 := A16.keep K23q
      have K23 := K16.trans K23q (allS (Or.inr H16) all0)
      have Z23 := Nat.le_trans Z16 K23q.1
      refine Goes.tr st23 ?_
      show Goes p e below s _ _ _ T23 (mkF m 107 #[.val (.long x0), .second, .val (.int x1), .val (.long x2), .second, .val (.int x3), .val (.int (0 : Int32)), .val (.int (1 : Int32)), .val (.ref b16), .unset, .unset, .unset, .unset, .unset] [])
      refine own_aload X23 hx 109 rfl (hb hby at_107) rfl rfl ?_
      refine own_lloadN X23 hx 110 rfl (hb hby at_109) rfl ?_
      obtain ⟨cq27, kq27, q27a, q27b, q27c⟩ := isOf hZ rfl f26
      obtain ⟨_, _, ⟨T27, L27, k27, n27⟩, -, X27, ⟨Lc27, hQ27, l27, y27, z27⟩, st27⟩ := X23.virtualBack hx (y := (⟨"com/example/pooler/pooler/pool/Backoff", "failed", "(J)V"⟩ : MethodName)) (z := (⟨"com/example/pooler/pooler/pool/Backoff", "failed", "(J)V"⟩ : MethodName)) hown (mvT hZ (hw _ (List.mem_of_getElem? (i := 10) rfl))) (mvT hZ (hw _ (List.mem_of_getElem? (i := 11) rfl))) (notFace_of_selects (args := #[]) (mvT hZ (hw _ (List.mem_of_getElem? (i := 13) rfl)))) (mvT hZ (hw _ (List.mem_of_getElem? (i := 13) rfl))) (mvT hZ (hw _ (List.mem_of_getElem? (i := 12) rfl))) (by decide) (backOf (W := 0) (rmfa0 l Z a0 hw [] b16 x0 (1 : Int32) x2 T23.heap n0 Z23 f26 G16 f23_0 f23_1 f23_2) hZ (hw _ (List.mem_of_getElem? (i := 14) rfl)) (hw _ (List.mem_of_getElem? (i := 3) rfl)) (by decide) (by decide)) q27a q27c (g := (mkF m 110 #[.val (.long x0), .second, .val (.int x1), .val (.long x2), .second, .val (.int x3), .val (.int (0 : Int32)), .val (.int (1 : Int32)), .val (.ref b16), .unset, .unset, .unset, .unset, .unset] [(.long x0), (.ref b16)])) rfl (by rw [hml]; rfl) (Steps.refl _) (argsL := [(.long x0)]) (rest := []) (lenOf own_pd0 rfl) rfl (by show 2 * 0 + _ ≤ _; exact Nat.le_of_eq rfl) (hb hby at_110) (fun _ _ => ⟨rfl, rfl, (by decide : 1 + 0 ≤ _), (by decide : 3 + 0 ≤ _)⟩)
      dsimp only [Pt.U, Pt.locs, Pt.cells, Pt.slots] at X27 l27 y27 z27 st27 hQ27
      subst l27 y27 z27
      obtain ⟨rfl, N27q, K27q, f27_0, f27_1, f27_2⟩ := hQ27
      have N27 := Fr.app N23 N27q
      have f28 := own_sta_keep f24 K27q (allS (own_eplain f26) all0)
      have f29 := own_sta_keep f25 K27q (allS (own_eplain f26) all0)
      have f30 := f26.keep K27q
      have K27 := K23.trans K27q (allS (Or.inr H16) all0)
      have Z27 := Nat.le_trans Z23 K27q.1
      refine Goes.tr st27 ?_
      show Goes p e below s _ _ _ T27 (mkF m 113 #[.val (.long x0), .second, .val (.int x1), .val (.long x2), .second, .val (.int x3), .val (.int (0 : Int32)), .val (.int (1 : Int32)), .val (.ref b16), .unset, .unset, .unset, .unset, .unset] [])
      refine own_iload X27 hx 115 rfl (hb hby at_113) rfl ?_
      refine own_ifN X27 hx 118 (hb hby at_115) ((if0 _ _).trans (feq ((by decide) : ¬ ((1 : Int32) = (0 : Int32)))).1) rfl ?_
      refine own_iconst X27 hx 119 rfl (1 : Int32) (hb hby at_118) (by decide) ?_
      refine own_goto X27 hx 126 (hb hby at_119) (by decide) (by decide) ?_
      refine own_istore X27 hx 128 rfl #[.val (.long x0), .second, .val (.int x1), .val (.long x2), .second, .val (.int x3), .val (.int (0 : Int32)), .val (.int (1 : Int32)), .val (.ref b16), .val (.int (1 : Int32)), .unset, .unset, .unset, .unset] (hb hby at_126) rfl ?_
      refine own_lloadN X27 hx 129 rfl (hb hby at_128) rfl ?_
      refine own_iloadN X27 hx 130 rfl (hb hby at_129) rfl ?_
      refine own_i2l X27 hx 131 rfl (hb hby at_130) rfl ?_
      refine own_ladd X27 hx 132 rfl (hb hby at_131) rfl ?_
      refine own_lstore X27 hx 134 rfl #[.val (.long x0), .second, .val (.int x1), .val (.long x2), .second, .val (.int x3), .val (.int (0 : Int32)), .val (.int (1 : Int32)), .val (.ref b16), .val (.int (1 : Int32)), .val (.long (x0 + (x1.toInt64))), .second, .unset, .unset] (hb hby at_132) rfl ?_
      refine own_lconst X27 hx 135 rfl (0 : Int64) (hb hby at_134) (by decide) ?_
      refine own_iload X27 hx 137 rfl (hb hby at_135) rfl ?_
      obtain ⟨_, _, ⟨T31, L31, k31, n31⟩, -, X31, ⟨Lc31, hQ31, l31, y31, z31⟩, st31⟩ := Jvm.LawKit.callS X27 hx (y := (⟨"com/example/pooler/pooler/pool/BackoffFailedPinLaw", "expectedPause", "(I)J"⟩ : MethodName)) hown (mvT hZ (hw _ (List.mem_of_getElem? (i := 25) rfl))) (mvT hZ (hw _ (List.mem_of_getElem? (i := 26) rfl))) (mvT hZ (hw _ (List.mem_of_getElem? (i := 27) rfl))) (mvT hZ (hw _ (List.mem_of_getElem? (i := 28) rfl))) (by decide) (backOf (W := 2) (rmep1 l Z a0 hw []  T27.heap n0 Z27 ) hZ (hw _ (List.mem_of_getElem? (i := 28) rfl)) (hw _ (List.mem_of_getElem? (i := 27) rfl)) (by decide) (by decide)) (g := (mkF m 137 #[.val (.long x0), .second, .val (.int x1), .val (.long x2), .second, .val (.int x3), .val (.int (0 : Int32)), .val (.int (1 : Int32)), .val (.ref b16), .val (.int (1 : Int32)), .val (.long (x0 + (x1.toInt64))), .second, .unset, .unset] [(.int (1 : Int32)), (.long (0 : Int64))])) rfl (by rw [hml]; rfl) (argsL := [(.int (1 : Int32))]) (rest := [(.long (0 : Int64))]) (lenOf own_pd4 rfl) rfl (by show 2 * 0 + _ ≤ _; exact Nat.le_of_eq rfl) (hb hby at_137) (fun _ _ => ⟨rfl, rfl, (by decide : 1 + 0 ≤ _), (by decide : 3 + 0 ≤ _)⟩)
      dsimp only [Pt.U, Pt.locs, Pt.cells, Pt.slots] at X31 l31 y31 z31 st31 hQ31
      subst l31 y31 z31
      obtain ⟨rfl, N31q, eh31⟩ := hQ31
      have N31 := Fr.app N27 N31q
      refine Goes.go st31 ?_
      show Goes p e below s _ _ _ T31 (mkF m 140 #[.val (.long x0), .second, .val (.int x1), .val (.long x2), .second, .val (.int x3), .val (.int (0 : Int32)), .val (.int (1 : Int32)), .val (.ref b16), .val (.int (1 : Int32)), .val (.long (x0 + (x1.toInt64))), .second, .unset, .unset] [(.long (100000000 : Int64)), (.long (0 : Int64))])
      refine own_iloadN X31 hx 141 rfl (hb hby at_140) rfl ?_
      refine own_i2l X31 hx 142 rfl (hb hby at_141) rfl ?_
      refine own_lsub X31 hx 143 rfl (hb hby at_142) rfl ?_
      obtain ⟨_, _, ⟨T32, L32, k32, n32⟩, -, X32, ⟨Lc32, hQ32, l32, y32, z32⟩, st32⟩ := Jvm.LawKit.callS X31 hx (y := (⟨"java/lang/Math", "max", "(JJ)J"⟩ : MethodName)) hown (mvT hZ (hw _ (List.mem_of_getElem? (i := 32) rfl))) (mvT hZ (hw _ (List.mem_of_getElem? (i := 33) rfl))) (mvT hZ (hw _ (List.mem_of_getElem? (i := 34) rfl))) (mvT hZ (hw _ (List.mem_of_getElem? (i := 35) rfl))) (by decide) (backOf (W := 0) (rm6 l Z a0 hw [] (0 : Int64) ((100000000 : Int64) - (x1.toInt64)) T27.heap n0 Z27 ) hZ (hw _ (List.mem_of_getElem? (i := 35) rfl)) (hw _ (List.mem_of_getElem? (i := 34) rfl)) (by decide) (by decide)) (g := (mkF m 143 #[.val (.long x0), .second, .val (.int x1), .val (.long x2), .second, .val (.int x3), .val (.int (0 : Int32)), .val (.int (1 : Int32)), .val (.ref b16), .val (.int (1 : Int32)), .val (.long (x0 + (x1.toInt64))), .second, .unset, .unset] [(.long ((100000000 : Int64) - (x1.toInt64))), (.long (0 : Int64))])) rfl (by rw [hml]; rfl) (argsL := [(.long (0 : Int64)), (.long ((100000000 : Int64) - (x1.toInt64)))]) (rest := []) (lenOf own_pd1 rfl) rfl (by show 2 * 0 + _ ≤ _; exact Nat.le_of_eq rfl) (hb hby at_143) (fun _ _ => ⟨rfl, eh31, (by decide : 1 + 0 ≤ _), (by decide : 3 + 0 ≤ _)⟩)
      dsimp only [Pt.U, Pt.locs, Pt.cells, Pt.slots] at X32 l32 y32 z32 st32 hQ32
      subst l32 y32 z32
      obtain ⟨mr_32, rfl, N32q, eh32, pr32_0⟩ := hQ32
      have N32 := Fr.app N31 N32q
      refine Goes.go st32 ?_
      show Goes p e below s _ _ _ T32 (mkF m 146 #[.val (.long x0), .second, .val (.int x1), .val (.long x2), .second, .val (.int x3), .val (.int (0 : Int32)), .val (.int (1 : Int32)), .val (.ref b16), .val (.int (1 : Int32)), .val (.long (x0 + (x1.toInt64))), .second, .unset, .unset] [(.long mr_32)])
      refine own_lstore X32 hx 148 rfl #[.val (.long x0), .second, .val (.int x1), .val (.long x2), .second, .val (.int x3), .val (.int (0 : Int32)), .val (.int (1 : Int32)), .val (.ref b16), .val (.int (1 : Int32)), .val (.long (x0 + (x1.toInt64))), .second, .val (.long mr_32), .second] (hb hby at_146) rfl ?_
      refine own_aload X32 hx 150 rfl (hb hby at_148) rfl rfl ?_
      refine own_lload X32 hx 152 rfl (hb hby at_150) rfl ?_
      obtain ⟨cq33, kq33, q33a, q33b, q33c⟩ := isOf hZ eh32 f30
      obtain ⟨_, _, ⟨T33, L33, k33, n33⟩, -, X33, ⟨Lc33, hQ33, l33, y33, z33⟩, st33⟩ := X32.virtualBack hx (y := (⟨"com/example/pooler/pooler/pool/Backoff", "delay", "(J)J"⟩ : MethodName)) (z := (⟨"com/example/pooler/pooler/pool/Backoff", "delay", "(J)J"⟩ : MethodName)) hown (mvT hZ (hw _ (List.mem_of_getElem? (i := 36) rfl))) (mvT hZ (hw _ (List.mem_of_getElem? (i := 37) rfl))) (notFace_of_selects (args := #[]) (mvT hZ (hw _ (List.mem_of_getElem? (i := 39) rfl)))) (mvT hZ (hw _ (List.mem_of_getElem? (i := 39) rfl))) (mvT hZ (hw _ (List.mem_of_getElem? (i := 38) rfl))) (by decide) (backOf (W := 0) (rmde1 l Z a0 hw [] b16 (x0 + (x1.toInt64)) x0 T27.heap n0 Z27 f30 f28 f29 f27_0 f27_1 f27_2) hZ (hw _ (List.mem_of_getElem? (i := 40) rfl)) (hw _ (List.mem_of_getElem? (i := 3) rfl)) (by decide) (by decide)) q33a q33c (g := (mkF m 152 #[.val (.long x0), .second, .val (.int x1), .val (.long x2), .second, .val (.int x3), .val (.int (0 : Int32)), .val (.int (1 : Int32)), .val (.ref b16), .val (.int (1 : Int32)), .val (.long (x0 + (x1.toInt64))), .second, .val (.long mr_32), .second] [(.long (x0 + (x1.toInt64))), (.ref b16)])) rfl (by rw [hml]; rfl) (Steps.refl _) (argsL := [(.long (x0 + (x1.toInt64)))]) (rest := []) (lenOf own_pd5 rfl) rfl (by show 2 * 0 + _ ≤ _; exact Nat.le_of_eq rfl) (hb hby at_152) (fun _ _ => ⟨rfl, eh32, (by decide : 1 + 0 ≤ _), (by decide : 3 + 0 ≤ _)⟩)
      dsimp only [Pt.U, Pt.locs, Pt.cells, Pt.slots] at X33 l33 y33 z33 st33 hQ33
      subst l33 y33 z33
      obtain ⟨br_33, rfl, N33q, eh33, pr33_0⟩ := hQ33
      have N33 := Fr.app N32 N33q
      refine Goes.tr st33 ?_
      show Goes p e below s _ _ _ T33 (mkF m 155 #[.val (.long x0), .second, .val (.int x1), .val (.long x2), .second, .val (.int x3), .val (.int (0 : Int32)), .val (.int (1 : Int32)), .val (.ref b16), .val (.int (1 : Int32)), .val (.long (x0 + (x1.toInt64))), .second, .val (.long mr_32), .second] [(.long br_33)])
      refine own_lload X33 hx 157 rfl (hb hby at_155) rfl ?_
      refine own_lcmp X33 hx 158 rfl (hb hby at_157) ?_
      refine own_ifN X33 hx 161 (hb hby at_158) (Lteq (own_fin pr33_0 pr32_0 : br_33 = mr_32)).2 rfl ?_
      refine own_iconst X33 hx 162 rfl (1 : Int32) (hb hby at_161) (by decide) ?_
      refine own_goto X33 hx 166 (hb hby at_162) (by decide) (by decide) ?_
      refine own_retZ X33 hx hlk Bd.returns (by decide) (hb hby at_166) (by decide) (by decide) eh33 ?_
      exact ⟨rfl, N33⟩
  · refine own_istore X0 hx 10 rfl #[.val (.long x0), .second, .val (.int x1), .val (.long x2), .second, .val (.int x3), .val (.int (1 : Int32)), .unset, .unset, .unset, .unset, .unset, .unset, .unset] (hb hby at_8) rfl ?_
    refine own_iload X0 hx 12 rfl (hb hby at_10) rfl ?_
    refine own_bipush X0 hx 14 rfl (8 : Int32) (hb hby at_12) (by decide) ?_
    refine own_iushr X0 hx 15 rfl (hb hby at_14) rfl ?_
    refine own_iconst X0 hx 16 rfl (1 : Int32) (hb hby at_15) (by decide) ?_
    refine own_iand X0 hx 17 rfl (hb hby at_16) rfl ?_
    by_cases hc17_34 : (((x3.toUInt32 >>> ((8 : Int32) &&& 31).toUInt32).toInt32) &&& (1 : Int32)) = (0 : Int32)
    · refine own_ifY X0 hx 24 (hb hby at_17) ((if0 _ _).trans (teq hc17_34).1) (by decide) (by decide) ?_
      refine own_iconst X0 hx 25 rfl (0 : Int32) (hb hby at_24) (by decide) ?_
      refine own_istore X0 hx 27 rfl #[.val (.long x0), .second, .val (.int x1), .val (.long x2), .second, .val (.int x3), .val (.int (1 : Int32)), .val (.int (0 : Int32)), .unset, .unset, .unset, .unset, .unset, .unset] (hb hby at_25) rfl ?_
      obtain ⟨T35, h35, X35, e35, E35, A35, D35, -, st35⟩ := newO X0 hx hZ hown (hw _ (List.mem_of_getElem? (i := 1) rfl)) (hw _ (List.mem_of_getElem? (i := 2) rfl)) (hw _ (List.mem_of_getElem? (i := 3) rfl)) e0 (g := (mkF m 27 #[.val (.long x0), .second, .val (.int x1), .val (.long x2), .second, .val (.int x3), .val (.int (1 : Int32)), .val (.int (0 : Int32)), .unset, .unset, .unset, .unset, .unset, .unset] [])) rfl (hb hby at_27) (by decide) (by decide)
      obtain ⟨b35, g35⟩ : ∃ z, z = h0.size := ⟨_, rfl⟩
      rw [← g35] at A35 D35 st35
      have G35 : n0 ≤ b35 := Nat.le_trans Z0 (Nat.le_of_eq g35.symm)
      have H35 : h0.size ≤ b35 := Nat.le_trans K0.1 (Nat.le_of_eq g35.symm)
      have f36 := S_y_SHORTEST.ext E35
      have f37 := S_y_LONGEST.ext E35
      have K35 := K0.ext E35
      have Z35 := Nat.le_trans Z0 E35.1
      have f38 : Fld Z h35 b35 "com/example/pooler/pooler/pool/Backoff" "tried" "Z" (.int (0 : Int32)) := D35 (Or.inl (hw _ (List.mem_of_getElem? (i := 20) rfl))) (ty := .boolean) (by decide)
      have f39 : Fld Z h35 b35 "com/example/pooler/pooler/pool/Backoff" "endedAt" "J" (.long (0 : Int64)) := D35 (Or.inl (hw _ (List.mem_of_getElem? (i := 22) rfl))) (ty := .long) (by decide)
      have f40 : Fld Z h35 b35 "com/example/pooler/pooler/pool/Backoff" "failuresInARow" "I" (.int (0 : Int32)) := D35 (Or.inl (hw _ (List.mem_of_getElem? (i := 24) rfl))) (ty := .int) (by decide)
      refine Goes.go st35 ?_
      show Goes p e below s _ _ _ T35 (mkF m 30 #[.val (.long x0), .second, .val (.int x1), .val (.long x2), .second, .val (.int x3), .val (.int (1 : Int32)), .val (.int (0 : Int32)), .unset, .unset, .unset, .unset, .unset, .unset] [(.ref b35)])
      refine own_dup X35 hx 31 rfl (hb hby at_30) rfl ?_
      obtain ⟨_, _, ⟨T41, L41, k41, n41⟩, -, X41, ⟨Lc41, hQ41, l41, y41, z41⟩, st41⟩ := X35.specialBack hx (y := (⟨"com/example/pooler/pooler/pool/Backoff", "<init>", "()V"⟩ : MethodName)) rfl hown (mvT hZ (hw _ (List.mem_of_getElem? (i := 4) rfl))) (mvT hZ (hw _ (List.mem_of_getElem? (i := 5) rfl))) (mvT hZ (hw _ (List.mem_of_getElem? (i := 6) rfl))) (by decide) (backOf (W := 1) (rm1 l Z a0 hw [] b35 h35 n0 Z35 ) hZ (hw _ (List.mem_of_getElem? (i := 6) rfl)) (hw _ (List.mem_of_getElem? (i := 3) rfl)) (by decide) (by decide)) (g := (mkF m 31 #[.val (.long x0), .second, .val (.int x1), .val (.long x2), .second, .val (.int x3), .val (.int (1 : Int32)), .val (.int (0 : Int32)), .unset, .unset, .unset, .unset, .unset, .unset] [(.ref b35), (.ref b35)])) rfl (by rw [hml]; rfl) (Steps.refl _) (a := b35) (argsL := []) (rest := [(.ref b35)]) (lenOf own_pd3 rfl) rfl (by show 2 * 0 + _ ≤ _; exact Nat.le_of_eq rfl) (hb hby at_31) (fun _ _ => ⟨rfl, e35, (by decide : 1 + 0 ≤ _), (by decide : 3 + 0 ≤ _)⟩)
      dsimp only [Pt.U, Pt.locs, Pt.cells, Pt.slots] at X41 l41 y41 z41 st41 hQ41
      subst l41 y41 z41
      obtain ⟨rfl, N41q, eh41⟩ := hQ41
      have N41 := Fr.app N0 N41q
      refine Goes.tr st41 ?_
      show Goes p e below s _ _ _ T41 (mkF m 34 #[.val (.long x0), .second, .val (.int x1), .val (.long x2), .second, .val (.int x3), .val (.int (1 : Int32)), .val (.int (0 : Int32)), .unset, .unset, .unset, .unset, .unset, .unset] [(.ref b35)])
      refine own_astore X41 hx 36 rfl #[.val (.long x0), .second, .val (.int x1), .val (.long x2), .second, .val (.int x3), .val (.int (1 : Int32)), .val (.int (0 : Int32)), .val (.ref b35), .unset, .unset, .unset, .unset, .unset] (hb hby at_34) rfl rfl ?_
      refine own_iload X41 hx 38 rfl (hb hby at_36) rfl ?_
      refine own_iconst X41 hx 39 rfl (1 : Int32) (hb hby at_38) (by decide) ?_
      refine own_icmpN X41 hx 42 (hb hby at_39) (flt ((by decide) : ¬ ((1 : Int32) < (1 : Int32)))).1 rfl ?_
      refine own_aload X41 hx 44 rfl (hb hby at_42) rfl rfl ?_
      refine own_lloadN X41 hx 45 rfl (hb hby at_44) rfl ?_
      obtain ⟨cq42, kq42, q42a, q42b, q42c⟩ := isOf hZ eh41 A35
      obtain ⟨_, _, ⟨T42, L42, k42, n42⟩, -, X42, ⟨Lc42, hQ42, l42, y42, z42⟩, st42⟩ := X41.virtualBack hx (y := (⟨"com/example/pooler/pooler/pool/Backoff", "failed", "(J)V"⟩ : MethodName)) (z := (⟨"com/example/pooler/pooler/pool/Backoff", "failed", "(J)V"⟩ : MethodName)) hown (mvT hZ (hw _ (List.mem_of_getElem? (i := 10) rfl))) (mvT hZ (hw _ (List.mem_of_getElem? (i := 11) rfl))) (notFace_of_selects (args := #[]) (mvT hZ (hw _ (List.mem_of_getElem? (i := 13) rfl)))) (mvT hZ (hw _ (List.mem_of_getElem? (i := 13) rfl))) (mvT hZ (hw _ (List.mem_of_getElem? (i := 12) rfl))) (by decide) (backOf (W := 0) (rmfa0 l Z a0 hw [] b35 x2 (0 : Int32) (0 : Int64) h35 n0 Z35 A35 G35 f38 f39 f40) hZ (hw _ (List.mem_of_getElem? (i := 14) rfl)) (hw _ (List.mem_of_getElem? (i := 3) rfl)) (by decide) (by decide)) q42a q42c (g := (mkF m 45 #[.val (.long x0), .second, .val (.int x1), .val (.long x2), .second, .val (.int x3), .val (.int (1 : Int32)), .val (.int (0 : Int32)), .val (.ref b35), .unset, .unset, .unset, .unset, .unset] [(.long x2), (.ref b35)])) rfl (by rw [hml]; rfl) (Steps.refl _) (argsL := [(.long x2)]) (rest := []) (lenOf own_pd0 rfl) rfl (by show 2 * 0 + _ ≤ _; exact Nat.le_of_eq rfl) (hb hby at_45) (fun _ _ => ⟨rfl, eh41, (by decide : 1 + 0 ≤ _), (by decide : 3 + 0 ≤ _)⟩)
      dsimp only [Pt.U, Pt.locs, Pt.cells, Pt.slots] at X42 l42 y42 z42 st42 hQ42
      subst l42 y42 z42
      obtain ⟨rfl, N42q, K42q, f42_0, f42_1, f42_2⟩ := hQ42
      have N42 := Fr.app N41 N42q
      have f43 := own_sta_keep f36 K42q (allS (own_eplain A35) all0)
      have f44 := own_sta_keep f37 K42q (allS (own_eplain A35) all0)
      have f45 := A35.keep K42q
      have K42 := K35.trans K42q (allS (Or.inr H35) all0)
      have Z42 := Nat.le_trans Z35 K42q.1
      refine Goes.tr st42 ?_
      show Goes p e below s _ _ _ T42 (mkF m 48 #[.val (.long x0), .second, .val (.int x1), .val (.long x2), .second, .val (.int x3), .val (.int (1 : Int32)), .val (.int (0 : Int32)), .val (.ref b35), .unset, .unset, .unset, .unset, .unset] [])
      refine own_iload X42 hx 50 rfl (hb hby at_48) rfl ?_
      refine own_iconst X42 hx 51 rfl (2 : Int32) (hb hby at_50) (by decide) ?_
      refine own_icmpY X42 hx 60 (hb hby at_51) (tlt ((by decide) : (1 : Int32) < (2 : Int32))).1 (by decide) (by decide) ?_
      refine own_iload X42 hx 62 rfl (hb hby at_60) rfl ?_
      refine own_iconst X42 hx 63 rfl (3 : Int32) (hb hby at_62) (by decide) ?_
      refine own_icmpY X42 hx 72 (hb hby at_63) (tlt ((by decide) : (1 : Int32) < (3 : Int32))).1 (by decide) (by decide) ?_
      refine own_iload X42 hx 74 rfl (hb hby at_72) rfl ?_
      refine own_iconst X42 hx 75 rfl (4 : Int32) (hb hby at_74) (by decide) ?_
      refine own_icmpY X42 hx 84 (hb hby at_75) (tlt ((by decide) : (1 : Int32) < (4 : Int32))).1 (by decide) (by decide) ?_
      refine own_iload X42 hx 86 rfl (hb hby at_84) rfl ?_
      refine own_iconst X42 hx 87 rfl (5 : Int32) (hb hby at_86) (by decide) ?_
      refine own_icmpY X42 hx 96 (hb hby at_87) (tlt ((by decide) : (1 : Int32) < (5 : Int32))).1 (by decide) (by decide) ?_
      refine own_iload X42 hx 98 rfl (hb hby at_96) rfl ?_
      refine own_ifY X42 hx 107 (hb hby at_98) ((if0 _ _).trans (teq ((by decide) : (0 : Int32) = (0 : Int32))).1) (by decide) (by decide) ?_
      refine own_aload X42 hx 109 rfl (hb hby at_107) rfl rfl ?_
      refine own_lloadN X42 hx 110 rfl (hb hby at_109) rfl ?_
      obtain ⟨cq46, kq46, q46a, q46b, q46c⟩ := isOf hZ rfl f45
      obtain ⟨_, _, ⟨T46, L46, k46, n46⟩, -, X46, ⟨Lc46, hQ46, l46, y46, z46⟩, st46⟩ := X42.virtualBack hx (y := (⟨"com/example/pooler/pooler/pool/Backoff", "failed", "(J)V"⟩ : MethodName)) (z := (⟨"com/example/pooler/pooler/pool/Backoff", "failed", "(J)V"⟩ : MethodName)) hown (mvT hZ (hw _ (List.mem_of_getElem? (i := 10) rfl))) (mvT hZ (hw _ (List.mem_of_getElem? (i := 11) rfl))) (notFace_of_selects (args := #[]) (mvT hZ (hw _ (List.mem_of_getElem? (i := 13) rfl)))) (mvT hZ (hw _ (List.mem_of_getElem? (i := 13) rfl))) (mvT hZ (hw _ (List.mem_of_getElem? (i := 12) rfl))) (by decide) (backOf (W := 0) (rmfa1 l Z a0 hw [] b35 x0 (1 : Int32) x2 T42.heap n0 Z42 f45 G35 f42_0 f42_1 f42_2) hZ (hw _ (List.mem_of_getElem? (i := 14) rfl)) (hw _ (List.mem_of_getElem? (i := 3) rfl)) (by decide) (by decide)) q46a q46c (g := (mkF m 110 #[.val (.long x0), .second, .val (.int x1), .val (.long x2), .second, .val (.int x3), .val (.int (1 : Int32)), .val (.int (0 : Int32)), .val (.ref b35), .unset, .unset, .unset, .unset, .unset] [(.long x0), (.ref b35)])) rfl (by rw [hml]; rfl) (Steps.refl _) (argsL := [(.long x0)]) (rest := []) (lenOf own_pd0 rfl) rfl (by show 2 * 0 + _ ≤ _; exact Nat.le_of_eq rfl) (hb hby at_110) (fun _ _ => ⟨rfl, rfl, (by decide : 1 + 0 ≤ _), (by decide : 3 + 0 ≤ _)⟩)
      dsimp only [Pt.U, Pt.locs, Pt.cells, Pt.slots] at X46 l46 y46 z46 st46 hQ46
      subst l46 y46 z46
      obtain ⟨rfl, N46q, K46q, f46_0, f46_1, f46_2⟩ := hQ46
      have N46 := Fr.app N42 N46q
      have f47 := own_sta_keep f43 K46q (allS (own_eplain f45) all0)
      have f48 := own_sta_keep f44 K46q (allS (own_eplain f45) all0)
      have f49 := f45.keep K46q
      have K46 := K42.trans K46q (allS (Or.inr H35) all0)
      have Z46 := Nat.le_trans Z42 K46q.1
      refine Goes.tr st46 ?_
      show Goes p e below s _ _ _ T46 (mkF m 113 #[.val (.long x0), .second, .val (.int x1), .val (.long x2), .second, .val (.int x3), .val (.int (1 : Int32)), .val (.int (0 : Int32)), .val (.ref b35), .unset, .unset, .unset, .unset, .unset] [])
      refine own_iload X46 hx 115 rfl (hb hby at_113) rfl ?_
      refine own_ifY X46 hx 122 (hb hby at_115) ((if0 _ _).trans (teq ((by decide) : (0 : Int32) = (0 : Int32))).1) (by decide) (by decide) ?_
      refine own_iload X46 hx 124 rfl (hb hby at_122) rfl ?_
      refine own_iconst X46 hx 125 rfl (1 : Int32) (hb hby at_124) (by decide) ?_
      refine own_iadd X46 hx 126 rfl (z := (2 : Int32)) (hb hby at_125) (by decide) ?_
      refine own_istore X46 hx 128 rfl #[.val (.long x0), .second, .val (.int x1), .val (.long x2), .second, .val (.int x3), .val (.int (1 : Int32)), .val (.int (0 : Int32)), .val (.ref b35), .val (.int (2 : Int32)), .unset, .unset, .unset, .unset] (hb hby at_126) rfl ?_
      refine own_lloadN X46 hx 129 rfl (hb hby at_128) rfl ?_
      refine own_iloadN X46 hx 130 rfl (hb hby at_129) rfl ?_
      refine own_i2l X46 hx 131 rfl (hb hby at_130) rfl ?_
      refine own_ladd X46 hx 132 rfl (hb hby at_131) rfl ?_
      refine own_lstore X46 hx 134 rfl #[.val (.long x0), .second, .val (.int x1), .val (.long x2), .second, .val (.int x3), .val (.int (1 : Int32)), .val (.int (0 : Int32)), .val (.ref b35), .val (.int (2 : Int32)), .val (.long (x0 + (x1.toInt64))), .second, .unset, .unset] (hb hby at_132) rfl ?_
      refine own_lconst X46 hx 135 rfl (0 : Int64) (hb hby at_134) (by decide) ?_
      refine own_iload X46 hx 137 rfl (hb hby at_135) rfl ?_
      obtain ⟨_, _, ⟨T50, L50, k50, n50⟩, -, X50, ⟨Lc50, hQ50, l50, y50, z50⟩, st50⟩ := Jvm.LawKit.callS X46 hx (y := (⟨"com/example/pooler/pooler/pool/BackoffFailedPinLaw", "expectedPause", "(I)J"⟩ : MethodName)) hown (mvT hZ (hw _ (List.mem_of_getElem? (i := 25) rfl))) (mvT hZ (hw _ (List.mem_of_getElem? (i := 26) rfl))) (mvT hZ (hw _ (List.mem_of_getElem? (i := 27) rfl))) (mvT hZ (hw _ (List.mem_of_getElem? (i := 28) rfl))) (by decide) (backOf (W := 2) (rmep2 l Z a0 hw []  T46.heap n0 Z46 ) hZ (hw _ (List.mem_of_getElem? (i := 28) rfl)) (hw _ (List.mem_of_getElem? (i := 27) rfl)) (by decide) (by decide)) (g := (mkF m 137 #[.val (.long x0), .second, .val (.int x1), .val (.long x2), .second, .val (.int x3), .val (.int (1 : Int32)), .val (.int (0 : Int32)), .val (.ref b35), .val (.int (2 : Int32)), .val (.long (x0 + (x1.toInt64))), .second, .unset, .unset] [(.int (2 : Int32)), (.long (0 : Int64))])) rfl (by rw [hml]; rfl) (argsL := [(.int (2 : Int32))]) (rest := [(.long (0 : Int64))]) (lenOf own_pd4 rfl) rfl (by show 2 * 0 + _ ≤ _; exact Nat.le_of_eq rfl) (hb hby at_137) (fun _ _ => ⟨rfl, rfl, (by decide : 1 + 0 ≤ _), (by decide : 3 + 0 ≤ _)⟩)
      dsimp only [Pt.U, Pt.locs, Pt.cells, Pt.slots] at X50 l50 y50 z50 st50 hQ50
      subst l50 y50 z50
      obtain ⟨rfl, N50q, eh50⟩ := hQ50
      have N50 := Fr.app N46 N50q
      refine Goes.go st50 ?_
      show Goes p e below s _ _ _ T50 (mkF m 140 #[.val (.long x0), .second, .val (.int x1), .val (.long x2), .second, .val (.int x3), .val (.int (1 : Int32)), .val (.int (0 : Int32)), .val (.ref b35), .val (.int (2 : Int32)), .val (.long (x0 + (x1.toInt64))), .second, .unset, .unset] [(.long (200000000 : Int64)), (.long (0 : Int64))])
      refine own_iloadN X50 hx 141 rfl (hb hby at_140) rfl ?_
      refine own_i2l X50 hx 142 rfl (hb hby at_141) rfl ?_
      refine own_lsub X50 hx 143 rfl (hb hby at_142) rfl ?_
      obtain ⟨_, _, ⟨T51, L51, k51, n51⟩, -, X51, ⟨Lc51, hQ51, l51, y51, z51⟩, st51⟩ := Jvm.LawKit.callS X50 hx (y := (⟨"java/lang/Math", "max", "(JJ)J"⟩ : MethodName)) hown (mvT hZ (hw _ (List.mem_of_getElem? (i := 32) rfl))) (mvT hZ (hw _ (List.mem_of_getElem? (i := 33) rfl))) (mvT hZ (hw _ (List.mem_of_getElem? (i := 34) rfl))) (mvT hZ (hw _ (List.mem_of_getElem? (i := 35) rfl))) (by decide) (backOf (W := 0) (rm6 l Z a0 hw [] (0 : Int64) ((200000000 : Int64) - (x1.toInt64)) T46.heap n0 Z46 ) hZ (hw _ (List.mem_of_getElem? (i := 35) rfl)) (hw _ (List.mem_of_getElem? (i := 34) rfl)) (by decide) (by decide)) (g := (mkF m 143 #[.val (.long x0), .second, .val (.int x1), .val (.long x2), .second, .val (.int x3), .val (.int (1 : Int32)), .val (.int (0 : Int32)), .val (.ref b35), .val (.int (2 : Int32)), .val (.long (x0 + (x1.toInt64))), .second, .unset, .unset] [(.long ((200000000 : Int64) - (x1.toInt64))), (.long (0 : Int64))])) rfl (by rw [hml]; rfl) (argsL := [(.long (0 : Int64)), (.long ((200000000 : Int64) - (x1.toInt64)))]) (rest := []) (lenOf own_pd1 rfl) rfl (by show 2 * 0 + _ ≤ _; exact Nat.le_of_eq rfl) (hb hby at_143) (fun _ _ => ⟨rfl, eh50, (by decide : 1 + 0 ≤ _), (by decide : 3 + 0 ≤ _)⟩)
      dsimp only [Pt.U, Pt.locs, Pt.cells, Pt.slots] at X51 l51 y51 z51 st51 hQ51
      subst l51 y51 z51
      obtain ⟨mr_51, rfl, N51q, eh51, pr51_0⟩ := hQ51
      have N51 := Fr.app N50 N51q
      refine Goes.go st51 ?_
      show Goes p e below s _ _ _ T51 (mkF m 146 #[.val (.long x0), .second, .val (.int x1), .val (.long x2), .second, .val (.int x3), .val (.int (1 : Int32)), .val (.int (0 : Int32)), .val (.ref b35), .val (.int (2 : Int32)), .val (.long (x0 + (x1.toInt64))), .second, .unset, .unset] [(.long mr_51)])
      refine own_lstore X51 hx 148 rfl #[.val (.long x0), .second, .val (.int x1), .val (.long x2), .second, .val (.int x3), .val (.int (1 : Int32)), .val (.int (0 : Int32)), .val (.ref b35), .val (.int (2 : Int32)), .val (.long (x0 + (x1.toInt64))), .second, .val (.long mr_51), .second] (hb hby at_146) rfl ?_
      refine own_aload X51 hx 150 rfl (hb hby at_148) rfl rfl ?_
      refine own_lload X51 hx 152 rfl (hb hby at_150) rfl ?_
      obtain ⟨cq52, kq52, q52a, q52b, q52c⟩ := isOf hZ eh51 f49
      obtain ⟨_, _, ⟨T52, L52, k52, n52⟩, -, X52, ⟨Lc52, hQ52, l52, y52, z52⟩, st52⟩ := X51.virtualBack hx (y := (⟨"com/example/pooler/pooler/pool/Backoff", "delay", "(J)J"⟩ : MethodName)) (z := (⟨"com/example/pooler/pooler/pool/Backoff", "delay", "(J)J"⟩ : MethodName)) hown (mvT hZ (hw _ (List.mem_of_getElem? (i := 36) rfl))) (mvT hZ (hw _ (List.mem_of_getElem? (i := 37) rfl))) (notFace_of_selects (args := #[]) (mvT hZ (hw _ (List.mem_of_getElem? (i := 39) rfl)))) (mvT hZ (hw _ (List.mem_of_getElem? (i := 39) rfl))) (mvT hZ (hw _ (List.mem_of_getElem? (i := 38) rfl))) (by decide) (backOf (W := 0) (rmde2 l Z a0 hw [] b35 (x0 + (x1.toInt64)) x0 T46.heap n0 Z46 f49 f47 f48 f46_0 f46_1 f46_2) hZ (hw _ (List.mem_of_getElem? (i := 40) rfl)) (hw _ (List.mem_of_getElem? (i := 3) rfl)) (by decide) (by decide)) q52a q52c (g := (mkF m 152 #[.val (.long x0), .second, .val (.int x1), .val (.long x2), .second, .val (.int x3), .val (.int (1 : Int32)), .val (.int (0 : Int32)), .val (.ref b35), .val (.int (2 : Int32)), .val (.long (x0 + (x1.toInt64))), .second, .val (.long mr_51), .second] [(.long (x0 + (x1.toInt64))), (.ref b35)])) rfl (by rw [hml]; rfl) (Steps.refl _) (argsL := [(.long (x0 + (x1.toInt64)))]) (rest := []) (lenOf own_pd5 rfl) rfl (by show 2 * 0 + _ ≤ _; exact Nat.le_of_eq rfl) (hb hby at_152) (fun _ _ => ⟨rfl, eh51, (by decide : 1 + 0 ≤ _), (by decide : 3 + 0 ≤ _)⟩)
      dsimp only [Pt.U, Pt.locs, Pt.cells, Pt.slots] at X52 l52 y52 z52 st52 hQ52
      subst l52 y52 z52
      obtain ⟨br_52, rfl, N52q, eh52, pr52_0⟩ := hQ52
      have N52 := Fr.app N51 N52q
      refine Goes.tr st52 ?_
      show Goes p e below s _ _ _ T52 (mkF m 155 #[.val (.long x0), .second, .val (.int x1), .val (.long x2), .second, .val (.int x3), .val (.int (1 : Int32)), .val (.int (0 : Int32)), .val (.ref b35), .val (.int (2 : Int32)), .val (.long (x0 + (x1.toInt64))), .second, .val (.long mr_51), .second] [(.long br_52)])
      refine own_lload X52 hx 157 rfl (hb hby at_155) rfl ?_
      refine own_lcmp X52 hx 158 rfl (hb hby at_157) ?_
      refine own_ifN X52 hx 161 (hb hby at_158) (Lteq (own_fin pr52_0 pr51_0 : br_52 = mr_51)).2 rfl ?_
      refine own_iconst X52 hx 162 rfl (1 : Int32) (hb hby at_161) (by decide) ?_
      refine own_goto X52 hx 166 (hb hby at_162) (by decide) (by decide) ?_
      refine own_retZ X52 hx hlk Bd.returns (by decide) (hb hby at_166) (by decide) (by decide) eh52 ?_
      exact ⟨rfl, N52⟩
    · refine own_ifN X0 hx 20 (hb hby at_17) ((if0 _ _).trans (feq hc17_34).1) rfl ?_
      refine own_iconst X0 hx 21 rfl (1 : Int32) (hb hby at_20) (by decide) ?_
      refine own_goto X0 hx 25 (hb hby at_21) (by decide) (by decide) ?_
      refine own_istore X0 hx 27 rfl #[.val (.long x0), .second, .val (.int x1), .val (.long x2), .second, .val (.int x3), .val (.int (1 : Int32)), .val (.int (1 : Int32)), .unset, .unset, .unset, .unset, .unset, .unset] (hb hby at_25) rfl ?_
      obtain ⟨T53, h53, X53, e53, E53, A53, D53, -, st53⟩ := newO X0 hx hZ hown (hw _ (List.mem_of_getElem? (i := 1) rfl)) (hw _ (List.mem_of_getElem? (i := 2) rfl)) (hw _ (List.mem_of_getElem? (i := 3) rfl)) e0 (g := (mkF m 27 #[.val (.long x0), .second, .val (.int x1), .val (.long x2), .second, .val (.int x3), .val (.int (1 : Int32)), .val (.int (1 : Int32)), .unset, .unset, .unset, .unset, .unset, .unset] [])) rfl (hb hby at_27) (by decide) (by decide)
      obtain ⟨b53, g53⟩ : ∃ z, z = h0.size := ⟨_, rfl⟩
      rw [← g53] at A53 D53 st53
      have G53 : n0 ≤ b53 := Nat.le_trans Z0 (Nat.le_of_eq g53.symm)
      have H53 : h0.size ≤ b53 := Nat.le_trans K0.1 (Nat.le_of_eq g53.symm)
      have f54 := S_y_SHORTEST.ext E53
      have f55 := S_y_LONGEST.ext E53
      have K53 := K0.ext E53
      have Z53 := Nat.le_trans Z0 E53.1
      have f56 : Fld Z h53 b53 "com/example/pooler/pooler/pool/Backoff" "tried" "Z" (.int (0 : Int32)) := D53 (Or.inl (hw _ (List.mem_of_getElem? (i := 20) rfl))) (ty := .boolean) (by decide)
      have f57 : Fld Z h53 b53 "com/example/pooler/pooler/pool/Backoff" "endedAt" "J" (.long (0 : Int64)) := D53 (Or.inl (hw _ (List.mem_of_getElem? (i := 22) rfl))) (ty := .long) (by decide)
      have f58 : Fld Z h53 b53 "com/example/pooler/pooler/pool/Backoff" "failuresInARow" "I" (.int (0 : Int32)) := D53 (Or.inl (hw _ (List.mem_of_getElem? (i := 24) rfl))) (ty := .int) (by decide)
      refine Goes.go st53 ?_
      show Goes p e below s _ _ _ T53 (mkF m 30 #[.val (.long x0), .second, .val (.int x1), .val (.long x2), .second, .val (.int x3), .val (.int (1 : Int32)), .val (.int (1 : Int32)), .unset, .unset, .unset, .unset, .unset, .unset] [(.ref b53)])
      refine own_dup X53 hx 31 rfl (hb hby at_30) rfl ?_
      obtain ⟨_, _, ⟨T59, L59, k59, n59⟩, -, X59, ⟨Lc59, hQ59, l59, y59, z59⟩, st59⟩ := X53.specialBack hx (y := (⟨"com/example/pooler/pooler/pool/Backoff", "<init>", "()V"⟩ : MethodName)) rfl hown (mvT hZ (hw _ (List.mem_of_getElem? (i := 4) rfl))) (mvT hZ (hw _ (List.mem_of_getElem? (i := 5) rfl))) (mvT hZ (hw _ (List.mem_of_getElem? (i := 6) rfl))) (by decide) (backOf (W := 1) (rm1 l Z a0 hw [] b53 h53 n0 Z53 ) hZ (hw _ (List.mem_of_getElem? (i := 6) rfl)) (hw _ (List.mem_of_getElem? (i := 3) rfl)) (by decide) (by decide)) (g := (mkF m 31 #[.val (.long x0), .second, .val (.int x1), .val (.long x2), .second, .val (.int x3), .val (.int (1 : Int32)), .val (.int (1 : Int32)), .unset, .unset, .unset, .unset, .unset, .unset] [(.ref b53), (.ref b53)])) rfl (by rw [hml]; rfl) (Steps.refl _) (a := b53) (argsL := []) (rest := [(.ref b53)]) (lenOf own_pd3 rfl) rfl (by show 2 * 0 + _ ≤ _; exact Nat.le_of_eq rfl) (hb hby at_31) (fun _ _ => ⟨rfl, e53, (by decide : 1 + 0 ≤ _), (by decide : 3 + 0 ≤ _)⟩)
      dsimp only [Pt.U, Pt.locs, Pt.cells, Pt.slots] at X59 l59 y59 z59 st59 hQ59
      subst l59 y59 z59
      obtain ⟨rfl, N59q, eh59⟩ := hQ59
      have N59 := Fr.app N0 N59q
      refine Goes.tr st59 ?_
      show Goes p e below s _ _ _ T59 (mkF m 34 #[.val (.long x0), .second, .val (.int x1), .val (.long x2), .second, .val (.int x3), .val (.int (1 : Int32)), .val (.int (1 : Int32)), .unset, .unset, .unset, .unset, .unset, .unset] [(.ref b53)])
      refine own_astore X59 hx 36 rfl #[.val (.long x0), .second, .val (.int x1), .val (.long x2), .second, .val (.int x3), .val (.int (1 : Int32)), .val (.int (1 : Int32)), .val (.ref b53), .unset, .unset, .unset, .unset, .unset] (hb hby at_34) rfl rfl ?_
      refine own_iload X59 hx 38 rfl (hb hby at_36) rfl ?_
      refine own_iconst X59 hx 39 rfl (1 : Int32) (hb hby at_38) (by decide) ?_
      refine own_icmpN X59 hx 42 (hb hby at_39) (flt ((by decide) : ¬ ((1 : Int32) < (1 : Int32)))).1 rfl ?_
      refine own_aload X59 hx 44 rfl (hb hby at_42) rfl rfl ?_
      refine own_lloadN X59 hx 45 rfl (hb hby at_44) rfl ?_
      obtain ⟨cq60, kq60, q60a, q60b, q60c⟩ := isOf hZ eh59 A53
      obtain ⟨_, _, ⟨T60, L60, k60, n60⟩, -, X60, ⟨Lc60, hQ60, l60, y60, z60⟩, st60⟩ := X59.virtualBack hx (y := (⟨"com/example/pooler/pooler/pool/Backoff", "failed", "(J)V"⟩ : MethodName)) (z := (⟨"com/example/pooler/pooler/pool/Backoff", "failed", "(J)V"⟩ : MethodName)) hown (mvT hZ (hw _ (List.mem_of_getElem? (i := 10) rfl))) (mvT hZ (hw _ (List.mem_of_getElem? (i := 11) rfl))) (notFace_of_selects (args := #[]) (mvT hZ (hw _ (List.mem_of_getElem? (i := 13) rfl)))) (mvT hZ (hw _ (List.mem_of_getElem? (i := 13) rfl))) (mvT hZ (hw _ (List.mem_of_getElem? (i := 12) rfl))) (by decide) (backOf (W := 0) (rmfa0 l Z a0 hw [] b53 x2 (0 : Int32) (0 : Int64) h53 n0 Z53 A53 G53 f56 f57 f58) hZ (hw _ (List.mem_of_getElem? (i := 14) rfl)) (hw _ (List.mem_of_getElem? (i := 3) rfl)) (by decide) (by decide)) q60a q60c (g := (mkF m 45 #[.val (.long x0), .second, .val (.int x1), .val (.long x2), .second, .val (.int x3), .val (.int (1 : Int32)), .val (.int (1 : Int32)), .val (.ref b53), .unset, .unset, .unset, .unset, .unset] [(.long x2), (.ref b53)])) rfl (by rw [hml]; rfl) (Steps.refl _) (argsL := [(.long x2)]) (rest := []) (lenOf own_pd0 rfl) rfl (by show 2 * 0 + _ ≤ _; exact Nat.le_of_eq rfl) (hb hby at_45) (fun _ _ => ⟨rfl, eh59, (by decide : 1 + 0 ≤ _), (by decide : 3 + 0 ≤ _)⟩)
      dsimp only [Pt.U, Pt.locs, Pt.cells, Pt.slots] at X60 l60 y60 z60 st60 hQ60
      subst l60 y60 z60
      obtain ⟨rfl, N60q, K60q, f60_0, f60_1, f60_2⟩ := hQ60
      have N60 := Fr.app N59 N60q
      have f61 := own_sta_keep f54 K60q (allS (own_eplain A53) all0)
      have f62 := own_sta_keep f55 K60q (allS (own_eplain A53) all0)
      have f63 := A53.keep K60q
      have K60 := K53.trans K60q (allS (Or.inr H53) all0)
      have Z60 := Nat.le_trans Z53 K60q.1
      refine Goes.tr st60 ?_
      show Goes p e below s _ _ _ T60 (mkF m 48 #[.val (.long x0), .second, .val (.int x1), .val (.long x2), .second, .val (.int x3), .val (.int (1 : Int32)), .val (.int (1 : Int32)), .val (.ref b53), .unset, .unset, .unset, .unset, .unset] [])
      refine own_iload X60 hx 50 rfl (hb hby at_48) rfl ?_
      refine own_iconst X60 hx 51 rfl (2 : Int32) (hb hby at_50) (by decide) ?_
      refine own_icmpY X60 hx 60 (hb hby at_51) (tlt ((by decide) : (1 : Int32) < (2 : Int32))).1 (by decide) (by decide) ?_
      refine own_iload X60 hx 62 rfl (hb hby at_60) rfl ?_
      refine own_iconst X60 hx 63 rfl (3 : Int32) (hb hby at_62) (by decide) ?_
      refine own_icmpY X60 hx 72 (hb hby at_63) (tlt ((by decide) : (1 : Int32) < (3 : Int32))).1 (by decide) (by decide) ?_
      refine own_iload X60 hx 74 rfl (hb hby at_72) rfl ?_
      refine own_iconst X60 hx 75 rfl (4 : Int32) (hb hby at_74) (by decide) ?_
      refine own_icmpY X60 hx 84 (hb hby at_75) (tlt ((by decide) : (1 : Int32) < (4 : Int32))).1 (by decide) (by decide) ?_
      refine own_iload X60 hx 86 rfl (hb hby at_84) rfl ?_
      refine own_iconst X60 hx 87 rfl (5 : Int32) (hb hby at_86) (by decide) ?_
      refine own_icmpY X60 hx 96 (hb hby at_87) (tlt ((by decide) : (1 : Int32) < (5 : Int32))).1 (by decide) (by decide) ?_
      refine own_iload X60 hx 98 rfl (hb hby at_96) rfl ?_
      refine own_ifN X60 hx 101 (hb hby at_98) ((if0 _ _).trans (feq ((by decide) : ¬ ((1 : Int32) = (0 : Int32)))).1) rfl ?_
      refine own_aload X60 hx 103 rfl (hb hby at_101) rfl rfl ?_
      refine own_lloadN X60 hx 104 rfl (hb hby at_103) rfl ?_
      obtain ⟨cq64, kq64, q64a, q64b, q64c⟩ := isOf hZ rfl f63
      obtain ⟨_, _, ⟨T64, L64, k64, n64⟩, -, X64, ⟨Lc64, hQ64, l64, y64, z64⟩, st64⟩ := X60.virtualBack hx (y := (⟨"com/example/pooler/pooler/pool/Backoff", "opened", "(J)V"⟩ : MethodName)) (z := (⟨"com/example/pooler/pooler/pool/Backoff", "opened", "(J)V"⟩ : MethodName)) hown (mvT hZ (hw _ (List.mem_of_getElem? (i := 55) rfl))) (mvT hZ (hw _ (List.mem_of_getElem? (i := 56) rfl))) (notFace_of_selects (args := #[]) (mvT hZ (hw _ (List.mem_of_getElem? (i := 58) rfl)))) (mvT hZ (hw _ (List.mem_of_getElem? (i := 58) rfl))) (mvT hZ (hw _ (List.mem_of_getElem? (i := 57) rfl))) (by decide) (backOf (W := 0) (rm10 l Z a0 hw [] b53 x2 (1 : Int32) x2 (1 : Int32) T60.heap n0 Z60 f63 G53 f60_0 f60_1 f60_2) hZ (hw _ (List.mem_of_getElem? (i := 59) rfl)) (hw _ (List.mem_of_getElem? (i := 3) rfl)) (by decide) (by decide)) q64a q64c (g := (mkF m 104 #[.val (.long x0), .second, .val (.int x1), .val (.long x2), .second, .val (.int x3), .val (.int (1 : Int32)), .val (.int (1 : Int32)), .val (.ref b53), .unset, .unset, .unset, .unset, .unset] [(.long x2), (.ref b53)])) rfl (by rw [hml]; rfl) (Steps.refl _) (argsL := [(.long x2)]) (rest := []) (lenOf own_pd0 rfl) rfl (by show 2 * 0 + _ ≤ _; exact Nat.le_of_eq rfl) (hb hby at_104) (fun _ _ => ⟨rfl, rfl, (by decide : 1 + 0 ≤ _), (by decide : 3 + 0 ≤ _)⟩)
      dsimp only [Pt.U, Pt.locs, Pt.cells, Pt.slots] at X64 l64 y64 z64 st64 hQ64
      subst l64 y64 z64
      obtain ⟨rfl, N64q, K64q, f64_0, f64_1, f64_2⟩ := hQ64
      have N64 := Fr.app N60 N64q
      have f65 := own_sta_keep f61 K64q (allS (own_eplain f63) all0)
      have f66 := own_sta_keep f62 K64q (allS (own_eplain f63) all0)
      have f67 := f63.keep K64q
      have K64 := K60.trans K64q (allS (Or.inr H53) all0)
      have Z64 := Nat.le_trans Z60 K64q.1
      refine Goes.tr st64 ?_
      show Goes p e below s _ _ _ T64 (mkF m 107 #[.val (.long x0), .second, .val (.int x1), .val (.long x2), .second, .val (.int x3), .val (.int (1 : Int32)), .val (.int (1 : Int32)), .val (.ref b53), .unset, .unset, .unset, .unset, .unset] [])
      refine own_aload X64 hx 109 rfl (hb hby at_107) rfl rfl ?_
      refine own_lloadN X64 hx 110 rfl (hb hby at_109) rfl ?_
      obtain ⟨cq68, kq68, q68a, q68b, q68c⟩ := isOf hZ rfl f67
      obtain ⟨_, _, ⟨T68, L68, k68, n68⟩, -, X68, ⟨Lc68, hQ68, l68, y68, z68⟩, st68⟩ := X64.virtualBack hx (y := (⟨"com/example/pooler/pooler/pool/Backoff", "failed", "(J)V"⟩ : MethodName)) (z := (⟨"com/example/pooler/pooler/pool/Backoff", "failed", "(J)V"⟩ : MethodName)) hown (mvT hZ (hw _ (List.mem_of_getElem? (i := 10) rfl))) (mvT hZ (hw _ (List.mem_of_getElem? (i := 11) rfl))) (notFace_of_selects (args := #[]) (mvT hZ (hw _ (List.mem_of_getElem? (i := 13) rfl)))) (mvT hZ (hw _ (List.mem_of_getElem? (i := 13) rfl))) (mvT hZ (hw _ (List.mem_of_getElem? (i := 12) rfl))) (by decide) (backOf (W := 0) (rmfa0 l Z a0 hw [] b53 x0 (1 : Int32) x2 T64.heap n0 Z64 f67 G53 f64_0 f64_1 f64_2) hZ (hw _ (List.mem_of_getElem? (i := 14) rfl)) (hw _ (List.mem_of_getElem? (i := 3) rfl)) (by decide) (by decide)) q68a q68c (g := (mkF m 110 #[.val (.long x0), .second, .val (.int x1), .val (.long x2), .second, .val (.int x3), .val (.int (1 : Int32)), .val (.int (1 : Int32)), .val (.ref b53), .unset, .unset, .unset, .unset, .unset] [(.long x0), (.ref b53)])) rfl (by rw [hml]; rfl) (Steps.refl _) (argsL := [(.long x0)]) (rest := []) (lenOf own_pd0 rfl) rfl (by show 2 * 0 + _ ≤ _; exact Nat.le_of_eq rfl) (hb hby at_110) (fun _ _ => ⟨rfl, rfl, (by decide : 1 + 0 ≤ _), (by decide : 3 + 0 ≤ _)⟩)
      dsimp only [Pt.U, Pt.locs, Pt.cells, Pt.slots] at X68 l68 y68 z68 st68 hQ68
      subst l68 y68 z68
      obtain ⟨rfl, N68q, K68q, f68_0, f68_1, f68_2⟩ := hQ68
      have N68 := Fr.app N64 N68q
      have f69 := own_sta_keep f65 K68q (allS (own_eplain f67) all0)
      have f70 := own_sta_keep f66 K68q (allS (own_eplain f67) all0)
      have f71 := f67.keep K68q
      have K68 := K64.trans K68q (allS (Or.inr H53) all0)
      have Z68 := Nat.le_trans Z64 K68q.1
      refine Goes.tr st68 ?_
      show Goes p e below s _ _ _ T68 (mkF m 113 #[.val (.long x0), .second, .val (.int x1), .val (.long x2), .second, .val (.int x3), .val (.int (1 : Int32)), .val (.int (1 : Int32)), .val (.ref b53), .unset, .unset, .unset, .unset, .unset] [])
      refine own_iload X68 hx 115 rfl (hb hby at_113) rfl ?_
      refine own_ifN X68 hx 118 (hb hby at_115) ((if0 _ _).trans (feq ((by decide) : ¬ ((1 : Int32) = (0 : Int32)))).1) rfl ?_
      refine own_iconst X68 hx 119 rfl (1 : Int32) (hb hby at_118) (by decide) ?_
      refine own_goto X68 hx 126 (hb hby at_119) (by decide) (by decide) ?_
      refine own_istore X68 hx 128 rfl #[.val (.long x0), .second, .val (.int x1), .val (.long x2), .second, .val (.int x3), .val (.int (1 : Int32)), .val (.int (1 : Int32)), .val (.ref b53), .val (.int (1 : Int32)), .unset, .unset, .unset, .unset] (hb hby at_126) rfl ?_
      refine own_lloadN X68 hx 129 rfl (hb hby at_128) rfl ?_
      refine own_iloadN X68 hx 130 rfl (hb hby at_129) rfl ?_
      refine own_i2l X68 hx 131 rfl (hb hby at_130) rfl ?_
      refine own_ladd X68 hx 132 rfl (hb hby at_131) rfl ?_
      refine own_lstore X68 hx 134 rfl #[.val (.long x0), .second, .val (.int x1), .val (.long x2), .second, .val (.int x3), .val (.int (1 : Int32)), .val (.int (1 : Int32)), .val (.ref b53), .val (.int (1 : Int32)), .val (.long (x0 + (x1.toInt64))), .second, .unset, .unset] (hb hby at_132) rfl ?_
      refine own_lconst X68 hx 135 rfl (0 : Int64) (hb hby at_134) (by decide) ?_
      refine own_iload X68 hx 137 rfl (hb hby at_135) rfl ?_
      obtain ⟨_, _, ⟨T72, L72, k72, n72⟩, -, X72, ⟨Lc72, hQ72, l72, y72, z72⟩, st72⟩ := Jvm.LawKit.callS X68 hx (y := (⟨"com/example/pooler/pooler/pool/BackoffFailedPinLaw", "expectedPause", "(I)J"⟩ : MethodName)) hown (mvT hZ (hw _ (List.mem_of_getElem? (i := 25) rfl))) (mvT hZ (hw _ (List.mem_of_getElem? (i := 26) rfl))) (mvT hZ (hw _ (List.mem_of_getElem? (i := 27) rfl))) (mvT hZ (hw _ (List.mem_of_getElem? (i := 28) rfl))) (by decide) (backOf (W := 2) (rmep1 l Z a0 hw []  T68.heap n0 Z68 ) hZ (hw _ (List.mem_of_getElem? (i := 28) rfl)) (hw _ (List.mem_of_getElem? (i := 27) rfl)) (by decide) (by decide)) (g := (mkF m 137 #[.val (.long x0), .second, .val (.int x1), .val (.long x2), .second, .val (.int x3), .val (.int (1 : Int32)), .val (.int (1 : Int32)), .val (.ref b53), .val (.int (1 : Int32)), .val (.long (x0 + (x1.toInt64))), .second, .unset, .unset] [(.int (1 : Int32)), (.long (0 : Int64))])) rfl (by rw [hml]; rfl) (argsL := [(.int (1 : Int32))]) (rest := [(.long (0 : Int64))]) (lenOf own_pd4 rfl) rfl (by show 2 * 0 + _ ≤ _; exact Nat.le_of_eq rfl) (hb hby at_137) (fun _ _ => ⟨rfl, rfl, (by decide : 1 + 0 ≤ _), (by decide : 3 + 0 ≤ _)⟩)
      dsimp only [Pt.U, Pt.locs, Pt.cells, Pt.slots] at X72 l72 y72 z72 st72 hQ72
      subst l72 y72 z72
      obtain ⟨rfl, N72q, eh72⟩ := hQ72
      have N72 := Fr.app N68 N72q
      refine Goes.go st72 ?_
      show Goes p e below s _ _ _ T72 (mkF m 140 #[.val (.long x0), .second, .val (.int x1), .val (.long x2), .second, .val (.int x3), .val (.int (1 : Int32)), .val (.int (1 : Int32)), .val (.ref b53), .val (.int (1 : Int32)), .val (.long (x0 + (x1.toInt64))), .second, .unset, .unset] [(.long (100000000 : Int64)), (.long (0 : Int64))])
      refine own_iloadN X72 hx 141 rfl (hb hby at_140) rfl ?_
      refine own_i2l X72 hx 142 rfl (hb hby at_141) rfl ?_
      refine own_lsub X72 hx 143 rfl (hb hby at_142) rfl ?_
      obtain ⟨_, _, ⟨T73, L73, k73, n73⟩, -, X73, ⟨Lc73, hQ73, l73, y73, z73⟩, st73⟩ := Jvm.LawKit.callS X72 hx (y := (⟨"java/lang/Math", "max", "(JJ)J"⟩ : MethodName)) hown (mvT hZ (hw _ (List.mem_of_getElem? (i := 32) rfl))) (mvT hZ (hw _ (List.mem_of_getElem? (i := 33) rfl))) (mvT hZ (hw _ (List.mem_of_getElem? (i := 34) rfl))) (mvT hZ (hw _ (List.mem_of_getElem? (i := 35) rfl))) (by decide) (backOf (W := 0) (rm6 l Z a0 hw [] (0 : Int64) ((100000000 : Int64) - (x1.toInt64)) T68.heap n0 Z68 ) hZ (hw _ (List.mem_of_getElem? (i := 35) rfl)) (hw _ (List.mem_of_getElem? (i := 34) rfl)) (by decide) (by decide)) (g := (mkF m 143 #[.val (.long x0), .second, .val (.int x1), .val (.long x2), .second, .val (.int x3), .val (.int (1 : Int32)), .val (.int (1 : Int32)), .val (.ref b53), .val (.int (1 : Int32)), .val (.long (x0 + (x1.toInt64))), .second, .unset, .unset] [(.long ((100000000 : Int64) - (x1.toInt64))), (.long (0 : Int64))])) rfl (by rw [hml]; rfl) (argsL := [(.long (0 : Int64)), (.long ((100000000 : Int64) - (x1.toInt64)))]) (rest := []) (lenOf own_pd1 rfl) rfl (by show 2 * 0 + _ ≤ _; exact Nat.le_of_eq rfl) (hb hby at_143) (fun _ _ => ⟨rfl, eh72, (by decide : 1 + 0 ≤ _), (by decide : 3 + 0 ≤ _)⟩)
      dsimp only [Pt.U, Pt.locs, Pt.cells, Pt.slots] at X73 l73 y73 z73 st73 hQ73
      subst l73 y73 z73
      obtain ⟨mr_73, rfl, N73q, eh73, pr73_0⟩ := hQ73
      have N73 := Fr.app N72 N73q
      refine Goes.go st73 ?_
      show Goes p e below s _ _ _ T73 (mkF m 146 #[.val (.long x0), .second, .val (.int x1), .val (.long x2), .second, .val (.int x3), .val (.int (1 : Int32)), .val (.int (1 : Int32)), .val (.ref b53), .val (.int (1 : Int32)), .val (.long (x0 + (x1.toInt64))), .second, .unset, .unset] [(.long mr_73)])
      refine own_lstore X73 hx 148 rfl #[.val (.long x0), .second, .val (.int x1), .val (.long x2), .second, .val (.int x3), .val (.int (1 : Int32)), .val (.int (1 : Int32)), .val (.ref b53), .val (.int (1 : Int32)), .val (.long (x0 + (x1.toInt64))), .second, .val (.long mr_73), .second] (hb hby at_146) rfl ?_
      refine own_aload X73 hx 150 rfl (hb hby at_148) rfl rfl ?_
      refine own_lload X73 hx 152 rfl (hb hby at_150) rfl ?_
      obtain ⟨cq74, kq74, q74a, q74b, q74c⟩ := isOf hZ eh73 f71
      obtain ⟨_, _, ⟨T74, L74, k74, n74⟩, -, X74, ⟨Lc74, hQ74, l74, y74, z74⟩, st74⟩ := X73.virtualBack hx (y := (⟨"com/example/pooler/pooler/pool/Backoff", "delay", "(J)J"⟩ : MethodName)) (z := (⟨"com/example/pooler/pooler/pool/Backoff", "delay", "(J)J"⟩ : MethodName)) hown (mvT hZ (hw _ (List.mem_of_getElem? (i := 36) rfl))) (mvT hZ (hw _ (List.mem_of_getElem? (i := 37) rfl))) (notFace_of_selects (args := #[]) (mvT hZ (hw _ (List.mem_of_getElem? (i := 39) rfl)))) (mvT hZ (hw _ (List.mem_of_getElem? (i := 39) rfl))) (mvT hZ (hw _ (List.mem_of_getElem? (i := 38) rfl))) (by decide) (backOf (W := 0) (rmde1 l Z a0 hw [] b53 (x0 + (x1.toInt64)) x0 T68.heap n0 Z68 f71 f69 f70 f68_0 f68_1 f68_2) hZ (hw _ (List.mem_of_getElem? (i := 40) rfl)) (hw _ (List.mem_of_getElem? (i := 3) rfl)) (by decide) (by decide)) q74a q74c (g := (mkF m 152 #[.val (.long x0), .second, .val (.int x1), .val (.long x2), .second, .val (.int x3), .val (.int (1 : Int32)), .val (.int (1 : Int32)), .val (.ref b53), .val (.int (1 : Int32)), .val (.long (x0 + (x1.toInt64))), .second, .val (.long mr_73), .second] [(.long (x0 + (x1.toInt64))), (.ref b53)])) rfl (by rw [hml]; rfl) (Steps.refl _) (argsL := [(.long (x0 + (x1.toInt64)))]) (rest := []) (lenOf own_pd5 rfl) rfl (by show 2 * 0 + _ ≤ _; exact Nat.le_of_eq rfl) (hb hby at_152) (fun _ _ => ⟨rfl, eh73, (by decide : 1 + 0 ≤ _), (by decide : 3 + 0 ≤ _)⟩)
      dsimp only [Pt.U, Pt.locs, Pt.cells, Pt.slots] at X74 l74 y74 z74 st74 hQ74
      subst l74 y74 z74
      obtain ⟨br_74, rfl, N74q, eh74, pr74_0⟩ := hQ74
      have N74 := Fr.app N73 N74q
      refine Goes.tr st74 ?_
      show Goes p e below s _ _ _ T74 (mkF m 155 #[.val (.long x0), .second, .val (.int x1), .val (.long x2), .second, .val (.int x3), .val (.int (1 : Int32)), .val (.int (1 : Int32)), .val (.ref b53), .val (.int (1 : Int32)), .val (.long (x0 + (x1.toInt64))), .second, .val (.long mr_73), .second] [(.long br_74)])
      refine own_lload X74 hx 157 rfl (hb hby at_155) rfl ?_
      refine own_lcmp X74 hx 158 rfl (hb hby at_157) ?_
      refine own_ifN X74 hx 161 (hb hby at_158) (Lteq (own_fin pr74_0 pr73_0 : br_74 = mr_73)).2 rfl ?_
      refine own_iconst X74 hx 162 rfl (1 : Int32) (hb hby at_161) (by decide) ?_
      refine own_goto X74 hx 166 (hb hby at_162) (by decide) (by decide) ?_
      refine own_retZ X74 hx hlk Bd.returns (by decide) (hb hby at_166) (by decide) (by decide) eh74 ?_
      exact ⟨rfl, N74⟩
  · refine own_istore X0 hx 10 rfl #[.val (.long x0), .second, .val (.int x1), .val (.long x2), .second, .val (.int x3), .val (.int (2 : Int32)), .unset, .unset, .unset, .unset, .unset, .unset, .unset] (hb hby at_8) rfl ?_
    refine own_iload X0 hx 12 rfl (hb hby at_10) rfl ?_
    refine own_bipush X0 hx 14 rfl (8 : Int32) (hb hby at_12) (by decide) ?_
    refine own_iushr X0 hx 15 rfl (hb hby at_14) rfl ?_
    refine own_iconst X0 hx 16 rfl (1 : Int32) (hb hby at_15) (by decide) ?_
    refine own_iand X0 hx 17 rfl (hb hby at_16) rfl ?_
    by_cases hc17_75 : (((x3.toUInt32 >>> ((8 : Int32) &&& 31).toUInt32).toInt32) &&& (1 : Int32)) = (0 : Int32)
    · refine own_ifY X0 hx 24 (hb hby at_17) ((if0 _ _).trans (teq hc17_75).1) (by decide) (by decide) ?_
      refine own_iconst X0 hx 25 rfl (0 : Int32) (hb hby at_24) (by decide) ?_
      refine own_istore X0 hx 27 rfl #[.val (.long x0), .second, .val (.int x1), .val (.long x2), .second, .val (.int x3), .val (.int (2 : Int32)), .val (.int (0 : Int32)), .unset, .unset, .unset, .unset, .unset, .unset] (hb hby at_25) rfl ?_
      obtain ⟨T76, h76, X76, e76, E76, A76, D76, -, st76⟩ := newO X0 hx hZ hown (hw _ (List.mem_of_getElem? (i := 1) rfl)) (hw _ (List.mem_of_getElem? (i := 2) rfl)) (hw _ (List.mem_of_getElem? (i := 3) rfl)) e0 (g := (mkF m 27 #[.val (.long x0), .second, .val (.int x1), .val (.long x2), .second, .val (.int x3), .val (.int (2 : Int32)), .val (.int (0 : Int32)), .unset, .unset, .unset, .unset, .unset, .unset] [])) rfl (hb hby at_27) (by decide) (by decide)
      obtain ⟨b76, g76⟩ : ∃ z, z = h0.size := ⟨_, rfl⟩
      rw [← g76] at A76 D76 st76
      have G76 : n0 ≤ b76 := Nat.le_trans Z0 (Nat.le_of_eq g76.symm)
      have H76 : h0.size ≤ b76 := Nat.le_trans K0.1 (Nat.le_of_eq g76.symm)
      have f77 := S_y_SHORTEST.ext E76
      have f78 := S_y_LONGEST.ext E76
      have K76 := K0.ext E76
      have Z76 := Nat.le_trans Z0 E76.1
      have f79 : Fld Z h76 b76 "com/example/pooler/pooler/pool/Backoff" "tried" "Z" (.int (0 : Int32)) := D76 (Or.inl (hw _ (List.mem_of_getElem? (i := 20) rfl))) (ty := .boolean) (by decide)
      have f80 : Fld Z h76 b76 "com/example/pooler/pooler/pool/Backoff" "endedAt" "J" (.long (0 : Int64)) := D76 (Or.inl (hw _ (List.mem_of_getElem? (i := 22) rfl))) (ty := .long) (by decide)
      have f81 : Fld Z h76 b76 "com/example/pooler/pooler/pool/Backoff" "failuresInARow" "I" (.int (0 : Int32)) := D76 (Or.inl (hw _ (List.mem_of_getElem? (i := 24) rfl))) (ty := .int) (by decide)
      refine Goes.go st76 ?_
      show Goes p e below s _ _ _ T76 (mkF m 30 #[.val (.long x0), .second, .val (.int x1), .val (.long x2), .second, .val (.int x3), .val (.int (2 : Int32)), .val (.int (0 : Int32)), .unset, .unset, .unset, .unset, .unset, .unset] [(.ref b76)])
      refine own_dup X76 hx 31 rfl (hb hby at_30) rfl ?_
      obtain ⟨_, _, ⟨T82, L82, k82, n82⟩, -, X82, ⟨Lc82, hQ82, l82, y82, z82⟩, st82⟩ := X76.specialBack hx (y := (⟨"com/example/pooler/pooler/pool/Backoff", "<init>", "()V"⟩ : MethodName)) rfl hown (mvT hZ (hw _ (List.mem_of_getElem? (i := 4) rfl))) (mvT hZ (hw _ (List.mem_of_getElem? (i := 5) rfl))) (mvT hZ (hw _ (List.mem_of_getElem? (i := 6) rfl))) (by decide) (backOf (W := 1) (rm1 l Z a0 hw [] b76 h76 n0 Z76 ) hZ (hw _ (List.mem_of_getElem? (i := 6) rfl)) (hw _ (List.mem_of_getElem? (i := 3) rfl)) (by decide) (by decide)) (g := (mkF m 31 #[.val (.long x0), .second, .val (.int x1), .val (.long x2), .second, .val (.int x3), .val (.int (2 : Int32)), .val (.int (0 : Int32)), .unset, .unset, .unset, .unset, .unset, .unset] [(.ref b76), (.ref b76)])) rfl (by rw [hml]; rfl) (Steps.refl _) (a := b76) (argsL := []) (rest := [(.ref b76)]) (lenOf own_pd3 rfl) rfl (by show 2 * 0 + _ ≤ _; exact Nat.le_of_eq rfl) (hb hby at_31) (fun _ _ => ⟨rfl, e76, (by decide : 1 + 0 ≤ _), (by decide : 3 + 0 ≤ _)⟩)
      dsimp only [Pt.U, Pt.locs, Pt.cells, Pt.slots] at X82 l82 y82 z82 st82 hQ82
      subst l82 y82 z82
      obtain ⟨rfl, N82q, eh82⟩ := hQ82
      have N82 := Fr.app N0 N82q
      refine Goes.tr st82 ?_
      show Goes p e below s _ _ _ T82 (mkF m 34 #[.val (.long x0), .second, .val (.int x1), .val (.long x2), .second, .val (.int x3), .val (.int (2 : Int32)), .val (.int (0 : Int32)), .unset, .unset, .unset, .unset, .unset, .unset] [(.ref b76)])
      refine own_astore X82 hx 36 rfl #[.val (.long x0), .second, .val (.int x1), .val (.long x2), .second, .val (.int x3), .val (.int (2 : Int32)), .val (.int (0 : Int32)), .val (.ref b76), .unset, .unset, .unset, .unset, .unset] (hb hby at_34) rfl rfl ?_
      refine own_iload X82 hx 38 rfl (hb hby at_36) rfl ?_
      refine own_iconst X82 hx 39 rfl (1 : Int32) (hb hby at_38) (by decide) ?_
      refine own_icmpN X82 hx 42 (hb hby at_39) (flt ((by decide) : ¬ ((2 : Int32) < (1 : Int32)))).1 rfl ?_
      refine own_aload X82 hx 44 rfl (hb hby at_42) rfl rfl ?_
      refine own_lloadN X82 hx 45 rfl (hb hby at_44) rfl ?_
      obtain ⟨cq83, kq83, q83a, q83b, q83c⟩ := isOf hZ eh82 A76
      obtain ⟨_, _, ⟨T83, L83, k83, n83⟩, -, X83, ⟨Lc83, hQ83, l83, y83, z83⟩, st83⟩ := X82.virtualBack hx (y := (⟨"com/example/pooler/pooler/pool/Backoff", "failed", "(J)V"⟩ : MethodName)) (z := (⟨"com/example/pooler/pooler/pool/Backoff", "failed", "(J)V"⟩ : MethodName)) hown (mvT hZ (hw _ (List.mem_of_getElem? (i := 10) rfl))) (mvT hZ (hw _ (List.mem_of_getElem? (i := 11) rfl))) (notFace_of_selects (args := #[]) (mvT hZ (hw _ (List.mem_of_getElem? (i := 13) rfl)))) (mvT hZ (hw _ (List.mem_of_getElem? (i := 13) rfl))) (mvT hZ (hw _ (List.mem_of_getElem? (i := 12) rfl))) (by decide) (backOf (W := 0) (rmfa0 l Z a0 hw [] b76 x2 (0 : Int32) (0 : Int64) h76 n0 Z76 A76 G76 f79 f80 f81) hZ (hw _ (List.mem_of_getElem? (i := 14) rfl)) (hw _ (List.mem_of_getElem? (i := 3) rfl)) (by decide) (by decide)) q83a q83c (g := (mkF m 45 #[.val (.long x0), .second, .val (.int x1), .val (.long x2), .second, .val (.int x3), .val (.int (2 : Int32)), .val (.int (0 : Int32)), .val (.ref b76), .unset, .unset, .unset, .unset, .unset] [(.long x2), (.ref b76)])) rfl (by rw [hml]; rfl) (Steps.refl _) (argsL := [(.long x2)]) (rest := []) (lenOf own_pd0 rfl) rfl (by show 2 * 0 + _ ≤ _; exact Nat.le_of_eq rfl) (hb hby at_45) (fun _ _ => ⟨rfl, eh82, (by decide : 1 + 0 ≤ _), (by decide : 3 + 0 ≤ _)⟩)
      dsimp only [Pt.U, Pt.locs, Pt.cells, Pt.slots] at X83 l83 y83 z83 st83 hQ83
      subst l83 y83 z83
      obtain ⟨rfl, N83q, K83q, f83_0, f83_1, f83_2⟩ := hQ83
      have N83 := Fr.app N82 N83q
      have f84 := own_sta_keep f77 K83q (allS (own_eplain A76) all0)
      have f85 := own_sta_keep f78 K83q (allS (own_eplain A76) all0)
      have f86 := A76.keep K83q
      have K83 := K76.trans K83q (allS (Or.inr H76) all0)
      have Z83 := Nat.le_trans Z76 K83q.1
      refine Goes.tr st83 ?_
      show Goes p e below s _ _ _ T83 (mkF m 48 #[.val (.long x0), .second, .val (.int x1), .val (.long x2), .second, .val (.int x3), .val (.int (2 : Int32)), .val (.int (0 : Int32)), .val (.ref b76), .unset, .unset, .unset, .unset, .unset] [])
      refine own_iload X83 hx 50 rfl (hb hby at_48) rfl ?_
      refine own_iconst X83 hx 51 rfl (2 : Int32) (hb hby at_50) (by decide) ?_
      refine own_icmpN X83 hx 54 (hb hby at_51) (flt ((by decide) : ¬ ((2 : Int32) < (2 : Int32)))).1 rfl ?_
      refine own_aload X83 hx 56 rfl (hb hby at_54) rfl rfl ?_
      refine own_lloadN X83 hx 57 rfl (hb hby at_56) rfl ?_
      obtain ⟨cq87, kq87, q87a, q87b, q87c⟩ := isOf hZ rfl f86
      obtain ⟨_, _, ⟨T87, L87, k87, n87⟩, -, X87, ⟨Lc87, hQ87, l87, y87, z87⟩, st87⟩ := X83.virtualBack hx (y := (⟨"com/example/pooler/pooler/pool/Backoff", "failed", "(J)V"⟩ : MethodName)) (z := (⟨"com/example/pooler/pooler/pool/Backoff", "failed", "(J)V"⟩ : MethodName)) hown (mvT hZ (hw _ (List.mem_of_getElem? (i := 10) rfl))) (mvT hZ (hw _ (List.mem_of_getElem? (i := 11) rfl))) (notFace_of_selects (args := #[]) (mvT hZ (hw _ (List.mem_of_getElem? (i := 13) rfl)))) (mvT hZ (hw _ (List.mem_of_getElem? (i := 13) rfl))) (mvT hZ (hw _ (List.mem_of_getElem? (i := 12) rfl))) (by decide) (backOf (W := 0) (rmfa1 l Z a0 hw [] b76 x2 (1 : Int32) x2 T83.heap n0 Z83 f86 G76 f83_0 f83_1 f83_2) hZ (hw _ (List.mem_of_getElem? (i := 14) rfl)) (hw _ (List.mem_of_getElem? (i := 3) rfl)) (by decide) (by decide)) q87a q87c (g := (mkF m 57 #[.val (.long x0), .second, .val (.int x1), .val (.long x2), .second, .val (.int x3), .val (.int (2 : Int32)), .val (.int (0 : Int32)), .val (.ref b76), .unset, .unset, .unset, .unset, .unset] [(.long x2), (.ref b76)])) rfl (by rw [hml]; rfl) (Steps.refl _) (argsL := [(.long x2)]) (rest := []) (lenOf own_pd0 rfl) rfl (by show 2 * 0 + _ ≤ _; exact Nat.le_of_eq rfl) (hb hby at_57) (fun _ _ => ⟨rfl, rfl, (by decide : 1 + 0 ≤ _), (by decide : 3 + 0 ≤ _)⟩)
      dsimp only [Pt.U, Pt.locs, Pt.cells, Pt.slots] at X87 l87 y87 z87 st87 hQ87
      subst l87 y87 z87
      obtain ⟨rfl, N87q, K87q, f87_0, f87_1, f87_2⟩ := hQ87
      have N87 := Fr.app N83 N87q
      have f88 := own_sta_keep f84 K87q (allS (own_eplain f86) all0)
      have f89 := own_sta_keep f85 K87q (allS (own_eplain f86) all0)
      have f90 := f86.keep K87q
      have K87 := K83.trans K87q (allS (Or.inr H76) all0)
      have Z87 := Nat.le_trans Z83 K87q.1
      refine Goes.tr st87 ?_
      show Goes p e below s _ _ _ T87 (mkF m 60 #[.val (.long x0), .second, .val (.int x1), .val (.long x2), .second, .val (.int x3), .val (.int (2 : Int32)), .val (.int (0 : Int32)), .val (.ref b76), .unset, .unset, .unset, .unset, .unset] [])
      refine own_iload X87 hx 62 rfl (hb hby at_60) rfl ?_
      refine own_iconst X87 hx 63 rfl (3 : Int32) (hb hby at_62) (by decide) ?_
      refine own_icmpY X87 hx 72 (hb hby at_63) (tlt ((by decide) : (2 : Int32) < (3 : Int32))).1 (by decide) (by decide) ?_
      refine own_iload X87 hx 74 rfl (hb hby at_72) rfl ?_
      refine own_iconst X87 hx 75 rfl (4 : Int32) (hb hby at_74) (by decide) ?_
      refine own_icmpY X87 hx 84 (hb hby at_75) (tlt ((by decide) : (2 : Int32) < (4 : Int32))).1 (by decide) (by decide) ?_
      refine own_iload X87 hx 86 rfl (hb hby at_84) rfl ?_
      refine own_iconst X87 hx 87 rfl (5 : Int32) (hb hby at_86) (by decide) ?_
      refine own_icmpY X87 hx 96 (hb hby at_87) (tlt ((by decide) : (2 : Int32) < (5 : Int32))).1 (by decide) (by decide) ?_
      refine own_iload X87 hx 98 rfl (hb hby at_96) rfl ?_
      refine own_ifY X87 hx 107 (hb hby at_98) ((if0 _ _).trans (teq ((by decide) : (0 : Int32) = (0 : Int32))).1) (by decide) (by decide) ?_
      refine own_aload X87 hx 109 rfl (hb hby at_107) rfl rfl ?_
      refine own_lloadN X87 hx 110 rfl (hb hby at_109) rfl ?_
      obtain ⟨cq91, kq91, q91a, q91b, q91c⟩ := isOf hZ rfl f90
      obtain ⟨_, _, ⟨T91, L91, k91, n91⟩, -, X91, ⟨Lc91, hQ91, l91, y91, z91⟩, st91⟩ := X87.virtualBack hx (y := (⟨"com/example/pooler/pooler/pool/Backoff", "failed", "(J)V"⟩ : MethodName)) (z := (⟨"com/example/pooler/pooler/pool/Backoff", "failed", "(J)V"⟩ : MethodName)) hown (mvT hZ (hw _ (List.mem_of_getElem? (i := 10) rfl))) (mvT hZ (hw _ (List.mem_of_getElem? (i := 11) rfl))) (notFace_of_selects (args := #[]) (mvT hZ (hw _ (List.mem_of_getElem? (i := 13) rfl)))) (mvT hZ (hw _ (List.mem_of_getElem? (i := 13) rfl))) (mvT hZ (hw _ (List.mem_of_getElem? (i := 12) rfl))) (by decide) (backOf (W := 0) (rmfa2 l Z a0 hw [] b76 x0 (1 : Int32) x2 T87.heap n0 Z87 f90 G76 f87_0 f87_1 f87_2) hZ (hw _ (List.mem_of_getElem? (i := 14) rfl)) (hw _ (List.mem_of_getElem? (i := 3) rfl)) (by decide) (by decide)) q91a q91c (g := (mkF m 110 #[.val (.long x0), .second, .val (.int x1), .val (.long x2), .second, .val (.int x3), .val (.int (2 : Int32)), .val (.int (0 : Int32)), .val (.ref b76), .unset, .unset, .unset, .unset, .unset] [(.long x0), (.ref b76)])) rfl (by rw [hml]; rfl) (Steps.refl _) (argsL := [(.long x0)]) (rest := []) (lenOf own_pd0 rfl) rfl (by show 2 * 0 + _ ≤ _; exact Nat.le_of_eq rfl) (hb hby at_110) (fun _ _ => ⟨rfl, rfl, (by decide : 1 + 0 ≤ _), (by decide : 3 + 0 ≤ _)⟩)
      dsimp only [Pt.U, Pt.locs, Pt.cells, Pt.slots] at X91 l91 y91 z91 st91 hQ91
      subst l91 y91 z91
      obtain ⟨rfl, N91q, K91q, f91_0, f91_1, f91_2⟩ := hQ91
      have N91 := Fr.app N87 N91q
      have f92 := own_sta_keep f88 K91q (allS (own_eplain f90) all0)
      have f93 := own_sta_keep f89 K91q (allS (own_eplain f90) all0)
      have f94 := f90.keep K91q
      have K91 := K87.trans K91q (allS (Or.inr H76) all0)
      have Z91 := Nat.le_trans Z87 K91q.1
      refine Goes.tr st91 ?_
      show Goes p e below s _ _ _ T91 (mkF m 113 #[.val (.long x0), .second, .val (.int x1), .val (.long x2), .second, .val (.int x3), .val (.int (2 : Int32)), .val (.int (0 : Int32)), .val (.ref b76), .unset, .unset, .unset, .unset, .unset] [])
      refine own_iload X91 hx 115 rfl (hb hby at_113) rfl ?_
      refine own_ifY X91 hx 122 (hb hby at_115) ((if0 _ _).trans (teq ((by decide) : (0 : Int32) = (0 : Int32))).1) (by decide) (by decide) ?_
      refine own_iload X91 hx 124 rfl (hb hby at_122) rfl ?_
      refine own_iconst X91 hx 125 rfl (1 : Int32) (hb hby at_124) (by decide) ?_
      refine own_iadd X91 hx 126 rfl (z := (3 : Int32)) (hb hby at_125) (by decide) ?_
      refine own_istore X91 hx 128 rfl #[.val (.long x0), .second, .val (.int x1), .val (.long x2), .second, .val (.int x3), .val (.int (2 : Int32)), .val (.int (0 : Int32)), .val (.ref b76), .val (.int (3 : Int32)), .unset, .unset, .unset, .unset] (hb hby at_126) rfl ?_
      refine own_lloadN X91 hx 129 rfl (hb hby at_128) rfl ?_
      refine own_iloadN X91 hx 130 rfl (hb hby at_129) rfl ?_
      refine own_i2l X91 hx 131 rfl (hb hby at_130) rfl ?_
      refine own_ladd X91 hx 132 rfl (hb hby at_131) rfl ?_
      refine own_lstore X91 hx 134 rfl #[.val (.long x0), .second, .val (.int x1), .val (.long x2), .second, .val (.int x3), .val (.int (2 : Int32)), .val (.int (0 : Int32)), .val (.ref b76), .val (.int (3 : Int32)), .val (.long (x0 + (x1.toInt64))), .second, .unset, .unset] (hb hby at_132) rfl ?_
      refine own_lconst X91 hx 135 rfl (0 : Int64) (hb hby at_134) (by decide) ?_
      refine own_iload X91 hx 137 rfl (hb hby at_135) rfl ?_
      obtain ⟨_, _, ⟨T95, L95, k95, n95⟩, -, X95, ⟨Lc95, hQ95, l95, y95, z95⟩, st95⟩ := Jvm.LawKit.callS X91 hx (y := (⟨"com/example/pooler/pooler/pool/BackoffFailedPinLaw", "expectedPause", "(I)J"⟩ : MethodName)) hown (mvT hZ (hw _ (List.mem_of_getElem? (i := 25) rfl))) (mvT hZ (hw _ (List.mem_of_getElem? (i := 26) rfl))) (mvT hZ (hw _ (List.mem_of_getElem? (i := 27) rfl))) (mvT hZ (hw _ (List.mem_of_getElem? (i := 28) rfl))) (by decide) (backOf (W := 2) (rmep3 l Z a0 hw []  T91.heap n0 Z91 ) hZ (hw _ (List.mem_of_getElem? (i := 28) rfl)) (hw _ (List.mem_of_getElem? (i := 27) rfl)) (by decide) (by decide)) (g := (mkF m 137 #[.val (.long x0), .second, .val (.int x1), .val (.long x2), .second, .val (.int x3), .val (.int (2 : Int32)), .val (.int (0 : Int32)), .val (.ref b76), .val (.int (3 : Int32)), .val (.long (x0 + (x1.toInt64))), .second, .unset, .unset] [(.int (3 : Int32)), (.long (0 : Int64))])) rfl (by rw [hml]; rfl) (argsL := [(.int (3 : Int32))]) (rest := [(.long (0 : Int64))]) (lenOf own_pd4 rfl) rfl (by show 2 * 0 + _ ≤ _; exact Nat.le_of_eq rfl) (hb hby at_137) (fun _ _ => ⟨rfl, rfl, (by decide : 1 + 0 ≤ _), (by decide : 3 + 0 ≤ _)⟩)
      dsimp only [Pt.U, Pt.locs, Pt.cells, Pt.slots] at X95 l95 y95 z95 st95 hQ95
      subst l95 y95 z95
      obtain ⟨rfl, N95q, eh95⟩ := hQ95
      have N95 := Fr.app N91 N95q
      refine Goes.go st95 ?_
      show Goes p e below s _ _ _ T95 (mkF m 140 #[.val (.long x0), .second, .val (.int x1), .val (.long x2), .second, .val (.int x3), .val (.int (2 : Int32)), .val (.int (0 : Int32)), .val (.ref b76), .val (.int (3 : Int32)), .val (.long (x0 + (x1.toInt64))), .second, .unset, .unset] [(.long (400000000 : Int64)), (.long (0 : Int64))])
      refine own_iloadN X95 hx 141 rfl (hb hby at_140) rfl ?_
      refine own_i2l X95 hx 142 rfl (hb hby at_141) rfl ?_
      refine own_lsub X95 hx 143 rfl (hb hby at_142) rfl ?_
      obtain ⟨_, _, ⟨T96, L96, k96, n96⟩, -, X96, ⟨Lc96, hQ96, l96, y96, z96⟩, st96⟩ := Jvm.LawKit.callS X95 hx (y := (⟨"java/lang/Math", "max", "(JJ)J"⟩ : MethodName)) hown (mvT hZ (hw _ (List.mem_of_getElem? (i := 32) rfl))) (mvT hZ (hw _ (List.mem_of_getElem? (i := 33) rfl))) (mvT hZ (hw _ (List.mem_of_getElem? (i := 34) rfl))) (mvT hZ (hw _ (List.mem_of_getElem? (i := 35) rfl))) (by decide) (backOf (W := 0) (rm6 l Z a0 hw [] (0 : Int64) ((400000000 : Int64) - (x1.toInt64)) T91.heap n0 Z91 ) hZ (hw _ (List.mem_of_getElem? (i := 35) rfl)) (hw _ (List.mem_of_getElem? (i := 34) rfl)) (by decide) (by decide)) (g := (mkF m 143 #[.val (.long x0), .second, .val (.int x1), .val (.long x2), .second, .val (.int x3), .val (.int (2 : Int32)), .val (.int (0 : Int32)), .val (.ref b76), .val (.int (3 : Int32)), .val (.long (x0 + (x1.toInt64))), .second, .unset, .unset] [(.long ((400000000 : Int64) - (x1.toInt64))), (.long (0 : Int64))])) rfl (by rw [hml]; rfl) (argsL := [(.long (0 : Int64)), (.long ((400000000 : Int64) - (x1.toInt64)))]) (rest := []) (lenOf own_pd1 rfl) rfl (by show 2 * 0 + _ ≤ _; exact Nat.le_of_eq rfl) (hb hby at_143) (fun _ _ => ⟨rfl, eh95, (by decide : 1 + 0 ≤ _), (by decide : 3 + 0 ≤ _)⟩)
      dsimp only [Pt.U, Pt.locs, Pt.cells, Pt.slots] at X96 l96 y96 z96 st96 hQ96
      subst l96 y96 z96
      obtain ⟨mr_96, rfl, N96q, eh96, pr96_0⟩ := hQ96
      have N96 := Fr.app N95 N96q
      refine Goes.go st96 ?_
      show Goes p e below s _ _ _ T96 (mkF m 146 #[.val (.long x0), .second, .val (.int x1), .val (.long x2), .second, .val (.int x3), .val (.int (2 : Int32)), .val (.int (0 : Int32)), .val (.ref b76), .val (.int (3 : Int32)), .val (.long (x0 + (x1.toInt64))), .second, .unset, .unset] [(.long mr_96)])
      refine own_lstore X96 hx 148 rfl #[.val (.long x0), .second, .val (.int x1), .val (.long x2), .second, .val (.int x3), .val (.int (2 : Int32)), .val (.int (0 : Int32)), .val (.ref b76), .val (.int (3 : Int32)), .val (.long (x0 + (x1.toInt64))), .second, .val (.long mr_96), .second] (hb hby at_146) rfl ?_
      refine own_aload X96 hx 150 rfl (hb hby at_148) rfl rfl ?_
      refine own_lload X96 hx 152 rfl (hb hby at_150) rfl ?_
      obtain ⟨cq97, kq97, q97a, q97b, q97c⟩ := isOf hZ eh96 f94
      obtain ⟨_, _, ⟨T97, L97, k97, n97⟩, -, X97, ⟨Lc97, hQ97, l97, y97, z97⟩, st97⟩ := X96.virtualBack hx (y := (⟨"com/example/pooler/pooler/pool/Backoff", "delay", "(J)J"⟩ : MethodName)) (z := (⟨"com/example/pooler/pooler/pool/Backoff", "delay", "(J)J"⟩ : MethodName)) hown (mvT hZ (hw _ (List.mem_of_getElem? (i := 36) rfl))) (mvT hZ (hw _ (List.mem_of_getElem? (i := 37) rfl))) (notFace_of_selects (args := #[]) (mvT hZ (hw _ (List.mem_of_getElem? (i := 39) rfl)))) (mvT hZ (hw _ (List.mem_of_getElem? (i := 39) rfl))) (mvT hZ (hw _ (List.mem_of_getElem? (i := 38) rfl))) (by decide) (backOf (W := 0) (rmde3 l Z a0 hw [] b76 (x0 + (x1.toInt64)) x0 T91.heap n0 Z91 f94 f92 f93 f91_0 f91_1 f91_2) hZ (hw _ (List.mem_of_getElem? (i := 40) rfl)) (hw _ (List.mem_of_getElem? (i := 3) rfl)) (by decide) (by decide)) q97a q97c (g := (mkF m 152 #[.val (.long x0), .second, .val (.int x1), .val (.long x2), .second, .val (.int x3), .val (.int (2 : Int32)), .val (.int (0 : Int32)), .val (.ref b76), .val (.int (3 : Int32)), .val (.long (x0 + (x1.toInt64))), .second, .val (.long mr_96), .second] [(.long (x0 + (x1.toInt64))), (.ref b76)])) rfl (by rw [hml]; rfl) (Steps.refl _) (argsL := [(.long (x0 + (x1.toInt64)))]) (rest := []) (lenOf own_pd5 rfl) rfl (by show 2 * 0 + _ ≤ _; exact Nat.le_of_eq rfl) (hb hby at_152) (fun _ _ => ⟨rfl, eh96, (by decide : 1 + 0 ≤ _), (by decide : 3 + 0 ≤ _)⟩)
      dsimp only [Pt.U, Pt.locs, Pt.cells, Pt.slots] at X97 l97 y97 z97 st97 hQ97
      subst l97 y97 z97
      obtain ⟨br_97, rfl, N97q, eh97, pr97_0⟩ := hQ97
      have N97 := Fr.app N96 N97q
      refine Goes.tr st97 ?_
      show Goes p e below s _ _ _ T97 (mkF m 155 #[.val (.long x0), .second, .val (.int x1), .val (.long x2), .second, .val (.int x3), .val (.int (2 : Int32)), .val (.int (0 : Int32)), .val (.ref b76), .val (.int (3 : Int32)), .val (.long (x0 + (x1.toInt64))), .second, .val (.long mr_96), .second] [(.long br_97)])
      refine own_lload X97 hx 157 rfl (hb hby at_155) rfl ?_
      refine own_lcmp X97 hx 158 rfl (hb hby at_157) ?_
      refine own_ifN X97 hx 161 (hb hby at_158) (Lteq (own_fin pr97_0 pr96_0 : br_97 = mr_96)).2 rfl ?_
      refine own_iconst X97 hx 162 rfl (1 : Int32) (hb hby at_161) (by decide) ?_
      refine own_goto X97 hx 166 (hb hby at_162) (by decide) (by decide) ?_
      refine own_retZ X97 hx hlk Bd.returns (by decide) (hb hby at_166) (by decide) (by decide) eh97 ?_
      exact ⟨rfl, N97⟩
    · refine own_ifN X0 hx 20 (hb hby at_17) ((if0 _ _).trans (feq hc17_75).1) rfl ?_
      refine own_iconst X0 hx 21 rfl (1 : Int32) (hb hby at_20) (by decide) ?_
      refine own_goto X0 hx 25 (hb hby at_21) (by decide) (by decide) ?_
      refine own_istore X0 hx 27 rfl #[.val (.long x0), .second, .val (.int x1), .val (.long x2), .second, .val (.int x3), .val (.int (2 : Int32)), .val (.int (1 : Int32)), .unset, .unset, .unset, .unset, .unset, .unset] (hb hby at_25) rfl ?_
      obtain ⟨T98, h98, X98, e98, E98, A98, D98, -, st98⟩ := newO X0 hx hZ hown (hw _ (List.mem_of_getElem? (i := 1) rfl)) (hw _ (List.mem_of_getElem? (i := 2) rfl)) (hw _ (List.mem_of_getElem? (i := 3) rfl)) e0 (g := (mkF m 27 #[.val (.long x0), .second, .val (.int x1), .val (.long x2), .second, .val (.int x3), .val (.int (2 : Int32)), .val (.int (1 : Int32)), .unset, .unset, .unset, .unset, .unset, .unset] [])) rfl (hb hby at_27) (by decide) (by decide)
      obtain ⟨b98, g98⟩ : ∃ z, z = h0.size := ⟨_, rfl⟩
      rw [← g98] at A98 D98 st98
      have G98 : n0 ≤ b98 := Nat.le_trans Z0 (Nat.le_of_eq g98.symm)
      have H98 : h0.size ≤ b98 := Nat.le_trans K0.1 (Nat.le_of_eq g98.symm)
      have f99 := S_y_SHORTEST.ext E98
      have f100 := S_y_LONGEST.ext E98
      have K98 := K0.ext E98
      have Z98 := Nat.le_trans Z0 E98.1
      have f101 : Fld Z h98 b98 "com/example/pooler/pooler/pool/Backoff" "tried" "Z" (.int (0 : Int32)) := D98 (Or.inl (hw _ (List.mem_of_getElem? (i := 20) rfl))) (ty := .boolean) (by decide)
      have f102 : Fld Z h98 b98 "com/example/pooler/pooler/pool/Backoff" "endedAt" "J" (.long (0 : Int64)) := D98 (Or.inl (hw _ (List.mem_of_getElem? (i := 22) rfl))) (ty := .long) (by decide)
      have f103 : Fld Z h98 b98 "com/example/pooler/pooler/pool/Backoff" "failuresInARow" "I" (.int (0 : Int32)) := D98 (Or.inl (hw _ (List.mem_of_getElem? (i := 24) rfl))) (ty := .int) (by decide)
      refine Goes.go st98 ?_
      show Goes p e below s _ _ _ T98 (mkF m 30 #[.val (.long x0), .second, .val (.int x1), .val (.long x2), .second, .val (.int x3), .val (.int (2 : Int32)), .val (.int (1 : Int32)), .unset, .unset, .unset, .unset, .unset, .unset] [(.ref b98)])
      refine own_dup X98 hx 31 rfl (hb hby at_30) rfl ?_
      obtain ⟨_, _, ⟨T104, L104, k104, n104⟩, -, X104, ⟨Lc104, hQ104, l104, y104, z104⟩, st104⟩ := X98.specialBack hx (y := (⟨"com/example/pooler/pooler/pool/Backoff", "<init>", "()V"⟩ : MethodName)) rfl hown (mvT hZ (hw _ (List.mem_of_getElem? (i := 4) rfl))) (mvT hZ (hw _ (List.mem_of_getElem? (i := 5) rfl))) (mvT hZ (hw _ (List.mem_of_getElem? (i := 6) rfl))) (by decide) (backOf (W := 1) (rm1 l Z a0 hw [] b98 h98 n0 Z98 ) hZ (hw _ (List.mem_of_getElem? (i := 6) rfl)) (hw _ (List.mem_of_getElem? (i := 3) rfl)) (by decide) (by decide)) (g := (mkF m 31 #[.val (.long x0), .second, .val (.int x1), .val (.long x2), .second, .val (.int x3), .val (.int (2 : Int32)), .val (.int (1 : Int32)), .unset, .unset, .unset, .unset, .unset, .unset] [(.ref b98), (.ref b98)])) rfl (by rw [hml]; rfl) (Steps.refl _) (a := b98) (argsL := []) (rest := [(.ref b98)]) (lenOf own_pd3 rfl) rfl (by show 2 * 0 + _ ≤ _; exact Nat.le_of_eq rfl) (hb hby at_31) (fun _ _ => ⟨rfl, e98, (by decide : 1 + 0 ≤ _), (by decide : 3 + 0 ≤ _)⟩)
      dsimp only [Pt.U, Pt.locs, Pt.cells, Pt.slots] at X104 l104 y104 z104 st104 hQ104
      subst l104 y104 z104
      obtain ⟨rfl, N104q, eh104⟩ := hQ104
      have N104 := Fr.app N0 N104q
      refine Goes.tr st104 ?_
      show Goes p e below s _ _ _ T104 (mkF m 34 #[.val (.long x0), .second, .val (.int x1), .val (.long x2), .second, .val (.int x3), .val (.int (2 : Int32)), .val (.int (1 : Int32)), .unset, .unset, .unset, .unset, .unset, .unset] [(.ref b98)])
      refine own_astore X104 hx 36 rfl #[.val (.long x0), .second, .val (.int x1), .val (.long x2), .second, .val (.int x3), .val (.int (2 : Int32)), .val (.int (1 : Int32)), .val (.ref b98), .unset, .unset, .unset, .unset, .unset] (hb hby at_34) rfl rfl ?_
      refine own_iload X104 hx 38 rfl (hb hby at_36) rfl ?_
      refine own_iconst X104 hx 39 rfl (1 : Int32) (hb hby at_38) (by decide) ?_
      refine own_icmpN X104 hx 42 (hb hby at_39) (flt ((by decide) : ¬ ((2 : Int32) < (1 : Int32)))).1 rfl ?_
      refine own_aload X104 hx 44 rfl (hb hby at_42) rfl rfl ?_
      refine own_lloadN X104 hx 45 rfl (hb hby at_44) rfl ?_
      obtain ⟨cq105, kq105, q105a, q105b, q105c⟩ := isOf hZ eh104 A98
      obtain ⟨_, _, ⟨T105, L105, k105, n105⟩, -, X105, ⟨Lc105, hQ105, l105, y105, z105⟩, st105⟩ := X104.virtualBack hx (y := (⟨"com/example/pooler/pooler/pool/Backoff", "failed", "(J)V"⟩ : MethodName)) (z := (⟨"com/example/pooler/pooler/pool/Backoff", "failed", "(J)V"⟩ : MethodName)) hown (mvT hZ (hw _ (List.mem_of_getElem? (i := 10) rfl))) (mvT hZ (hw _ (List.mem_of_getElem? (i := 11) rfl))) (notFace_of_selects (args := #[]) (mvT hZ (hw _ (List.mem_of_getElem? (i := 13) rfl)))) (mvT hZ (hw _ (List.mem_of_getElem? (i := 13) rfl))) (mvT hZ (hw _ (List.mem_of_getElem? (i := 12) rfl))) (by decide) (backOf (W := 0) (rmfa0 l Z a0 hw [] b98 x2 (0 : Int32) (0 : Int64) h98 n0 Z98 A98 G98 f101 f102 f103) hZ (hw _ (List.mem_of_getElem? (i := 14) rfl)) (hw _ (List.mem_of_getElem? (i := 3) rfl)) (by decide) (by decide)) q105a q105c (g := (mkF m 45 #[.val (.long x0), .second, .val (.int x1), .val (.long x2), .second, .val (.int x3), .val (.int (2 : Int32)), .val (.int (1 : Int32)), .val (.ref b98), .unset, .unset, .unset, .unset, .unset] [(.long x2), (.ref b98)])) rfl (by rw [hml]; rfl) (Steps.refl _) (argsL := [(.long x2)]) (rest := []) (lenOf own_pd0 rfl) rfl (by show 2 * 0 + _ ≤ _; exact Nat.le_of_eq rfl) (hb hby at_45) (fun _ _ => ⟨rfl, eh104, (by decide : 1 + 0 ≤ _), (by decide : 3 + 0 ≤ _)⟩)
      dsimp only [Pt.U, Pt.locs, Pt.cells, Pt.slots] at X105 l105 y105 z105 st105 hQ105
      subst l105 y105 z105
      obtain ⟨rfl, N105q, K105q, f105_0, f105_1, f105_2⟩ := hQ105
      have N105 := Fr.app N104 N105q
      have f106 := own_sta_keep f99 K105q (allS (own_eplain A98) all0)
      have f107 := own_sta_keep f100 K105q (allS (own_eplain A98) all0)
      have f108 := A98.keep K105q
      have K105 := K98.trans K105q (allS (Or.inr H98) all0)
      have Z105 := Nat.le_trans Z98 K105q.1
      refine Goes.tr st105 ?_
      show Goes p e below s _ _ _ T105 (mkF m 48 #[.val (.long x0), .second, .val (.int x1), .val (.long x2), .second, .val (.int x3), .val (.int (2 : Int32)), .val (.int (1 : Int32)), .val (.ref b98), .unset, .unset, .unset, .unset, .unset] [])
      refine own_iload X105 hx 50 rfl (hb hby at_48) rfl ?_
      refine own_iconst X105 hx 51 rfl (2 : Int32) (hb hby at_50) (by decide) ?_
      refine own_icmpN X105 hx 54 (hb hby at_51) (flt ((by decide) : ¬ ((2 : Int32) < (2 : Int32)))).1 rfl ?_
      refine own_aload X105 hx 56 rfl (hb hby at_54) rfl rfl ?_
      refine own_lloadN X105 hx 57 rfl (hb hby at_56) rfl ?_
      obtain ⟨cq109, kq109, q109a, q109b, q109c⟩ := isOf hZ rfl f108
      obtain ⟨_, _, ⟨T109, L109, k109, n109⟩, -, X109, ⟨Lc109, hQ109, l109, y109, z109⟩, st109⟩ := X105.virtualBack hx (y := (⟨"com/example/pooler/pooler/pool/Backoff", "failed", "(J)V"⟩ : MethodName)) (z := (⟨"com/example/pooler/pooler/pool/Backoff", "failed", "(J)V"⟩ : MethodName)) hown (mvT hZ (hw _ (List.mem_of_getElem? (i := 10) rfl))) (mvT hZ (hw _ (List.mem_of_getElem? (i := 11) rfl))) (notFace_of_selects (args := #[]) (mvT hZ (hw _ (List.mem_of_getElem? (i := 13) rfl)))) (mvT hZ (hw _ (List.mem_of_getElem? (i := 13) rfl))) (mvT hZ (hw _ (List.mem_of_getElem? (i := 12) rfl))) (by decide) (backOf (W := 0) (rmfa1 l Z a0 hw [] b98 x2 (1 : Int32) x2 T105.heap n0 Z105 f108 G98 f105_0 f105_1 f105_2) hZ (hw _ (List.mem_of_getElem? (i := 14) rfl)) (hw _ (List.mem_of_getElem? (i := 3) rfl)) (by decide) (by decide)) q109a q109c (g := (mkF m 57 #[.val (.long x0), .second, .val (.int x1), .val (.long x2), .second, .val (.int x3), .val (.int (2 : Int32)), .val (.int (1 : Int32)), .val (.ref b98), .unset, .unset, .unset, .unset, .unset] [(.long x2), (.ref b98)])) rfl (by rw [hml]; rfl) (Steps.refl _) (argsL := [(.long x2)]) (rest := []) (lenOf own_pd0 rfl) rfl (by show 2 * 0 + _ ≤ _; exact Nat.le_of_eq rfl) (hb hby at_57) (fun _ _ => ⟨rfl, rfl, (by decide : 1 + 0 ≤ _), (by decide : 3 + 0 ≤ _)⟩)
      dsimp only [Pt.U, Pt.locs, Pt.cells, Pt.slots] at X109 l109 y109 z109 st109 hQ109
      subst l109 y109 z109
      obtain ⟨rfl, N109q, K109q, f109_0, f109_1, f109_2⟩ := hQ109
      have N109 := Fr.app N105 N109q
      have f110 := own_sta_keep f106 K109q (allS (own_eplain f108) all0)
      have f111 := own_sta_keep f107 K109q (allS (own_eplain f108) all0)
      have f112 := f108.keep K109q
      have K109 := K105.trans K109q (allS (Or.inr H98) all0)
      have Z109 := Nat.le_trans Z105 K109q.1
      refine Goes.tr st109 ?_
      show Goes p e below s _ _ _ T109 (mkF m 60 #[.val (.long x0), .second, .val (.int x1), .val (.long x2), .second, .val (.int x3), .val (.int (2 : Int32)), .val (.int (1 : Int32)), .val (.ref b98), .unset, .unset, .unset, .unset, .unset] [])
      refine own_iload X109 hx 62 rfl (hb hby at_60) rfl ?_
      refine own_iconst X109 hx 63 rfl (3 : Int32) (hb hby at_62) (by decide) ?_
      refine own_icmpY X109 hx 72 (hb hby at_63) (tlt ((by decide) : (2 : Int32) < (3 : Int32))).1 (by decide) (by decide) ?_
      refine own_iload X109 hx 74 rfl (hb hby at_72) rfl ?_
      refine own_iconst X109 hx 75 rfl (4 : Int32) (hb hby at_74) (by decide) ?_
      refine own_icmpY X109 hx 84 (hb hby at_75) (tlt ((by decide) : (2 : Int32) < (4 : Int32))).1 (by decide) (by decide) ?_
      refine own_iload X109 hx 86 rfl (hb hby at_84) rfl ?_
      refine own_iconst X109 hx 87 rfl (5 : Int32) (hb hby at_86) (by decide) ?_
      refine own_icmpY X109 hx 96 (hb hby at_87) (tlt ((by decide) : (2 : Int32) < (5 : Int32))).1 (by decide) (by decide) ?_
      refine own_iload X109 hx 98 rfl (hb hby at_96) rfl ?_
      refine own_ifN X109 hx 101 (hb hby at_98) ((if0 _ _).trans (feq ((by decide) : ¬ ((1 : Int32) = (0 : Int32)))).1) rfl ?_
      refine own_aload X109 hx 103 rfl (hb hby at_101) rfl rfl ?_
      refine own_lloadN X109 hx 104 rfl (hb hby at_103) rfl ?_
      obtain ⟨cq113, kq113, q113a, q113b, q113c⟩ := isOf hZ rfl f112
      obtain ⟨_, _, ⟨T113, L113, k113, n113⟩, -, X113, ⟨Lc113, hQ113, l113, y113, z113⟩, st113⟩ := X109.virtualBack hx (y := (⟨"com/example/pooler/pooler/pool/Backoff", "opened", "(J)V"⟩ : MethodName)) (z := (⟨"com/example/pooler/pooler/pool/Backoff", "opened", "(J)V"⟩ : MethodName)) hown (mvT hZ (hw _ (List.mem_of_getElem? (i := 55) rfl))) (mvT hZ (hw _ (List.mem_of_getElem? (i := 56) rfl))) (notFace_of_selects (args := #[]) (mvT hZ (hw _ (List.mem_of_getElem? (i := 58) rfl)))) (mvT hZ (hw _ (List.mem_of_getElem? (i := 58) rfl))) (mvT hZ (hw _ (List.mem_of_getElem? (i := 57) rfl))) (by decide) (backOf (W := 0) (rm10 l Z a0 hw [] b98 x2 (1 : Int32) x2 (2 : Int32) T109.heap n0 Z109 f112 G98 f109_0 f109_1 f109_2) hZ (hw _ (List.mem_of_getElem? (i := 59) rfl)) (hw _ (List.mem_of_getElem? (i := 3) rfl)) (by decide) (by decide)) q113a q113c (g := (mkF m 104 #[.val (.long x0), .second, .val (.int x1), .val (.long x2), .second, .val (.int x3), .val (.int (2 : Int32)), .val (.int (1 : Int32)), .val (.ref b98), .unset, .unset, .unset, .unset, .unset] [(.long x2), (.ref b98)])) rfl (by rw [hml]; rfl) (Steps.refl _) (argsL := [(.long x2)]) (rest := []) (lenOf own_pd0 rfl) rfl (by show 2 * 0 + _ ≤ _; exact Nat.le_of_eq rfl) (hb hby at_104) (fun _ _ => ⟨rfl, rfl, (by decide : 1 + 0 ≤ _), (by decide : 3 + 0 ≤ _)⟩)
      dsimp only [Pt.U, Pt.locs, Pt.cells, Pt.slots] at X113 l113 y113 z113 st113 hQ113
      subst l113 y113 z113
      obtain ⟨rfl, N113q, K113q, f113_0, f113_1, f113_2⟩ := hQ113
      have N113 := Fr.app N109 N113q
      have f114 := own_sta_keep f110 K113q (allS (own_eplain f112) all0)
      have f115 := own_sta_keep f111 K113q (allS (own_eplain f112) all0)
      have f116 := f112.keep K113q
      have K113 := K109.trans K113q (allS (Or.inr H98) all0)
      have Z113 := Nat.le_trans Z109 K113q.1
      refine Goes.tr st113 ?_
      show Goes p e below s _ _ _ T113 (mkF m 107 #[.val (.long x0), .second, .val (.int x1), .val (.long x2), .second, .val (.int x3), .val (.int (2 : Int32)), .val (.int (1 : Int32)), .val (.ref b98), .unset, .unset, .unset, .unset, .unset] [])
      refine own_aload X113 hx 109 rfl (hb hby at_107) rfl rfl ?_
      refine own_lloadN X113 hx 110 rfl (hb hby at_109) rfl ?_
      obtain ⟨cq117, kq117, q117a, q117b, q117c⟩ := isOf hZ rfl f116
      obtain ⟨_, _, ⟨T117, L117, k117, n117⟩, -, X117, ⟨Lc117, hQ117, l117, y117, z117⟩, st117⟩ := X113.virtualBack hx (y := (⟨"com/example/pooler/pooler/pool/Backoff", "failed", "(J)V"⟩ : MethodName)) (z := (⟨"com/example/pooler/pooler/pool/Backoff", "failed", "(J)V"⟩ : MethodName)) hown (mvT hZ (hw _ (List.mem_of_getElem? (i := 10) rfl))) (mvT hZ (hw _ (List.mem_of_getElem? (i := 11) rfl))) (notFace_of_selects (args := #[]) (mvT hZ (hw _ (List.mem_of_getElem? (i := 13) rfl)))) (mvT hZ (hw _ (List.mem_of_getElem? (i := 13) rfl))) (mvT hZ (hw _ (List.mem_of_getElem? (i := 12) rfl))) (by decide) (backOf (W := 0) (rmfa0 l Z a0 hw [] b98 x0 (1 : Int32) x2 T113.heap n0 Z113 f116 G98 f113_0 f113_1 f113_2) hZ (hw _ (List.mem_of_getElem? (i := 14) rfl)) (hw _ (List.mem_of_getElem? (i := 3) rfl)) (by decide) (by decide)) q117a q117c (g := (mkF m 110 #[.val (.long x0), .second, .val (.int x1), .val (.long x2), .second, .val (.int x3), .val (.int (2 : Int32)), .val (.int (1 : Int32)), .val (.ref b98), .unset, .unset, .unset, .unset, .unset] [(.long x0), (.ref b98)])) rfl (by rw [hml]; rfl) (Steps.refl _) (argsL := [(.long x0)]) (rest := []) (lenOf own_pd0 rfl) rfl (by show 2 * 0 + _ ≤ _; exact Nat.le_of_eq rfl) (hb hby at_110) (fun _ _ => ⟨rfl, rfl, (by decide : 1 + 0 ≤ _), (by decide : 3 + 0 ≤ _)⟩)
      dsimp only [Pt.U, Pt.locs, Pt.cells, Pt.slots] at X117 l117 y117 z117 st117 hQ117
      subst l117 y117 z117
      obtain ⟨rfl, N117q, K117q, f117_0, f117_1, f117_2⟩ := hQ117
      have N117 := Fr.app N113 N117q
      have f118 := own_sta_keep f114 K117q (allS (own_eplain f116) all0)
      have f119 := own_sta_keep f115 K117q (allS (own_eplain f116) all0)
      have f120 := f116.keep K117q
      have K117 := K113.trans K117q (allS (Or.inr H98) all0)
      have Z117 := Nat.le_trans Z113 K117q.1
      refine Goes.tr st117 ?_
      show Goes p e below s _ _ _ T117 (mkF m 113 #[.val (.long x0), .second, .val (.int x1), .val (.long x2), .second, .val (.int x3), .val (.int (2 : Int32)), .val (.int (1 : Int32)), .val (.ref b98), .unset, .unset, .unset, .unset, .unset] [])
      refine own_iload X117 hx 115 rfl (hb hby at_113) rfl ?_
      refine own_ifN X117 hx 118 (hb hby at_115) ((if0 _ _).trans (feq ((by decide) : ¬ ((1 : Int32) = (0 : Int32)))).1) rfl ?_
      refine own_iconst X117 hx 119 rfl (1 : Int32) (hb hby at_118) (by decide) ?_
      refine own_goto X117 hx 126 (hb hby at_119) (by decide) (by decide) ?_
      refine own_istore X117 hx 128 rfl #[.val (.long x0), .second, .val (.int x1), .val (.long x2), .second, .val (.int x3), .val (.int (2 : Int32)), .val (.int (1 : Int32)), .val (.ref b98), .val (.int (1 : Int32)), .unset, .unset, .unset, .unset] (hb hby at_126) rfl ?_
      refine own_lloadN X117 hx 129 rfl (hb hby at_128) rfl ?_
      refine own_iloadN X117 hx 130 rfl (hb hby at_129) rfl ?_
      refine own_i2l X117 hx 131 rfl (hb hby at_130) rfl ?_
      refine own_ladd X117 hx 132 rfl (hb hby at_131) rfl ?_
      refine own_lstore X117 hx 134 rfl #[.val (.long x0), .second, .val (.int x1), .val (.long x2), .second, .val (.int x3), .val (.int (2 : Int32)), .val (.int (1 : Int32)), .val (.ref b98), .val (.int (1 : Int32)), .val (.long (x0 + (x1.toInt64))), .second, .unset, .unset] (hb hby at_132) rfl ?_
      refine own_lconst X117 hx 135 rfl (0 : Int64) (hb hby at_134) (by decide) ?_
      refine own_iload X117 hx 137 rfl (hb hby at_135) rfl ?_
      obtain ⟨_, _, ⟨T121, L121, k121, n121⟩, -, X121, ⟨Lc121, hQ121, l121, y121, z121⟩, st121⟩ := Jvm.LawKit.callS X117 hx (y := (⟨"com/example/pooler/pooler/pool/BackoffFailedPinLaw", "expectedPause", "(I)J"⟩ : MethodName)) hown (mvT hZ (hw _ (List.mem_of_getElem? (i := 25) rfl))) (mvT hZ (hw _ (List.mem_of_getElem? (i := 26) rfl))) (mvT hZ (hw _ (List.mem_of_getElem? (i := 27) rfl))) (mvT hZ (hw _ (List.mem_of_getElem? (i := 28) rfl))) (by decide) (backOf (W := 2) (rmep1 l Z a0 hw []  T117.heap n0 Z117 ) hZ (hw _ (List.mem_of_getElem? (i := 28) rfl)) (hw _ (List.mem_of_getElem? (i := 27) rfl)) (by decide) (by decide)) (g := (mkF m 137 #[.val (.long x0), .second, .val (.int x1), .val (.long x2), .second, .val (.int x3), .val (.int (2 : Int32)), .val (.int (1 : Int32)), .val (.ref b98), .val (.int (1 : Int32)), .val (.long (x0 + (x1.toInt64))), .second, .unset, .unset] [(.int (1 : Int32)), (.long (0 : Int64))])) rfl (by rw [hml]; rfl) (argsL := [(.int (1 : Int32))]) (rest := [(.long (0 : Int64))]) (lenOf own_pd4 rfl) rfl (by show 2 * 0 + _ ≤ _; exact Nat.le_of_eq rfl) (hb hby at_137) (fun _ _ => ⟨rfl, rfl, (by decide : 1 + 0 ≤ _), (by decide : 3 + 0 ≤ _)⟩)
      dsimp only [Pt.U, Pt.locs, Pt.cells, Pt.slots] at X121 l121 y121 z121 st121 hQ121
      subst l121 y121 z121
      obtain ⟨rfl, N121q, eh121⟩ := hQ121
      have N121 := Fr.app N117 N121q
      refine Goes.go st121 ?_
      show Goes p e below s _ _ _ T121 (mkF m 140 #[.val (.long x0), .second, .val (.int x1), .val (.long x2), .second, .val (.int x3), .val (.int (2 : Int32)), .val (.int (1 : Int32)), .val (.ref b98), .val (.int (1 : Int32)), .val (.long (x0 + (x1.toInt64))), .second, .unset, .unset] [(.long (100000000 : Int64)), (.long (0 : Int64))])
      refine own_iloadN X121 hx 141 rfl (hb hby at_140) rfl ?_
      refine own_i2l X121 hx 142 rfl (hb hby at_141) rfl ?_
      refine own_lsub X121 hx 143 rfl (hb hby at_142) rfl ?_
      obtain ⟨_, _, ⟨T122, L122, k122, n122⟩, -, X122, ⟨Lc122, hQ122, l122, y122, z122⟩, st122⟩ := Jvm.LawKit.callS X121 hx (y := (⟨"java/lang/Math", "max", "(JJ)J"⟩ : MethodName)) hown (mvT hZ (hw _ (List.mem_of_getElem? (i := 32) rfl))) (mvT hZ (hw _ (List.mem_of_getElem? (i := 33) rfl))) (mvT hZ (hw _ (List.mem_of_getElem? (i := 34) rfl))) (mvT hZ (hw _ (List.mem_of_getElem? (i := 35) rfl))) (by decide) (backOf (W := 0) (rm6 l Z a0 hw [] (0 : Int64) ((100000000 : Int64) - (x1.toInt64)) T117.heap n0 Z117 ) hZ (hw _ (List.mem_of_getElem? (i := 35) rfl)) (hw _ (List.mem_of_getElem? (i := 34) rfl)) (by decide) (by decide)) (g := (mkF m 143 #[.val (.long x0), .second, .val (.int x1), .val (.long x2), .second, .val (.int x3), .val (.int (2 : Int32)), .val (.int (1 : Int32)), .val (.ref b98), .val (.int (1 : Int32)), .val (.long (x0 + (x1.toInt64))), .second, .unset, .unset] [(.long ((100000000 : Int64) - (x1.toInt64))), (.long (0 : Int64))])) rfl (by rw [hml]; rfl) (argsL := [(.long (0 : Int64)), (.long ((100000000 : Int64) - (x1.toInt64)))]) (rest := []) (lenOf own_pd1 rfl) rfl (by show 2 * 0 + _ ≤ _; exact Nat.le_of_eq rfl) (hb hby at_143) (fun _ _ => ⟨rfl, eh121, (by decide : 1 + 0 ≤ _), (by decide : 3 + 0 ≤ _)⟩)
      dsimp only [Pt.U, Pt.locs, Pt.cells, Pt.slots] at X122 l122 y122 z122 st122 hQ122
      subst l122 y122 z122
      obtain ⟨mr_122, rfl, N122q, eh122, pr122_0⟩ := hQ122
      have N122 := Fr.app N121 N122q
      refine Goes.go st122 ?_
      show Goes p e below s _ _ _ T122 (mkF m 146 #[.val (.long x0), .second, .val (.int x1), .val (.long x2), .second, .val (.int x3), .val (.int (2 : Int32)), .val (.int (1 : Int32)), .val (.ref b98), .val (.int (1 : Int32)), .val (.long (x0 + (x1.toInt64))), .second, .unset, .unset] [(.long mr_122)])
      refine own_lstore X122 hx 148 rfl #[.val (.long x0), .second, .val (.int x1), .val (.long x2), .second, .val (.int x3), .val (.int (2 : Int32)), .val (.int (1 : Int32)), .val (.ref b98), .val (.int (1 : Int32)), .val (.long (x0 + (x1.toInt64))), .second, .val (.long mr_122), .second] (hb hby at_146) rfl ?_
      refine own_aload X122 hx 150 rfl (hb hby at_148) rfl rfl ?_
      refine own_lload X122 hx 152 rfl (hb hby at_150) rfl ?_
      obtain ⟨cq123, kq123, q123a, q123b, q123c⟩ := isOf hZ eh122 f120
      obtain ⟨_, _, ⟨T123, L123, k123, n123⟩, -, X123, ⟨Lc123, hQ123, l123, y123, z123⟩, st123⟩ := X122.virtualBack hx (y := (⟨"com/example/pooler/pooler/pool/Backoff", "delay", "(J)J"⟩ : MethodName)) (z := (⟨"com/example/pooler/pooler/pool/Backoff", "delay", "(J)J"⟩ : MethodName)) hown (mvT hZ (hw _ (List.mem_of_getElem? (i := 36) rfl))) (mvT hZ (hw _ (List.mem_of_getElem? (i := 37) rfl))) (notFace_of_selects (args := #[]) (mvT hZ (hw _ (List.mem_of_getElem? (i := 39) rfl)))) (mvT hZ (hw _ (List.mem_of_getElem? (i := 39) rfl))) (mvT hZ (hw _ (List.mem_of_getElem? (i := 38) rfl))) (by decide) (backOf (W := 0) (rmde1 l Z a0 hw [] b98 (x0 + (x1.toInt64)) x0 T117.heap n0 Z117 f120 f118 f119 f117_0 f117_1 f117_2) hZ (hw _ (List.mem_of_getElem? (i := 40) rfl)) (hw _ (List.mem_of_getElem? (i := 3) rfl)) (by decide) (by decide)) q123a q123c (g := (mkF m 152 #[.val (.long x0), .second, .val (.int x1), .val (.long x2), .second, .val (.int x3), .val (.int (2 : Int32)), .val (.int (1 : Int32)), .val (.ref b98), .val (.int (1 : Int32)), .val (.long (x0 + (x1.toInt64))), .second, .val (.long mr_122), .second] [(.long (x0 + (x1.toInt64))), (.ref b98)])) rfl (by rw [hml]; rfl) (Steps.refl _) (argsL := [(.long (x0 + (x1.toInt64)))]) (rest := []) (lenOf own_pd5 rfl) rfl (by show 2 * 0 + _ ≤ _; exact Nat.le_of_eq rfl) (hb hby at_152) (fun _ _ => ⟨rfl, eh122, (by decide : 1 + 0 ≤ _), (by decide : 3 + 0 ≤ _)⟩)
      dsimp only [Pt.U, Pt.locs, Pt.cells, Pt.slots] at X123 l123 y123 z123 st123 hQ123
      subst l123 y123 z123
      obtain ⟨br_123, rfl, N123q, eh123, pr123_0⟩ := hQ123
      have N123 := Fr.app N122 N123q
      refine Goes.tr st123 ?_
      show Goes p e below s _ _ _ T123 (mkF m 155 #[.val (.long x0), .second, .val (.int x1), .val (.long x2), .second, .val (.int x3), .val (.int (2 : Int32)), .val (.int (1 : Int32)), .val (.ref b98), .val (.int (1 : Int32)), .val (.long (x0 + (x1.toInt64))), .second, .val (.long mr_122), .second] [(.long br_123)])
      refine own_lload X123 hx 157 rfl (hb hby at_155) rfl ?_
      refine own_lcmp X123 hx 158 rfl (hb hby at_157) ?_
      refine own_ifN X123 hx 161 (hb hby at_158) (Lteq (own_fin pr123_0 pr122_0 : br_123 = mr_122)).2 rfl ?_
      refine own_iconst X123 hx 162 rfl (1 : Int32) (hb hby at_161) (by decide) ?_
      refine own_goto X123 hx 166 (hb hby at_162) (by decide) (by decide) ?_
      refine own_retZ X123 hx hlk Bd.returns (by decide) (hb hby at_166) (by decide) (by decide) eh123 ?_
      exact ⟨rfl, N123⟩
  · refine own_istore X0 hx 10 rfl #[.val (.long x0), .second, .val (.int x1), .val (.long x2), .second, .val (.int x3), .val (.int (3 : Int32)), .unset, .unset, .unset, .unset, .unset, .unset, .unset] (hb hby at_8) rfl ?_
    refine own_iload X0 hx 12 rfl (hb hby at_10) rfl ?_
    refine own_bipush X0 hx 14 rfl (8 : Int32) (hb hby at_12) (by decide) ?_
    refine own_iushr X0 hx 15 rfl (hb hby at_14) rfl ?_
    refine own_iconst X0 hx 16 rfl (1 : Int32) (hb hby at_15) (by decide) ?_
    refine own_iand X0 hx 17 rfl (hb hby at_16) rfl ?_
    by_cases hc17_124 : (((x3.toUInt32 >>> ((8 : Int32) &&& 31).toUInt32).toInt32) &&& (1 : Int32)) = (0 : Int32)
    · refine own_ifY X0 hx 24 (hb hby at_17) ((if0 _ _).trans (teq hc17_124).1) (by decide) (by decide) ?_
      refine own_iconst X0 hx 25 rfl (0 : Int32) (hb hby at_24) (by decide) ?_
      refine own_istore X0 hx 27 rfl #[.val (.long x0), .second, .val (.int x1), .val (.long x2), .second, .val (.int x3), .val (.int (3 : Int32)), .val (.int (0 : Int32)), .unset, .unset, .unset, .unset, .unset, .unset] (hb hby at_25) rfl ?_
      obtain ⟨T125, h125, X125, e125, E125, A125, D125, -, st125⟩ := newO X0 hx hZ hown (hw _ (List.mem_of_getElem? (i := 1) rfl)) (hw _ (List.mem_of_getElem? (i := 2) rfl)) (hw _ (List.mem_of_getElem? (i := 3) rfl)) e0 (g := (mkF m 27 #[.val (.long x0), .second, .val (.int x1), .val (.long x2), .second, .val (.int x3), .val (.int (3 : Int32)), .val (.int (0 : Int32)), .unset, .unset, .unset, .unset, .unset, .unset] [])) rfl (hb hby at_27) (by decide) (by decide)
      obtain ⟨b125, g125⟩ : ∃ z, z = h0.size := ⟨_, rfl⟩
      rw [← g125] at A125 D125 st125
      have G125 : n0 ≤ b125 := Nat.le_trans Z0 (Nat.le_of_eq g125.symm)
      have H125 : h0.size ≤ b125 := Nat.le_trans K0.1 (Nat.le_of_eq g125.symm)
      have f126 := S_y_SHORTEST.ext E125
      have f127 := S_y_LONGEST.ext E125
      have K125 := K0.ext E125
      have Z125 := Nat.le_trans Z0 E125.1
      have f128 : Fld Z h125 b125 "com/example/pooler/pooler/pool/Backoff" "tried" "Z" (.int (0 : Int32)) := D125 (Or.inl (hw _ (List.mem_of_getElem? (i := 20) rfl))) (ty := .boolean) (by decide)
      have f129 : Fld Z h125 b125 "com/example/pooler/pooler/pool/Backoff" "endedAt" "J" (.long (0 : Int64)) := D125 (Or.inl (hw _ (List.mem_of_getElem? (i := 22) rfl))) (ty := .long) (by decide)
      have f130 : Fld Z h125 b125 "com/example/pooler/pooler/pool/Backoff" "failuresInARow" "I" (.int (0 : Int32)) := D125 (Or.inl (hw _ (List.mem_of_getElem? (i := 24) rfl))) (ty := .int) (by decide)
      refine Goes.go st125 ?_
      show Goes p e below s _ _ _ T125 (mkF m 30 #[.val (.long x0), .second, .val (.int x1), .val (.long x2), .second, .val (.int x3), .val (.int (3 : Int32)), .val (.int (0 : Int32)), .unset, .unset, .unset, .unset, .unset, .unset] [(.ref b125)])
      refine own_dup X125 hx 31 rfl (hb hby at_30) rfl ?_
      obtain ⟨_, _, ⟨T131, L131, k131, n131⟩, -, X131, ⟨Lc131, hQ131, l131, y131, z131⟩, st131⟩ := X125.specialBack hx (y := (⟨"com/example/pooler/pooler/pool/Backoff", "<init>", "()V"⟩ : MethodName)) rfl hown (mvT hZ (hw _ (List.mem_of_getElem? (i := 4) rfl))) (mvT hZ (hw _ (List.mem_of_getElem? (i := 5) rfl))) (mvT hZ (hw _ (List.mem_of_getElem? (i := 6) rfl))) (by decide) (backOf (W := 1) (rm1 l Z a0 hw [] b125 h125 n0 Z125 ) hZ (hw _ (List.mem_of_getElem? (i := 6) rfl)) (hw _ (List.mem_of_getElem? (i := 3) rfl)) (by decide) (by decide)) (g := (mkF m 31 #[.val (.long x0), .second, .val (.int x1), .val (.long x2), .second, .val (.int x3), .val (.int (3 : Int32)), .val (.int (0 : Int32)), .unset, .unset, .unset, .unset, .unset, .unset] [(.ref b125), (.ref b125)])) rfl (by rw [hml]; rfl) (Steps.refl _) (a := b125) (argsL := []) (rest := [(.ref b125)]) (lenOf own_pd3 rfl) rfl (by show 2 * 0 + _ ≤ _; exact Nat.le_of_eq rfl) (hb hby at_31) (fun _ _ => ⟨rfl, e125, (by decide : 1 + 0 ≤ _), (by decide : 3 + 0 ≤ _)⟩)
      dsimp only [Pt.U, Pt.locs, Pt.cells, Pt.slots] at X131 l131 y131 z131 st131 hQ131
      subst l131 y131 z131
      obtain ⟨rfl, N131q, eh131⟩ := hQ131
      have N131 := Fr.app N0 N131q
      refine Goes.tr st131 ?_
      show Goes p e below s _ _ _ T131 (mkF m 34 #[.val (.long x0), .second, .val (.int x1), .val (.long x2), .second, .val (.int x3), .val (.int (3 : Int32)), .val (.int (0 : Int32)), .unset, .unset, .unset, .unset, .unset, .unset] [(.ref b125)])
      refine own_astore X131 hx 36 rfl #[.val (.long x0), .second, .val (.int x1), .val (.long x2), .second, .val (.int x3), .val (.int (3 : Int32)), .val (.int (0 : Int32)), .val (.ref b125), .unset, .unset, .unset, .unset, .unset] (hb hby at_34) rfl rfl ?_
      refine own_iload X131 hx 38 rfl (hb hby at_36) rfl ?_
      refine own_iconst X131 hx 39 rfl (1 : Int32) (hb hby at_38) (by decide) ?_
      refine own_icmpN X131 hx 42 (hb hby at_39) (flt ((by decide) : ¬ ((3 : Int32) < (1 : Int32)))).1 rfl ?_
      refine own_aload X131 hx 44 rfl (hb hby at_42) rfl rfl ?_
      refine own_lloadN X131 hx 45 rfl (hb hby at_44) rfl ?_
      obtain ⟨cq132, kq132, q132a, q132b, q132c⟩ := isOf hZ eh131 A125
      obtain ⟨_, _, ⟨T132, L132, k132, n132⟩, -, X132, ⟨Lc132, hQ132, l132, y132, z132⟩, st132⟩ := X131.virtualBack hx (y := (⟨"com/example/pooler/pooler/pool/Backoff", "failed", "(J)V"⟩ : MethodName)) (z := (⟨"com/example/pooler/pooler/pool/Backoff", "failed", "(J)V"⟩ : MethodName)) hown (mvT hZ (hw _ (List.mem_of_getElem? (i := 10) rfl))) (mvT hZ (hw _ (List.mem_of_getElem? (i := 11) rfl))) (notFace_of_selects (args := #[]) (mvT hZ (hw _ (List.mem_of_getElem? (i := 13) rfl)))) (mvT hZ (hw _ (List.mem_of_getElem? (i := 13) rfl))) (mvT hZ (hw _ (List.mem_of_getElem? (i := 12) rfl))) (by decide) (backOf (W := 0) (rmfa0 l Z a0 hw [] b125 x2 (0 : Int32) (0 : Int64) h125 n0 Z125 A125 G125 f128 f129 f130) hZ (hw _ (List.mem_of_getElem? (i := 14) rfl)) (hw _ (List.mem_of_getElem? (i := 3) rfl)) (by decide) (by decide)) q132a q132c (g := (mkF m 45 #[.val (.long x0), .second, .val (.int x1), .val (.long x2), .second, .val (.int x3), .val (.int (3 : Int32)), .val (.int (0 : Int32)), .val (.ref b125), .unset, .unset, .unset, .unset, .unset] [(.long x2), (.ref b125)])) rfl (by rw [hml]; rfl) (Steps.refl _) (argsL := [(.long x2)]) (rest := []) (lenOf own_pd0 rfl) rfl (by show 2 * 0 + _ ≤ _; exact Nat.le_of_eq rfl) (hb hby at_45) (fun _ _ => ⟨rfl, eh131, (by decide : 1 + 0 ≤ _), (by decide : 3 + 0 ≤ _)⟩)
      dsimp only [Pt.U, Pt.locs, Pt.cells, Pt.slots] at X132 l132 y132 z132 st132 hQ132
      subst l132 y132 z132
      obtain ⟨rfl, N132q, K132q, f132_0, f132_1, f132_2⟩ := hQ132
      have N132 := Fr.app N131 N132q
      have f133 := own_sta_keep f126 K132q (allS (own_eplain A125) all0)
      have f134 := own_sta_keep f127 K132q (allS (own_eplain A125) all0)
      have f135 := A125.keep K132q
      have K132 := K125.trans K132q (allS (Or.inr H125) all0)
      have Z132 := Nat.le_trans Z125 K132q.1
      refine Goes.tr st132 ?_
      show Goes p e below s _ _ _ T132 (mkF m 48 #[.val (.long x0), .second, .val (.int x1), .val (.long x2), .second, .val (.int x3), .val (.int (3 : Int32)), .val (.int (0 : Int32)), .val (.ref b125), .unset, .unset, .unset, .unset, .unset] [])
      refine own_iload X132 hx 50 rfl (hb hby at_48) rfl ?_
      refine own_iconst X132 hx 51 rfl (2 : Int32) (hb hby at_50) (by decide) ?_
      refine own_icmpN X132 hx 54 (hb hby at_51) (flt ((by decide) : ¬ ((3 : Int32) < (2 : Int32)))).1 rfl ?_
      refine own_aload X132 hx 56 rfl (hb hby at_54) rfl rfl ?_
      refine own_lloadN X132 hx 57 rfl (hb hby at_56) rfl ?_
      obtain ⟨cq136, kq136, q136a, q136b, q136c⟩ := isOf hZ rfl f135
      obtain ⟨_, _, ⟨T136, L136, k136, n136⟩, -, X136, ⟨Lc136, hQ136, l136, y136, z136⟩, st136⟩ := X132.virtualBack hx (y := (⟨"com/example/pooler/pooler/pool/Backoff", "failed", "(J)V"⟩ : MethodName)) (z := (⟨"com/example/pooler/pooler/pool/Backoff", "failed", "(J)V"⟩ : MethodName)) hown (mvT hZ (hw _ (List.mem_of_getElem? (i := 10) rfl))) (mvT hZ (hw _ (List.mem_of_getElem? (i := 11) rfl))) (notFace_of_selects (args := #[]) (mvT hZ (hw _ (List.mem_of_getElem? (i := 13) rfl)))) (mvT hZ (hw _ (List.mem_of_getElem? (i := 13) rfl))) (mvT hZ (hw _ (List.mem_of_getElem? (i := 12) rfl))) (by decide) (backOf (W := 0) (rmfa1 l Z a0 hw [] b125 x2 (1 : Int32) x2 T132.heap n0 Z132 f135 G125 f132_0 f132_1 f132_2) hZ (hw _ (List.mem_of_getElem? (i := 14) rfl)) (hw _ (List.mem_of_getElem? (i := 3) rfl)) (by decide) (by decide)) q136a q136c (g := (mkF m 57 #[.val (.long x0), .second, .val (.int x1), .val (.long x2), .second, .val (.int x3), .val (.int (3 : Int32)), .val (.int (0 : Int32)), .val (.ref b125), .unset, .unset, .unset, .unset, .unset] [(.long x2), (.ref b125)])) rfl (by rw [hml]; rfl) (Steps.refl _) (argsL := [(.long x2)]) (rest := []) (lenOf own_pd0 rfl) rfl (by show 2 * 0 + _ ≤ _; exact Nat.le_of_eq rfl) (hb hby at_57) (fun _ _ => ⟨rfl, rfl, (by decide : 1 + 0 ≤ _), (by decide : 3 + 0 ≤ _)⟩)
      dsimp only [Pt.U, Pt.locs, Pt.cells, Pt.slots] at X136 l136 y136 z136 st136 hQ136
      subst l136 y136 z136
      obtain ⟨rfl, N136q, K136q, f136_0, f136_1, f136_2⟩ := hQ136
      have N136 := Fr.app N132 N136q
      have f137 := own_sta_keep f133 K136q (allS (own_eplain f135) all0)
      have f138 := own_sta_keep f134 K136q (allS (own_eplain f135) all0)
      have f139 := f135.keep K136q
      have K136 := K132.trans K136q (allS (Or.inr H125) all0)
      have Z136 := Nat.le_trans Z132 K136q.1
      refine Goes.tr st136 ?_
      show Goes p e below s _ _ _ T136 (mkF m 60 #[.val (.long x0), .second, .val (.int x1), .val (.long x2), .second, .val (.int x3), .val (.int (3 : Int32)), .val (.int (0 : Int32)), .val (.ref b125), .unset, .unset, .unset, .unset, .unset] [])
      refine own_iload X136 hx 62 rfl (hb hby at_60) rfl ?_
      refine own_iconst X136 hx 63 rfl (3 : Int32) (hb hby at_62) (by decide) ?_
      refine own_icmpN X136 hx 66 (hb hby at_63) (flt ((by decide) : ¬ ((3 : Int32) < (3 : Int32)))).1 rfl ?_
      refine own_aload X136 hx 68 rfl (hb hby at_66) rfl rfl ?_
      refine own_lloadN X136 hx 69 rfl (hb hby at_68) rfl ?_
      obtain ⟨cq140, kq140, q140a, q140b, q140c⟩ := isOf hZ rfl f139
      obtain ⟨_, _, ⟨T140, L140, k140, n140⟩, -, X140, ⟨Lc140, hQ140, l140, y140, z140⟩, st140⟩ := X136.virtualBack hx (y := (⟨"com/example/pooler/pooler/pool/Backoff", "failed", "(J)V"⟩ : MethodName)) (z := (⟨"com/example/pooler/pooler/pool/Backoff", "failed", "(J)V"⟩ : MethodName)) hown (mvT hZ (hw _ (List.mem_of_getElem? (i := 10) rfl))) (mvT hZ (hw _ (List.mem_of_getElem? (i := 11) rfl))) (notFace_of_selects (args := #[]) (mvT hZ (hw _ (List.mem_of_getElem? (i := 13) rfl)))) (mvT hZ (hw _ (List.mem_of_getElem? (i := 13) rfl))) (mvT hZ (hw _ (List.mem_of_getElem? (i := 12) rfl))) (by decide) (backOf (W := 0) (rmfa2 l Z a0 hw [] b125 x2 (1 : Int32) x2 T136.heap n0 Z136 f139 G125 f136_0 f136_1 f136_2) hZ (hw _ (List.mem_of_getElem? (i := 14) rfl)) (hw _ (List.mem_of_getElem? (i := 3) rfl)) (by decide) (by decide)) q140a q140c (g := (mkF m 69 #[.val (.long x0), .second, .val (.int x1), .val (.long x2), .second, .val (.int x3), .val (.int (3 : Int32)), .val (.int (0 : Int32)), .val (.ref b125), .unset, .unset, .unset, .unset, .unset] [(.long x2), (.ref b125)])) rfl (by rw [hml]; rfl) (Steps.refl _) (argsL := [(.long x2)]) (rest := []) (lenOf own_pd0 rfl) rfl (by show 2 * 0 + _ ≤ _; exact Nat.le_of_eq rfl) (hb hby at_69) (fun _ _ => ⟨rfl, rfl, (by decide : 1 + 0 ≤ _), (by decide : 3 + 0 ≤ _)⟩)
      dsimp only [Pt.U, Pt.locs, Pt.cells, Pt.slots] at X140 l140 y140 z140 st140 hQ140
      subst l140 y140 z140
      obtain ⟨rfl, N140q, K140q, f140_0, f140_1, f140_2⟩ := hQ140
      have N140 := Fr.app N136 N140q
      have f141 := own_sta_keep f137 K140q (allS (own_eplain f139) all0)
      have f142 := own_sta_keep f138 K140q (allS (own_eplain f139) all0)
      have f143 := f139.keep K140q
      have K140 := K136.trans K140q (allS (Or.inr H125) all0)
      have Z140 := Nat.le_trans Z136 K140q.1
      refine Goes.tr st140 ?_
      show Goes p e below s _ _ _ T140 (mkF m 72 #[.val (.long x0), .second, .val (.int x1), .val (.long x2), .second, .val (.int x3), .val (.int (3 : Int32)), .val (.int (0 : Int32)), .val (.ref b125), .unset, .unset, .unset, .unset, .unset] [])
      refine own_iload X140 hx 74 rfl (hb hby at_72) rfl ?_
      refine own_iconst X140 hx 75 rfl (4 : Int32) (hb hby at_74) (by decide) ?_
      refine own_icmpY X140 hx 84 (hb hby at_75) (tlt ((by decide) : (3 : Int32) < (4 : Int32))).1 (by decide) (by decide) ?_
      refine own_iload X140 hx 86 rfl (hb hby at_84) rfl ?_
      refine own_iconst X140 hx 87 rfl (5 : Int32) (hb hby at_86) (by decide) ?_
      refine own_icmpY X140 hx 96 (hb hby at_87) (tlt ((by decide) : (3 : Int32) < (5 : Int32))).1 (by decide) (by decide) ?_
      refine own_iload X140 hx 98 rfl (hb hby at_96) rfl ?_
      refine own_ifY X140 hx 107 (hb hby at_98) ((if0 _ _).trans (teq ((by decide) : (0 : Int32) = (0 : Int32))).1) (by decide) (by decide) ?_
      refine own_aload X140 hx 109 rfl (hb hby at_107) rfl rfl ?_
      refine own_lloadN X140 hx 110 rfl (hb hby at_109) rfl ?_
      obtain ⟨cq144, kq144, q144a, q144b, q144c⟩ := isOf hZ rfl f143
      obtain ⟨_, _, ⟨T144, L144, k144, n144⟩, -, X144, ⟨Lc144, hQ144, l144, y144, z144⟩, st144⟩ := X140.virtualBack hx (y := (⟨"com/example/pooler/pooler/pool/Backoff", "failed", "(J)V"⟩ : MethodName)) (z := (⟨"com/example/pooler/pooler/pool/Backoff", "failed", "(J)V"⟩ : MethodName)) hown (mvT hZ (hw _ (List.mem_of_getElem? (i := 10) rfl))) (mvT hZ (hw _ (List.mem_of_getElem? (i := 11) rfl))) (notFace_of_selects (args := #[]) (mvT hZ (hw _ (List.mem_of_getElem? (i := 13) rfl)))) (mvT hZ (hw _ (List.mem_of_getElem? (i := 13) rfl))) (mvT hZ (hw _ (List.mem_of_getElem? (i := 12) rfl))) (by decide) (backOf (W := 0) (rmfa3 l Z a0 hw [] b125 x0 (1 : Int32) x2 T140.heap n0 Z140 f143 G125 f140_0 f140_1 f140_2) hZ (hw _ (List.mem_of_getElem? (i := 14) rfl)) (hw _ (List.mem_of_getElem? (i := 3) rfl)) (by decide) (by decide)) q144a q144c (g := (mkF m 110 #[.val (.long x0), .second, .val (.int x1), .val (.long x2), .second, .val (.int x3), .val (.int (3 : Int32)), .val (.int (0 : Int32)), .val (.ref b125), .unset, .unset, .unset, .unset, .unset] [(.long x0), (.ref b125)])) rfl (by rw [hml]; rfl) (Steps.refl _) (argsL := [(.long x0)]) (rest := []) (lenOf own_pd0 rfl) rfl (by show 2 * 0 + _ ≤ _; exact Nat.le_of_eq rfl) (hb hby at_110) (fun _ _ => ⟨rfl, rfl, (by decide : 1 + 0 ≤ _), (by decide : 3 + 0 ≤ _)⟩)
      dsimp only [Pt.U, Pt.locs, Pt.cells, Pt.slots] at X144 l144 y144 z144 st144 hQ144
      subst l144 y144 z144
      obtain ⟨rfl, N144q, K144q, f144_0, f144_1, f144_2⟩ := hQ144
      have N144 := Fr.app N140 N144q
      have f145 := own_sta_keep f141 K144q (allS (own_eplain f143) all0)
      have f146 := own_sta_keep f142 K144q (allS (own_eplain f143) all0)
      have f147 := f143.keep K144q
      have K144 := K140.trans K144q (allS (Or.inr H125) all0)
      have Z144 := Nat.le_trans Z140 K144q.1
      refine Goes.tr st144 ?_
      show Goes p e below s _ _ _ T144 (mkF m 113 #[.val (.long x0), .second, .val (.int x1), .val (.long x2), .second, .val (.int x3), .val (.int (3 : Int32)), .val (.int (0 : Int32)), .val (.ref b125), .unset, .unset, .unset, .unset, .unset] [])
      refine own_iload X144 hx 115 rfl (hb hby at_113) rfl ?_
      refine own_ifY X144 hx 122 (hb hby at_115) ((if0 _ _).trans (teq ((by decide) : (0 : Int32) = (0 : Int32))).1) (by decide) (by decide) ?_
      refine own_iload X144 hx 124 rfl (hb hby at_122) rfl ?_
      refine own_iconst X144 hx 125 rfl (1 : Int32) (hb hby at_124) (by decide) ?_
      refine own_iadd X144 hx 126 rfl (z := (4 : Int32)) (hb hby at_125) (by decide) ?_
      refine own_istore X144 hx 128 rfl #[.val (.long x0), .second, .val (.int x1), .val (.long x2), .second, .val (.int x3), .val (.int (3 : Int32)), .val (.int (0 : Int32)), .val (.ref b125), .val (.int (4 : Int32)), .unset, .unset, .unset, .unset] (hb hby at_126) rfl ?_
      refine own_lloadN X144 hx 129 rfl (hb hby at_128) rfl ?_
      refine own_iloadN X144 hx 130 rfl (hb hby at_129) rfl ?_
      refine own_i2l X144 hx 131 rfl (hb hby at_130) rfl ?_
      refine own_ladd X144 hx 132 rfl (hb hby at_131) rfl ?_
      refine own_lstore X144 hx 134 rfl #[.val (.long x0), .second, .val (.int x1), .val (.long x2), .second, .val (.int x3), .val (.int (3 : Int32)), .val (.int (0 : Int32)), .val (.ref b125), .val (.int (4 : Int32)), .val (.long (x0 + (x1.toInt64))), .second, .unset, .unset] (hb hby at_132) rfl ?_
      refine own_lconst X144 hx 135 rfl (0 : Int64) (hb hby at_134) (by decide) ?_
      refine own_iload X144 hx 137 rfl (hb hby at_135) rfl ?_
      obtain ⟨_, _, ⟨T148, L148, k148, n148⟩, -, X148, ⟨Lc148, hQ148, l148, y148, z148⟩, st148⟩ := Jvm.LawKit.callS X144 hx (y := (⟨"com/example/pooler/pooler/pool/BackoffFailedPinLaw", "expectedPause", "(I)J"⟩ : MethodName)) hown (mvT hZ (hw _ (List.mem_of_getElem? (i := 25) rfl))) (mvT hZ (hw _ (List.mem_of_getElem? (i := 26) rfl))) (mvT hZ (hw _ (List.mem_of_getElem? (i := 27) rfl))) (mvT hZ (hw _ (List.mem_of_getElem? (i := 28) rfl))) (by decide) (backOf (W := 2) (rmep4 l Z a0 hw []  T144.heap n0 Z144 ) hZ (hw _ (List.mem_of_getElem? (i := 28) rfl)) (hw _ (List.mem_of_getElem? (i := 27) rfl)) (by decide) (by decide)) (g := (mkF m 137 #[.val (.long x0), .second, .val (.int x1), .val (.long x2), .second, .val (.int x3), .val (.int (3 : Int32)), .val (.int (0 : Int32)), .val (.ref b125), .val (.int (4 : Int32)), .val (.long (x0 + (x1.toInt64))), .second, .unset, .unset] [(.int (4 : Int32)), (.long (0 : Int64))])) rfl (by rw [hml]; rfl) (argsL := [(.int (4 : Int32))]) (rest := [(.long (0 : Int64))]) (lenOf own_pd4 rfl) rfl (by show 2 * 0 + _ ≤ _; exact Nat.le_of_eq rfl) (hb hby at_137) (fun _ _ => ⟨rfl, rfl, (by decide : 1 + 0 ≤ _), (by decide : 3 + 0 ≤ _)⟩)
      dsimp only [Pt.U, Pt.locs, Pt.cells, Pt.slots] at X148 l148 y148 z148 st148 hQ148
      subst l148 y148 z148
      obtain ⟨rfl, N148q, eh148⟩ := hQ148
      have N148 := Fr.app N144 N148q
      refine Goes.go st148 ?_
      show Goes p e below s _ _ _ T148 (mkF m 140 #[.val (.long x0), .second, .val (.int x1), .val (.long x2), .second, .val (.int x3), .val (.int (3 : Int32)), .val (.int (0 : Int32)), .val (.ref b125), .val (.int (4 : Int32)), .val (.long (x0 + (x1.toInt64))), .second, .unset, .unset] [(.long (800000000 : Int64)), (.long (0 : Int64))])
      refine own_iloadN X148 hx 141 rfl (hb hby at_140) rfl ?_
      refine own_i2l X148 hx 142 rfl (hb hby at_141) rfl ?_
      refine own_lsub X148 hx 143 rfl (hb hby at_142) rfl ?_
      obtain ⟨_, _, ⟨T149, L149, k149, n149⟩, -, X149, ⟨Lc149, hQ149, l149, y149, z149⟩, st149⟩ := Jvm.LawKit.callS X148 hx (y := (⟨"java/lang/Math", "max", "(JJ)J"⟩ : MethodName)) hown (mvT hZ (hw _ (List.mem_of_getElem? (i := 32) rfl))) (mvT hZ (hw _ (List.mem_of_getElem? (i := 33) rfl))) (mvT hZ (hw _ (List.mem_of_getElem? (i := 34) rfl))) (mvT hZ (hw _ (List.mem_of_getElem? (i := 35) rfl))) (by decide) (backOf (W := 0) (rm6 l Z a0 hw [] (0 : Int64) ((800000000 : Int64) - (x1.toInt64)) T144.heap n0 Z144 ) hZ (hw _ (List.mem_of_getElem? (i := 35) rfl)) (hw _ (List.mem_of_getElem? (i := 34) rfl)) (by decide) (by decide)) (g := (mkF m 143 #[.val (.long x0), .second, .val (.int x1), .val (.long x2), .second, .val (.int x3), .val (.int (3 : Int32)), .val (.int (0 : Int32)), .val (.ref b125), .val (.int (4 : Int32)), .val (.long (x0 + (x1.toInt64))), .second, .unset, .unset] [(.long ((800000000 : Int64) - (x1.toInt64))), (.long (0 : Int64))])) rfl (by rw [hml]; rfl) (argsL := [(.long (0 : Int64)), (.long ((800000000 : Int64) - (x1.toInt64)))]) (rest := []) (lenOf own_pd1 rfl) rfl (by show 2 * 0 + _ ≤ _; exact Nat.le_of_eq rfl) (hb hby at_143) (fun _ _ => ⟨rfl, eh148, (by decide : 1 + 0 ≤ _), (by decide : 3 + 0 ≤ _)⟩)
      dsimp only [Pt.U, Pt.locs, Pt.cells, Pt.slots] at X149 l149 y149 z149 st149 hQ149
      subst l149 y149 z149
      obtain ⟨mr_149, rfl, N149q, eh149, pr149_0⟩ := hQ149
      have N149 := Fr.app N148 N149q
      refine Goes.go st149 ?_
      show Goes p e below s _ _ _ T149 (mkF m 146 #[.val (.long x0), .second, .val (.int x1), .val (.long x2), .second, .val (.int x3), .val (.int (3 : Int32)), .val (.int (0 : Int32)), .val (.ref b125), .val (.int (4 : Int32)), .val (.long (x0 + (x1.toInt64))), .second, .unset, .unset] [(.long mr_149)])
      refine own_lstore X149 hx 148 rfl #[.val (.long x0), .second, .val (.int x1), .val (.long x2), .second, .val (.int x3), .val (.int (3 : Int32)), .val (.int (0 : Int32)), .val (.ref b125), .val (.int (4 : Int32)), .val (.long (x0 + (x1.toInt64))), .second, .val (.long mr_149), .second] (hb hby at_146) rfl ?_
      refine own_aload X149 hx 150 rfl (hb hby at_148) rfl rfl ?_
      refine own_lload X149 hx 152 rfl (hb hby at_150) rfl ?_
      obtain ⟨cq150, kq150, q150a, q150b, q150c⟩ := isOf hZ eh149 f147
      obtain ⟨_, _, ⟨T150, L150, k150, n150⟩, -, X150, ⟨Lc150, hQ150, l150, y150, z150⟩, st150⟩ := X149.virtualBack hx (y := (⟨"com/example/pooler/pooler/pool/Backoff", "delay", "(J)J"⟩ : MethodName)) (z := (⟨"com/example/pooler/pooler/pool/Backoff", "delay", "(J)J"⟩ : MethodName)) hown (mvT hZ (hw _ (List.mem_of_getElem? (i := 36) rfl))) (mvT hZ (hw _ (List.mem_of_getElem? (i := 37) rfl))) (notFace_of_selects (args := #[]) (mvT hZ (hw _ (List.mem_of_getElem? (i := 39) rfl)))) (mvT hZ (hw _ (List.mem_of_getElem? (i := 39) rfl))) (mvT hZ (hw _ (List.mem_of_getElem? (i := 38) rfl))) (by decide) (backOf (W := 0) (rmde4 l Z a0 hw [] b125 (x0 + (x1.toInt64)) x0 T144.heap n0 Z144 f147 f145 f146 f144_0 f144_1 f144_2) hZ (hw _ (List.mem_of_getElem? (i := 40) rfl)) (hw _ (List.mem_of_getElem? (i := 3) rfl)) (by decide) (by decide)) q150a q150c (g := (mkF m 152 #[.val (.long x0), .second, .val (.int x1), .val (.long x2), .second, .val (.int x3), .val (.int (3 : Int32)), .val (.int (0 : Int32)), .val (.ref b125), .val (.int (4 : Int32)), .val (.long (x0 + (x1.toInt64))), .second, .val (.long mr_149), .second] [(.long (x0 + (x1.toInt64))), (.ref b125)])) rfl (by rw [hml]; rfl) (Steps.refl _) (argsL := [(.long (x0 + (x1.toInt64)))]) (rest := []) (lenOf own_pd5 rfl) rfl (by show 2 * 0 + _ ≤ _; exact Nat.le_of_eq rfl) (hb hby at_152) (fun _ _ => ⟨rfl, eh149, (by decide : 1 + 0 ≤ _), (by decide : 3 + 0 ≤ _)⟩)
      dsimp only [Pt.U, Pt.locs, Pt.cells, Pt.slots] at X150 l150 y150 z150 st150 hQ150
      subst l150 y150 z150
      obtain ⟨br_150, rfl, N150q, eh150, pr150_0⟩ := hQ150
      have N150 := Fr.app N149 N150q
      refine Goes.tr st150 ?_
      show Goes p e below s _ _ _ T150 (mkF m 155 #[.val (.long x0), .second, .val (.int x1), .val (.long x2), .second, .val (.int x3), .val (.int (3 : Int32)), .val (.int (0 : Int32)), .val (.ref b125), .val (.int (4 : Int32)), .val (.long (x0 + (x1.toInt64))), .second, .val (.long mr_149), .second] [(.long br_150)])
      refine own_lload X150 hx 157 rfl (hb hby at_155) rfl ?_
      refine own_lcmp X150 hx 158 rfl (hb hby at_157) ?_
      refine own_ifN X150 hx 161 (hb hby at_158) (Lteq (own_fin pr150_0 pr149_0 : br_150 = mr_149)).2 rfl ?_
      refine own_iconst X150 hx 162 rfl (1 : Int32) (hb hby at_161) (by decide) ?_
      refine own_goto X150 hx 166 (hb hby at_162) (by decide) (by decide) ?_
      refine own_retZ X150 hx hlk Bd.returns (by decide) (hb hby at_166) (by decide) (by decide) eh150 ?_
      exact ⟨rfl, N150⟩
    · refine own_ifN X0 hx 20 (hb hby at_17) ((if0 _ _).trans (feq hc17_124).1) rfl ?_
      refine own_iconst X0 hx 21 rfl (1 : Int32) (hb hby at_20) (by decide) ?_
      refine own_goto X0 hx 25 (hb hby at_21) (by decide) (by decide) ?_
      refine own_istore X0 hx 27 rfl #[.val (.long x0), .second, .val (.int x1), .val (.long x2), .second, .val (.int x3), .val (.int (3 : Int32)), .val (.int (1 : Int32)), .unset, .unset, .unset, .unset, .unset, .unset] (hb hby at_25) rfl ?_
      obtain ⟨T151, h151, X151, e151, E151, A151, D151, -, st151⟩ := newO X0 hx hZ hown (hw _ (List.mem_of_getElem? (i := 1) rfl)) (hw _ (List.mem_of_getElem? (i := 2) rfl)) (hw _ (List.mem_of_getElem? (i := 3) rfl)) e0 (g := (mkF m 27 #[.val (.long x0), .second, .val (.int x1), .val (.long x2), .second, .val (.int x3), .val (.int (3 : Int32)), .val (.int (1 : Int32)), .unset, .unset, .unset, .unset, .unset, .unset] [])) rfl (hb hby at_27) (by decide) (by decide)
      obtain ⟨b151, g151⟩ : ∃ z, z = h0.size := ⟨_, rfl⟩
      rw [← g151] at A151 D151 st151
      have G151 : n0 ≤ b151 := Nat.le_trans Z0 (Nat.le_of_eq g151.symm)
      have H151 : h0.size ≤ b151 := Nat.le_trans K0.1 (Nat.le_of_eq g151.symm)
      have f152 := S_y_SHORTEST.ext E151
      have f153 := S_y_LONGEST.ext E151
      have K151 := K0.ext E151
      have Z151 := Nat.le_trans Z0 E151.1
      have f154 : Fld Z h151 b151 "com/example/pooler/pooler/pool/Backoff" "tried" "Z" (.int (0 : Int32)) := D151 (Or.inl (hw _ (List.mem_of_getElem? (i := 20) rfl))) (ty := .boolean) (by decide)
      have f155 : Fld Z h151 b151 "com/example/pooler/pooler/pool/Backoff" "endedAt" "J" (.long (0 : Int64)) := D151 (Or.inl (hw _ (List.mem_of_getElem? (i := 22) rfl))) (ty := .long) (by decide)
      have f156 : Fld Z h151 b151 "com/example/pooler/pooler/pool/Backoff" "failuresInARow" "I" (.int (0 : Int32)) := D151 (Or.inl (hw _ (List.mem_of_getElem? (i := 24) rfl))) (ty := .int) (by decide)
      refine Goes.go st151 ?_
      show Goes p e below s _ _ _ T151 (mkF m 30 #[.val (.long x0), .second, .val (.int x1), .val (.long x2), .second, .val (.int x3), .val (.int (3 : Int32)), .val (.int (1 : Int32)), .unset, .unset, .unset, .unset, .unset, .unset] [(.ref b151)])
      refine own_dup X151 hx 31 rfl (hb hby at_30) rfl ?_
      obtain ⟨_, _, ⟨T157, L157, k157, n157⟩, -, X157, ⟨Lc157, hQ157, l157, y157, z157⟩, st157⟩ := X151.specialBack hx (y := (⟨"com/example/pooler/pooler/pool/Backoff", "<init>", "()V"⟩ : MethodName)) rfl hown (mvT hZ (hw _ (List.mem_of_getElem? (i := 4) rfl))) (mvT hZ (hw _ (List.mem_of_getElem? (i := 5) rfl))) (mvT hZ (hw _ (List.mem_of_getElem? (i := 6) rfl))) (by decide) (backOf (W := 1) (rm1 l Z a0 hw [] b151 h151 n0 Z151 ) hZ (hw _ (List.mem_of_getElem? (i := 6) rfl)) (hw _ (List.mem_of_getElem? (i := 3) rfl)) (by decide) (by decide)) (g := (mkF m 31 #[.val (.long x0), .second, .val (.int x1), .val (.long x2), .second, .val (.int x3), .val (.int (3 : Int32)), .val (.int (1 : Int32)), .unset, .unset, .unset, .unset, .unset, .unset] [(.ref b151), (.ref b151)])) rfl (by rw [hml]; rfl) (Steps.refl _) (a := b151) (argsL := []) (rest := [(.ref b151)]) (lenOf own_pd3 rfl) rfl (by show 2 * 0 + _ ≤ _; exact Nat.le_of_eq rfl) (hb hby at_31) (fun _ _ => ⟨rfl, e151, (by decide : 1 + 0 ≤ _), (by decide : 3 + 0 ≤ _)⟩)
      dsimp only [Pt.U, Pt.locs, Pt.cells, Pt.slots] at X157 l157 y157 z157 st157 hQ157
      subst l157 y157 z157
      obtain ⟨rfl, N157q, eh157⟩ := hQ157
      have N157 := Fr.app N0 N157q
      refine Goes.tr st157 ?_
      show Goes p e below s _ _ _ T157 (mkF m 34 #[.val (.long x0), .second, .val (.int x1), .val (.long x2), .second, .val (.int x3), .val (.int (3 : Int32)), .val (.int (1 : Int32)), .unset, .unset, .unset, .unset, .unset, .unset] [(.ref b151)])
      refine own_astore X157 hx 36 rfl #[.val (.long x0), .second, .val (.int x1), .val (.long x2), .second, .val (.int x3), .val (.int (3 : Int32)), .val (.int (1 : Int32)), .val (.ref b151), .unset, .unset, .unset, .unset, .unset] (hb hby at_34) rfl rfl ?_
      refine own_iload X157 hx 38 rfl (hb hby at_36) rfl ?_
      refine own_iconst X157 hx 39 rfl (1 : Int32) (hb hby at_38) (by decide) ?_
      refine own_icmpN X157 hx 42 (hb hby at_39) (flt ((by decide) : ¬ ((3 : Int32) < (1 : Int32)))).1 rfl ?_
      refine own_aload X157 hx 44 rfl (hb hby at_42) rfl rfl ?_
      refine own_lloadN X157 hx 45 rfl (hb hby at_44) rfl ?_
      obtain ⟨cq158, kq158, q158a, q158b, q158c⟩ := isOf hZ eh157 A151
      obtain ⟨_, _, ⟨T158, L158, k158, n158⟩, -, X158, ⟨Lc158, hQ158, l158, y158, z158⟩, st158⟩ := X157.virtualBack hx (y := (⟨"com/example/pooler/pooler/pool/Backoff", "failed", "(J)V"⟩ : MethodName)) (z := (⟨"com/example/pooler/pooler/pool/Backoff", "failed", "(J)V"⟩ : MethodName)) hown (mvT hZ (hw _ (List.mem_of_getElem? (i := 10) rfl))) (mvT hZ (hw _ (List.mem_of_getElem? (i := 11) rfl))) (notFace_of_selects (args := #[]) (mvT hZ (hw _ (List.mem_of_getElem? (i := 13) rfl)))) (mvT hZ (hw _ (List.mem_of_getElem? (i := 13) rfl))) (mvT hZ (hw _ (List.mem_of_getElem? (i := 12) rfl))) (by decide) (backOf (W := 0) (rmfa0 l Z a0 hw [] b151 x2 (0 : Int32) (0 : Int64) h151 n0 Z151 A151 G151 f154 f155 f156) hZ (hw _ (List.mem_of_getElem? (i := 14) rfl)) (hw _ (List.mem_of_getElem? (i := 3) rfl)) (by decide) (by decide)) q158a q158c (g := (mkF m 45 #[.val (.long x0), .second, .val (.int x1), .val (.long x2), .second, .val (.int x3), .val (.int (3 : Int32)), .val (.int (1 : Int32)), .val (.ref b151), .unset, .unset, .unset, .unset, .unset] [(.long x2), (.ref b151)])) rfl (by rw [hml]; rfl) (Steps.refl _) (argsL := [(.long x2)]) (rest := []) (lenOf own_pd0 rfl) rfl (by show 2 * 0 + _ ≤ _; exact Nat.le_of_eq rfl) (hb hby at_45) (fun _ _ => ⟨rfl, eh157, (by decide : 1 + 0 ≤ _), (by decide : 3 + 0 ≤ _)⟩)
      dsimp only [Pt.U, Pt.locs, Pt.cells, Pt.slots] at X158 l158 y158 z158 st158 hQ158
      subst l158 y158 z158
      obtain ⟨rfl, N158q, K158q, f158_0, f158_1, f158_2⟩ := hQ158
      have N158 := Fr.app N157 N158q
      have f159 := own_sta_keep f152 K158q (allS (own_eplain A151) all0)
      have f160 := own_sta_keep f153 K158q (allS (own_eplain A151) all0)
      have f161 := A151.keep K158q
      have K158 := K151.trans K158q (allS (Or.inr H151) all0)
      have Z158 := Nat.le_trans Z151 K158q.1
      refine Goes.tr st158 ?_
      show Goes p e below s _ _ _ T158 (mkF m 48 #[.val (.long x0), .second, .val (.int x1), .val (.long x2), .second, .val (.int x3), .val (.int (3 : Int32)), .val (.int (1 : Int32)), .val (.ref b151), .unset, .unset, .unset, .unset, .unset] [])
      refine own_iload X158 hx 50 rfl (hb hby at_48) rfl ?_
      refine own_iconst X158 hx 51 rfl (2 : Int32) (hb hby at_50) (by decide) ?_
      refine own_icmpN X158 hx 54 (hb hby at_51) (flt ((by decide) : ¬ ((3 : Int32) < (2 : Int32)))).1 rfl ?_
      refine own_aload X158 hx 56 rfl (hb hby at_54) rfl rfl ?_
      refine own_lloadN X158 hx 57 rfl (hb hby at_56) rfl ?_
      obtain ⟨cq162, kq162, q162a, q162b, q162c⟩ := isOf hZ rfl f161
      obtain ⟨_, _, ⟨T162, L162, k162, n162⟩, -, X162, ⟨Lc162, hQ162, l162, y162, z162⟩, st162⟩ := X158.virtualBack hx (y := (⟨"com/example/pooler/pooler/pool/Backoff", "failed", "(J)V"⟩ : MethodName)) (z := (⟨"com/example/pooler/pooler/pool/Backoff", "failed", "(J)V"⟩ : MethodName)) hown (mvT hZ (hw _ (List.mem_of_getElem? (i := 10) rfl))) (mvT hZ (hw _ (List.mem_of_getElem? (i := 11) rfl))) (notFace_of_selects (args := #[]) (mvT hZ (hw _ (List.mem_of_getElem? (i := 13) rfl)))) (mvT hZ (hw _ (List.mem_of_getElem? (i := 13) rfl))) (mvT hZ (hw _ (List.mem_of_getElem? (i := 12) rfl))) (by decide) (backOf (W := 0) (rmfa1 l Z a0 hw [] b151 x2 (1 : Int32) x2 T158.heap n0 Z158 f161 G151 f158_0 f158_1 f158_2) hZ (hw _ (List.mem_of_getElem? (i := 14) rfl)) (hw _ (List.mem_of_getElem? (i := 3) rfl)) (by decide) (by decide)) q162a q162c (g := (mkF m 57 #[.val (.long x0), .second, .val (.int x1), .val (.long x2), .second, .val (.int x3), .val (.int (3 : Int32)), .val (.int (1 : Int32)), .val (.ref b151), .unset, .unset, .unset, .unset, .unset] [(.long x2), (.ref b151)])) rfl (by rw [hml]; rfl) (Steps.refl _) (argsL := [(.long x2)]) (rest := []) (lenOf own_pd0 rfl) rfl (by show 2 * 0 + _ ≤ _; exact Nat.le_of_eq rfl) (hb hby at_57) (fun _ _ => ⟨rfl, rfl, (by decide : 1 + 0 ≤ _), (by decide : 3 + 0 ≤ _)⟩)
      dsimp only [Pt.U, Pt.locs, Pt.cells, Pt.slots] at X162 l162 y162 z162 st162 hQ162
      subst l162 y162 z162
      obtain ⟨rfl, N162q, K162q, f162_0, f162_1, f162_2⟩ := hQ162
      have N162 := Fr.app N158 N162q
      have f163 := own_sta_keep f159 K162q (allS (own_eplain f161) all0)
      have f164 := own_sta_keep f160 K162q (allS (own_eplain f161) all0)
      have f165 := f161.keep K162q
      have K162 := K158.trans K162q (allS (Or.inr H151) all0)
      have Z162 := Nat.le_trans Z158 K162q.1
      refine Goes.tr st162 ?_
      show Goes p e below s _ _ _ T162 (mkF m 60 #[.val (.long x0), .second, .val (.int x1), .val (.long x2), .second, .val (.int x3), .val (.int (3 : Int32)), .val (.int (1 : Int32)), .val (.ref b151), .unset, .unset, .unset, .unset, .unset] [])
      refine own_iload X162 hx 62 rfl (hb hby at_60) rfl ?_
      refine own_iconst X162 hx 63 rfl (3 : Int32) (hb hby at_62) (by decide) ?_
      refine own_icmpN X162 hx 66 (hb hby at_63) (flt ((by decide) : ¬ ((3 : Int32) < (3 : Int32)))).1 rfl ?_
      refine own_aload X162 hx 68 rfl (hb hby at_66) rfl rfl ?_
      refine own_lloadN X162 hx 69 rfl (hb hby at_68) rfl ?_
      obtain ⟨cq166, kq166, q166a, q166b, q166c⟩ := isOf hZ rfl f165
      obtain ⟨_, _, ⟨T166, L166, k166, n166⟩, -, X166, ⟨Lc166, hQ166, l166, y166, z166⟩, st166⟩ := X162.virtualBack hx (y := (⟨"com/example/pooler/pooler/pool/Backoff", "failed", "(J)V"⟩ : MethodName)) (z := (⟨"com/example/pooler/pooler/pool/Backoff", "failed", "(J)V"⟩ : MethodName)) hown (mvT hZ (hw _ (List.mem_of_getElem? (i := 10) rfl))) (mvT hZ (hw _ (List.mem_of_getElem? (i := 11) rfl))) (notFace_of_selects (args := #[]) (mvT hZ (hw _ (List.mem_of_getElem? (i := 13) rfl)))) (mvT hZ (hw _ (List.mem_of_getElem? (i := 13) rfl))) (mvT hZ (hw _ (List.mem_of_getElem? (i := 12) rfl))) (by decide) (backOf (W := 0) (rmfa2 l Z a0 hw [] b151 x2 (1 : Int32) x2 T162.heap n0 Z162 f165 G151 f162_0 f162_1 f162_2) hZ (hw _ (List.mem_of_getElem? (i := 14) rfl)) (hw _ (List.mem_of_getElem? (i := 3) rfl)) (by decide) (by decide)) q166a q166c (g := (mkF m 69 #[.val (.long x0), .second, .val (.int x1), .val (.long x2), .second, .val (.int x3), .val (.int (3 : Int32)), .val (.int (1 : Int32)), .val (.ref b151), .unset, .unset, .unset, .unset, .unset] [(.long x2), (.ref b151)])) rfl (by rw [hml]; rfl) (Steps.refl _) (argsL := [(.long x2)]) (rest := []) (lenOf own_pd0 rfl) rfl (by show 2 * 0 + _ ≤ _; exact Nat.le_of_eq rfl) (hb hby at_69) (fun _ _ => ⟨rfl, rfl, (by decide : 1 + 0 ≤ _), (by decide : 3 + 0 ≤ _)⟩)
      dsimp only [Pt.U, Pt.locs, Pt.cells, Pt.slots] at X166 l166 y166 z166 st166 hQ166
      subst l166 y166 z166
      obtain ⟨rfl, N166q, K166q, f166_0, f166_1, f166_2⟩ := hQ166
      have N166 := Fr.app N162 N166q
      have f167 := own_sta_keep f163 K166q (allS (own_eplain f165) all0)
      have f168 := own_sta_keep f164 K166q (allS (own_eplain f165) all0)
      have f169 := f165.keep K166q
      have K166 := K162.trans K166q (allS (Or.inr H151) all0)
      have Z166 := Nat.le_trans Z162 K166q.1
      refine Goes.tr st166 ?_
      show Goes p e below s _ _ _ T166 (mkF m 72 #[.val (.long x0), .second, .val (.int x1), .val (.long x2), .second, .val (.int x3), .val (.int (3 : Int32)), .val (.int (1 : Int32)), .val (.ref b151), .unset, .unset, .unset, .unset, .unset] [])
      refine own_iload X166 hx 74 rfl (hb hby at_72) rfl ?_
      refine own_iconst X166 hx 75 rfl (4 : Int32) (hb hby at_74) (by decide) ?_
      refine own_icmpY X166 hx 84 (hb hby at_75) (tlt ((by decide) : (3 : Int32) < (4 : Int32))).1 (by decide) (by decide) ?_
      refine own_iload X166 hx 86 rfl (hb hby at_84) rfl ?_
      refine own_iconst X166 hx 87 rfl (5 : Int32) (hb hby at_86) (by decide) ?_
      refine own_icmpY X166 hx 96 (hb hby at_87) (tlt ((by decide) : (3 : Int32) < (5 : Int32))).1 (by decide) (by decide) ?_
      refine own_iload X166 hx 98 rfl (hb hby at_96) rfl ?_
      refine own_ifN X166 hx 101 (hb hby at_98) ((if0 _ _).trans (feq ((by decide) : ¬ ((1 : Int32) = (0 : Int32)))).1) rfl ?_
      refine own_aload X166 hx 103 rfl (hb hby at_101) rfl rfl ?_
      refine own_lloadN X166 hx 104 rfl (hb hby at_103) rfl ?_
      obtain ⟨cq170, kq170, q170a, q170b, q170c⟩ := isOf hZ rfl f169
      obtain ⟨_, _, ⟨T170, L170, k170, n170⟩, -, X170, ⟨Lc170, hQ170, l170, y170, z170⟩, st170⟩ := X166.virtualBack hx (y := (⟨"com/example/pooler/pooler/pool/Backoff", "opened", "(J)V"⟩ : MethodName)) (z := (⟨"com/example/pooler/pooler/pool/Backoff", "opened", "(J)V"⟩ : MethodName)) hown (mvT hZ (hw _ (List.mem_of_getElem? (i := 55) rfl))) (mvT hZ (hw _ (List.mem_of_getElem? (i := 56) rfl))) (notFace_of_selects (args := #[]) (mvT hZ (hw _ (List.mem_of_getElem? (i := 58) rfl)))) (mvT hZ (hw _ (List.mem_of_getElem? (i := 58) rfl))) (mvT hZ (hw _ (List.mem_of_getElem? (i := 57) rfl))) (by decide) (backOf (W := 0) (rm10 l Z a0 hw [] b151 x2 (1 : Int32) x2 (3 : Int32) T166.heap n0 Z166 f169 G151 f166_0 f166_1 f166_2) hZ (hw _ (List.mem_of_getElem? (i := 59) rfl)) (hw _ (List.mem_of_getElem? (i := 3) rfl)) (by decide) (by decide)) q170a q170c (g := (mkF m 104 #[.val (.long x0), .second, .val (.int x1), .val (.long x2), .second, .val (.int x3), .val (.int (3 : Int32)), .val (.int (1 : Int32)), .val (.ref b151), .unset, .unset, .unset, .unset, .unset] [(.long x2), (.ref b151)])) rfl (by rw [hml]; rfl) (Steps.refl _) (argsL := [(.long x2)]) (rest := []) (lenOf own_pd0 rfl) rfl (by show 2 * 0 + _ ≤ _; exact Nat.le_of_eq rfl) (hb hby at_104) (fun _ _ => ⟨rfl, rfl, (by decide : 1 + 0 ≤ _), (by decide : 3 + 0 ≤ _)⟩)
      dsimp only [Pt.U, Pt.locs, Pt.cells, Pt.slots] at X170 l170 y170 z170 st170 hQ170
      subst l170 y170 z170
      obtain ⟨rfl, N170q, K170q, f170_0, f170_1, f170_2⟩ := hQ170
      have N170 := Fr.app N166 N170q
      have f171 := own_sta_keep f167 K170q (allS (own_eplain f169) all0)
      have f172 := own_sta_keep f168 K170q (allS (own_eplain f169) all0)
      have f173 := f169.keep K170q
      have K170 := K166.trans K170q (allS (Or.inr H151) all0)
      have Z170 := Nat.le_trans Z166 K170q.1
      refine Goes.tr st170 ?_
      show Goes p e below s _ _ _ T170 (mkF m 107 #[.val (.long x0), .second, .val (.int x1), .val (.long x2), .second, .val (.int x3), .val (.int (3 : Int32)), .val (.int (1 : Int32)), .val (.ref b151), .unset, .unset, .unset, .unset, .unset] [])
      refine own_aload X170 hx 109 rfl (hb hby at_107) rfl rfl ?_
      refine own_lloadN X170 hx 110 rfl (hb hby at_109) rfl ?_
      obtain ⟨cq174, kq174, q174a, q174b, q174c⟩ := isOf hZ rfl f173
      obtain ⟨_, _, ⟨T174, L174, k174, n174⟩, -, X174, ⟨Lc174, hQ174, l174, y174, z174⟩, st174⟩ := X170.virtualBack hx (y := (⟨"com/example/pooler/pooler/pool/Backoff", "failed", "(J)V"⟩ : MethodName)) (z := (⟨"com/example/pooler/pooler/pool/Backoff", "failed", "(J)V"⟩ : MethodName)) hown (mvT hZ (hw _ (List.mem_of_getElem? (i := 10) rfl))) (mvT hZ (hw _ (List.mem_of_getElem? (i := 11) rfl))) (notFace_of_selects (args := #[]) (mvT hZ (hw _ (List.mem_of_getElem? (i := 13) rfl)))) (mvT hZ (hw _ (List.mem_of_getElem? (i := 13) rfl))) (mvT hZ (hw _ (List.mem_of_getElem? (i := 12) rfl))) (by decide) (backOf (W := 0) (rmfa0 l Z a0 hw [] b151 x0 (1 : Int32) x2 T170.heap n0 Z170 f173 G151 f170_0 f170_1 f170_2) hZ (hw _ (List.mem_of_getElem? (i := 14) rfl)) (hw _ (List.mem_of_getElem? (i := 3) rfl)) (by decide) (by decide)) q174a q174c (g := (mkF m 110 #[.val (.long x0), .second, .val (.int x1), .val (.long x2), .second, .val (.int x3), .val (.int (3 : Int32)), .val (.int (1 : Int32)), .val (.ref b151), .unset, .unset, .unset, .unset, .unset] [(.long x0), (.ref b151)])) rfl (by rw [hml]; rfl) (Steps.refl _) (argsL := [(.long x0)]) (rest := []) (lenOf own_pd0 rfl) rfl (by show 2 * 0 + _ ≤ _; exact Nat.le_of_eq rfl) (hb hby at_110) (fun _ _ => ⟨rfl, rfl, (by decide : 1 + 0 ≤ _), (by decide : 3 + 0 ≤ _)⟩)
      dsimp only [Pt.U, Pt.locs, Pt.cells, Pt.slots] at X174 l174 y174 z174 st174 hQ174
      subst l174 y174 z174
      obtain ⟨rfl, N174q, K174q, f174_0, f174_1, f174_2⟩ := hQ174
      have N174 := Fr.app N170 N174q
      have f175 := own_sta_keep f171 K174q (allS (own_eplain f173) all0)
      have f176 := own_sta_keep f172 K174q (allS (own_eplain f173) all0)
      have f177 := f173.keep K174q
      have K174 := K170.trans K174q (allS (Or.inr H151) all0)
      have Z174 := Nat.le_trans Z170 K174q.1
      refine Goes.tr st174 ?_
      show Goes p e below s _ _ _ T174 (mkF m 113 #[.val (.long x0), .second, .val (.int x1), .val (.long x2), .second, .val (.int x3), .val (.int (3 : Int32)), .val (.int (1 : Int32)), .val (.ref b151), .unset, .unset, .unset, .unset, .unset] [])
      refine own_iload X174 hx 115 rfl (hb hby at_113) rfl ?_
      refine own_ifN X174 hx 118 (hb hby at_115) ((if0 _ _).trans (feq ((by decide) : ¬ ((1 : Int32) = (0 : Int32)))).1) rfl ?_
      refine own_iconst X174 hx 119 rfl (1 : Int32) (hb hby at_118) (by decide) ?_
      refine own_goto X174 hx 126 (hb hby at_119) (by decide) (by decide) ?_
      refine own_istore X174 hx 128 rfl #[.val (.long x0), .second, .val (.int x1), .val (.long x2), .second, .val (.int x3), .val (.int (3 : Int32)), .val (.int (1 : Int32)), .val (.ref b151), .val (.int (1 : Int32)), .unset, .unset, .unset, .unset] (hb hby at_126) rfl ?_
      refine own_lloadN X174 hx 129 rfl (hb hby at_128) rfl ?_
      refine own_iloadN X174 hx 130 rfl (hb hby at_129) rfl ?_
      refine own_i2l X174 hx 131 rfl (hb hby at_130) rfl ?_
      refine own_ladd X174 hx 132 rfl (hb hby at_131) rfl ?_
      refine own_lstore X174 hx 134 rfl #[.val (.long x0), .second, .val (.int x1), .val (.long x2), .second, .val (.int x3), .val (.int (3 : Int32)), .val (.int (1 : Int32)), .val (.ref b151), .val (.int (1 : Int32)), .val (.long (x0 + (x1.toInt64))), .second, .unset, .unset] (hb hby at_132) rfl ?_
      refine own_lconst X174 hx 135 rfl (0 : Int64) (hb hby at_134) (by decide) ?_
      refine own_iload X174 hx 137 rfl (hb hby at_135) rfl ?_
      obtain ⟨_, _, ⟨T178, L178, k178, n178⟩, -, X178, ⟨Lc178, hQ178, l178, y178, z178⟩, st178⟩ := Jvm.LawKit.callS X174 hx (y := (⟨"com/example/pooler/pooler/pool/BackoffFailedPinLaw", "expectedPause", "(I)J"⟩ : MethodName)) hown (mvT hZ (hw _ (List.mem_of_getElem? (i := 25) rfl))) (mvT hZ (hw _ (List.mem_of_getElem? (i := 26) rfl))) (mvT hZ (hw _ (List.mem_of_getElem? (i := 27) rfl))) (mvT hZ (hw _ (List.mem_of_getElem? (i := 28) rfl))) (by decide) (backOf (W := 2) (rmep1 l Z a0 hw []  T174.heap n0 Z174 ) hZ (hw _ (List.mem_of_getElem? (i := 28) rfl)) (hw _ (List.mem_of_getElem? (i := 27) rfl)) (by decide) (by decide)) (g := (mkF m 137 #[.val (.long x0), .second, .val (.int x1), .val (.long x2), .second, .val (.int x3), .val (.int (3 : Int32)), .val (.int (1 : Int32)), .val (.ref b151), .val (.int (1 : Int32)), .val (.long (x0 + (x1.toInt64))), .second, .unset, .unset] [(.int (1 : Int32)), (.long (0 : Int64))])) rfl (by rw [hml]; rfl) (argsL := [(.int (1 : Int32))]) (rest := [(.long (0 : Int64))]) (lenOf own_pd4 rfl) rfl (by show 2 * 0 + _ ≤ _; exact Nat.le_of_eq rfl) (hb hby at_137) (fun _ _ => ⟨rfl, rfl, (by decide : 1 + 0 ≤ _), (by decide : 3 + 0 ≤ _)⟩)
      dsimp only [Pt.U, Pt.locs, Pt.cells, Pt.slots] at X178 l178 y178 z178 st178 hQ178
      subst l178 y178 z178
      obtain ⟨rfl, N178q, eh178⟩ := hQ178
      have N178 := Fr.app N174 N178q
      refine Goes.go st178 ?_
      show Goes p e below s _ _ _ T178 (mkF m 140 #[.val (.long x0), .second, .val (.int x1), .val (.long x2), .second, .val (.int x3), .val (.int (3 : Int32)), .val (.int (1 : Int32)), .val (.ref b151), .val (.int (1 : Int32)), .val (.long (x0 + (x1.toInt64))), .second, .unset, .unset] [(.long (100000000 : Int64)), (.long (0 : Int64))])
      refine own_iloadN X178 hx 141 rfl (hb hby at_140) rfl ?_
      refine own_i2l X178 hx 142 rfl (hb hby at_141) rfl ?_
      refine own_lsub X178 hx 143 rfl (hb hby at_142) rfl ?_
      obtain ⟨_, _, ⟨T179, L179, k179, n179⟩, -, X179, ⟨Lc179, hQ179, l179, y179, z179⟩, st179⟩ := Jvm.LawKit.callS X178 hx (y := (⟨"java/lang/Math", "max", "(JJ)J"⟩ : MethodName)) hown (mvT hZ (hw _ (List.mem_of_getElem? (i := 32) rfl))) (mvT hZ (hw _ (List.mem_of_getElem? (i := 33) rfl))) (mvT hZ (hw _ (List.mem_of_getElem? (i := 34) rfl))) (mvT hZ (hw _ (List.mem_of_getElem? (i := 35) rfl))) (by decide) (backOf (W := 0) (rm6 l Z a0 hw [] (0 : Int64) ((100000000 : Int64) - (x1.toInt64)) T174.heap n0 Z174 ) hZ (hw _ (List.mem_of_getElem? (i := 35) rfl)) (hw _ (List.mem_of_getElem? (i := 34) rfl)) (by decide) (by decide)) (g := (mkF m 143 #[.val (.long x0), .second, .val (.int x1), .val (.long x2), .second, .val (.int x3), .val (.int (3 : Int32)), .val (.int (1 : Int32)), .val (.ref b151), .val (.int (1 : Int32)), .val (.long (x0 + (x1.toInt64))), .second, .unset, .unset] [(.long ((100000000 : Int64) - (x1.toInt64))), (.long (0 : Int64))])) rfl (by rw [hml]; rfl) (argsL := [(.long (0 : Int64)), (.long ((100000000 : Int64) - (x1.toInt64)))]) (rest := []) (lenOf own_pd1 rfl) rfl (by show 2 * 0 + _ ≤ _; exact Nat.le_of_eq rfl) (hb hby at_143) (fun _ _ => ⟨rfl, eh178, (by decide : 1 + 0 ≤ _), (by decide : 3 + 0 ≤ _)⟩)
      dsimp only [Pt.U, Pt.locs, Pt.cells, Pt.slots] at X179 l179 y179 z179 st179 hQ179
      subst l179 y179 z179
      obtain ⟨mr_179, rfl, N179q, eh179, pr179_0⟩ := hQ179
      have N179 := Fr.app N178 N179q
      refine Goes.go st179 ?_
      show Goes p e below s _ _ _ T179 (mkF m 146 #[.val (.long x0), .second, .val (.int x1), .val (.long x2), .second, .val (.int x3), .val (.int (3 : Int32)), .val (.int (1 : Int32)), .val (.ref b151), .val (.int (1 : Int32)), .val (.long (x0 + (x1.toInt64))), .second, .unset, .unset] [(.long mr_179)])
      refine own_lstore X179 hx 148 rfl #[.val (.long x0), .second, .val (.int x1), .val (.long x2), .second, .val (.int x3), .val (.int (3 : Int32)), .val (.int (1 : Int32)), .val (.ref b151), .val (.int (1 : Int32)), .val (.long (x0 + (x1.toInt64))), .second, .val (.long mr_179), .second] (hb hby at_146) rfl ?_
      refine own_aload X179 hx 150 rfl (hb hby at_148) rfl rfl ?_
      refine own_lload X179 hx 152 rfl (hb hby at_150) rfl ?_
      obtain ⟨cq180, kq180, q180a, q180b, q180c⟩ := isOf hZ eh179 f177
      obtain ⟨_, _, ⟨T180, L180, k180, n180⟩, -, X180, ⟨Lc180, hQ180, l180, y180, z180⟩, st180⟩ := X179.virtualBack hx (y := (⟨"com/example/pooler/pooler/pool/Backoff", "delay", "(J)J"⟩ : MethodName)) (z := (⟨"com/example/pooler/pooler/pool/Backoff", "delay", "(J)J"⟩ : MethodName)) hown (mvT hZ (hw _ (List.mem_of_getElem? (i := 36) rfl))) (mvT hZ (hw _ (List.mem_of_getElem? (i := 37) rfl))) (notFace_of_selects (args := #[]) (mvT hZ (hw _ (List.mem_of_getElem? (i := 39) rfl)))) (mvT hZ (hw _ (List.mem_of_getElem? (i := 39) rfl))) (mvT hZ (hw _ (List.mem_of_getElem? (i := 38) rfl))) (by decide) (backOf (W := 0) (rmde1 l Z a0 hw [] b151 (x0 + (x1.toInt64)) x0 T174.heap n0 Z174 f177 f175 f176 f174_0 f174_1 f174_2) hZ (hw _ (List.mem_of_getElem? (i := 40) rfl)) (hw _ (List.mem_of_getElem? (i := 3) rfl)) (by decide) (by decide)) q180a q180c (g := (mkF m 152 #[.val (.long x0), .second, .val (.int x1), .val (.long x2), .second, .val (.int x3), .val (.int (3 : Int32)), .val (.int (1 : Int32)), .val (.ref b151), .val (.int (1 : Int32)), .val (.long (x0 + (x1.toInt64))), .second, .val (.long mr_179), .second] [(.long (x0 + (x1.toInt64))), (.ref b151)])) rfl (by rw [hml]; rfl) (Steps.refl _) (argsL := [(.long (x0 + (x1.toInt64)))]) (rest := []) (lenOf own_pd5 rfl) rfl (by show 2 * 0 + _ ≤ _; exact Nat.le_of_eq rfl) (hb hby at_152) (fun _ _ => ⟨rfl, eh179, (by decide : 1 + 0 ≤ _), (by decide : 3 + 0 ≤ _)⟩)
      dsimp only [Pt.U, Pt.locs, Pt.cells, Pt.slots] at X180 l180 y180 z180 st180 hQ180
      subst l180 y180 z180
      obtain ⟨br_180, rfl, N180q, eh180, pr180_0⟩ := hQ180
      have N180 := Fr.app N179 N180q
      refine Goes.tr st180 ?_
      show Goes p e below s _ _ _ T180 (mkF m 155 #[.val (.long x0), .second, .val (.int x1), .val (.long x2), .second, .val (.int x3), .val (.int (3 : Int32)), .val (.int (1 : Int32)), .val (.ref b151), .val (.int (1 : Int32)), .val (.long (x0 + (x1.toInt64))), .second, .val (.long mr_179), .second] [(.long br_180)])
      refine own_lload X180 hx 157 rfl (hb hby at_155) rfl ?_
      refine own_lcmp X180 hx 158 rfl (hb hby at_157) ?_
      refine own_ifN X180 hx 161 (hb hby at_158) (Lteq (own_fin pr180_0 pr179_0 : br_180 = mr_179)).2 rfl ?_
      refine own_iconst X180 hx 162 rfl (1 : Int32) (hb hby at_161) (by decide) ?_
      refine own_goto X180 hx 166 (hb hby at_162) (by decide) (by decide) ?_
      refine own_retZ X180 hx hlk Bd.returns (by decide) (hb hby at_166) (by decide) (by decide) eh180 ?_
      exact ⟨rfl, N180⟩
  · refine own_istore X0 hx 10 rfl #[.val (.long x0), .second, .val (.int x1), .val (.long x2), .second, .val (.int x3), .val (.int (4 : Int32)), .unset, .unset, .unset, .unset, .unset, .unset, .unset] (hb hby at_8) rfl ?_
    refine own_iload X0 hx 12 rfl (hb hby at_10) rfl ?_
    refine own_bipush X0 hx 14 rfl (8 : Int32) (hb hby at_12) (by decide) ?_
    refine own_iushr X0 hx 15 rfl (hb hby at_14) rfl ?_
    refine own_iconst X0 hx 16 rfl (1 : Int32) (hb hby at_15) (by decide) ?_
    refine own_iand X0 hx 17 rfl (hb hby at_16) rfl ?_
    by_cases hc17_181 : (((x3.toUInt32 >>> ((8 : Int32) &&& 31).toUInt32).toInt32) &&& (1 : Int32)) = (0 : Int32)
    · refine own_ifY X0 hx 24 (hb hby at_17) ((if0 _ _).trans (teq hc17_181).1) (by decide) (by decide) ?_
      refine own_iconst X0 hx 25 rfl (0 : Int32) (hb hby at_24) (by decide) ?_
      refine own_istore X0 hx 27 rfl #[.val (.long x0), .second, .val (.int x1), .val (.long x2), .second, .val (.int x3), .val (.int (4 : Int32)), .val (.int (0 : Int32)), .unset, .unset, .unset, .unset, .unset, .unset] (hb hby at_25) rfl ?_
      obtain ⟨T182, h182, X182, e182, E182, A182, D182, -, st182⟩ := newO X0 hx hZ hown (hw _ (List.mem_of_getElem? (i := 1) rfl)) (hw _ (List.mem_of_getElem? (i := 2) rfl)) (hw _ (List.mem_of_getElem? (i := 3) rfl)) e0 (g := (mkF m 27 #[.val (.long x0), .second, .val (.int x1), .val (.long x2), .second, .val (.int x3), .val (.int (4 : Int32)), .val (.int (0 : Int32)), .unset, .unset, .unset, .unset, .unset, .unset] [])) rfl (hb hby at_27) (by decide) (by decide)
      obtain ⟨b182, g182⟩ : ∃ z, z = h0.size := ⟨_, rfl⟩
      rw [← g182] at A182 D182 st182
      have G182 : n0 ≤ b182 := Nat.le_trans Z0 (Nat.le_of_eq g182.symm)
      have H182 : h0.size ≤ b182 := Nat.le_trans K0.1 (Nat.le_of_eq g182.symm)
      have f183 := S_y_SHORTEST.ext E182
      have f184 := S_y_LONGEST.ext E182
      have K182 := K0.ext E182
      have Z182 := Nat.le_trans Z0 E182.1
      have f185 : Fld Z h182 b182 "com/example/pooler/pooler/pool/Backoff" "tried" "Z" (.int (0 : Int32)) := D182 (Or.inl (hw _ (List.mem_of_getElem? (i := 20) rfl))) (ty := .boolean) (by decide)
      have f186 : Fld Z h182 b182 "com/example/pooler/pooler/pool/Backoff" "endedAt" "J" (.long (0 : Int64)) := D182 (Or.inl (hw _ (List.mem_of_getElem? (i := 22) rfl))) (ty := .long) (by decide)
      have f187 : Fld Z h182 b182 "com/example/pooler/pooler/pool/Backoff" "failuresInARow" "I" (.int (0 : Int32)) := D182 (Or.inl (hw _ (List.mem_of_getElem? (i := 24) rfl))) (ty := .int) (by decide)
      refine Goes.go st182 ?_
      show Goes p e below s _ _ _ T182 (mkF m 30 #[.val (.long x0), .second, .val (.int x1), .val (.long x2), .second, .val (.int x3), .val (.int (4 : Int32)), .val (.int (0 : Int32)), .unset, .unset, .unset, .unset, .unset, .unset] [(.ref b182)])
      refine own_dup X182 hx 31 rfl (hb hby at_30) rfl ?_
      obtain ⟨_, _, ⟨T188, L188, k188, n188⟩, -, X188, ⟨Lc188, hQ188, l188, y188, z188⟩, st188⟩ := X182.specialBack hx (y := (⟨"com/example/pooler/pooler/pool/Backoff", "<init>", "()V"⟩ : MethodName)) rfl hown (mvT hZ (hw _ (List.mem_of_getElem? (i := 4) rfl))) (mvT hZ (hw _ (List.mem_of_getElem? (i := 5) rfl))) (mvT hZ (hw _ (List.mem_of_getElem? (i := 6) rfl))) (by decide) (backOf (W := 1) (rm1 l Z a0 hw [] b182 h182 n0 Z182 ) hZ (hw _ (List.mem_of_getElem? (i := 6) rfl)) (hw _ (List.mem_of_getElem? (i := 3) rfl)) (by decide) (by decide)) (g := (mkF m 31 #[.val (.long x0), .second, .val (.int x1), .val (.long x2), .second, .val (.int x3), .val (.int (4 : Int32)), .val (.int (0 : Int32)), .unset, .unset, .unset, .unset, .unset, .unset] [(.ref b182), (.ref b182)])) rfl (by rw [hml]; rfl) (Steps.refl _) (a := b182) (argsL := []) (rest := [(.ref b182)]) (lenOf own_pd3 rfl) rfl (by show 2 * 0 + _ ≤ _; exact Nat.le_of_eq rfl) (hb hby at_31) (fun _ _ => ⟨rfl, e182, (by decide : 1 + 0 ≤ _), (by decide : 3 + 0 ≤ _)⟩)
      dsimp only [Pt.U, Pt.locs, Pt.cells, Pt.slots] at X188 l188 y188 z188 st188 hQ188
      subst l188 y188 z188
      obtain ⟨rfl, N188q, eh188⟩ := hQ188
      have N188 := Fr.app N0 N188q
      refine Goes.tr st188 ?_
      show Goes p e below s _ _ _ T188 (mkF m 34 #[.val (.long x0), .second, .val (.int x1), .val (.long x2), .second, .val (.int x3), .val (.int (4 : Int32)), .val (.int (0 : Int32)), .unset, .unset, .unset, .unset, .unset, .unset] [(.ref b182)])
      refine own_astore X188 hx 36 rfl #[.val (.long x0), .second, .val (.int x1), .val (.long x2), .second, .val (.int x3), .val (.int (4 : Int32)), .val (.int (0 : Int32)), .val (.ref b182), .unset, .unset, .unset, .unset, .unset] (hb hby at_34) rfl rfl ?_
      refine own_iload X188 hx 38 rfl (hb hby at_36) rfl ?_
      refine own_iconst X188 hx 39 rfl (1 : Int32) (hb hby at_38) (by decide) ?_
      refine own_icmpN X188 hx 42 (hb hby at_39) (flt ((by decide) : ¬ ((4 : Int32) < (1 : Int32)))).1 rfl ?_
      refine own_aload X188 hx 44 rfl (hb hby at_42) rfl rfl ?_
      refine own_lloadN X188 hx 45 rfl (hb hby at_44) rfl ?_
      obtain ⟨cq189, kq189, q189a, q189b, q189c⟩ := isOf hZ eh188 A182
      obtain ⟨_, _, ⟨T189, L189, k189, n189⟩, -, X189, ⟨Lc189, hQ189, l189, y189, z189⟩, st189⟩ := X188.virtualBack hx (y := (⟨"com/example/pooler/pooler/pool/Backoff", "failed", "(J)V"⟩ : MethodName)) (z := (⟨"com/example/pooler/pooler/pool/Backoff", "failed", "(J)V"⟩ : MethodName)) hown (mvT hZ (hw _ (List.mem_of_getElem? (i := 10) rfl))) (mvT hZ (hw _ (List.mem_of_getElem? (i := 11) rfl))) (notFace_of_selects (args := #[]) (mvT hZ (hw _ (List.mem_of_getElem? (i := 13) rfl)))) (mvT hZ (hw _ (List.mem_of_getElem? (i := 13) rfl))) (mvT hZ (hw _ (List.mem_of_getElem? (i := 12) rfl))) (by decide) (backOf (W := 0) (rmfa0 l Z a0 hw [] b182 x2 (0 : Int32) (0 : Int64) h182 n0 Z182 A182 G182 f185 f186 f187) hZ (hw _ (List.mem_of_getElem? (i := 14) rfl)) (hw _ (List.mem_of_getElem? (i := 3) rfl)) (by decide) (by decide)) q189a q189c (g := (mkF m 45 #[.val (.long x0), .second, .val (.int x1), .val (.long x2), .second, .val (.int x3), .val (.int (4 : Int32)), .val (.int (0 : Int32)), .val (.ref b182), .unset, .unset, .unset, .unset, .unset] [(.long x2), (.ref b182)])) rfl (by rw [hml]; rfl) (Steps.refl _) (argsL := [(.long x2)]) (rest := []) (lenOf own_pd0 rfl) rfl (by show 2 * 0 + _ ≤ _; exact Nat.le_of_eq rfl) (hb hby at_45) (fun _ _ => ⟨rfl, eh188, (by decide : 1 + 0 ≤ _), (by decide : 3 + 0 ≤ _)⟩)
      dsimp only [Pt.U, Pt.locs, Pt.cells, Pt.slots] at X189 l189 y189 z189 st189 hQ189
      subst l189 y189 z189
      obtain ⟨rfl, N189q, K189q, f189_0, f189_1, f189_2⟩ := hQ189
      have N189 := Fr.app N188 N189q
      have f190 := own_sta_keep f183 K189q (allS (own_eplain A182) all0)
      have f191 := own_sta_keep f184 K189q (allS (own_eplain A182) all0)
      have f192 := A182.keep K189q
      have K189 := K182.trans K189q (allS (Or.inr H182) all0)
      have Z189 := Nat.le_trans Z182 K189q.1
      refine Goes.tr st189 ?_
      show Goes p e below s _ _ _ T189 (mkF m 48 #[.val (.long x0), .second, .val (.int x1), .val (.long x2), .second, .val (.int x3), .val (.int (4 : Int32)), .val (.int (0 : Int32)), .val (.ref b182), .unset, .unset, .unset, .unset, .unset] [])
      refine own_iload X189 hx 50 rfl (hb hby at_48) rfl ?_
      refine own_iconst X189 hx 51 rfl (2 : Int32) (hb hby at_50) (by decide) ?_
      refine own_icmpN X189 hx 54 (hb hby at_51) (flt ((by decide) : ¬ ((4 : Int32) < (2 : Int32)))).1 rfl ?_
      refine own_aload X189 hx 56 rfl (hb hby at_54) rfl rfl ?_
      refine own_lloadN X189 hx 57 rfl (hb hby at_56) rfl ?_
      obtain ⟨cq193, kq193, q193a, q193b, q193c⟩ := isOf hZ rfl f192
      obtain ⟨_, _, ⟨T193, L193, k193, n193⟩, -, X193, ⟨Lc193, hQ193, l193, y193, z193⟩, st193⟩ := X189.virtualBack hx (y := (⟨"com/example/pooler/pooler/pool/Backoff", "failed", "(J)V"⟩ : MethodName)) (z := (⟨"com/example/pooler/pooler/pool/Backoff", "failed", "(J)V"⟩ : MethodName)) hown (mvT hZ (hw _ (List.mem_of_getElem? (i := 10) rfl))) (mvT hZ (hw _ (List.mem_of_getElem? (i := 11) rfl))) (notFace_of_selects (args := #[]) (mvT hZ (hw _ (List.mem_of_getElem? (i := 13) rfl)))) (mvT hZ (hw _ (List.mem_of_getElem? (i := 13) rfl))) (mvT hZ (hw _ (List.mem_of_getElem? (i := 12) rfl))) (by decide) (backOf (W := 0) (rmfa1 l Z a0 hw [] b182 x2 (1 : Int32) x2 T189.heap n0 Z189 f192 G182 f189_0 f189_1 f189_2) hZ (hw _ (List.mem_of_getElem? (i := 14) rfl)) (hw _ (List.mem_of_getElem? (i := 3) rfl)) (by decide) (by decide)) q193a q193c (g := (mkF m 57 #[.val (.long x0), .second, .val (.int x1), .val (.long x2), .second, .val (.int x3), .val (.int (4 : Int32)), .val (.int (0 : Int32)), .val (.ref b182), .unset, .unset, .unset, .unset, .unset] [(.long x2), (.ref b182)])) rfl (by rw [hml]; rfl) (Steps.refl _) (argsL := [(.long x2)]) (rest := []) (lenOf own_pd0 rfl) rfl (by show 2 * 0 + _ ≤ _; exact Nat.le_of_eq rfl) (hb hby at_57) (fun _ _ => ⟨rfl, rfl, (by decide : 1 + 0 ≤ _), (by decide : 3 + 0 ≤ _)⟩)
      dsimp only [Pt.U, Pt.locs, Pt.cells, Pt.slots] at X193 l193 y193 z193 st193 hQ193
      subst l193 y193 z193
      obtain ⟨rfl, N193q, K193q, f193_0, f193_1, f193_2⟩ := hQ193
      have N193 := Fr.app N189 N193q
      have f194 := own_sta_keep f190 K193q (allS (own_eplain f192) all0)
      have f195 := own_sta_keep f191 K193q (allS (own_eplain f192) all0)
      have f196 := f192.keep K193q
      have K193 := K189.trans K193q (allS (Or.inr H182) all0)
      have Z193 := Nat.le_trans Z189 K193q.1
      refine Goes.tr st193 ?_
      show Goes p e below s _ _ _ T193 (mkF m 60 #[.val (.long x0), .second, .val (.int x1), .val (.long x2), .second, .val (.int x3), .val (.int (4 : Int32)), .val (.int (0 : Int32)), .val (.ref b182), .unset, .unset, .unset, .unset, .unset] [])
      refine own_iload X193 hx 62 rfl (hb hby at_60) rfl ?_
      refine own_iconst X193 hx 63 rfl (3 : Int32) (hb hby at_62) (by decide) ?_
      refine own_icmpN X193 hx 66 (hb hby at_63) (flt ((by decide) : ¬ ((4 : Int32) < (3 : Int32)))).1 rfl ?_
      refine own_aload X193 hx 68 rfl (hb hby at_66) rfl rfl ?_
      refine own_lloadN X193 hx 69 rfl (hb hby at_68) rfl ?_
      obtain ⟨cq197, kq197, q197a, q197b, q197c⟩ := isOf hZ rfl f196
      obtain ⟨_, _, ⟨T197, L197, k197, n197⟩, -, X197, ⟨Lc197, hQ197, l197, y197, z197⟩, st197⟩ := X193.virtualBack hx (y := (⟨"com/example/pooler/pooler/pool/Backoff", "failed", "(J)V"⟩ : MethodName)) (z := (⟨"com/example/pooler/pooler/pool/Backoff", "failed", "(J)V"⟩ : MethodName)) hown (mvT hZ (hw _ (List.mem_of_getElem? (i := 10) rfl))) (mvT hZ (hw _ (List.mem_of_getElem? (i := 11) rfl))) (notFace_of_selects (args := #[]) (mvT hZ (hw _ (List.mem_of_getElem? (i := 13) rfl)))) (mvT hZ (hw _ (List.mem_of_getElem? (i := 13) rfl))) (mvT hZ (hw _ (List.mem_of_getElem? (i := 12) rfl))) (by decide) (backOf (W := 0) (rmfa2 l Z a0 hw [] b182 x2 (1 : Int32) x2 T193.heap n0 Z193 f196 G182 f193_0 f193_1 f193_2) hZ (hw _ (List.mem_of_getElem? (i := 14) rfl)) (hw _ (List.mem_of_getElem? (i := 3) rfl)) (by decide) (by decide)) q197a q197c (g := (mkF m 69 #[.val (.long x0), .second, .val (.int x1), .val (.long x2), .second, .val (.int x3), .val (.int (4 : Int32)), .val (.int (0 : Int32)), .val (.ref b182), .unset, .unset, .unset, .unset, .unset] [(.long x2), (.ref b182)])) rfl (by rw [hml]; rfl) (Steps.refl _) (argsL := [(.long x2)]) (rest := []) (lenOf own_pd0 rfl) rfl (by show 2 * 0 + _ ≤ _; exact Nat.le_of_eq rfl) (hb hby at_69) (fun _ _ => ⟨rfl, rfl, (by decide : 1 + 0 ≤ _), (by decide : 3 + 0 ≤ _)⟩)
      dsimp only [Pt.U, Pt.locs, Pt.cells, Pt.slots] at X197 l197 y197 z197 st197 hQ197
      subst l197 y197 z197
      obtain ⟨rfl, N197q, K197q, f197_0, f197_1, f197_2⟩ := hQ197
      have N197 := Fr.app N193 N197q
      have f198 := own_sta_keep f194 K197q (allS (own_eplain f196) all0)
      have f199 := own_sta_keep f195 K197q (allS (own_eplain f196) all0)
      have f200 := f196.keep K197q
      have K197 := K193.trans K197q (allS (Or.inr H182) all0)
      have Z197 := Nat.le_trans Z193 K197q.1
      refine Goes.tr st197 ?_
      show Goes p e below s _ _ _ T197 (mkF m 72 #[.val (.long x0), .second, .val (.int x1), .val (.long x2), .second, .val (.int x3), .val (.int (4 : Int32)), .val (.int (0 : Int32)), .val (.ref b182), .unset, .unset, .unset, .unset, .unset] [])
      refine own_iload X197 hx 74 rfl (hb hby at_72) rfl ?_
      refine own_iconst X197 hx 75 rfl (4 : Int32) (hb hby at_74) (by decide) ?_
      refine own_icmpN X197 hx 78 (hb hby at_75) (flt ((by decide) : ¬ ((4 : Int32) < (4 : Int32)))).1 rfl ?_
      refine own_aload X197 hx 80 rfl (hb hby at_78) rfl rfl ?_
      refine own_lloadN X197 hx 81 rfl (hb hby at_80) rfl ?_
      obtain ⟨cq201, kq201, q201a, q201b, q201c⟩ := isOf hZ rfl f200
      obtain ⟨_, _, ⟨T201, L201, k201, n201⟩, -, X201, ⟨Lc201, hQ201, l201, y201, z201⟩, st201⟩ := X197.virtualBack hx (y := (⟨"com/example/pooler/pooler/pool/Backoff", "failed", "(J)V"⟩ : MethodName)) (z := (⟨"com/example/pooler/pooler/pool/Backoff", "failed", "(J)V"⟩ : MethodName)) hown (mvT hZ (hw _ (List.mem_of_getElem? (i := 10) rfl))) (mvT hZ (hw _ (List.mem_of_getElem? (i := 11) rfl))) (notFace_of_selects (args := #[]) (mvT hZ (hw _ (List.mem_of_getElem? (i := 13) rfl)))) (mvT hZ (hw _ (List.mem_of_getElem? (i := 13) rfl))) (mvT hZ (hw _ (List.mem_of_getElem? (i := 12) rfl))) (by decide) (backOf (W := 0) (rmfa3 l Z a0 hw [] b182 x2 (1 : Int32) x2 T197.heap n0 Z197 f200 G182 f197_0 f197_1 f197_2) hZ (hw _ (List.mem_of_getElem? (i := 14) rfl)) (hw _ (List.mem_of_getElem? (i := 3) rfl)) (by decide) (by decide)) q201a q201c (g := (mkF m 81 #[.val (.long x0), .second, .val (.int x1), .val (.long x2), .second, .val (.int x3), .val (.int (4 : Int32)), .val (.int (0 : Int32)), .val (.ref b182), .unset, .unset, .unset, .unset, .unset] [(.long x2), (.ref b182)])) rfl (by rw [hml]; rfl) (Steps.refl _) (argsL := [(.long x2)]) (rest := []) (lenOf own_pd0 rfl) rfl (by show 2 * 0 + _ ≤ _; exact Nat.le_of_eq rfl) (hb hby at_81) (fun _ _ => ⟨rfl, rfl, (by decide : 1 + 0 ≤ _), (by decide : 3 + 0 ≤ _)⟩)
      dsimp only [Pt.U, Pt.locs, Pt.cells, Pt.slots] at X201 l201 y201 z201 st201 hQ201
      subst l201 y201 z201
      obtain ⟨rfl, N201q, K201q, f201_0, f201_1, f201_2⟩ := hQ201
      have N201 := Fr.app N197 N201q
      have f202 := own_sta_keep f198 K201q (allS (own_eplain f200) all0)
      have f203 := own_sta_keep f199 K201q (allS (own_eplain f200) all0)
      have f204 := f200.keep K201q
      have K201 := K197.trans K201q (allS (Or.inr H182) all0)
      have Z201 := Nat.le_trans Z197 K201q.1
      refine Goes.tr st201 ?_
      show Goes p e below s _ _ _ T201 (mkF m 84 #[.val (.long x0), .second, .val (.int x1), .val (.long x2), .second, .val (.int x3), .val (.int (4 : Int32)), .val (.int (0 : Int32)), .val (.ref b182), .unset, .unset, .unset, .unset, .unset] [])
      refine own_iload X201 hx 86 rfl (hb hby at_84) rfl ?_
      refine own_iconst X201 hx 87 rfl (5 : Int32) (hb hby at_86) (by decide) ?_
      refine own_icmpY X201 hx 96 (hb hby at_87) (tlt ((by decide) : (4 : Int32) < (5 : Int32))).1 (by decide) (by decide) ?_
      refine own_iload X201 hx 98 rfl (hb hby at_96) rfl ?_
      refine own_ifY X201 hx 107 (hb hby at_98) ((if0 _ _).trans (teq ((by decide) : (0 : Int32) = (0 : Int32))).1) (by decide) (by decide) ?_
      refine own_aload X201 hx 109 rfl (hb hby at_107) rfl rfl ?_
      refine own_lloadN X201 hx 110 rfl (hb hby at_109) rfl ?_
      obtain ⟨cq205, kq205, q205a, q205b, q205c⟩ := isOf hZ rfl f204
      obtain ⟨_, _, ⟨T205, L205, k205, n205⟩, -, X205, ⟨Lc205, hQ205, l205, y205, z205⟩, st205⟩ := X201.virtualBack hx (y := (⟨"com/example/pooler/pooler/pool/Backoff", "failed", "(J)V"⟩ : MethodName)) (z := (⟨"com/example/pooler/pooler/pool/Backoff", "failed", "(J)V"⟩ : MethodName)) hown (mvT hZ (hw _ (List.mem_of_getElem? (i := 10) rfl))) (mvT hZ (hw _ (List.mem_of_getElem? (i := 11) rfl))) (notFace_of_selects (args := #[]) (mvT hZ (hw _ (List.mem_of_getElem? (i := 13) rfl)))) (mvT hZ (hw _ (List.mem_of_getElem? (i := 13) rfl))) (mvT hZ (hw _ (List.mem_of_getElem? (i := 12) rfl))) (by decide) (backOf (W := 0) (rmfa4 l Z a0 hw [] b182 x0 (1 : Int32) x2 T201.heap n0 Z201 f204 G182 f201_0 f201_1 f201_2) hZ (hw _ (List.mem_of_getElem? (i := 14) rfl)) (hw _ (List.mem_of_getElem? (i := 3) rfl)) (by decide) (by decide)) q205a q205c (g := (mkF m 110 #[.val (.long x0), .second, .val (.int x1), .val (.long x2), .second, .val (.int x3), .val (.int (4 : Int32)), .val (.int (0 : Int32)), .val (.ref b182), .unset, .unset, .unset, .unset, .unset] [(.long x0), (.ref b182)])) rfl (by rw [hml]; rfl) (Steps.refl _) (argsL := [(.long x0)]) (rest := []) (lenOf own_pd0 rfl) rfl (by show 2 * 0 + _ ≤ _; exact Nat.le_of_eq rfl) (hb hby at_110) (fun _ _ => ⟨rfl, rfl, (by decide : 1 + 0 ≤ _), (by decide : 3 + 0 ≤ _)⟩)
      dsimp only [Pt.U, Pt.locs, Pt.cells, Pt.slots] at X205 l205 y205 z205 st205 hQ205
      subst l205 y205 z205
      obtain ⟨rfl, N205q, K205q, f205_0, f205_1, f205_2⟩ := hQ205
      have N205 := Fr.app N201 N205q
      have f206 := own_sta_keep f202 K205q (allS (own_eplain f204) all0)
      have f207 := own_sta_keep f203 K205q (allS (own_eplain f204) all0)
      have f208 := f204.keep K205q
      have K205 := K201.trans K205q (allS (Or.inr H182) all0)
      have Z205 := Nat.le_trans Z201 K205q.1
      refine Goes.tr st205 ?_
      show Goes p e below s _ _ _ T205 (mkF m 113 #[.val (.long x0), .second, .val (.int x1), .val (.long x2), .second, .val (.int x3), .val (.int (4 : Int32)), .val (.int (0 : Int32)), .val (.ref b182), .unset, .unset, .unset, .unset, .unset] [])
      refine own_iload X205 hx 115 rfl (hb hby at_113) rfl ?_
      refine own_ifY X205 hx 122 (hb hby at_115) ((if0 _ _).trans (teq ((by decide) : (0 : Int32) = (0 : Int32))).1) (by decide) (by decide) ?_
      refine own_iload X205 hx 124 rfl (hb hby at_122) rfl ?_
      refine own_iconst X205 hx 125 rfl (1 : Int32) (hb hby at_124) (by decide) ?_
      refine own_iadd X205 hx 126 rfl (z := (5 : Int32)) (hb hby at_125) (by decide) ?_
      refine own_istore X205 hx 128 rfl #[.val (.long x0), .second, .val (.int x1), .val (.long x2), .second, .val (.int x3), .val (.int (4 : Int32)), .val (.int (0 : Int32)), .val (.ref b182), .val (.int (5 : Int32)), .unset, .unset, .unset, .unset] (hb hby at_126) rfl ?_
      refine own_lloadN X205 hx 129 rfl (hb hby at_128) rfl ?_
      refine own_iloadN X205 hx 130 rfl (hb hby at_129) rfl ?_
      refine own_i2l X205 hx 131 rfl (hb hby at_130) rfl ?_
      refine own_ladd X205 hx 132 rfl (hb hby at_131) rfl ?_
      refine own_lstore X205 hx 134 rfl #[.val (.long x0), .second, .val (.int x1), .val (.long x2), .second, .val (.int x3), .val (.int (4 : Int32)), .val (.int (0 : Int32)), .val (.ref b182), .val (.int (5 : Int32)), .val (.long (x0 + (x1.toInt64))), .second, .unset, .unset] (hb hby at_132) rfl ?_
      refine own_lconst X205 hx 135 rfl (0 : Int64) (hb hby at_134) (by decide) ?_
      refine own_iload X205 hx 137 rfl (hb hby at_135) rfl ?_
      obtain ⟨_, _, ⟨T209, L209, k209, n209⟩, -, X209, ⟨Lc209, hQ209, l209, y209, z209⟩, st209⟩ := Jvm.LawKit.callS X205 hx (y := (⟨"com/example/pooler/pooler/pool/BackoffFailedPinLaw", "expectedPause", "(I)J"⟩ : MethodName)) hown (mvT hZ (hw _ (List.mem_of_getElem? (i := 25) rfl))) (mvT hZ (hw _ (List.mem_of_getElem? (i := 26) rfl))) (mvT hZ (hw _ (List.mem_of_getElem? (i := 27) rfl))) (mvT hZ (hw _ (List.mem_of_getElem? (i := 28) rfl))) (by decide) (backOf (W := 2) (rmep5 l Z a0 hw []  T205.heap n0 Z205 ) hZ (hw _ (List.mem_of_getElem? (i := 28) rfl)) (hw _ (List.mem_of_getElem? (i := 27) rfl)) (by decide) (by decide)) (g := (mkF m 137 #[.val (.long x0), .second, .val (.int x1), .val (.long x2), .second, .val (.int x3), .val (.int (4 : Int32)), .val (.int (0 : Int32)), .val (.ref b182), .val (.int (5 : Int32)), .val (.long (x0 + (x1.toInt64))), .second, .unset, .unset] [(.int (5 : Int32)), (.long (0 : Int64))])) rfl (by rw [hml]; rfl) (argsL := [(.int (5 : Int32))]) (rest := [(.long (0 : Int64))]) (lenOf own_pd4 rfl) rfl (by show 2 * 0 + _ ≤ _; exact Nat.le_of_eq rfl) (hb hby at_137) (fun _ _ => ⟨rfl, rfl, (by decide : 1 + 0 ≤ _), (by decide : 3 + 0 ≤ _)⟩)
      dsimp only [Pt.U, Pt.locs, Pt.cells, Pt.slots] at X209 l209 y209 z209 st209 hQ209
      subst l209 y209 z209
      obtain ⟨rfl, N209q, eh209⟩ := hQ209
      have N209 := Fr.app N205 N209q
      refine Goes.go st209 ?_
      show Goes p e below s _ _ _ T209 (mkF m 140 #[.val (.long x0), .second, .val (.int x1), .val (.long x2), .second, .val (.int x3), .val (.int (4 : Int32)), .val (.int (0 : Int32)), .val (.ref b182), .val (.int (5 : Int32)), .val (.long (x0 + (x1.toInt64))), .second, .unset, .unset] [(.long (1000000000 : Int64)), (.long (0 : Int64))])
      refine own_iloadN X209 hx 141 rfl (hb hby at_140) rfl ?_
      refine own_i2l X209 hx 142 rfl (hb hby at_141) rfl ?_
      refine own_lsub X209 hx 143 rfl (hb hby at_142) rfl ?_
      obtain ⟨_, _, ⟨T210, L210, k210, n210⟩, -, X210, ⟨Lc210, hQ210, l210, y210, z210⟩, st210⟩ := Jvm.LawKit.callS X209 hx (y := (⟨"java/lang/Math", "max", "(JJ)J"⟩ : MethodName)) hown (mvT hZ (hw _ (List.mem_of_getElem? (i := 32) rfl))) (mvT hZ (hw _ (List.mem_of_getElem? (i := 33) rfl))) (mvT hZ (hw _ (List.mem_of_getElem? (i := 34) rfl))) (mvT hZ (hw _ (List.mem_of_getElem? (i := 35) rfl))) (by decide) (backOf (W := 0) (rm6 l Z a0 hw [] (0 : Int64) ((1000000000 : Int64) - (x1.toInt64)) T205.heap n0 Z205 ) hZ (hw _ (List.mem_of_getElem? (i := 35) rfl)) (hw _ (List.mem_of_getElem? (i := 34) rfl)) (by decide) (by decide)) (g := (mkF m 143 #[.val (.long x0), .second, .val (.int x1), .val (.long x2), .second, .val (.int x3), .val (.int (4 : Int32)), .val (.int (0 : Int32)), .val (.ref b182), .val (.int (5 : Int32)), .val (.long (x0 + (x1.toInt64))), .second, .unset, .unset] [(.long ((1000000000 : Int64) - (x1.toInt64))), (.long (0 : Int64))])) rfl (by rw [hml]; rfl) (argsL := [(.long (0 : Int64)), (.long ((1000000000 : Int64) - (x1.toInt64)))]) (rest := []) (lenOf own_pd1 rfl) rfl (by show 2 * 0 + _ ≤ _; exact Nat.le_of_eq rfl) (hb hby at_143) (fun _ _ => ⟨rfl, eh209, (by decide : 1 + 0 ≤ _), (by decide : 3 + 0 ≤ _)⟩)
      dsimp only [Pt.U, Pt.locs, Pt.cells, Pt.slots] at X210 l210 y210 z210 st210 hQ210
      subst l210 y210 z210
      obtain ⟨mr_210, rfl, N210q, eh210, pr210_0⟩ := hQ210
      have N210 := Fr.app N209 N210q
      refine Goes.go st210 ?_
      show Goes p e below s _ _ _ T210 (mkF m 146 #[.val (.long x0), .second, .val (.int x1), .val (.long x2), .second, .val (.int x3), .val (.int (4 : Int32)), .val (.int (0 : Int32)), .val (.ref b182), .val (.int (5 : Int32)), .val (.long (x0 + (x1.toInt64))), .second, .unset, .unset] [(.long mr_210)])
      refine own_lstore X210 hx 148 rfl #[.val (.long x0), .second, .val (.int x1), .val (.long x2), .second, .val (.int x3), .val (.int (4 : Int32)), .val (.int (0 : Int32)), .val (.ref b182), .val (.int (5 : Int32)), .val (.long (x0 + (x1.toInt64))), .second, .val (.long mr_210), .second] (hb hby at_146) rfl ?_
      refine own_aload X210 hx 150 rfl (hb hby at_148) rfl rfl ?_
      refine own_lload X210 hx 152 rfl (hb hby at_150) rfl ?_
      obtain ⟨cq211, kq211, q211a, q211b, q211c⟩ := isOf hZ eh210 f208
      obtain ⟨_, _, ⟨T211, L211, k211, n211⟩, -, X211, ⟨Lc211, hQ211, l211, y211, z211⟩, st211⟩ := X210.virtualBack hx (y := (⟨"com/example/pooler/pooler/pool/Backoff", "delay", "(J)J"⟩ : MethodName)) (z := (⟨"com/example/pooler/pooler/pool/Backoff", "delay", "(J)J"⟩ : MethodName)) hown (mvT hZ (hw _ (List.mem_of_getElem? (i := 36) rfl))) (mvT hZ (hw _ (List.mem_of_getElem? (i := 37) rfl))) (notFace_of_selects (args := #[]) (mvT hZ (hw _ (List.mem_of_getElem? (i := 39) rfl)))) (mvT hZ (hw _ (List.mem_of_getElem? (i := 39) rfl))) (mvT hZ (hw _ (List.mem_of_getElem? (i := 38) rfl))) (by decide) (backOf (W := 0) (rmde5 l Z a0 hw [] b182 (x0 + (x1.toInt64)) x0 T205.heap n0 Z205 f208 f206 f207 f205_0 f205_1 f205_2) hZ (hw _ (List.mem_of_getElem? (i := 40) rfl)) (hw _ (List.mem_of_getElem? (i := 3) rfl)) (by decide) (by decide)) q211a q211c (g := (mkF m 152 #[.val (.long x0), .second, .val (.int x1), .val (.long x2), .second, .val (.int x3), .val (.int (4 : Int32)), .val (.int (0 : Int32)), .val (.ref b182), .val (.int (5 : Int32)), .val (.long (x0 + (x1.toInt64))), .second, .val (.long mr_210), .second] [(.long (x0 + (x1.toInt64))), (.ref b182)])) rfl (by rw [hml]; rfl) (Steps.refl _) (argsL := [(.long (x0 + (x1.toInt64)))]) (rest := []) (lenOf own_pd5 rfl) rfl (by show 2 * 0 + _ ≤ _; exact Nat.le_of_eq rfl) (hb hby at_152) (fun _ _ => ⟨rfl, eh210, (by decide : 1 + 0 ≤ _), (by decide : 3 + 0 ≤ _)⟩)
      dsimp only [Pt.U, Pt.locs, Pt.cells, Pt.slots] at X211 l211 y211 z211 st211 hQ211
      subst l211 y211 z211
      obtain ⟨br_211, rfl, N211q, eh211, pr211_0⟩ := hQ211
      have N211 := Fr.app N210 N211q
      refine Goes.tr st211 ?_
      show Goes p e below s _ _ _ T211 (mkF m 155 #[.val (.long x0), .second, .val (.int x1), .val (.long x2), .second, .val (.int x3), .val (.int (4 : Int32)), .val (.int (0 : Int32)), .val (.ref b182), .val (.int (5 : Int32)), .val (.long (x0 + (x1.toInt64))), .second, .val (.long mr_210), .second] [(.long br_211)])
      refine own_lload X211 hx 157 rfl (hb hby at_155) rfl ?_
      refine own_lcmp X211 hx 158 rfl (hb hby at_157) ?_
      refine own_ifN X211 hx 161 (hb hby at_158) (Lteq (own_fin pr211_0 pr210_0 : br_211 = mr_210)).2 rfl ?_
      refine own_iconst X211 hx 162 rfl (1 : Int32) (hb hby at_161) (by decide) ?_
      refine own_goto X211 hx 166 (hb hby at_162) (by decide) (by decide) ?_
      refine own_retZ X211 hx hlk Bd.returns (by decide) (hb hby at_166) (by decide) (by decide) eh211 ?_
      exact ⟨rfl, N211⟩
    · refine own_ifN X0 hx 20 (hb hby at_17) ((if0 _ _).trans (feq hc17_181).1) rfl ?_
      refine own_iconst X0 hx 21 rfl (1 : Int32) (hb hby at_20) (by decide) ?_
      refine own_goto X0 hx 25 (hb hby at_21) (by decide) (by decide) ?_
      refine own_istore X0 hx 27 rfl #[.val (.long x0), .second, .val (.int x1), .val (.long x2), .second, .val (.int x3), .val (.int (4 : Int32)), .val (.int (1 : Int32)), .unset, .unset, .unset, .unset, .unset, .unset] (hb hby at_25) rfl ?_
      obtain ⟨T212, h212, X212, e212, E212, A212, D212, -, st212⟩ := newO X0 hx hZ hown (hw _ (List.mem_of_getElem? (i := 1) rfl)) (hw _ (List.mem_of_getElem? (i := 2) rfl)) (hw _ (List.mem_of_getElem? (i := 3) rfl)) e0 (g := (mkF m 27 #[.val (.long x0), .second, .val (.int x1), .val (.long x2), .second, .val (.int x3), .val (.int (4 : Int32)), .val (.int (1 : Int32)), .unset, .unset, .unset, .unset, .unset, .unset] [])) rfl (hb hby at_27) (by decide) (by decide)
      obtain ⟨b212, g212⟩ : ∃ z, z = h0.size := ⟨_, rfl⟩
      rw [← g212] at A212 D212 st212
      have G212 : n0 ≤ b212 := Nat.le_trans Z0 (Nat.le_of_eq g212.symm)
      have H212 : h0.size ≤ b212 := Nat.le_trans K0.1 (Nat.le_of_eq g212.symm)
      have f213 := S_y_SHORTEST.ext E212
      have f214 := S_y_LONGEST.ext E212
      have K212 := K0.ext E212
      have Z212 := Nat.le_trans Z0 E212.1
      have f215 : Fld Z h212 b212 "com/example/pooler/pooler/pool/Backoff" "tried" "Z" (.int (0 : Int32)) := D212 (Or.inl (hw _ (List.mem_of_getElem? (i := 20) rfl))) (ty := .boolean) (by decide)
      have f216 : Fld Z h212 b212 "com/example/pooler/pooler/pool/Backoff" "endedAt" "J" (.long (0 : Int64)) := D212 (Or.inl (hw _ (List.mem_of_getElem? (i := 22) rfl))) (ty := .long) (by decide)
      have f217 : Fld Z h212 b212 "com/example/pooler/pooler/pool/Backoff" "failuresInARow" "I" (.int (0 : Int32)) := D212 (Or.inl (hw _ (List.mem_of_getElem? (i := 24) rfl))) (ty := .int) (by decide)
      refine Goes.go st212 ?_
      show Goes p e below s _ _ _ T212 (mkF m 30 #[.val (.long x0), .second, .val (.int x1), .val (.long x2), .second, .val (.int x3), .val (.int (4 : Int32)), .val (.int (1 : Int32)), .unset, .unset, .unset, .unset, .unset, .unset] [(.ref b212)])
      refine own_dup X212 hx 31 rfl (hb hby at_30) rfl ?_
      obtain ⟨_, _, ⟨T218, L218, k218, n218⟩, -, X218, ⟨Lc218, hQ218, l218, y218, z218⟩, st218⟩ := X212.specialBack hx (y := (⟨"com/example/pooler/pooler/pool/Backoff", "<init>", "()V"⟩ : MethodName)) rfl hown (mvT hZ (hw _ (List.mem_of_getElem? (i := 4) rfl))) (mvT hZ (hw _ (List.mem_of_getElem? (i := 5) rfl))) (mvT hZ (hw _ (List.mem_of_getElem? (i := 6) rfl))) (by decide) (backOf (W := 1) (rm1 l Z a0 hw [] b212 h212 n0 Z212 ) hZ (hw _ (List.mem_of_getElem? (i := 6) rfl)) (hw _ (List.mem_of_getElem? (i := 3) rfl)) (by decide) (by decide)) (g := (mkF m 31 #[.val (.long x0), .second, .val (.int x1), .val (.long x2), .second, .val (.int x3), .val (.int (4 : Int32)), .val (.int (1 : Int32)), .unset, .unset, .unset, .unset, .unset, .unset] [(.ref b212), (.ref b212)])) rfl (by rw [hml]; rfl) (Steps.refl _) (a := b212) (argsL := []) (rest := [(.ref b212)]) (lenOf own_pd3 rfl) rfl (by show 2 * 0 + _ ≤ _; exact Nat.le_of_eq rfl) (hb hby at_31) (fun _ _ => ⟨rfl, e212, (by decide : 1 + 0 ≤ _), (by decide : 3 + 0 ≤ _)⟩)
      dsimp only [Pt.U, Pt.locs, Pt.cells, Pt.slots] at X218 l218 y218 z218 st218 hQ218
      subst l218 y218 z218
      obtain ⟨rfl, N218q, eh218⟩ := hQ218
      have N218 := Fr.app N0 N218q
      refine Goes.tr st218 ?_
      show Goes p e below s _ _ _ T218 (mkF m 34 #[.val (.long x0), .second, .val (.int x1), .val (.long x2), .second, .val (.int x3), .val (.int (4 : Int32)), .val (.int (1 : Int32)), .unset, .unset, .unset, .unset, .unset, .unset] [(.ref b212)])
      refine own_astore X218 hx 36 rfl #[.val (.long x0), .second, .val (.int x1), .val (.long x2), .second, .val (.int x3), .val (.int (4 : Int32)), .val (.int (1 : Int32)), .val (.ref b212), .unset, .unset, .unset, .unset, .unset] (hb hby at_34) rfl rfl ?_
      refine own_iload X218 hx 38 rfl (hb hby at_36) rfl ?_
      refine own_iconst X218 hx 39 rfl (1 : Int32) (hb hby at_38) (by decide) ?_
      refine own_icmpN X218 hx 42 (hb hby at_39) (flt ((by decide) : ¬ ((4 : Int32) < (1 : Int32)))).1 rfl ?_
      refine own_aload X218 hx 44 rfl (hb hby at_42) rfl rfl ?_
      refine own_lloadN X218 hx 45 rfl (hb hby at_44) rfl ?_
      obtain ⟨cq219, kq219, q219a, q219b, q219c⟩ := isOf hZ eh218 A212
      obtain ⟨_, _, ⟨T219, L219, k219, n219⟩, -, X219, ⟨Lc219, hQ219, l219, y219, z219⟩, st219⟩ := X218.virtualBack hx (y := (⟨"com/example/pooler/pooler/pool/Backoff", "failed", "(J)V"⟩ : MethodName)) (z := (⟨"com/example/pooler/pooler/pool/Backoff", "failed", "(J)V"⟩ : MethodName)) hown (mvT hZ (hw _ (List.mem_of_getElem? (i := 10) rfl))) (mvT hZ (hw _ (List.mem_of_getElem? (i := 11) rfl))) (notFace_of_selects (args := #[]) (mvT hZ (hw _ (List.mem_of_getElem? (i := 13) rfl)))) (mvT hZ (hw _ (List.mem_of_getElem? (i := 13) rfl))) (mvT hZ (hw _ (List.mem_of_getElem? (i := 12) rfl))) (by decide) (backOf (W := 0) (rmfa0 l Z a0 hw [] b212 x2 (0 : Int32) (0 : Int64) h212 n0 Z212 A212 G212 f215 f216 f217) hZ (hw _ (List.mem_of_getElem? (i := 14) rfl)) (hw _ (List.mem_of_getElem? (i := 3) rfl)) (by decide) (by decide)) q219a q219c (g := (mkF m 45 #[.val (.long x0), .second, .val (.int x1), .val (.long x2), .second, .val (.int x3), .val (.int (4 : Int32)), .val (.int (1 : Int32)), .val (.ref b212), .unset, .unset, .unset, .unset, .unset] [(.long x2), (.ref b212)])) rfl (by rw [hml]; rfl) (Steps.refl _) (argsL := [(.long x2)]) (rest := []) (lenOf own_pd0 rfl) rfl (by show 2 * 0 + _ ≤ _; exact Nat.le_of_eq rfl) (hb hby at_45) (fun _ _ => ⟨rfl, eh218, (by decide : 1 + 0 ≤ _), (by decide : 3 + 0 ≤ _)⟩)
      dsimp only [Pt.U, Pt.locs, Pt.cells, Pt.slots] at X219 l219 y219 z219 st219 hQ219
      subst l219 y219 z219
      obtain ⟨rfl, N219q, K219q, f219_0, f219_1, f219_2⟩ := hQ219
      have N219 := Fr.app N218 N219q
      have f220 := own_sta_keep f213 K219q (allS (own_eplain A212) all0)
      have f221 := own_sta_keep f214 K219q (allS (own_eplain A212) all0)
      have f222 := A212.keep K219q
      have K219 := K212.trans K219q (allS (Or.inr H212) all0)
      have Z219 := Nat.le_trans Z212 K219q.1
      refine Goes.tr st219 ?_
      show Goes p e below s _ _ _ T219 (mkF m 48 #[.val (.long x0), .second, .val (.int x1), .val (.long x2), .second, .val (.int x3), .val (.int (4 : Int32)), .val (.int (1 : Int32)), .val (.ref b212), .unset, .unset, .unset, .unset, .unset] [])
      refine own_iload X219 hx 50 rfl (hb hby at_48) rfl ?_
      refine own_iconst X219 hx 51 rfl (2 : Int32) (hb hby at_50) (by decide) ?_
      refine own_icmpN X219 hx 54 (hb hby at_51) (flt ((by decide) : ¬ ((4 : Int32) < (2 : Int32)))).1 rfl ?_
      refine own_aload X219 hx 56 rfl (hb hby at_54) rfl rfl ?_
      refine own_lloadN X219 hx 57 rfl (hb hby at_56) rfl ?_
      obtain ⟨cq223, kq223, q223a, q223b, q223c⟩ := isOf hZ rfl f222
      obtain ⟨_, _, ⟨T223, L223, k223, n223⟩, -, X223, ⟨Lc223, hQ223, l223, y223, z223⟩, st223⟩ := X219.virtualBack hx (y := (⟨"com/example/pooler/pooler/pool/Backoff", "failed", "(J)V"⟩ : MethodName)) (z := (⟨"com/example/pooler/pooler/pool/Backoff", "failed", "(J)V"⟩ : MethodName)) hown (mvT hZ (hw _ (List.mem_of_getElem? (i := 10) rfl))) (mvT hZ (hw _ (List.mem_of_getElem? (i := 11) rfl))) (notFace_of_selects (args := #[]) (mvT hZ (hw _ (List.mem_of_getElem? (i := 13) rfl)))) (mvT hZ (hw _ (List.mem_of_getElem? (i := 13) rfl))) (mvT hZ (hw _ (List.mem_of_getElem? (i := 12) rfl))) (by decide) (backOf (W := 0) (rmfa1 l Z a0 hw [] b212 x2 (1 : Int32) x2 T219.heap n0 Z219 f222 G212 f219_0 f219_1 f219_2) hZ (hw _ (List.mem_of_getElem? (i := 14) rfl)) (hw _ (List.mem_of_getElem? (i := 3) rfl)) (by decide) (by decide)) q223a q223c (g := (mkF m 57 #[.val (.long x0), .second, .val (.int x1), .val (.long x2), .second, .val (.int x3), .val (.int (4 : Int32)), .val (.int (1 : Int32)), .val (.ref b212), .unset, .unset, .unset, .unset, .unset] [(.long x2), (.ref b212)])) rfl (by rw [hml]; rfl) (Steps.refl _) (argsL := [(.long x2)]) (rest := []) (lenOf own_pd0 rfl) rfl (by show 2 * 0 + _ ≤ _; exact Nat.le_of_eq rfl) (hb hby at_57) (fun _ _ => ⟨rfl, rfl, (by decide : 1 + 0 ≤ _), (by decide : 3 + 0 ≤ _)⟩)
      dsimp only [Pt.U, Pt.locs, Pt.cells, Pt.slots] at X223 l223 y223 z223 st223 hQ223
      subst l223 y223 z223
      obtain ⟨rfl, N223q, K223q, f223_0, f223_1, f223_2⟩ := hQ223
      have N223 := Fr.app N219 N223q
      have f224 := own_sta_keep f220 K223q (allS (own_eplain f222) all0)
      have f225 := own_sta_keep f221 K223q (allS (own_eplain f222) all0)
      have f226 := f222.keep K223q
      have K223 := K219.trans K223q (allS (Or.inr H212) all0)
      have Z223 := Nat.le_trans Z219 K223q.1
      refine Goes.tr st223 ?_
      show Goes p e below s _ _ _ T223 (mkF m 60 #[.val (.long x0), .second, .val (.int x1), .val (.long x2), .second, .val (.int x3), .val (.int (4 : Int32)), .val (.int (1 : Int32)), .val (.ref b212), .unset, .unset, .unset, .unset, .unset] [])
      refine own_iload X223 hx 62 rfl (hb hby at_60) rfl ?_
      refine own_iconst X223 hx 63 rfl (3 : Int32) (hb hby at_62) (by decide) ?_
      refine own_icmpN X223 hx 66 (hb hby at_63) (flt ((by decide) : ¬ ((4 : Int32) < (3 : Int32)))).1 rfl ?_
      refine own_aload X223 hx 68 rfl (hb hby at_66) rfl rfl ?_
      refine own_lloadN X223 hx 69 rfl (hb hby at_68) rfl ?_
      obtain ⟨cq227, kq227, q227a, q227b, q227c⟩ := isOf hZ rfl f226
      obtain ⟨_, _, ⟨T227, L227, k227, n227⟩, -, X227, ⟨Lc227, hQ227, l227, y227, z227⟩, st227⟩ := X223.virtualBack hx (y := (⟨"com/example/pooler/pooler/pool/Backoff", "failed", "(J)V"⟩ : MethodName)) (z := (⟨"com/example/pooler/pooler/pool/Backoff", "failed", "(J)V"⟩ : MethodName)) hown (mvT hZ (hw _ (List.mem_of_getElem? (i := 10) rfl))) (mvT hZ (hw _ (List.mem_of_getElem? (i := 11) rfl))) (notFace_of_selects (args := #[]) (mvT hZ (hw _ (List.mem_of_getElem? (i := 13) rfl)))) (mvT hZ (hw _ (List.mem_of_getElem? (i := 13) rfl))) (mvT hZ (hw _ (List.mem_of_getElem? (i := 12) rfl))) (by decide) (backOf (W := 0) (rmfa2 l Z a0 hw [] b212 x2 (1 : Int32) x2 T223.heap n0 Z223 f226 G212 f223_0 f223_1 f223_2) hZ (hw _ (List.mem_of_getElem? (i := 14) rfl)) (hw _ (List.mem_of_getElem? (i := 3) rfl)) (by decide) (by decide)) q227a q227c (g := (mkF m 69 #[.val (.long x0), .second, .val (.int x1), .val (.long x2), .second, .val (.int x3), .val (.int (4 : Int32)), .val (.int (1 : Int32)), .val (.ref b212), .unset, .unset, .unset, .unset, .unset] [(.long x2), (.ref b212)])) rfl (by rw [hml]; rfl) (Steps.refl _) (argsL := [(.long x2)]) (rest := []) (lenOf own_pd0 rfl) rfl (by show 2 * 0 + _ ≤ _; exact Nat.le_of_eq rfl) (hb hby at_69) (fun _ _ => ⟨rfl, rfl, (by decide : 1 + 0 ≤ _), (by decide : 3 + 0 ≤ _)⟩)
      dsimp only [Pt.U, Pt.locs, Pt.cells, Pt.slots] at X227 l227 y227 z227 st227 hQ227
      subst l227 y227 z227
      obtain ⟨rfl, N227q, K227q, f227_0, f227_1, f227_2⟩ := hQ227
      have N227 := Fr.app N223 N227q
      have f228 := own_sta_keep f224 K227q (allS (own_eplain f226) all0)
      have f229 := own_sta_keep f225 K227q (allS (own_eplain f226) all0)
      have f230 := f226.keep K227q
      have K227 := K223.trans K227q (allS (Or.inr H212) all0)
      have Z227 := Nat.le_trans Z223 K227q.1
      refine Goes.tr st227 ?_
      show Goes p e below s _ _ _ T227 (mkF m 72 #[.val (.long x0), .second, .val (.int x1), .val (.long x2), .second, .val (.int x3), .val (.int (4 : Int32)), .val (.int (1 : Int32)), .val (.ref b212), .unset, .unset, .unset, .unset, .unset] [])
      refine own_iload X227 hx 74 rfl (hb hby at_72) rfl ?_
      refine own_iconst X227 hx 75 rfl (4 : Int32) (hb hby at_74) (by decide) ?_
      refine own_icmpN X227 hx 78 (hb hby at_75) (flt ((by decide) : ¬ ((4 : Int32) < (4 : Int32)))).1 rfl ?_
      refine own_aload X227 hx 80 rfl (hb hby at_78) rfl rfl ?_
      refine own_lloadN X227 hx 81 rfl (hb hby at_80) rfl ?_
      obtain ⟨cq231, kq231, q231a, q231b, q231c⟩ := isOf hZ rfl f230
      obtain ⟨_, _, ⟨T231, L231, k231, n231⟩, -, X231, ⟨Lc231, hQ231, l231, y231, z231⟩, st231⟩ := X227.virtualBack hx (y := (⟨"com/example/pooler/pooler/pool/Backoff", "failed", "(J)V"⟩ : MethodName)) (z := (⟨"com/example/pooler/pooler/pool/Backoff", "failed", "(J)V"⟩ : MethodName)) hown (mvT hZ (hw _ (List.mem_of_getElem? (i := 10) rfl))) (mvT hZ (hw _ (List.mem_of_getElem? (i := 11) rfl))) (notFace_of_selects (args := #[]) (mvT hZ (hw _ (List.mem_of_getElem? (i := 13) rfl)))) (mvT hZ (hw _ (List.mem_of_getElem? (i := 13) rfl))) (mvT hZ (hw _ (List.mem_of_getElem? (i := 12) rfl))) (by decide) (backOf (W := 0) (rmfa3 l Z a0 hw [] b212 x2 (1 : Int32) x2 T227.heap n0 Z227 f230 G212 f227_0 f227_1 f227_2) hZ (hw _ (List.mem_of_getElem? (i := 14) rfl)) (hw _ (List.mem_of_getElem? (i := 3) rfl)) (by decide) (by decide)) q231a q231c (g := (mkF m 81 #[.val (.long x0), .second, .val (.int x1), .val (.long x2), .second, .val (.int x3), .val (.int (4 : Int32)), .val (.int (1 : Int32)), .val (.ref b212), .unset, .unset, .unset, .unset, .unset] [(.long x2), (.ref b212)])) rfl (by rw [hml]; rfl) (Steps.refl _) (argsL := [(.long x2)]) (rest := []) (lenOf own_pd0 rfl) rfl (by show 2 * 0 + _ ≤ _; exact Nat.le_of_eq rfl) (hb hby at_81) (fun _ _ => ⟨rfl, rfl, (by decide : 1 + 0 ≤ _), (by decide : 3 + 0 ≤ _)⟩)
      dsimp only [Pt.U, Pt.locs, Pt.cells, Pt.slots] at X231 l231 y231 z231 st231 hQ231
      subst l231 y231 z231
      obtain ⟨rfl, N231q, K231q, f231_0, f231_1, f231_2⟩ := hQ231
      have N231 := Fr.app N227 N231q
      have f232 := own_sta_keep f228 K231q (allS (own_eplain f230) all0)
      have f233 := own_sta_keep f229 K231q (allS (own_eplain f230) all0)
      have f234 := f230.keep K231q
      have K231 := K227.trans K231q (allS (Or.inr H212) all0)
      have Z231 := Nat.le_trans Z227 K231q.1
      refine Goes.tr st231 ?_
      show Goes p e below s _ _ _ T231 (mkF m 84 #[.val (.long x0), .second, .val (.int x1), .val (.long x2), .second, .val (.int x3), .val (.int (4 : Int32)), .val (.int (1 : Int32)), .val (.ref b212), .unset, .unset, .unset, .unset, .unset] [])
      refine own_iload X231 hx 86 rfl (hb hby at_84) rfl ?_
      refine own_iconst X231 hx 87 rfl (5 : Int32) (hb hby at_86) (by decide) ?_
      refine own_icmpY X231 hx 96 (hb hby at_87) (tlt ((by decide) : (4 : Int32) < (5 : Int32))).1 (by decide) (by decide) ?_
      refine own_iload X231 hx 98 rfl (hb hby at_96) rfl ?_
      refine own_ifN X231 hx 101 (hb hby at_98) ((if0 _ _).trans (feq ((by decide) : ¬ ((1 : Int32) = (0 : Int32)))).1) rfl ?_
      refine own_aload X231 hx 103 rfl (hb hby at_101) rfl rfl ?_
      refine own_lloadN X231 hx 104 rfl (hb hby at_103) rfl ?_
      obtain ⟨cq235, kq235, q235a, q235b, q235c⟩ := isOf hZ rfl f234
      obtain ⟨_, _, ⟨T235, L235, k235, n235⟩, -, X235, ⟨Lc235, hQ235, l235, y235, z235⟩, st235⟩ := X231.virtualBack hx (y := (⟨"com/example/pooler/pooler/pool/Backoff", "opened", "(J)V"⟩ : MethodName)) (z := (⟨"com/example/pooler/pooler/pool/Backoff", "opened", "(J)V"⟩ : MethodName)) hown (mvT hZ (hw _ (List.mem_of_getElem? (i := 55) rfl))) (mvT hZ (hw _ (List.mem_of_getElem? (i := 56) rfl))) (notFace_of_selects (args := #[]) (mvT hZ (hw _ (List.mem_of_getElem? (i := 58) rfl)))) (mvT hZ (hw _ (List.mem_of_getElem? (i := 58) rfl))) (mvT hZ (hw _ (List.mem_of_getElem? (i := 57) rfl))) (by decide) (backOf (W := 0) (rm10 l Z a0 hw [] b212 x2 (1 : Int32) x2 (4 : Int32) T231.heap n0 Z231 f234 G212 f231_0 f231_1 f231_2) hZ (hw _ (List.mem_of_getElem? (i := 59) rfl)) (hw _ (List.mem_of_getElem? (i := 3) rfl)) (by decide) (by decide)) q235a q235c (g := (mkF m 104 #[.val (.long x0), .second, .val (.int x1), .val (.long x2), .second, .val (.int x3), .val (.int (4 : Int32)), .val (.int (1 : Int32)), .val (.ref b212), .unset, .unset, .unset, .unset, .unset] [(.long x2), (.ref b212)])) rfl (by rw [hml]; rfl) (Steps.refl _) (argsL := [(.long x2)]) (rest := []) (lenOf own_pd0 rfl) rfl (by show 2 * 0 + _ ≤ _; exact Nat.le_of_eq rfl) (hb hby at_104) (fun _ _ => ⟨rfl, rfl, (by decide : 1 + 0 ≤ _), (by decide : 3 + 0 ≤ _)⟩)
      dsimp only [Pt.U, Pt.locs, Pt.cells, Pt.slots] at X235 l235 y235 z235 st235 hQ235
      subst l235 y235 z235
      obtain ⟨rfl, N235q, K235q, f235_0, f235_1, f235_2⟩ := hQ235
      have N235 := Fr.app N231 N235q
      have f236 := own_sta_keep f232 K235q (allS (own_eplain f234) all0)
      have f237 := own_sta_keep f233 K235q (allS (own_eplain f234) all0)
      have f238 := f234.keep K235q
      have K235 := K231.trans K235q (allS (Or.inr H212) all0)
      have Z235 := Nat.le_trans Z231 K235q.1
      refine Goes.tr st235 ?_
      show Goes p e below s _ _ _ T235 (mkF m 107 #[.val (.long x0), .second, .val (.int x1), .val (.long x2), .second, .val (.int x3), .val (.int (4 : Int32)), .val (.int (1 : Int32)), .val (.ref b212), .unset, .unset, .unset, .unset, .unset] [])
      refine own_aload X235 hx 109 rfl (hb hby at_107) rfl rfl ?_
      refine own_lloadN X235 hx 110 rfl (hb hby at_109) rfl ?_
      obtain ⟨cq239, kq239, q239a, q239b, q239c⟩ := isOf hZ rfl f238
      obtain ⟨_, _, ⟨T239, L239, k239, n239⟩, -, X239, ⟨Lc239, hQ239, l239, y239, z239⟩, st239⟩ := X235.virtualBack hx (y := (⟨"com/example/pooler/pooler/pool/Backoff", "failed", "(J)V"⟩ : MethodName)) (z := (⟨"com/example/pooler/pooler/pool/Backoff", "failed", "(J)V"⟩ : MethodName)) hown (mvT hZ (hw _ (List.mem_of_getElem? (i := 10) rfl))) (mvT hZ (hw _ (List.mem_of_getElem? (i := 11) rfl))) (notFace_of_selects (args := #[]) (mvT hZ (hw _ (List.mem_of_getElem? (i := 13) rfl)))) (mvT hZ (hw _ (List.mem_of_getElem? (i := 13) rfl))) (mvT hZ (hw _ (List.mem_of_getElem? (i := 12) rfl))) (by decide) (backOf (W := 0) (rmfa0 l Z a0 hw [] b212 x0 (1 : Int32) x2 T235.heap n0 Z235 f238 G212 f235_0 f235_1 f235_2) hZ (hw _ (List.mem_of_getElem? (i := 14) rfl)) (hw _ (List.mem_of_getElem? (i := 3) rfl)) (by decide) (by decide)) q239a q239c (g := (mkF m 110 #[.val (.long x0), .second, .val (.int x1), .val (.long x2), .second, .val (.int x3), .val (.int (4 : Int32)), .val (.int (1 : Int32)), .val (.ref b212), .unset, .unset, .unset, .unset, .unset] [(.long x0), (.ref b212)])) rfl (by rw [hml]; rfl) (Steps.refl _) (argsL := [(.long x0)]) (rest := []) (lenOf own_pd0 rfl) rfl (by show 2 * 0 + _ ≤ _; exact Nat.le_of_eq rfl) (hb hby at_110) (fun _ _ => ⟨rfl, rfl, (by decide : 1 + 0 ≤ _), (by decide : 3 + 0 ≤ _)⟩)
      dsimp only [Pt.U, Pt.locs, Pt.cells, Pt.slots] at X239 l239 y239 z239 st239 hQ239
      subst l239 y239 z239
      obtain ⟨rfl, N239q, K239q, f239_0, f239_1, f239_2⟩ := hQ239
      have N239 := Fr.app N235 N239q
      have f240 := own_sta_keep f236 K239q (allS (own_eplain f238) all0)
      have f241 := own_sta_keep f237 K239q (allS (own_eplain f238) all0)
      have f242 := f238.keep K239q
      have K239 := K235.trans K239q (allS (Or.inr H212) all0)
      have Z239 := Nat.le_trans Z235 K239q.1
      refine Goes.tr st239 ?_
      show Goes p e below s _ _ _ T239 (mkF m 113 #[.val (.long x0), .second, .val (.int x1), .val (.long x2), .second, .val (.int x3), .val (.int (4 : Int32)), .val (.int (1 : Int32)), .val (.ref b212), .unset, .unset, .unset, .unset, .unset] [])
      refine own_iload X239 hx 115 rfl (hb hby at_113) rfl ?_
      refine own_ifN X239 hx 118 (hb hby at_115) ((if0 _ _).trans (feq ((by decide) : ¬ ((1 : Int32) = (0 : Int32)))).1) rfl ?_
      refine own_iconst X239 hx 119 rfl (1 : Int32) (hb hby at_118) (by decide) ?_
      refine own_goto X239 hx 126 (hb hby at_119) (by decide) (by decide) ?_
      refine own_istore X239 hx 128 rfl #[.val (.long x0), .second, .val (.int x1), .val (.long x2), .second, .val (.int x3), .val (.int (4 : Int32)), .val (.int (1 : Int32)), .val (.ref b212), .val (.int (1 : Int32)), .unset, .unset, .unset, .unset] (hb hby at_126) rfl ?_
      refine own_lloadN X239 hx 129 rfl (hb hby at_128) rfl ?_
      refine own_iloadN X239 hx 130 rfl (hb hby at_129) rfl ?_
      refine own_i2l X239 hx 131 rfl (hb hby at_130) rfl ?_
      refine own_ladd X239 hx 132 rfl (hb hby at_131) rfl ?_
      refine own_lstore X239 hx 134 rfl #[.val (.long x0), .second, .val (.int x1), .val (.long x2), .second, .val (.int x3), .val (.int (4 : Int32)), .val (.int (1 : Int32)), .val (.ref b212), .val (.int (1 : Int32)), .val (.long (x0 + (x1.toInt64))), .second, .unset, .unset] (hb hby at_132) rfl ?_
      refine own_lconst X239 hx 135 rfl (0 : Int64) (hb hby at_134) (by decide) ?_
      refine own_iload X239 hx 137 rfl (hb hby at_135) rfl ?_
      obtain ⟨_, _, ⟨T243, L243, k243, n243⟩, -, X243, ⟨Lc243, hQ243, l243, y243, z243⟩, st243⟩ := Jvm.LawKit.callS X239 hx (y := (⟨"com/example/pooler/pooler/pool/BackoffFailedPinLaw", "expectedPause", "(I)J"⟩ : MethodName)) hown (mvT hZ (hw _ (List.mem_of_getElem? (i := 25) rfl))) (mvT hZ (hw _ (List.mem_of_getElem? (i := 26) rfl))) (mvT hZ (hw _ (List.mem_of_getElem? (i := 27) rfl))) (mvT hZ (hw _ (List.mem_of_getElem? (i := 28) rfl))) (by decide) (backOf (W := 2) (rmep1 l Z a0 hw []  T239.heap n0 Z239 ) hZ (hw _ (List.mem_of_getElem? (i := 28) rfl)) (hw _ (List.mem_of_getElem? (i := 27) rfl)) (by decide) (by decide)) (g := (mkF m 137 #[.val (.long x0), .second, .val (.int x1), .val (.long x2), .second, .val (.int x3), .val (.int (4 : Int32)), .val (.int (1 : Int32)), .val (.ref b212), .val (.int (1 : Int32)), .val (.long (x0 + (x1.toInt64))), .second, .unset, .unset] [(.int (1 : Int32)), (.long (0 : Int64))])) rfl (by rw [hml]; rfl) (argsL := [(.int (1 : Int32))]) (rest := [(.long (0 : Int64))]) (lenOf own_pd4 rfl) rfl (by show 2 * 0 + _ ≤ _; exact Nat.le_of_eq rfl) (hb hby at_137) (fun _ _ => ⟨rfl, rfl, (by decide : 1 + 0 ≤ _), (by decide : 3 + 0 ≤ _)⟩)
      dsimp only [Pt.U, Pt.locs, Pt.cells, Pt.slots] at X243 l243 y243 z243 st243 hQ243
      subst l243 y243 z243
      obtain ⟨rfl, N243q, eh243⟩ := hQ243
      have N243 := Fr.app N239 N243q
      refine Goes.go st243 ?_
      show Goes p e below s _ _ _ T243 (mkF m 140 #[.val (.long x0), .second, .val (.int x1), .val (.long x2), .second, .val (.int x3), .val (.int (4 : Int32)), .val (.int (1 : Int32)), .val (.ref b212), .val (.int (1 : Int32)), .val (.long (x0 + (x1.toInt64))), .second, .unset, .unset] [(.long (100000000 : Int64)), (.long (0 : Int64))])
      refine own_iloadN X243 hx 141 rfl (hb hby at_140) rfl ?_
      refine own_i2l X243 hx 142 rfl (hb hby at_141) rfl ?_
      refine own_lsub X243 hx 143 rfl (hb hby at_142) rfl ?_
      obtain ⟨_, _, ⟨T244, L244, k244, n244⟩, -, X244, ⟨Lc244, hQ244, l244, y244, z244⟩, st244⟩ := Jvm.LawKit.callS X243 hx (y := (⟨"java/lang/Math", "max", "(JJ)J"⟩ : MethodName)) hown (mvT hZ (hw _ (List.mem_of_getElem? (i := 32) rfl))) (mvT hZ (hw _ (List.mem_of_getElem? (i := 33) rfl))) (mvT hZ (hw _ (List.mem_of_getElem? (i := 34) rfl))) (mvT hZ (hw _ (List.mem_of_getElem? (i := 35) rfl))) (by decide) (backOf (W := 0) (rm6 l Z a0 hw [] (0 : Int64) ((100000000 : Int64) - (x1.toInt64)) T239.heap n0 Z239 ) hZ (hw _ (List.mem_of_getElem? (i := 35) rfl)) (hw _ (List.mem_of_getElem? (i := 34) rfl)) (by decide) (by decide)) (g := (mkF m 143 #[.val (.long x0), .second, .val (.int x1), .val (.long x2), .second, .val (.int x3), .val (.int (4 : Int32)), .val (.int (1 : Int32)), .val (.ref b212), .val (.int (1 : Int32)), .val (.long (x0 + (x1.toInt64))), .second, .unset, .unset] [(.long ((100000000 : Int64) - (x1.toInt64))), (.long (0 : Int64))])) rfl (by rw [hml]; rfl) (argsL := [(.long (0 : Int64)), (.long ((100000000 : Int64) - (x1.toInt64)))]) (rest := []) (lenOf own_pd1 rfl) rfl (by show 2 * 0 + _ ≤ _; exact Nat.le_of_eq rfl) (hb hby at_143) (fun _ _ => ⟨rfl, eh243, (by decide : 1 + 0 ≤ _), (by decide : 3 + 0 ≤ _)⟩)
      dsimp only [Pt.U, Pt.locs, Pt.cells, Pt.slots] at X244 l244 y244 z244 st244 hQ244
      subst l244 y244 z244
      obtain ⟨mr_244, rfl, N244q, eh244, pr244_0⟩ := hQ244
      have N244 := Fr.app N243 N244q
      refine Goes.go st244 ?_
      show Goes p e below s _ _ _ T244 (mkF m 146 #[.val (.long x0), .second, .val (.int x1), .val (.long x2), .second, .val (.int x3), .val (.int (4 : Int32)), .val (.int (1 : Int32)), .val (.ref b212), .val (.int (1 : Int32)), .val (.long (x0 + (x1.toInt64))), .second, .unset, .unset] [(.long mr_244)])
      refine own_lstore X244 hx 148 rfl #[.val (.long x0), .second, .val (.int x1), .val (.long x2), .second, .val (.int x3), .val (.int (4 : Int32)), .val (.int (1 : Int32)), .val (.ref b212), .val (.int (1 : Int32)), .val (.long (x0 + (x1.toInt64))), .second, .val (.long mr_244), .second] (hb hby at_146) rfl ?_
      refine own_aload X244 hx 150 rfl (hb hby at_148) rfl rfl ?_
      refine own_lload X244 hx 152 rfl (hb hby at_150) rfl ?_
      obtain ⟨cq245, kq245, q245a, q245b, q245c⟩ := isOf hZ eh244 f242
      obtain ⟨_, _, ⟨T245, L245, k245, n245⟩, -, X245, ⟨Lc245, hQ245, l245, y245, z245⟩, st245⟩ := X244.virtualBack hx (y := (⟨"com/example/pooler/pooler/pool/Backoff", "delay", "(J)J"⟩ : MethodName)) (z := (⟨"com/example/pooler/pooler/pool/Backoff", "delay", "(J)J"⟩ : MethodName)) hown (mvT hZ (hw _ (List.mem_of_getElem? (i := 36) rfl))) (mvT hZ (hw _ (List.mem_of_getElem? (i := 37) rfl))) (notFace_of_selects (args := #[]) (mvT hZ (hw _ (List.mem_of_getElem? (i := 39) rfl)))) (mvT hZ (hw _ (List.mem_of_getElem? (i := 39) rfl))) (mvT hZ (hw _ (List.mem_of_getElem? (i := 38) rfl))) (by decide) (backOf (W := 0) (rmde1 l Z a0 hw [] b212 (x0 + (x1.toInt64)) x0 T239.heap n0 Z239 f242 f240 f241 f239_0 f239_1 f239_2) hZ (hw _ (List.mem_of_getElem? (i := 40) rfl)) (hw _ (List.mem_of_getElem? (i := 3) rfl)) (by decide) (by decide)) q245a q245c (g := (mkF m 152 #[.val (.long x0), .second, .val (.int x1), .val (.long x2), .second, .val (.int x3), .val (.int (4 : Int32)), .val (.int (1 : Int32)), .val (.ref b212), .val (.int (1 : Int32)), .val (.long (x0 + (x1.toInt64))), .second, .val (.long mr_244), .second] [(.long (x0 + (x1.toInt64))), (.ref b212)])) rfl (by rw [hml]; rfl) (Steps.refl _) (argsL := [(.long (x0 + (x1.toInt64)))]) (rest := []) (lenOf own_pd5 rfl) rfl (by show 2 * 0 + _ ≤ _; exact Nat.le_of_eq rfl) (hb hby at_152) (fun _ _ => ⟨rfl, eh244, (by decide : 1 + 0 ≤ _), (by decide : 3 + 0 ≤ _)⟩)
      dsimp only [Pt.U, Pt.locs, Pt.cells, Pt.slots] at X245 l245 y245 z245 st245 hQ245
      subst l245 y245 z245
      obtain ⟨br_245, rfl, N245q, eh245, pr245_0⟩ := hQ245
      have N245 := Fr.app N244 N245q
      refine Goes.tr st245 ?_
      show Goes p e below s _ _ _ T245 (mkF m 155 #[.val (.long x0), .second, .val (.int x1), .val (.long x2), .second, .val (.int x3), .val (.int (4 : Int32)), .val (.int (1 : Int32)), .val (.ref b212), .val (.int (1 : Int32)), .val (.long (x0 + (x1.toInt64))), .second, .val (.long mr_244), .second] [(.long br_245)])
      refine own_lload X245 hx 157 rfl (hb hby at_155) rfl ?_
      refine own_lcmp X245 hx 158 rfl (hb hby at_157) ?_
      refine own_ifN X245 hx 161 (hb hby at_158) (Lteq (own_fin pr245_0 pr244_0 : br_245 = mr_244)).2 rfl ?_
      refine own_iconst X245 hx 162 rfl (1 : Int32) (hb hby at_161) (by decide) ?_
      refine own_goto X245 hx 166 (hb hby at_162) (by decide) (by decide) ?_
      refine own_retZ X245 hx hlk Bd.returns (by decide) (hb hby at_166) (by decide) (by decide) eh245 ?_
      exact ⟨rfl, N245⟩
  · refine own_istore X0 hx 10 rfl #[.val (.long x0), .second, .val (.int x1), .val (.long x2), .second, .val (.int x3), .val (.int (5 : Int32)), .unset, .unset, .unset, .unset, .unset, .unset, .unset] (hb hby at_8) rfl ?_
    refine own_iload X0 hx 12 rfl (hb hby at_10) rfl ?_
    refine own_bipush X0 hx 14 rfl (8 : Int32) (hb hby at_12) (by decide) ?_
    refine own_iushr X0 hx 15 rfl (hb hby at_14) rfl ?_
    refine own_iconst X0 hx 16 rfl (1 : Int32) (hb hby at_15) (by decide) ?_
    refine own_iand X0 hx 17 rfl (hb hby at_16) rfl ?_
    by_cases hc17_246 : (((x3.toUInt32 >>> ((8 : Int32) &&& 31).toUInt32).toInt32) &&& (1 : Int32)) = (0 : Int32)
    · refine own_ifY X0 hx 24 (hb hby at_17) ((if0 _ _).trans (teq hc17_246).1) (by decide) (by decide) ?_
      refine own_iconst X0 hx 25 rfl (0 : Int32) (hb hby at_24) (by decide) ?_
      refine own_istore X0 hx 27 rfl #[.val (.long x0), .second, .val (.int x1), .val (.long x2), .second, .val (.int x3), .val (.int (5 : Int32)), .val (.int (0 : Int32)), .unset, .unset, .unset, .unset, .unset, .unset] (hb hby at_25) rfl ?_
      obtain ⟨T247, h247, X247, e247, E247, A247, D247, -, st247⟩ := newO X0 hx hZ hown (hw _ (List.mem_of_getElem? (i := 1) rfl)) (hw _ (List.mem_of_getElem? (i := 2) rfl)) (hw _ (List.mem_of_getElem? (i := 3) rfl)) e0 (g := (mkF m 27 #[.val (.long x0), .second, .val (.int x1), .val (.long x2), .second, .val (.int x3), .val (.int (5 : Int32)), .val (.int (0 : Int32)), .unset, .unset, .unset, .unset, .unset, .unset] [])) rfl (hb hby at_27) (by decide) (by decide)
      obtain ⟨b247, g247⟩ : ∃ z, z = h0.size := ⟨_, rfl⟩
      rw [← g247] at A247 D247 st247
      have G247 : n0 ≤ b247 := Nat.le_trans Z0 (Nat.le_of_eq g247.symm)
      have H247 : h0.size ≤ b247 := Nat.le_trans K0.1 (Nat.le_of_eq g247.symm)
      have f248 := S_y_SHORTEST.ext E247
      have f249 := S_y_LONGEST.ext E247
      have K247 := K0.ext E247
      have Z247 := Nat.le_trans Z0 E247.1
      have f250 : Fld Z h247 b247 "com/example/pooler/pooler/pool/Backoff" "tried" "Z" (.int (0 : Int32)) := D247 (Or.inl (hw _ (List.mem_of_getElem? (i := 20) rfl))) (ty := .boolean) (by decide)
      have f251 : Fld Z h247 b247 "com/example/pooler/pooler/pool/Backoff" "endedAt" "J" (.long (0 : Int64)) := D247 (Or.inl (hw _ (List.mem_of_getElem? (i := 22) rfl))) (ty := .long) (by decide)
      have f252 : Fld Z h247 b247 "com/example/pooler/pooler/pool/Backoff" "failuresInARow" "I" (.int (0 : Int32)) := D247 (Or.inl (hw _ (List.mem_of_getElem? (i := 24) rfl))) (ty := .int) (by decide)
      refine Goes.go st247 ?_
      show Goes p e below s _ _ _ T247 (mkF m 30 #[.val (.long x0), .second, .val (.int x1), .val (.long x2), .second, .val (.int x3), .val (.int (5 : Int32)), .val (.int (0 : Int32)), .unset, .unset, .unset, .unset, .unset, .unset] [(.ref b247)])
      refine own_dup X247 hx 31 rfl (hb hby at_30) rfl ?_
      obtain ⟨_, _, ⟨T253, L253, k253, n253⟩, -, X253, ⟨Lc253, hQ253, l253, y253, z253⟩, st253⟩ := X247.specialBack hx (y := (⟨"com/example/pooler/pooler/pool/Backoff", "<init>", "()V"⟩ : MethodName)) rfl hown (mvT hZ (hw _ (List.mem_of_getElem? (i := 4) rfl))) (mvT hZ (hw _ (List.mem_of_getElem? (i := 5) rfl))) (mvT hZ (hw _ (List.mem_of_getElem? (i := 6) rfl))) (by decide) (backOf (W := 1) (rm1 l Z a0 hw [] b247 h247 n0 Z247 ) hZ (hw _ (List.mem_of_getElem? (i := 6) rfl)) (hw _ (List.mem_of_getElem? (i := 3) rfl)) (by decide) (by decide)) (g := (mkF m 31 #[.val (.long x0), .second, .val (.int x1), .val (.long x2), .second, .val (.int x3), .val (.int (5 : Int32)), .val (.int (0 : Int32)), .unset, .unset, .unset, .unset, .unset, .unset] [(.ref b247), (.ref b247)])) rfl (by rw [hml]; rfl) (Steps.refl _) (a := b247) (argsL := []) (rest := [(.ref b247)]) (lenOf own_pd3 rfl) rfl (by show 2 * 0 + _ ≤ _; exact Nat.le_of_eq rfl) (hb hby at_31) (fun _ _ => ⟨rfl, e247, (by decide : 1 + 0 ≤ _), (by decide : 3 + 0 ≤ _)⟩)
      dsimp only [Pt.U, Pt.locs, Pt.cells, Pt.slots] at X253 l253 y253 z253 st253 hQ253
      subst l253 y253 z253
      obtain ⟨rfl, N253q, eh253⟩ := hQ253
      have N253 := Fr.app N0 N253q
      refine Goes.tr st253 ?_
      show Goes p e below s _ _ _ T253 (mkF m 34 #[.val (.long x0), .second, .val (.int x1), .val (.long x2), .second, .val (.int x3), .val (.int (5 : Int32)), .val (.int (0 : Int32)), .unset, .unset, .unset, .unset, .unset, .unset] [(.ref b247)])
      refine own_astore X253 hx 36 rfl #[.val (.long x0), .second, .val (.int x1), .val (.long x2), .second, .val (.int x3), .val (.int (5 : Int32)), .val (.int (0 : Int32)), .val (.ref b247), .unset, .unset, .unset, .unset, .unset] (hb hby at_34) rfl rfl ?_
      refine own_iload X253 hx 38 rfl (hb hby at_36) rfl ?_
      refine own_iconst X253 hx 39 rfl (1 : Int32) (hb hby at_38) (by decide) ?_
      refine own_icmpN X253 hx 42 (hb hby at_39) (flt ((by decide) : ¬ ((5 : Int32) < (1 : Int32)))).1 rfl ?_
      refine own_aload X253 hx 44 rfl (hb hby at_42) rfl rfl ?_
      refine own_lloadN X253 hx 45 rfl (hb hby at_44) rfl ?_
      obtain ⟨cq254, kq254, q254a, q254b, q254c⟩ := isOf hZ eh253 A247
      obtain ⟨_, _, ⟨T254, L254, k254, n254⟩, -, X254, ⟨Lc254, hQ254, l254, y254, z254⟩, st254⟩ := X253.virtualBack hx (y := (⟨"com/example/pooler/pooler/pool/Backoff", "failed", "(J)V"⟩ : MethodName)) (z := (⟨"com/example/pooler/pooler/pool/Backoff", "failed", "(J)V"⟩ : MethodName)) hown (mvT hZ (hw _ (List.mem_of_getElem? (i := 10) rfl))) (mvT hZ (hw _ (List.mem_of_getElem? (i := 11) rfl))) (notFace_of_selects (args := #[]) (mvT hZ (hw _ (List.mem_of_getElem? (i := 13) rfl)))) (mvT hZ (hw _ (List.mem_of_getElem? (i := 13) rfl))) (mvT hZ (hw _ (List.mem_of_getElem? (i := 12) rfl))) (by decide) (backOf (W := 0) (rmfa0 l Z a0 hw [] b247 x2 (0 : Int32) (0 : Int64) h247 n0 Z247 A247 G247 f250 f251 f252) hZ (hw _ (List.mem_of_getElem? (i := 14) rfl)) (hw _ (List.mem_of_getElem? (i := 3) rfl)) (by decide) (by decide)) q254a q254c (g := (mkF m 45 #[.val (.long x0), .second, .val (.int x1), .val (.long x2), .second, .val (.int x3), .val (.int (5 : Int32)), .val (.int (0 : Int32)), .val (.ref b247), .unset, .unset, .unset, .unset, .unset] [(.long x2), (.ref b247)])) rfl (by rw [hml]; rfl) (Steps.refl _) (argsL := [(.long x2)]) (rest := []) (lenOf own_pd0 rfl) rfl (by show 2 * 0 + _ ≤ _; exact Nat.le_of_eq rfl) (hb hby at_45) (fun _ _ => ⟨rfl, eh253, (by decide : 1 + 0 ≤ _), (by decide : 3 + 0 ≤ _)⟩)
      dsimp only [Pt.U, Pt.locs, Pt.cells, Pt.slots] at X254 l254 y254 z254 st254 hQ254
      subst l254 y254 z254
      obtain ⟨rfl, N254q, K254q, f254_0, f254_1, f254_2⟩ := hQ254
      have N254 := Fr.app N253 N254q
      have f255 := own_sta_keep f248 K254q (allS (own_eplain A247) all0)
      have f256 := own_sta_keep f249 K254q (allS (own_eplain A247) all0)
      have f257 := A247.keep K254q
      have K254 := K247.trans K254q (allS (Or.inr H247) all0)
      have Z254 := Nat.le_trans Z247 K254q.1
      refine Goes.tr st254 ?_
      show Goes p e below s _ _ _ T254 (mkF m 48 #[.val (.long x0), .second, .val (.int x1), .val (.long x2), .second, .val (.int x3), .val (.int (5 : Int32)), .val (.int (0 : Int32)), .val (.ref b247), .unset, .unset, .unset, .unset, .unset] [])
      refine own_iload X254 hx 50 rfl (hb hby at_48) rfl ?_
      refine own_iconst X254 hx 51 rfl (2 : Int32) (hb hby at_50) (by decide) ?_
      refine own_icmpN X254 hx 54 (hb hby at_51) (flt ((by decide) : ¬ ((5 : Int32) < (2 : Int32)))).1 rfl ?_
      refine own_aload X254 hx 56 rfl (hb hby at_54) rfl rfl ?_
      refine own_lloadN X254 hx 57 rfl (hb hby at_56) rfl ?_
      obtain ⟨cq258, kq258, q258a, q258b, q258c⟩ := isOf hZ rfl f257
      obtain ⟨_, _, ⟨T258, L258, k258, n258⟩, -, X258, ⟨Lc258, hQ258, l258, y258, z258⟩, st258⟩ := X254.virtualBack hx (y := (⟨"com/example/pooler/pooler/pool/Backoff", "failed", "(J)V"⟩ : MethodName)) (z := (⟨"com/example/pooler/pooler/pool/Backoff", "failed", "(J)V"⟩ : MethodName)) hown (mvT hZ (hw _ (List.mem_of_getElem? (i := 10) rfl))) (mvT hZ (hw _ (List.mem_of_getElem? (i := 11) rfl))) (notFace_of_selects (args := #[]) (mvT hZ (hw _ (List.mem_of_getElem? (i := 13) rfl)))) (mvT hZ (hw _ (List.mem_of_getElem? (i := 13) rfl))) (mvT hZ (hw _ (List.mem_of_getElem? (i := 12) rfl))) (by decide) (backOf (W := 0) (rmfa1 l Z a0 hw [] b247 x2 (1 : Int32) x2 T254.heap n0 Z254 f257 G247 f254_0 f254_1 f254_2) hZ (hw _ (List.mem_of_getElem? (i := 14) rfl)) (hw _ (List.mem_of_getElem? (i := 3) rfl)) (by decide) (by decide)) q258a q258c (g := (mkF m 57 #[.val (.long x0), .second, .val (.int x1), .val (.long x2), .second, .val (.int x3), .val (.int (5 : Int32)), .val (.int (0 : Int32)), .val (.ref b247), .unset, .unset, .unset, .unset, .unset] [(.long x2), (.ref b247)])) rfl (by rw [hml]; rfl) (Steps.refl _) (argsL := [(.long x2)]) (rest := []) (lenOf own_pd0 rfl) rfl (by show 2 * 0 + _ ≤ _; exact Nat.le_of_eq rfl) (hb hby at_57) (fun _ _ => ⟨rfl, rfl, (by decide : 1 + 0 ≤ _), (by decide : 3 + 0 ≤ _)⟩)
      dsimp only [Pt.U, Pt.locs, Pt.cells, Pt.slots] at X258 l258 y258 z258 st258 hQ258
      subst l258 y258 z258
      obtain ⟨rfl, N258q, K258q, f258_0, f258_1, f258_2⟩ := hQ258
      have N258 := Fr.app N254 N258q
      have f259 := own_sta_keep f255 K258q (allS (own_eplain f257) all0)
      have f260 := own_sta_keep f256 K258q (allS (own_eplain f257) all0)
      have f261 := f257.keep K258q
      have K258 := K254.trans K258q (allS (Or.inr H247) all0)
      have Z258 := Nat.le_trans Z254 K258q.1
      refine Goes.tr st258 ?_
      show Goes p e below s _ _ _ T258 (mkF m 60 #[.val (.long x0), .second, .val (.int x1), .val (.long x2), .second, .val (.int x3), .val (.int (5 : Int32)), .val (.int (0 : Int32)), .val (.ref b247), .unset, .unset, .unset, .unset, .unset] [])
      refine own_iload X258 hx 62 rfl (hb hby at_60) rfl ?_
      refine own_iconst X258 hx 63 rfl (3 : Int32) (hb hby at_62) (by decide) ?_
      refine own_icmpN X258 hx 66 (hb hby at_63) (flt ((by decide) : ¬ ((5 : Int32) < (3 : Int32)))).1 rfl ?_
      refine own_aload X258 hx 68 rfl (hb hby at_66) rfl rfl ?_
      refine own_lloadN X258 hx 69 rfl (hb hby at_68) rfl ?_
      obtain ⟨cq262, kq262, q262a, q262b, q262c⟩ := isOf hZ rfl f261
      obtain ⟨_, _, ⟨T262, L262, k262, n262⟩, -, X262, ⟨Lc262, hQ262, l262, y262, z262⟩, st262⟩ := X258.virtualBack hx (y := (⟨"com/example/pooler/pooler/pool/Backoff", "failed", "(J)V"⟩ : MethodName)) (z := (⟨"com/example/pooler/pooler/pool/Backoff", "failed", "(J)V"⟩ : MethodName)) hown (mvT hZ (hw _ (List.mem_of_getElem? (i := 10) rfl))) (mvT hZ (hw _ (List.mem_of_getElem? (i := 11) rfl))) (notFace_of_selects (args := #[]) (mvT hZ (hw _ (List.mem_of_getElem? (i := 13) rfl)))) (mvT hZ (hw _ (List.mem_of_getElem? (i := 13) rfl))) (mvT hZ (hw _ (List.mem_of_getElem? (i := 12) rfl))) (by decide) (backOf (W := 0) (rmfa2 l Z a0 hw [] b247 x2 (1 : Int32) x2 T258.heap n0 Z258 f261 G247 f258_0 f258_1 f258_2) hZ (hw _ (List.mem_of_getElem? (i := 14) rfl)) (hw _ (List.mem_of_getElem? (i := 3) rfl)) (by decide) (by decide)) q262a q262c (g := (mkF m 69 #[.val (.long x0), .second, .val (.int x1), .val (.long x2), .second, .val (.int x3), .val (.int (5 : Int32)), .val (.int (0 : Int32)), .val (.ref b247), .unset, .unset, .unset, .unset, .unset] [(.long x2), (.ref b247)])) rfl (by rw [hml]; rfl) (Steps.refl _) (argsL := [(.long x2)]) (rest := []) (lenOf own_pd0 rfl) rfl (by show 2 * 0 + _ ≤ _; exact Nat.le_of_eq rfl) (hb hby at_69) (fun _ _ => ⟨rfl, rfl, (by decide : 1 + 0 ≤ _), (by decide : 3 + 0 ≤ _)⟩)
      dsimp only [Pt.U, Pt.locs, Pt.cells, Pt.slots] at X262 l262 y262 z262 st262 hQ262
      subst l262 y262 z262
      obtain ⟨rfl, N262q, K262q, f262_0, f262_1, f262_2⟩ := hQ262
      have N262 := Fr.app N258 N262q
      have f263 := own_sta_keep f259 K262q (allS (own_eplain f261) all0)
      have f264 := own_sta_keep f260 K262q (allS (own_eplain f261) all0)
      have f265 := f261.keep K262q
      have K262 := K258.trans K262q (allS (Or.inr H247) all0)
      have Z262 := Nat.le_trans Z258 K262q.1
      refine Goes.tr st262 ?_
      show Goes p e below s _ _ _ T262 (mkF m 72 #[.val (.long x0), .second, .val (.int x1), .val (.long x2), .second, .val (.int x3), .val (.int (5 : Int32)), .val (.int (0 : Int32)), .val (.ref b247), .unset, .unset, .unset, .unset, .unset] [])
      refine own_iload X262 hx 74 rfl (hb hby at_72) rfl ?_
      refine own_iconst X262 hx 75 rfl (4 : Int32) (hb hby at_74) (by decide) ?_
      refine own_icmpN X262 hx 78 (hb hby at_75) (flt ((by decide) : ¬ ((5 : Int32) < (4 : Int32)))).1 rfl ?_
      refine own_aload X262 hx 80 rfl (hb hby at_78) rfl rfl ?_
      refine own_lloadN X262 hx 81 rfl (hb hby at_80) rfl ?_
      obtain ⟨cq266, kq266, q266a, q266b, q266c⟩ := isOf hZ rfl f265
      obtain ⟨_, _, ⟨T266, L266, k266, n266⟩, -, X266, ⟨Lc266, hQ266, l266, y266, z266⟩, st266⟩ := X262.virtualBack hx (y := (⟨"com/example/pooler/pooler/pool/Backoff", "failed", "(J)V"⟩ : MethodName)) (z := (⟨"com/example/pooler/pooler/pool/Backoff", "failed", "(J)V"⟩ : MethodName)) hown (mvT hZ (hw _ (List.mem_of_getElem? (i := 10) rfl))) (mvT hZ (hw _ (List.mem_of_getElem? (i := 11) rfl))) (notFace_of_selects (args := #[]) (mvT hZ (hw _ (List.mem_of_getElem? (i := 13) rfl)))) (mvT hZ (hw _ (List.mem_of_getElem? (i := 13) rfl))) (mvT hZ (hw _ (List.mem_of_getElem? (i := 12) rfl))) (by decide) (backOf (W := 0) (rmfa3 l Z a0 hw [] b247 x2 (1 : Int32) x2 T262.heap n0 Z262 f265 G247 f262_0 f262_1 f262_2) hZ (hw _ (List.mem_of_getElem? (i := 14) rfl)) (hw _ (List.mem_of_getElem? (i := 3) rfl)) (by decide) (by decide)) q266a q266c (g := (mkF m 81 #[.val (.long x0), .second, .val (.int x1), .val (.long x2), .second, .val (.int x3), .val (.int (5 : Int32)), .val (.int (0 : Int32)), .val (.ref b247), .unset, .unset, .unset, .unset, .unset] [(.long x2), (.ref b247)])) rfl (by rw [hml]; rfl) (Steps.refl _) (argsL := [(.long x2)]) (rest := []) (lenOf own_pd0 rfl) rfl (by show 2 * 0 + _ ≤ _; exact Nat.le_of_eq rfl) (hb hby at_81) (fun _ _ => ⟨rfl, rfl, (by decide : 1 + 0 ≤ _), (by decide : 3 + 0 ≤ _)⟩)
      dsimp only [Pt.U, Pt.locs, Pt.cells, Pt.slots] at X266 l266 y266 z266 st266 hQ266
      subst l266 y266 z266
      obtain ⟨rfl, N266q, K266q, f266_0, f266_1, f266_2⟩ := hQ266
      have N266 := Fr.app N262 N266q
      have f267 := own_sta_keep f263 K266q (allS (own_eplain f265) all0)
      have f268 := own_sta_keep f264 K266q (allS (own_eplain f265) all0)
      have f269 := f265.keep K266q
      have K266 := K262.trans K266q (allS (Or.inr H247) all0)
      have Z266 := Nat.le_trans Z262 K266q.1
      refine Goes.tr st266 ?_
      show Goes p e below s _ _ _ T266 (mkF m 84 #[.val (.long x0), .second, .val (.int x1), .val (.long x2), .second, .val (.int x3), .val (.int (5 : Int32)), .val (.int (0 : Int32)), .val (.ref b247), .unset, .unset, .unset, .unset, .unset] [])
      refine own_iload X266 hx 86 rfl (hb hby at_84) rfl ?_
      refine own_iconst X266 hx 87 rfl (5 : Int32) (hb hby at_86) (by decide) ?_
      refine own_icmpN X266 hx 90 (hb hby at_87) (flt ((by decide) : ¬ ((5 : Int32) < (5 : Int32)))).1 rfl ?_
      refine own_aload X266 hx 92 rfl (hb hby at_90) rfl rfl ?_
      refine own_lloadN X266 hx 93 rfl (hb hby at_92) rfl ?_
      obtain ⟨cq270, kq270, q270a, q270b, q270c⟩ := isOf hZ rfl f269
      obtain ⟨_, _, ⟨T270, L270, k270, n270⟩, -, X270, ⟨Lc270, hQ270, l270, y270, z270⟩, st270⟩ := X266.virtualBack hx (y := (⟨"com/example/pooler/pooler/pool/Backoff", "failed", "(J)V"⟩ : MethodName)) (z := (⟨"com/example/pooler/pooler/pool/Backoff", "failed", "(J)V"⟩ : MethodName)) hown (mvT hZ (hw _ (List.mem_of_getElem? (i := 10) rfl))) (mvT hZ (hw _ (List.mem_of_getElem? (i := 11) rfl))) (notFace_of_selects (args := #[]) (mvT hZ (hw _ (List.mem_of_getElem? (i := 13) rfl)))) (mvT hZ (hw _ (List.mem_of_getElem? (i := 13) rfl))) (mvT hZ (hw _ (List.mem_of_getElem? (i := 12) rfl))) (by decide) (backOf (W := 0) (rmfa4 l Z a0 hw [] b247 x2 (1 : Int32) x2 T266.heap n0 Z266 f269 G247 f266_0 f266_1 f266_2) hZ (hw _ (List.mem_of_getElem? (i := 14) rfl)) (hw _ (List.mem_of_getElem? (i := 3) rfl)) (by decide) (by decide)) q270a q270c (g := (mkF m 93 #[.val (.long x0), .second, .val (.int x1), .val (.long x2), .second, .val (.int x3), .val (.int (5 : Int32)), .val (.int (0 : Int32)), .val (.ref b247), .unset, .unset, .unset, .unset, .unset] [(.long x2), (.ref b247)])) rfl (by rw [hml]; rfl) (Steps.refl _) (argsL := [(.long x2)]) (rest := []) (lenOf own_pd0 rfl) rfl (by show 2 * 0 + _ ≤ _; exact Nat.le_of_eq rfl) (hb hby at_93) (fun _ _ => ⟨rfl, rfl, (by decide : 1 + 0 ≤ _), (by decide : 3 + 0 ≤ _)⟩)
      dsimp only [Pt.U, Pt.locs, Pt.cells, Pt.slots] at X270 l270 y270 z270 st270 hQ270
      subst l270 y270 z270
      obtain ⟨rfl, N270q, K270q, f270_0, f270_1, f270_2⟩ := hQ270
      have N270 := Fr.app N266 N270q
      have f271 := own_sta_keep f267 K270q (allS (own_eplain f269) all0)
      have f272 := own_sta_keep f268 K270q (allS (own_eplain f269) all0)
      have f273 := f269.keep K270q
      have K270 := K266.trans K270q (allS (Or.inr H247) all0)
      have Z270 := Nat.le_trans Z266 K270q.1
      refine Goes.tr st270 ?_
      show Goes p e below s _ _ _ T270 (mkF m 96 #[.val (.long x0), .second, .val (.int x1), .val (.long x2), .second, .val (.int x3), .val (.int (5 : Int32)), .val (.int (0 : Int32)), .val (.ref b247), .unset, .unset, .unset, .unset, .unset] [])
      refine own_iload X270 hx 98 rfl (hb hby at_96) rfl ?_
      refine own_ifY X270 hx 107 (hb hby at_98) ((if0 _ _).trans (teq ((by decide) : (0 : Int32) = (0 : Int32))).1) (by decide) (by decide) ?_
      refine own_aload X270 hx 109 rfl (hb hby at_107) rfl rfl ?_
      refine own_lloadN X270 hx 110 rfl (hb hby at_109) rfl ?_
      obtain ⟨cq274, kq274, q274a, q274b, q274c⟩ := isOf hZ rfl f273
      obtain ⟨_, _, ⟨T274, L274, k274, n274⟩, -, X274, ⟨Lc274, hQ274, l274, y274, z274⟩, st274⟩ := X270.virtualBack hx (y := (⟨"com/example/pooler/pooler/pool/Backoff", "failed", "(J)V"⟩ : MethodName)) (z := (⟨"com/example/pooler/pooler/pool/Backoff", "failed", "(J)V"⟩ : MethodName)) hown (mvT hZ (hw _ (List.mem_of_getElem? (i := 10) rfl))) (mvT hZ (hw _ (List.mem_of_getElem? (i := 11) rfl))) (notFace_of_selects (args := #[]) (mvT hZ (hw _ (List.mem_of_getElem? (i := 13) rfl)))) (mvT hZ (hw _ (List.mem_of_getElem? (i := 13) rfl))) (mvT hZ (hw _ (List.mem_of_getElem? (i := 12) rfl))) (by decide) (backOf (W := 0) (rmfa5 l Z a0 hw [] b247 x0 (1 : Int32) x2 T270.heap n0 Z270 f273 G247 f270_0 f270_1 f270_2) hZ (hw _ (List.mem_of_getElem? (i := 14) rfl)) (hw _ (List.mem_of_getElem? (i := 3) rfl)) (by decide) (by decide)) q274a q274c (g := (mkF m 110 #[.val (.long x0), .second, .val (.int x1), .val (.long x2), .second, .val (.int x3), .val (.int (5 : Int32)), .val (.int (0 : Int32)), .val (.ref b247), .unset, .unset, .unset, .unset, .unset] [(.long x0), (.ref b247)])) rfl (by rw [hml]; rfl) (Steps.refl _) (argsL := [(.long x0)]) (rest := []) (lenOf own_pd0 rfl) rfl (by show 2 * 0 + _ ≤ _; exact Nat.le_of_eq rfl) (hb hby at_110) (fun _ _ => ⟨rfl, rfl, (by decide : 1 + 0 ≤ _), (by decide : 3 + 0 ≤ _)⟩)
      dsimp only [Pt.U, Pt.locs, Pt.cells, Pt.slots] at X274 l274 y274 z274 st274 hQ274
      subst l274 y274 z274
      obtain ⟨rfl, N274q, K274q, f274_0, f274_1, f274_2⟩ := hQ274
      have N274 := Fr.app N270 N274q
      have f275 := own_sta_keep f271 K274q (allS (own_eplain f273) all0)
      have f276 := own_sta_keep f272 K274q (allS (own_eplain f273) all0)
      have f277 := f273.keep K274q
      have K274 := K270.trans K274q (allS (Or.inr H247) all0)
      have Z274 := Nat.le_trans Z270 K274q.1
      refine Goes.tr st274 ?_
      show Goes p e below s _ _ _ T274 (mkF m 113 #[.val (.long x0), .second, .val (.int x1), .val (.long x2), .second, .val (.int x3), .val (.int (5 : Int32)), .val (.int (0 : Int32)), .val (.ref b247), .unset, .unset, .unset, .unset, .unset] [])
      refine own_iload X274 hx 115 rfl (hb hby at_113) rfl ?_
      refine own_ifY X274 hx 122 (hb hby at_115) ((if0 _ _).trans (teq ((by decide) : (0 : Int32) = (0 : Int32))).1) (by decide) (by decide) ?_
      refine own_iload X274 hx 124 rfl (hb hby at_122) rfl ?_
      refine own_iconst X274 hx 125 rfl (1 : Int32) (hb hby at_124) (by decide) ?_
      refine own_iadd X274 hx 126 rfl (z := (6 : Int32)) (hb hby at_125) (by decide) ?_
      refine own_istore X274 hx 128 rfl #[.val (.long x0), .second, .val (.int x1), .val (.long x2), .second, .val (.int x3), .val (.int (5 : Int32)), .val (.int (0 : Int32)), .val (.ref b247), .val (.int (6 : Int32)), .unset, .unset, .unset, .unset] (hb hby at_126) rfl ?_
      refine own_lloadN X274 hx 129 rfl (hb hby at_128) rfl ?_
      refine own_iloadN X274 hx 130 rfl (hb hby at_129) rfl ?_
      refine own_i2l X274 hx 131 rfl (hb hby at_130) rfl ?_
      refine own_ladd X274 hx 132 rfl (hb hby at_131) rfl ?_
      refine own_lstore X274 hx 134 rfl #[.val (.long x0), .second, .val (.int x1), .val (.long x2), .second, .val (.int x3), .val (.int (5 : Int32)), .val (.int (0 : Int32)), .val (.ref b247), .val (.int (6 : Int32)), .val (.long (x0 + (x1.toInt64))), .second, .unset, .unset] (hb hby at_132) rfl ?_
      refine own_lconst X274 hx 135 rfl (0 : Int64) (hb hby at_134) (by decide) ?_
      refine own_iload X274 hx 137 rfl (hb hby at_135) rfl ?_
      obtain ⟨_, _, ⟨T278, L278, k278, n278⟩, -, X278, ⟨Lc278, hQ278, l278, y278, z278⟩, st278⟩ := Jvm.LawKit.callS X274 hx (y := (⟨"com/example/pooler/pooler/pool/BackoffFailedPinLaw", "expectedPause", "(I)J"⟩ : MethodName)) hown (mvT hZ (hw _ (List.mem_of_getElem? (i := 25) rfl))) (mvT hZ (hw _ (List.mem_of_getElem? (i := 26) rfl))) (mvT hZ (hw _ (List.mem_of_getElem? (i := 27) rfl))) (mvT hZ (hw _ (List.mem_of_getElem? (i := 28) rfl))) (by decide) (backOf (W := 2) (rmep6 l Z a0 hw []  T274.heap n0 Z274 ) hZ (hw _ (List.mem_of_getElem? (i := 28) rfl)) (hw _ (List.mem_of_getElem? (i := 27) rfl)) (by decide) (by decide)) (g := (mkF m 137 #[.val (.long x0), .second, .val (.int x1), .val (.long x2), .second, .val (.int x3), .val (.int (5 : Int32)), .val (.int (0 : Int32)), .val (.ref b247), .val (.int (6 : Int32)), .val (.long (x0 + (x1.toInt64))), .second, .unset, .unset] [(.int (6 : Int32)), (.long (0 : Int64))])) rfl (by rw [hml]; rfl) (argsL := [(.int (6 : Int32))]) (rest := [(.long (0 : Int64))]) (lenOf own_pd4 rfl) rfl (by show 2 * 0 + _ ≤ _; exact Nat.le_of_eq rfl) (hb hby at_137) (fun _ _ => ⟨rfl, rfl, (by decide : 1 + 0 ≤ _), (by decide : 3 + 0 ≤ _)⟩)
      dsimp only [Pt.U, Pt.locs, Pt.cells, Pt.slots] at X278 l278 y278 z278 st278 hQ278
      subst l278 y278 z278
      obtain ⟨rfl, N278q, eh278⟩ := hQ278
      have N278 := Fr.app N274 N278q
      refine Goes.go st278 ?_
      show Goes p e below s _ _ _ T278 (mkF m 140 #[.val (.long x0), .second, .val (.int x1), .val (.long x2), .second, .val (.int x3), .val (.int (5 : Int32)), .val (.int (0 : Int32)), .val (.ref b247), .val (.int (6 : Int32)), .val (.long (x0 + (x1.toInt64))), .second, .unset, .unset] [(.long (1000000000 : Int64)), (.long (0 : Int64))])
      refine own_iloadN X278 hx 141 rfl (hb hby at_140) rfl ?_
      refine own_i2l X278 hx 142 rfl (hb hby at_141) rfl ?_
      refine own_lsub X278 hx 143 rfl (hb hby at_142) rfl ?_
      obtain ⟨_, _, ⟨T279, L279, k279, n279⟩, -, X279, ⟨Lc279, hQ279, l279, y279, z279⟩, st279⟩ := Jvm.LawKit.callS X278 hx (y := (⟨"java/lang/Math", "max", "(JJ)J"⟩ : MethodName)) hown (mvT hZ (hw _ (List.mem_of_getElem? (i := 32) rfl))) (mvT hZ (hw _ (List.mem_of_getElem? (i := 33) rfl))) (mvT hZ (hw _ (List.mem_of_getElem? (i := 34) rfl))) (mvT hZ (hw _ (List.mem_of_getElem? (i := 35) rfl))) (by decide) (backOf (W := 0) (rm6 l Z a0 hw [] (0 : Int64) ((1000000000 : Int64) - (x1.toInt64)) T274.heap n0 Z274 ) hZ (hw _ (List.mem_of_getElem? (i := 35) rfl)) (hw _ (List.mem_of_getElem? (i := 34) rfl)) (by decide) (by decide)) (g := (mkF m 143 #[.val (.long x0), .second, .val (.int x1), .val (.long x2), .second, .val (.int x3), .val (.int (5 : Int32)), .val (.int (0 : Int32)), .val (.ref b247), .val (.int (6 : Int32)), .val (.long (x0 + (x1.toInt64))), .second, .unset, .unset] [(.long ((1000000000 : Int64) - (x1.toInt64))), (.long (0 : Int64))])) rfl (by rw [hml]; rfl) (argsL := [(.long (0 : Int64)), (.long ((1000000000 : Int64) - (x1.toInt64)))]) (rest := []) (lenOf own_pd1 rfl) rfl (by show 2 * 0 + _ ≤ _; exact Nat.le_of_eq rfl) (hb hby at_143) (fun _ _ => ⟨rfl, eh278, (by decide : 1 + 0 ≤ _), (by decide : 3 + 0 ≤ _)⟩)
      dsimp only [Pt.U, Pt.locs, Pt.cells, Pt.slots] at X279 l279 y279 z279 st279 hQ279
      subst l279 y279 z279
      obtain ⟨mr_279, rfl, N279q, eh279, pr279_0⟩ := hQ279
      have N279 := Fr.app N278 N279q
      refine Goes.go st279 ?_
      show Goes p e below s _ _ _ T279 (mkF m 146 #[.val (.long x0), .second, .val (.int x1), .val (.long x2), .second, .val (.int x3), .val (.int (5 : Int32)), .val (.int (0 : Int32)), .val (.ref b247), .val (.int (6 : Int32)), .val (.long (x0 + (x1.toInt64))), .second, .unset, .unset] [(.long mr_279)])
      refine own_lstore X279 hx 148 rfl #[.val (.long x0), .second, .val (.int x1), .val (.long x2), .second, .val (.int x3), .val (.int (5 : Int32)), .val (.int (0 : Int32)), .val (.ref b247), .val (.int (6 : Int32)), .val (.long (x0 + (x1.toInt64))), .second, .val (.long mr_279), .second] (hb hby at_146) rfl ?_
      refine own_aload X279 hx 150 rfl (hb hby at_148) rfl rfl ?_
      refine own_lload X279 hx 152 rfl (hb hby at_150) rfl ?_
      obtain ⟨cq280, kq280, q280a, q280b, q280c⟩ := isOf hZ eh279 f277
      obtain ⟨_, _, ⟨T280, L280, k280, n280⟩, -, X280, ⟨Lc280, hQ280, l280, y280, z280⟩, st280⟩ := X279.virtualBack hx (y := (⟨"com/example/pooler/pooler/pool/Backoff", "delay", "(J)J"⟩ : MethodName)) (z := (⟨"com/example/pooler/pooler/pool/Backoff", "delay", "(J)J"⟩ : MethodName)) hown (mvT hZ (hw _ (List.mem_of_getElem? (i := 36) rfl))) (mvT hZ (hw _ (List.mem_of_getElem? (i := 37) rfl))) (notFace_of_selects (args := #[]) (mvT hZ (hw _ (List.mem_of_getElem? (i := 39) rfl)))) (mvT hZ (hw _ (List.mem_of_getElem? (i := 39) rfl))) (mvT hZ (hw _ (List.mem_of_getElem? (i := 38) rfl))) (by decide) (backOf (W := 0) (rmde6 l Z a0 hw [] b247 (x0 + (x1.toInt64)) x0 T274.heap n0 Z274 f277 f275 f276 f274_0 f274_1 f274_2) hZ (hw _ (List.mem_of_getElem? (i := 40) rfl)) (hw _ (List.mem_of_getElem? (i := 3) rfl)) (by decide) (by decide)) q280a q280c (g := (mkF m 152 #[.val (.long x0), .second, .val (.int x1), .val (.long x2), .second, .val (.int x3), .val (.int (5 : Int32)), .val (.int (0 : Int32)), .val (.ref b247), .val (.int (6 : Int32)), .val (.long (x0 + (x1.toInt64))), .second, .val (.long mr_279), .second] [(.long (x0 + (x1.toInt64))), (.ref b247)])) rfl (by rw [hml]; rfl) (Steps.refl _) (argsL := [(.long (x0 + (x1.toInt64)))]) (rest := []) (lenOf own_pd5 rfl) rfl (by show 2 * 0 + _ ≤ _; exact Nat.le_of_eq rfl) (hb hby at_152) (fun _ _ => ⟨rfl, eh279, (by decide : 1 + 0 ≤ _), (by decide : 3 + 0 ≤ _)⟩)
      dsimp only [Pt.U, Pt.locs, Pt.cells, Pt.slots] at X280 l280 y280 z280 st280 hQ280
      subst l280 y280 z280
      obtain ⟨br_280, rfl, N280q, eh280, pr280_0⟩ := hQ280
      have N280 := Fr.app N279 N280q
      refine Goes.tr st280 ?_
      show Goes p e below s _ _ _ T280 (mkF m 155 #[.val (.long x0), .second, .val (.int x1), .val (.long x2), .second, .val (.int x3), .val (.int (5 : Int32)), .val (.int (0 : Int32)), .val (.ref b247), .val (.int (6 : Int32)), .val (.long (x0 + (x1.toInt64))), .second, .val (.long mr_279), .second] [(.long br_280)])
      refine own_lload X280 hx 157 rfl (hb hby at_155) rfl ?_
      refine own_lcmp X280 hx 158 rfl (hb hby at_157) ?_
      refine own_ifN X280 hx 161 (hb hby at_158) (Lteq (own_fin pr280_0 pr279_0 : br_280 = mr_279)).2 rfl ?_
      refine own_iconst X280 hx 162 rfl (1 : Int32) (hb hby at_161) (by decide) ?_
      refine own_goto X280 hx 166 (hb hby at_162) (by decide) (by decide) ?_
      refine own_retZ X280 hx hlk Bd.returns (by decide) (hb hby at_166) (by decide) (by decide) eh280 ?_
      exact ⟨rfl, N280⟩
    · refine own_ifN X0 hx 20 (hb hby at_17) ((if0 _ _).trans (feq hc17_246).1) rfl ?_
      refine own_iconst X0 hx 21 rfl (1 : Int32) (hb hby at_20) (by decide) ?_
      refine own_goto X0 hx 25 (hb hby at_21) (by decide) (by decide) ?_
      refine own_istore X0 hx 27 rfl #[.val (.long x0), .second, .val (.int x1), .val (.long x2), .second, .val (.int x3), .val (.int (5 : Int32)), .val (.int (1 : Int32)), .unset, .unset, .unset, .unset, .unset, .unset] (hb hby at_25) rfl ?_
      obtain ⟨T281, h281, X281, e281, E281, A281, D281, -, st281⟩ := newO X0 hx hZ hown (hw _ (List.mem_of_getElem? (i := 1) rfl)) (hw _ (List.mem_of_getElem? (i := 2) rfl)) (hw _ (List.mem_of_getElem? (i := 3) rfl)) e0 (g := (mkF m 27 #[.val (.long x0), .second, .val (.int x1), .val (.long x2), .second, .val (.int x3), .val (.int (5 : Int32)), .val (.int (1 : Int32)), .unset, .unset, .unset, .unset, .unset, .unset] [])) rfl (hb hby at_27) (by decide) (by decide)
      obtain ⟨b281, g281⟩ : ∃ z, z = h0.size := ⟨_, rfl⟩
      rw [← g281] at A281 D281 st281
      have G281 : n0 ≤ b281 := Nat.le_trans Z0 (Nat.le_of_eq g281.symm)
      have H281 : h0.size ≤ b281 := Nat.le_trans K0.1 (Nat.le_of_eq g281.symm)
      have f282 := S_y_SHORTEST.ext E281
      have f283 := S_y_LONGEST.ext E281
      have K281 := K0.ext E281
      have Z281 := Nat.le_trans Z0 E281.1
      have f284 : Fld Z h281 b281 "com/example/pooler/pooler/pool/Backoff" "tried" "Z" (.int (0 : Int32)) := D281 (Or.inl (hw _ (List.mem_of_getElem? (i := 20) rfl))) (ty := .boolean) (by decide)
      have f285 : Fld Z h281 b281 "com/example/pooler/pooler/pool/Backoff" "endedAt" "J" (.long (0 : Int64)) := D281 (Or.inl (hw _ (List.mem_of_getElem? (i := 22) rfl))) (ty := .long) (by decide)
      have f286 : Fld Z h281 b281 "com/example/pooler/pooler/pool/Backoff" "failuresInARow" "I" (.int (0 : Int32)) := D281 (Or.inl (hw _ (List.mem_of_getElem? (i := 24) rfl))) (ty := .int) (by decide)
      refine Goes.go st281 ?_
      show Goes p e below s _ _ _ T281 (mkF m 30 #[.val (.long x0), .second, .val (.int x1), .val (.long x2), .second, .val (.int x3), .val (.int (5 : Int32)), .val (.int (1 : Int32)), .unset, .unset, .unset, .unset, .unset, .unset] [(.ref b281)])
      refine own_dup X281 hx 31 rfl (hb hby at_30) rfl ?_
      obtain ⟨_, _, ⟨T287, L287, k287, n287⟩, -, X287, ⟨Lc287, hQ287, l287, y287, z287⟩, st287⟩ := X281.specialBack hx (y := (⟨"com/example/pooler/pooler/pool/Backoff", "<init>", "()V"⟩ : MethodName)) rfl hown (mvT hZ (hw _ (List.mem_of_getElem? (i := 4) rfl))) (mvT hZ (hw _ (List.mem_of_getElem? (i := 5) rfl))) (mvT hZ (hw _ (List.mem_of_getElem? (i := 6) rfl))) (by decide) (backOf (W := 1) (rm1 l Z a0 hw [] b281 h281 n0 Z281 ) hZ (hw _ (List.mem_of_getElem? (i := 6) rfl)) (hw _ (List.mem_of_getElem? (i := 3) rfl)) (by decide) (by decide)) (g := (mkF m 31 #[.val (.long x0), .second, .val (.int x1), .val (.long x2), .second, .val (.int x3), .val (.int (5 : Int32)), .val (.int (1 : Int32)), .unset, .unset, .unset, .unset, .unset, .unset] [(.ref b281), (.ref b281)])) rfl (by rw [hml]; rfl) (Steps.refl _) (a := b281) (argsL := []) (rest := [(.ref b281)]) (lenOf own_pd3 rfl) rfl (by show 2 * 0 + _ ≤ _; exact Nat.le_of_eq rfl) (hb hby at_31) (fun _ _ => ⟨rfl, e281, (by decide : 1 + 0 ≤ _), (by decide : 3 + 0 ≤ _)⟩)
      dsimp only [Pt.U, Pt.locs, Pt.cells, Pt.slots] at X287 l287 y287 z287 st287 hQ287
      subst l287 y287 z287
      obtain ⟨rfl, N287q, eh287⟩ := hQ287
      have N287 := Fr.app N0 N287q
      refine Goes.tr st287 ?_
      show Goes p e below s _ _ _ T287 (mkF m 34 #[.val (.long x0), .second, .val (.int x1), .val (.long x2), .second, .val (.int x3), .val (.int (5 : Int32)), .val (.int (1 : Int32)), .unset, .unset, .unset, .unset, .unset, .unset] [(.ref b281)])
      refine own_astore X287 hx 36 rfl #[.val (.long x0), .second, .val (.int x1), .val (.long x2), .second, .val (.int x3), .val (.int (5 : Int32)), .val (.int (1 : Int32)), .val (.ref b281), .unset, .unset, .unset, .unset, .unset] (hb hby at_34) rfl rfl ?_
      refine own_iload X287 hx 38 rfl (hb hby at_36) rfl ?_
      refine own_iconst X287 hx 39 rfl (1 : Int32) (hb hby at_38) (by decide) ?_
      refine own_icmpN X287 hx 42 (hb hby at_39) (flt ((by decide) : ¬ ((5 : Int32) < (1 : Int32)))).1 rfl ?_
      refine own_aload X287 hx 44 rfl (hb hby at_42) rfl rfl ?_
      refine own_lloadN X287 hx 45 rfl (hb hby at_44) rfl ?_
      obtain ⟨cq288, kq288, q288a, q288b, q288c⟩ := isOf hZ eh287 A281
      obtain ⟨_, _, ⟨T288, L288, k288, n288⟩, -, X288, ⟨Lc288, hQ288, l288, y288, z288⟩, st288⟩ := X287.virtualBack hx (y := (⟨"com/example/pooler/pooler/pool/Backoff", "failed", "(J)V"⟩ : MethodName)) (z := (⟨"com/example/pooler/pooler/pool/Backoff", "failed", "(J)V"⟩ : MethodName)) hown (mvT hZ (hw _ (List.mem_of_getElem? (i := 10) rfl))) (mvT hZ (hw _ (List.mem_of_getElem? (i := 11) rfl))) (notFace_of_selects (args := #[]) (mvT hZ (hw _ (List.mem_of_getElem? (i := 13) rfl)))) (mvT hZ (hw _ (List.mem_of_getElem? (i := 13) rfl))) (mvT hZ (hw _ (List.mem_of_getElem? (i := 12) rfl))) (by decide) (backOf (W := 0) (rmfa0 l Z a0 hw [] b281 x2 (0 : Int32) (0 : Int64) h281 n0 Z281 A281 G281 f284 f285 f286) hZ (hw _ (List.mem_of_getElem? (i := 14) rfl)) (hw _ (List.mem_of_getElem? (i := 3) rfl)) (by decide) (by decide)) q288a q288c (g := (mkF m 45 #[.val (.long x0), .second, .val (.int x1), .val (.long x2), .second, .val (.int x3), .val (.int (5 : Int32)), .val (.int (1 : Int32)), .val (.ref b281), .unset, .unset, .unset, .unset, .unset] [(.long x2), (.ref b281)])) rfl (by rw [hml]; rfl) (Steps.refl _) (argsL := [(.long x2)]) (rest := []) (lenOf own_pd0 rfl) rfl (by show 2 * 0 + _ ≤ _; exact Nat.le_of_eq rfl) (hb hby at_45) (fun _ _ => ⟨rfl, eh287, (by decide : 1 + 0 ≤ _), (by decide : 3 + 0 ≤ _)⟩)
      dsimp only [Pt.U, Pt.locs, Pt.cells, Pt.slots] at X288 l288 y288 z288 st288 hQ288
      subst l288 y288 z288
      obtain ⟨rfl, N288q, K288q, f288_0, f288_1, f288_2⟩ := hQ288
      have N288 := Fr.app N287 N288q
      have f289 := own_sta_keep f282 K288q (allS (own_eplain A281) all0)
      have f290 := own_sta_keep f283 K288q (allS (own_eplain A281) all0)
      have f291 := A281.keep K288q
      have K288 := K281.trans K288q (allS (Or.inr H281) all0)
      have Z288 := Nat.le_trans Z281 K288q.1
      refine Goes.tr st288 ?_
      show Goes p e below s _ _ _ T288 (mkF m 48 #[.val (.long x0), .second, .val (.int x1), .val (.long x2), .second, .val (.int x3), .val (.int (5 : Int32)), .val (.int (1 : Int32)), .val (.ref b281), .unset, .unset, .unset, .unset, .unset] [])
      refine own_iload X288 hx 50 rfl (hb hby at_48) rfl ?_
      refine own_iconst X288 hx 51 rfl (2 : Int32) (hb hby at_50) (by decide) ?_
      refine own_icmpN X288 hx 54 (hb hby at_51) (flt ((by decide) : ¬ ((5 : Int32) < (2 : Int32)))).1 rfl ?_
      refine own_aload X288 hx 56 rfl (hb hby at_54) rfl rfl ?_
      refine own_lloadN X288 hx 57 rfl (hb hby at_56) rfl ?_
      obtain ⟨cq292, kq292, q292a, q292b, q292c⟩ := isOf hZ rfl f291
      obtain ⟨_, _, ⟨T292, L292, k292, n292⟩, -, X292, ⟨Lc292, hQ292, l292, y292, z292⟩, st292⟩ := X288.virtualBack hx (y := (⟨"com/example/pooler/pooler/pool/Backoff", "failed", "(J)V"⟩ : MethodName)) (z := (⟨"com/example/pooler/pooler/pool/Backoff", "failed", "(J)V"⟩ : MethodName)) hown (mvT hZ (hw _ (List.mem_of_getElem? (i := 10) rfl))) (mvT hZ (hw _ (List.mem_of_getElem? (i := 11) rfl))) (notFace_of_selects (args := #[]) (mvT hZ (hw _ (List.mem_of_getElem? (i := 13) rfl)))) (mvT hZ (hw _ (List.mem_of_getElem? (i := 13) rfl))) (mvT hZ (hw _ (List.mem_of_getElem? (i := 12) rfl))) (by decide) (backOf (W := 0) (rmfa1 l Z a0 hw [] b281 x2 (1 : Int32) x2 T288.heap n0 Z288 f291 G281 f288_0 f288_1 f288_2) hZ (hw _ (List.mem_of_getElem? (i := 14) rfl)) (hw _ (List.mem_of_getElem? (i := 3) rfl)) (by decide) (by decide)) q292a q292c (g := (mkF m 57 #[.val (.long x0), .second, .val (.int x1), .val (.long x2), .second, .val (.int x3), .val (.int (5 : Int32)), .val (.int (1 : Int32)), .val (.ref b281), .unset, .unset, .unset, .unset, .unset] [(.long x2), (.ref b281)])) rfl (by rw [hml]; rfl) (Steps.refl _) (argsL := [(.long x2)]) (rest := []) (lenOf own_pd0 rfl) rfl (by show 2 * 0 + _ ≤ _; exact Nat.le_of_eq rfl) (hb hby at_57) (fun _ _ => ⟨rfl, rfl, (by decide : 1 + 0 ≤ _), (by decide : 3 + 0 ≤ _)⟩)
      dsimp only [Pt.U, Pt.locs, Pt.cells, Pt.slots] at X292 l292 y292 z292 st292 hQ292
      subst l292 y292 z292
      obtain ⟨rfl, N292q, K292q, f292_0, f292_1, f292_2⟩ := hQ292
      have N292 := Fr.app N288 N292q
      have f293 := own_sta_keep f289 K292q (allS (own_eplain f291) all0)
      have f294 := own_sta_keep f290 K292q (allS (own_eplain f291) all0)
      have f295 := f291.keep K292q
      have K292 := K288.trans K292q (allS (Or.inr H281) all0)
      have Z292 := Nat.le_trans Z288 K292q.1
      refine Goes.tr st292 ?_
      show Goes p e below s _ _ _ T292 (mkF m 60 #[.val (.long x0), .second, .val (.int x1), .val (.long x2), .second, .val (.int x3), .val (.int (5 : Int32)), .val (.int (1 : Int32)), .val (.ref b281), .unset, .unset, .unset, .unset, .unset] [])
      refine own_iload X292 hx 62 rfl (hb hby at_60) rfl ?_
      refine own_iconst X292 hx 63 rfl (3 : Int32) (hb hby at_62) (by decide) ?_
      refine own_icmpN X292 hx 66 (hb hby at_63) (flt ((by decide) : ¬ ((5 : Int32) < (3 : Int32)))).1 rfl ?_
      refine own_aload X292 hx 68 rfl (hb hby at_66) rfl rfl ?_
      refine own_lloadN X292 hx 69 rfl (hb hby at_68) rfl ?_
      obtain ⟨cq296, kq296, q296a, q296b, q296c⟩ := isOf hZ rfl f295
      obtain ⟨_, _, ⟨T296, L296, k296, n296⟩, -, X296, ⟨Lc296, hQ296, l296, y296, z296⟩, st296⟩ := X292.virtualBack hx (y := (⟨"com/example/pooler/pooler/pool/Backoff", "failed", "(J)V"⟩ : MethodName)) (z := (⟨"com/example/pooler/pooler/pool/Backoff", "failed", "(J)V"⟩ : MethodName)) hown (mvT hZ (hw _ (List.mem_of_getElem? (i := 10) rfl))) (mvT hZ (hw _ (List.mem_of_getElem? (i := 11) rfl))) (notFace_of_selects (args := #[]) (mvT hZ (hw _ (List.mem_of_getElem? (i := 13) rfl)))) (mvT hZ (hw _ (List.mem_of_getElem? (i := 13) rfl))) (mvT hZ (hw _ (List.mem_of_getElem? (i := 12) rfl))) (by decide) (backOf (W := 0) (rmfa2 l Z a0 hw [] b281 x2 (1 : Int32) x2 T292.heap n0 Z292 f295 G281 f292_0 f292_1 f292_2) hZ (hw _ (List.mem_of_getElem? (i := 14) rfl)) (hw _ (List.mem_of_getElem? (i := 3) rfl)) (by decide) (by decide)) q296a q296c (g := (mkF m 69 #[.val (.long x0), .second, .val (.int x1), .val (.long x2), .second, .val (.int x3), .val (.int (5 : Int32)), .val (.int (1 : Int32)), .val (.ref b281), .unset, .unset, .unset, .unset, .unset] [(.long x2), (.ref b281)])) rfl (by rw [hml]; rfl) (Steps.refl _) (argsL := [(.long x2)]) (rest := []) (lenOf own_pd0 rfl) rfl (by show 2 * 0 + _ ≤ _; exact Nat.le_of_eq rfl) (hb hby at_69) (fun _ _ => ⟨rfl, rfl, (by decide : 1 + 0 ≤ _), (by decide : 3 + 0 ≤ _)⟩)
      dsimp only [Pt.U, Pt.locs, Pt.cells, Pt.slots] at X296 l296 y296 z296 st296 hQ296
      subst l296 y296 z296
      obtain ⟨rfl, N296q, K296q, f296_0, f296_1, f296_2⟩ := hQ296
      have N296 := Fr.app N292 N296q
      have f297 := own_sta_keep f293 K296q (allS (own_eplain f295) all0)
      have f298 := own_sta_keep f294 K296q (allS (own_eplain f295) all0)
      have f299 := f295.keep K296q
      have K296 := K292.trans K296q (allS (Or.inr H281) all0)
      have Z296 := Nat.le_trans Z292 K296q.1
      refine Goes.tr st296 ?_
      show Goes p e below s _ _ _ T296 (mkF m 72 #[.val (.long x0), .second, .val (.int x1), .val (.long x2), .second, .val (.int x3), .val (.int (5 : Int32)), .val (.int (1 : Int32)), .val (.ref b281), .unset, .unset, .unset, .unset, .unset] [])
      refine own_iload X296 hx 74 rfl (hb hby at_72) rfl ?_
      refine own_iconst X296 hx 75 rfl (4 : Int32) (hb hby at_74) (by decide) ?_
      refine own_icmpN X296 hx 78 (hb hby at_75) (flt ((by decide) : ¬ ((5 : Int32) < (4 : Int32)))).1 rfl ?_
      refine own_aload X296 hx 80 rfl (hb hby at_78) rfl rfl ?_
      refine own_lloadN X296 hx 81 rfl (hb hby at_80) rfl ?_
      obtain ⟨cq300, kq300, q300a, q300b, q300c⟩ := isOf hZ rfl f299
      obtain ⟨_, _, ⟨T300, L300, k300, n300⟩, -, X300, ⟨Lc300, hQ300, l300, y300, z300⟩, st300⟩ := X296.virtualBack hx (y := (⟨"com/example/pooler/pooler/pool/Backoff", "failed", "(J)V"⟩ : MethodName)) (z := (⟨"com/example/pooler/pooler/pool/Backoff", "failed", "(J)V"⟩ : MethodName)) hown (mvT hZ (hw _ (List.mem_of_getElem? (i := 10) rfl))) (mvT hZ (hw _ (List.mem_of_getElem? (i := 11) rfl))) (notFace_of_selects (args := #[]) (mvT hZ (hw _ (List.mem_of_getElem? (i := 13) rfl)))) (mvT hZ (hw _ (List.mem_of_getElem? (i := 13) rfl))) (mvT hZ (hw _ (List.mem_of_getElem? (i := 12) rfl))) (by decide) (backOf (W := 0) (rmfa3 l Z a0 hw [] b281 x2 (1 : Int32) x2 T296.heap n0 Z296 f299 G281 f296_0 f296_1 f296_2) hZ (hw _ (List.mem_of_getElem? (i := 14) rfl)) (hw _ (List.mem_of_getElem? (i := 3) rfl)) (by decide) (by decide)) q300a q300c (g := (mkF m 81 #[.val (.long x0), .second, .val (.int x1), .val (.long x2), .second, .val (.int x3), .val (.int (5 : Int32)), .val (.int (1 : Int32)), .val (.ref b281), .unset, .unset, .unset, .unset, .unset] [(.long x2), (.ref b281)])) rfl (by rw [hml]; rfl) (Steps.refl _) (argsL := [(.long x2)]) (rest := []) (lenOf own_pd0 rfl) rfl (by show 2 * 0 + _ ≤ _; exact Nat.le_of_eq rfl) (hb hby at_81) (fun _ _ => ⟨rfl, rfl, (by decide : 1 + 0 ≤ _), (by decide : 3 + 0 ≤ _)⟩)
      dsimp only [Pt.U, Pt.locs, Pt.cells, Pt.slots] at X300 l300 y300 z300 st300 hQ300
      subst l300 y300 z300
      obtain ⟨rfl, N300q, K300q, f300_0, f300_1, f300_2⟩ := hQ300
      have N300 := Fr.app N296 N300q
      have f301 := own_sta_keep f297 K300q (allS (own_eplain f299) all0)
      have f302 := own_sta_keep f298 K300q (allS (own_eplain f299) all0)
      have f303 := f299.keep K300q
      have K300 := K296.trans K300q (allS (Or.inr H281) all0)
      have Z300 := Nat.le_trans Z296 K300q.1
      refine Goes.tr st300 ?_
      show Goes p e below s _ _ _ T300 (mkF m 84 #[.val (.long x0), .second, .val (.int x1), .val (.long x2), .second, .val (.int x3), .val (.int (5 : Int32)), .val (.int (1 : Int32)), .val (.ref b281), .unset, .unset, .unset, .unset, .unset] [])
      refine own_iload X300 hx 86 rfl (hb hby at_84) rfl ?_
      refine own_iconst X300 hx 87 rfl (5 : Int32) (hb hby at_86) (by decide) ?_
      refine own_icmpN X300 hx 90 (hb hby at_87) (flt ((by decide) : ¬ ((5 : Int32) < (5 : Int32)))).1 rfl ?_
      refine own_aload X300 hx 92 rfl (hb hby at_90) rfl rfl ?_
      refine own_lloadN X300 hx 93 rfl (hb hby at_92) rfl ?_
      obtain ⟨cq304, kq304, q304a, q304b, q304c⟩ := isOf hZ rfl f303
      obtain ⟨_, _, ⟨T304, L304, k304, n304⟩, -, X304, ⟨Lc304, hQ304, l304, y304, z304⟩, st304⟩ := X300.virtualBack hx (y := (⟨"com/example/pooler/pooler/pool/Backoff", "failed", "(J)V"⟩ : MethodName)) (z := (⟨"com/example/pooler/pooler/pool/Backoff", "failed", "(J)V"⟩ : MethodName)) hown (mvT hZ (hw _ (List.mem_of_getElem? (i := 10) rfl))) (mvT hZ (hw _ (List.mem_of_getElem? (i := 11) rfl))) (notFace_of_selects (args := #[]) (mvT hZ (hw _ (List.mem_of_getElem? (i := 13) rfl)))) (mvT hZ (hw _ (List.mem_of_getElem? (i := 13) rfl))) (mvT hZ (hw _ (List.mem_of_getElem? (i := 12) rfl))) (by decide) (backOf (W := 0) (rmfa4 l Z a0 hw [] b281 x2 (1 : Int32) x2 T300.heap n0 Z300 f303 G281 f300_0 f300_1 f300_2) hZ (hw _ (List.mem_of_getElem? (i := 14) rfl)) (hw _ (List.mem_of_getElem? (i := 3) rfl)) (by decide) (by decide)) q304a q304c (g := (mkF m 93 #[.val (.long x0), .second, .val (.int x1), .val (.long x2), .second, .val (.int x3), .val (.int (5 : Int32)), .val (.int (1 : Int32)), .val (.ref b281), .unset, .unset, .unset, .unset, .unset] [(.long x2), (.ref b281)])) rfl (by rw [hml]; rfl) (Steps.refl _) (argsL := [(.long x2)]) (rest := []) (lenOf own_pd0 rfl) rfl (by show 2 * 0 + _ ≤ _; exact Nat.le_of_eq rfl) (hb hby at_93) (fun _ _ => ⟨rfl, rfl, (by decide : 1 + 0 ≤ _), (by decide : 3 + 0 ≤ _)⟩)
      dsimp only [Pt.U, Pt.locs, Pt.cells, Pt.slots] at X304 l304 y304 z304 st304 hQ304
      subst l304 y304 z304
      obtain ⟨rfl, N304q, K304q, f304_0, f304_1, f304_2⟩ := hQ304
      have N304 := Fr.app N300 N304q
      have f305 := own_sta_keep f301 K304q (allS (own_eplain f303) all0)
      have f306 := own_sta_keep f302 K304q (allS (own_eplain f303) all0)
      have f307 := f303.keep K304q
      have K304 := K300.trans K304q (allS (Or.inr H281) all0)
      have Z304 := Nat.le_trans Z300 K304q.1
      refine Goes.tr st304 ?_
      show Goes p e below s _ _ _ T304 (mkF m 96 #[.val (.long x0), .second, .val (.int x1), .val (.long x2), .second, .val (.int x3), .val (.int (5 : Int32)), .val (.int (1 : Int32)), .val (.ref b281), .unset, .unset, .unset, .unset, .unset] [])
      refine own_iload X304 hx 98 rfl (hb hby at_96) rfl ?_
      refine own_ifN X304 hx 101 (hb hby at_98) ((if0 _ _).trans (feq ((by decide) : ¬ ((1 : Int32) = (0 : Int32)))).1) rfl ?_
      refine own_aload X304 hx 103 rfl (hb hby at_101) rfl rfl ?_
      refine own_lloadN X304 hx 104 rfl (hb hby at_103) rfl ?_
      obtain ⟨cq308, kq308, q308a, q308b, q308c⟩ := isOf hZ rfl f307
      obtain ⟨_, _, ⟨T308, L308, k308, n308⟩, -, X308, ⟨Lc308, hQ308, l308, y308, z308⟩, st308⟩ := X304.virtualBack hx (y := (⟨"com/example/pooler/pooler/pool/Backoff", "opened", "(J)V"⟩ : MethodName)) (z := (⟨"com/example/pooler/pooler/pool/Backoff", "opened", "(J)V"⟩ : MethodName)) hown (mvT hZ (hw _ (List.mem_of_getElem? (i := 55) rfl))) (mvT hZ (hw _ (List.mem_of_getElem? (i := 56) rfl))) (notFace_of_selects (args := #[]) (mvT hZ (hw _ (List.mem_of_getElem? (i := 58) rfl)))) (mvT hZ (hw _ (List.mem_of_getElem? (i := 58) rfl))) (mvT hZ (hw _ (List.mem_of_getElem? (i := 57) rfl))) (by decide) (backOf (W := 0) (rm10 l Z a0 hw [] b281 x2 (1 : Int32) x2 (5 : Int32) T304.heap n0 Z304 f307 G281 f304_0 f304_1 f304_2) hZ (hw _ (List.mem_of_getElem? (i := 59) rfl)) (hw _ (List.mem_of_getElem? (i := 3) rfl)) (by decide) (by decide)) q308a q308c (g := (mkF m 104 #[.val (.long x0), .second, .val (.int x1), .val (.long x2), .second, .val (.int x3), .val (.int (5 : Int32)), .val (.int (1 : Int32)), .val (.ref b281), .unset, .unset, .unset, .unset, .unset] [(.long x2), (.ref b281)])) rfl (by rw [hml]; rfl) (Steps.refl _) (argsL := [(.long x2)]) (rest := []) (lenOf own_pd0 rfl) rfl (by show 2 * 0 + _ ≤ _; exact Nat.le_of_eq rfl) (hb hby at_104) (fun _ _ => ⟨rfl, rfl, (by decide : 1 + 0 ≤ _), (by decide : 3 + 0 ≤ _)⟩)
      dsimp only [Pt.U, Pt.locs, Pt.cells, Pt.slots] at X308 l308 y308 z308 st308 hQ308
      subst l308 y308 z308
      obtain ⟨rfl, N308q, K308q, f308_0, f308_1, f308_2⟩ := hQ308
      have N308 := Fr.app N304 N308q
      have f309 := own_sta_keep f305 K308q (allS (own_eplain f307) all0)
      have f310 := own_sta_keep f306 K308q (allS (own_eplain f307) all0)
      have f311 := f307.keep K308q
      have K308 := K304.trans K308q (allS (Or.inr H281) all0)
      have Z308 := Nat.le_trans Z304 K308q.1
      refine Goes.tr st308 ?_
      show Goes p e below s _ _ _ T308 (mkF m 107 #[.val (.long x0), .second, .val (.int x1), .val (.long x2), .second, .val (.int x3), .val (.int (5 : Int32)), .val (.int (1 : Int32)), .val (.ref b281), .unset, .unset, .unset, .unset, .unset] [])
      refine own_aload X308 hx 109 rfl (hb hby at_107) rfl rfl ?_
      refine own_lloadN X308 hx 110 rfl (hb hby at_109) rfl ?_
      obtain ⟨cq312, kq312, q312a, q312b, q312c⟩ := isOf hZ rfl f311
      obtain ⟨_, _, ⟨T312, L312, k312, n312⟩, -, X312, ⟨Lc312, hQ312, l312, y312, z312⟩, st312⟩ := X308.virtualBack hx (y := (⟨"com/example/pooler/pooler/pool/Backoff", "failed", "(J)V"⟩ : MethodName)) (z := (⟨"com/example/pooler/pooler/pool/Backoff", "failed", "(J)V"⟩ : MethodName)) hown (mvT hZ (hw _ (List.mem_of_getElem? (i := 10) rfl))) (mvT hZ (hw _ (List.mem_of_getElem? (i := 11) rfl))) (notFace_of_selects (args := #[]) (mvT hZ (hw _ (List.mem_of_getElem? (i := 13) rfl)))) (mvT hZ (hw _ (List.mem_of_getElem? (i := 13) rfl))) (mvT hZ (hw _ (List.mem_of_getElem? (i := 12) rfl))) (by decide) (backOf (W := 0) (rmfa0 l Z a0 hw [] b281 x0 (1 : Int32) x2 T308.heap n0 Z308 f311 G281 f308_0 f308_1 f308_2) hZ (hw _ (List.mem_of_getElem? (i := 14) rfl)) (hw _ (List.mem_of_getElem? (i := 3) rfl)) (by decide) (by decide)) q312a q312c (g := (mkF m 110 #[.val (.long x0), .second, .val (.int x1), .val (.long x2), .second, .val (.int x3), .val (.int (5 : Int32)), .val (.int (1 : Int32)), .val (.ref b281), .unset, .unset, .unset, .unset, .unset] [(.long x0), (.ref b281)])) rfl (by rw [hml]; rfl) (Steps.refl _) (argsL := [(.long x0)]) (rest := []) (lenOf own_pd0 rfl) rfl (by show 2 * 0 + _ ≤ _; exact Nat.le_of_eq rfl) (hb hby at_110) (fun _ _ => ⟨rfl, rfl, (by decide : 1 + 0 ≤ _), (by decide : 3 + 0 ≤ _)⟩)
      dsimp only [Pt.U, Pt.locs, Pt.cells, Pt.slots] at X312 l312 y312 z312 st312 hQ312
      subst l312 y312 z312
      obtain ⟨rfl, N312q, K312q, f312_0, f312_1, f312_2⟩ := hQ312
      have N312 := Fr.app N308 N312q
      have f313 := own_sta_keep f309 K312q (allS (own_eplain f311) all0)
      have f314 := own_sta_keep f310 K312q (allS (own_eplain f311) all0)
      have f315 := f311.keep K312q
      have K312 := K308.trans K312q (allS (Or.inr H281) all0)
      have Z312 := Nat.le_trans Z308 K312q.1
      refine Goes.tr st312 ?_
      show Goes p e below s _ _ _ T312 (mkF m 113 #[.val (.long x0), .second, .val (.int x1), .val (.long x2), .second, .val (.int x3), .val (.int (5 : Int32)), .val (.int (1 : Int32)), .val (.ref b281), .unset, .unset, .unset, .unset, .unset] [])
      refine own_iload X312 hx 115 rfl (hb hby at_113) rfl ?_
      refine own_ifN X312 hx 118 (hb hby at_115) ((if0 _ _).trans (feq ((by decide) : ¬ ((1 : Int32) = (0 : Int32)))).1) rfl ?_
      refine own_iconst X312 hx 119 rfl (1 : Int32) (hb hby at_118) (by decide) ?_
      refine own_goto X312 hx 126 (hb hby at_119) (by decide) (by decide) ?_
      refine own_istore X312 hx 128 rfl #[.val (.long x0), .second, .val (.int x1), .val (.long x2), .second, .val (.int x3), .val (.int (5 : Int32)), .val (.int (1 : Int32)), .val (.ref b281), .val (.int (1 : Int32)), .unset, .unset, .unset, .unset] (hb hby at_126) rfl ?_
      refine own_lloadN X312 hx 129 rfl (hb hby at_128) rfl ?_
      refine own_iloadN X312 hx 130 rfl (hb hby at_129) rfl ?_
      refine own_i2l X312 hx 131 rfl (hb hby at_130) rfl ?_
      refine own_ladd X312 hx 132 rfl (hb hby at_131) rfl ?_
      refine own_lstore X312 hx 134 rfl #[.val (.long x0), .second, .val (.int x1), .val (.long x2), .second, .val (.int x3), .val (.int (5 : Int32)), .val (.int (1 : Int32)), .val (.ref b281), .val (.int (1 : Int32)), .val (.long (x0 + (x1.toInt64))), .second, .unset, .unset] (hb hby at_132) rfl ?_
      refine own_lconst X312 hx 135 rfl (0 : Int64) (hb hby at_134) (by decide) ?_
      refine own_iload X312 hx 137 rfl (hb hby at_135) rfl ?_
      obtain ⟨_, _, ⟨T316, L316, k316, n316⟩, -, X316, ⟨Lc316, hQ316, l316, y316, z316⟩, st316⟩ := Jvm.LawKit.callS X312 hx (y := (⟨"com/example/pooler/pooler/pool/BackoffFailedPinLaw", "expectedPause", "(I)J"⟩ : MethodName)) hown (mvT hZ (hw _ (List.mem_of_getElem? (i := 25) rfl))) (mvT hZ (hw _ (List.mem_of_getElem? (i := 26) rfl))) (mvT hZ (hw _ (List.mem_of_getElem? (i := 27) rfl))) (mvT hZ (hw _ (List.mem_of_getElem? (i := 28) rfl))) (by decide) (backOf (W := 2) (rmep1 l Z a0 hw []  T312.heap n0 Z312 ) hZ (hw _ (List.mem_of_getElem? (i := 28) rfl)) (hw _ (List.mem_of_getElem? (i := 27) rfl)) (by decide) (by decide)) (g := (mkF m 137 #[.val (.long x0), .second, .val (.int x1), .val (.long x2), .second, .val (.int x3), .val (.int (5 : Int32)), .val (.int (1 : Int32)), .val (.ref b281), .val (.int (1 : Int32)), .val (.long (x0 + (x1.toInt64))), .second, .unset, .unset] [(.int (1 : Int32)), (.long (0 : Int64))])) rfl (by rw [hml]; rfl) (argsL := [(.int (1 : Int32))]) (rest := [(.long (0 : Int64))]) (lenOf own_pd4 rfl) rfl (by show 2 * 0 + _ ≤ _; exact Nat.le_of_eq rfl) (hb hby at_137) (fun _ _ => ⟨rfl, rfl, (by decide : 1 + 0 ≤ _), (by decide : 3 + 0 ≤ _)⟩)
      dsimp only [Pt.U, Pt.locs, Pt.cells, Pt.slots] at X316 l316 y316 z316 st316 hQ316
      subst l316 y316 z316
      obtain ⟨rfl, N316q, eh316⟩ := hQ316
      have N316 := Fr.app N312 N316q
      refine Goes.go st316 ?_
      show Goes p e below s _ _ _ T316 (mkF m 140 #[.val (.long x0), .second, .val (.int x1), .val (.long x2), .second, .val (.int x3), .val (.int (5 : Int32)), .val (.int (1 : Int32)), .val (.ref b281), .val (.int (1 : Int32)), .val (.long (x0 + (x1.toInt64))), .second, .unset, .unset] [(.long (100000000 : Int64)), (.long (0 : Int64))])
      refine own_iloadN X316 hx 141 rfl (hb hby at_140) rfl ?_
      refine own_i2l X316 hx 142 rfl (hb hby at_141) rfl ?_
      refine own_lsub X316 hx 143 rfl (hb hby at_142) rfl ?_
      obtain ⟨_, _, ⟨T317, L317, k317, n317⟩, -, X317, ⟨Lc317, hQ317, l317, y317, z317⟩, st317⟩ := Jvm.LawKit.callS X316 hx (y := (⟨"java/lang/Math", "max", "(JJ)J"⟩ : MethodName)) hown (mvT hZ (hw _ (List.mem_of_getElem? (i := 32) rfl))) (mvT hZ (hw _ (List.mem_of_getElem? (i := 33) rfl))) (mvT hZ (hw _ (List.mem_of_getElem? (i := 34) rfl))) (mvT hZ (hw _ (List.mem_of_getElem? (i := 35) rfl))) (by decide) (backOf (W := 0) (rm6 l Z a0 hw [] (0 : Int64) ((100000000 : Int64) - (x1.toInt64)) T312.heap n0 Z312 ) hZ (hw _ (List.mem_of_getElem? (i := 35) rfl)) (hw _ (List.mem_of_getElem? (i := 34) rfl)) (by decide) (by decide)) (g := (mkF m 143 #[.val (.long x0), .second, .val (.int x1), .val (.long x2), .second, .val (.int x3), .val (.int (5 : Int32)), .val (.int (1 : Int32)), .val (.ref b281), .val (.int (1 : Int32)), .val (.long (x0 + (x1.toInt64))), .second, .unset, .unset] [(.long ((100000000 : Int64) - (x1.toInt64))), (.long (0 : Int64))])) rfl (by rw [hml]; rfl) (argsL := [(.long (0 : Int64)), (.long ((100000000 : Int64) - (x1.toInt64)))]) (rest := []) (lenOf own_pd1 rfl) rfl (by show 2 * 0 + _ ≤ _; exact Nat.le_of_eq rfl) (hb hby at_143) (fun _ _ => ⟨rfl, eh316, (by decide : 1 + 0 ≤ _), (by decide : 3 + 0 ≤ _)⟩)
      dsimp only [Pt.U, Pt.locs, Pt.cells, Pt.slots] at X317 l317 y317 z317 st317 hQ317
      subst l317 y317 z317
      obtain ⟨mr_317, rfl, N317q, eh317, pr317_0⟩ := hQ317
      have N317 := Fr.app N316 N317q
      refine Goes.go st317 ?_
      show Goes p e below s _ _ _ T317 (mkF m 146 #[.val (.long x0), .second, .val (.int x1), .val (.long x2), .second, .val (.int x3), .val (.int (5 : Int32)), .val (.int (1 : Int32)), .val (.ref b281), .val (.int (1 : Int32)), .val (.long (x0 + (x1.toInt64))), .second, .unset, .unset] [(.long mr_317)])
      refine own_lstore X317 hx 148 rfl #[.val (.long x0), .second, .val (.int x1), .val (.long x2), .second, .val (.int x3), .val (.int (5 : Int32)), .val (.int (1 : Int32)), .val (.ref b281), .val (.int (1 : Int32)), .val (.long (x0 + (x1.toInt64))), .second, .val (.long mr_317), .second] (hb hby at_146) rfl ?_
      refine own_aload X317 hx 150 rfl (hb hby at_148) rfl rfl ?_
      refine own_lload X317 hx 152 rfl (hb hby at_150) rfl ?_
      obtain ⟨cq318, kq318, q318a, q318b, q318c⟩ := isOf hZ eh317 f315
      obtain ⟨_, _, ⟨T318, L318, k318, n318⟩, -, X318, ⟨Lc318, hQ318, l318, y318, z318⟩, st318⟩ := X317.virtualBack hx (y := (⟨"com/example/pooler/pooler/pool/Backoff", "delay", "(J)J"⟩ : MethodName)) (z := (⟨"com/example/pooler/pooler/pool/Backoff", "delay", "(J)J"⟩ : MethodName)) hown (mvT hZ (hw _ (List.mem_of_getElem? (i := 36) rfl))) (mvT hZ (hw _ (List.mem_of_getElem? (i := 37) rfl))) (notFace_of_selects (args := #[]) (mvT hZ (hw _ (List.mem_of_getElem? (i := 39) rfl)))) (mvT hZ (hw _ (List.mem_of_getElem? (i := 39) rfl))) (mvT hZ (hw _ (List.mem_of_getElem? (i := 38) rfl))) (by decide) (backOf (W := 0) (rmde1 l Z a0 hw [] b281 (x0 + (x1.toInt64)) x0 T312.heap n0 Z312 f315 f313 f314 f312_0 f312_1 f312_2) hZ (hw _ (List.mem_of_getElem? (i := 40) rfl)) (hw _ (List.mem_of_getElem? (i := 3) rfl)) (by decide) (by decide)) q318a q318c (g := (mkF m 152 #[.val (.long x0), .second, .val (.int x1), .val (.long x2), .second, .val (.int x3), .val (.int (5 : Int32)), .val (.int (1 : Int32)), .val (.ref b281), .val (.int (1 : Int32)), .val (.long (x0 + (x1.toInt64))), .second, .val (.long mr_317), .second] [(.long (x0 + (x1.toInt64))), (.ref b281)])) rfl (by rw [hml]; rfl) (Steps.refl _) (argsL := [(.long (x0 + (x1.toInt64)))]) (rest := []) (lenOf own_pd5 rfl) rfl (by show 2 * 0 + _ ≤ _; exact Nat.le_of_eq rfl) (hb hby at_152) (fun _ _ => ⟨rfl, eh317, (by decide : 1 + 0 ≤ _), (by decide : 3 + 0 ≤ _)⟩)
      dsimp only [Pt.U, Pt.locs, Pt.cells, Pt.slots] at X318 l318 y318 z318 st318 hQ318
      subst l318 y318 z318
      obtain ⟨br_318, rfl, N318q, eh318, pr318_0⟩ := hQ318
      have N318 := Fr.app N317 N318q
      refine Goes.tr st318 ?_
      show Goes p e below s _ _ _ T318 (mkF m 155 #[.val (.long x0), .second, .val (.int x1), .val (.long x2), .second, .val (.int x3), .val (.int (5 : Int32)), .val (.int (1 : Int32)), .val (.ref b281), .val (.int (1 : Int32)), .val (.long (x0 + (x1.toInt64))), .second, .val (.long mr_317), .second] [(.long br_318)])
      refine own_lload X318 hx 157 rfl (hb hby at_155) rfl ?_
      refine own_lcmp X318 hx 158 rfl (hb hby at_157) ?_
      refine own_ifN X318 hx 161 (hb hby at_158) (Lteq (own_fin pr318_0 pr317_0 : br_318 = mr_317)).2 rfl ?_
      refine own_iconst X318 hx 162 rfl (1 : Int32) (hb hby at_161) (by decide) ?_
      refine own_goto X318 hx 166 (hb hby at_162) (by decide) (by decide) ?_
      refine own_retZ X318 hx hlk Bd.returns (by decide) (hb hby at_166) (by decide) (by decide) eh318 ?_
      exact ⟨rfl, N318⟩
set_option maxRecDepth 65536 in
set_option maxHeartbeats 40000000 in
theorem comes_1 {Post : Tables → Env → Array Value → State → Outcome → State → Prop} (hpost : ∀ tb e args s v u, (limb_1_1.after args s (.returned v) u = true ∧ limb_1_2.after args s (.returned v) u = true ∧ True) → FrameEnd s (.returned v) u (Jvm.fieldLocs frame_1_writes args s ++ Jvm.arrayLocs frame_1_arrays args s ++ Jvm.staticLocs frame_1_statics s) 16 128 → Post tb e args s (.returned v) u) :
    ArmFor flags0 classFile x code maxLocals ret World_1 tables_1 room_1 Calls_1 rest_1 Pre_1 Post := by
  intro l hfl _ _ p e ha hc hk s m args below hf hA hF happ hP
  obtain ⟨hcalls, hrest, hpre⟩ := hP
  obtain ⟨-, -, -, hnamed, -, -, -, hat⟩ := (Spec.applies_iff hf).mp happ
  obtain ⟨hg, hn⟩ := and_e (Cond.before_iff.mp (show (Jvm.Cond.and given_1 narrow_1).before args s = true from hpre))
  obtain ⟨gg1, gg2⟩ := and_e hg
  obtain ⟨gg3, gg4⟩ := and_e gg2
  obtain ⟨gg5, gg6⟩ := and_e gg4
  obtain ⟨gg7, gg8⟩ := and_e gg6
  obtain ⟨w0, w1, w2, w3, rfl⟩ : ∃ w0 w1 w2 w3 : Value, args = #[w0, w1, w2, w3] := by
    have hs : args.size = 4 := by simpa [Cond.value, given_1] using gg1
    obtain ⟨L⟩ := args
    match L, hs with
    | [w0, w1, w2, w3], _ => exact ⟨w0, w1, w2, w3, rfl⟩
  have hw := fun d (hd : d ∈ tables_1) => atoms_spec (ws := Jvm.Cond.code x code maxLocals ret :: tables_1) hat d (List.mem_cons_of_mem _ hd)
  have hfit : Fit s := fun {y c} hc i hi => by
    obtain ⟨ha, rfl⟩ := Array.getElem?_eq_some_iff.mp hc
    have q := List.all_eq_true.mp ((Array.all_eq_true_iff_forall_mem.mp hF) _ (Array.getElem_mem ha)) i (List.mem_range.mpr hi)
    simpa [Array.getElem?_eq_getElem hi] using q
  obtain ⟨i0, ei0⟩ := isL_v gg3
  obtain rfl : w0 = (.long i0) := Option.some.inj ei0
  obtain ⟨i1, ei1⟩ := is_v gg5
  obtain rfl : w1 = (.int i1) := Option.some.inj ei1
  obtain ⟨i2, ei2⟩ := isL_v gg7
  obtain rfl : w2 = (.long i2) := Option.some.inj ei2
  obtain ⟨i3, ei3⟩ := is_v gg8
  obtain rfl : w3 = (.int i3) := Option.some.inj ei3
  obtain ⟨nn1, nn2⟩ := and_e hn
  have S_y_SHORTEST := Sta.start (own_eqv (long_at _) nn1) (Or.inr ⟨(hw _ (List.mem_of_getElem? (i := 3) rfl)), (hw _ (List.mem_of_getElem? (i := 46) rfl))⟩)
  have S_y_LONGEST := Sta.start (own_eqv (long_at _) nn2) (Or.inr ⟨(hw _ (List.mem_of_getElem? (i := 3) rfl)), (hw _ (List.mem_of_getElem? (i := 48) rfl))⟩)
  obtain ⟨n, o, h1, h2, h3, _, L, rfl, ⟨rfl, N⟩, hq⟩ := rm0 l s _ hw tables_1 i0 i1 i2 i3  s.heap s.heap.size (Nat.le_refl _) S_y_SHORTEST S_y_LONGEST p e ha hc hk s m _ below hf ((Spec.applies_iff_loose hf).mp happ).1 ⟨rfl, State.Warmed39.refl s, rfl⟩ trivial
  refine ⟨n, _, h1, h2, h3, hpost _ _ _ _ _ _ ⟨Cond.after_iff.mpr rfl, Cond.after_iff.mpr (eq_i res_at (Term.int_eval (1)) rfl), trivial⟩ ⟨hq.1, hq.2.1, (hq.2.2.sift fun y hy => Or.inr (N y hy)).mono (by decide) (by decide)⟩⟩
theorem main_1_1 : Claimed_1_1 := comes_1 fun _ _ _ _ _ _ h hF => ⟨h.1, hF⟩
theorem main_1_2 : Claimed_1_2 := comes_1 fun _ _ _ _ _ _ h hF => ⟨h.2.1, hF⟩
end Jvm.Pilot.@@N@@
namespace Jvm.Pilot.@@N@@
open Jvm Jvm.ClassFile Sem Op Lib Jvm.Free Jvm.Stand Jvm.Pilot.@@N@@.Jvm.D
/-! MADE BY PROGRAM (witnessworld.py) out of the Statement's table words and the real class files: 10 classes; the members and pool entries that the words name. The judged class is class 1, her method 2. -/
namespace start1
open Jvm.ClassFile
def u (s : String) : CpInfo := .utf8 (stringToUtf16 s)
/-- a pool by its gaps: so many unusable entries, then the entry; so many at the end -/
def gap : Nat → List CpInfo → List CpInfo
  | 0, r => r
  | n + 1, r => .unusable :: gap n r
def poolList (es : List (Nat × CpInfo)) (last : Nat) : List CpInfo := es.foldr (fun e r => gap e.1 (e.2 :: r)) (gap last [])
def pool (es : List (Nat × CpInfo)) (last : Nat) : Array CpInfo := ⟨poolList es last⟩
def fileOf (pool : Array CpInfo) (this : Nat) (attrs : Array Attribute := #[]) (ms : Array MethodInfo := #[]) (fl : Nat := 33) (sup : Nat := 0) (ifs : Array Nat := #[]) (fds : Array FieldInfo := #[]) : ClassFile where
  minorVersion := 0
  majorVersion := 65
  constantPool := pool
  accessFlags := fl
  thisClass := this
  superClass := sup
  interfaces := ifs
  fields := fds
  methods := ms
  attributes := attrs
def plain (name : String) (sup : Option ClassId) : Class where
  name := name
  kind := .ordinary
  loader := none
  accessFlags := 33
  super := sup
  interfaces := #[]
  cf := none
  fields := #[]
  methods := #[]
  instanceTypes := #[]
  staticTypes := #[]
  resolved := #[]
  callSites := []
  init := .initialized
  statics := none
  mirror := none

def pool0 : Array CpInfo := pool [(5, u "<init>"), (0, u "()V"), (1, .class_ 10), (1, u "java/lang/Object")] 113

def k0c0 : Code := { maxStack := 0, maxLocals := 1, code := object_method_1_code, exceptionTable := #[], attributes := #[] }
def k0m0 : Method := { name := "<init>", desc := "()V", sig := { parameters := [], returnType := none }, accessFlags := 1, code := some k0c0 }
/-- java/lang/Object -/
def k0 : Class := { plain "java/lang/Object" none with
  accessFlags := 33
  interfaces := #[]
  cf := some (fileOf pool0 8 #[] #[{ accessFlags := 1, nameIndex := 5, descriptorIndex := 6, attributes := #[] }] 33 0 #[] #[])
  fields := #[]
  methods := #[k0m0]
  instanceTypes := #[]
  staticTypes := #[]
  resolved := Array.replicate 124 none
  statics := none }

def pool1 : Array CpInfo := pool [(2, .class_ 4), (0, .nameAndType 5 6), (0, u "java/lang/Object"), (0, u "<init>"), (0, u "()V"), (0, .long 1000), (1, .long 100), (1, .long 200), (1, .long 400), (1, .long 800), (1, .long 1000000), (1, .integer 2147483647), (0, .class_ 21), (0, u "com/example/pooler/pooler/pool/Backoff"), (0, .methodref 20 3), (0, .methodref 20 24), (0, .nameAndType 25 26), (0, u "failed"), (0, u "(J)V"), (0, .methodref 20 28), (0, .nameAndType 29 26), (0, u "opened"), (0, .methodref 31 32), (0, .class_ 33), (0, .nameAndType 34 35), (0, u "com/example/pooler/pooler/pool/BackoffFailedPinLaw"), (0, u "expectedPause"), (0, u "(I)J"), (0, .methodref 37 38), (0, .class_ 39), (0, .nameAndType 40 41), (0, u "java/lang/Math"), (0, u "max"), (0, u "(JJ)J"), (0, .methodref 20 43), (0, .nameAndType 44 45), (0, u "delay"), (0, u "(J)J"), (3, u "law"), (0, u "(JIJI)Z")] 2

def k1m0 : Method := { name := "<init>", desc := "()V", sig := { parameters := [], returnType := none }, accessFlags := 1, code := none }
def k1c1 : Code := { maxStack := 4, maxLocals := 3, code := method_2_code, exceptionTable := #[], attributes := #[] }
def k1m1 : Method := { name := "expectedPause", desc := "(I)J", sig := { parameters := [.int], returnType := some .long }, accessFlags := 10, code := some k1c1 }
def k1c2 : Code := { maxStack := 6, maxLocals := 14, code := code, exceptionTable := #[], attributes := #[] }
def k1m2 : Method := { name := "law", desc := "(JIJI)Z", sig := { parameters := [.long, .int, .long, .int], returnType := some .boolean }, accessFlags := 9, code := some k1c2 }
/-- com/example/pooler/pooler/pool/BackoffFailedPinLaw -/
def k1 : Class := { plain "com/example/pooler/pooler/pool/BackoffFailedPinLaw" (some 0) with
  accessFlags := 49
  interfaces := #[]
  cf := some (fileOf pool1 31 #[] #[{ accessFlags := 1, nameIndex := 5, descriptorIndex := 6, attributes := #[] }, { accessFlags := 10, nameIndex := 34, descriptorIndex := 35, attributes := #[] }, { accessFlags := 9, nameIndex := 49, descriptorIndex := 50, attributes := #[] }] 49 2 #[] #[])
  fields := #[]
  methods := #[k1m0, k1m1, k1m2]
  instanceTypes := #[]
  staticTypes := #[]
  resolved := Array.replicate 53 none
  statics := none }

def pool2 : Array CpInfo := pool [(1, .methodref 2 3), (0, .class_ 4), (0, .nameAndType 5 6), (0, u "java/lang/Object"), (0, u "<init>"), (0, u "()V"), (0, .fieldref 8 9), (0, .class_ 10), (0, .nameAndType 11 12), (0, u "com/example/pooler/pooler/pool/Backoff"), (0, u "tried"), (0, u "Z"), (0, .fieldref 8 14), (0, .nameAndType 15 16), (0, u "endedAt"), (0, u "J"), (0, .methodref 8 18), (0, .nameAndType 19 20), (0, u "pause"), (0, u "()J"), (0, .methodref 22 23), (0, .class_ 24), (0, .nameAndType 25 26), (0, u "java/lang/Math"), (0, u "max"), (0, u "(JJ)J"), (0, .methodref 8 28), (0, .nameAndType 29 30), (0, u "ended"), (0, u "(J)V"), (0, .fieldref 8 32), (0, .nameAndType 33 34), (0, u "failuresInARow"), (0, u "I"), (0, .fieldref 8 36), (0, .nameAndType 37 16), (0, u "SHORTEST"), (0, .fieldref 8 39), (0, .nameAndType 40 16), (0, u "LONGEST"), (0, .long 2), (1, .methodref 22 44), (0, .nameAndType 45 26), (0, u "min"), (11, u "(J)J"), (5, u "delay"), (1, u "opened"), (0, u "failed")] 3

def k2c0 : Code := { maxStack := 1, maxLocals := 1, code := prog_23_method_1_code, exceptionTable := #[], attributes := #[] }
def k2m0 : Method := { name := "<init>", desc := "()V", sig := { parameters := [], returnType := none }, accessFlags := 0, code := some k2c0 }
def k2c1 : Code := { maxStack := 6, maxLocals := 5, code := prog_23_method_2_code, exceptionTable := #[], attributes := #[] }
def k2m1 : Method := { name := "delay", desc := "(J)J", sig := { parameters := [.long], returnType := some .long }, accessFlags := 0, code := some k2c1 }
def k2c2 : Code := { maxStack := 3, maxLocals := 3, code := prog_23_method_3_code, exceptionTable := #[], attributes := #[] }
def k2m2 : Method := { name := "opened", desc := "(J)V", sig := { parameters := [.long], returnType := none }, accessFlags := 0, code := some k2c2 }
def k2c3 : Code := { maxStack := 3, maxLocals := 3, code := prog_23_method_4_code, exceptionTable := #[], attributes := #[] }
def k2m3 : Method := { name := "failed", desc := "(J)V", sig := { parameters := [.long], returnType := none }, accessFlags := 0, code := some k2c3 }
def k2c4 : Code := { maxStack := 3, maxLocals := 3, code := prog_23_method_5_code, exceptionTable := #[], attributes := #[] }
def k2m4 : Method := { name := "ended", desc := "(J)V", sig := { parameters := [.long], returnType := none }, accessFlags := 2, code := some k2c4 }
def k2c5 : Code := { maxStack := 4, maxLocals := 4, code := prog_23_method_6_code, exceptionTable := #[], attributes := #[] }
def k2m5 : Method := { name := "pause", desc := "()J", sig := { parameters := [], returnType := some .long }, accessFlags := 2, code := some k2c5 }
/-- com/example/pooler/pooler/pool/Backoff -/
def k2 : Class := { plain "com/example/pooler/pooler/pool/Backoff" (some 0) with
  accessFlags := 32
  interfaces := #[]
  cf := some (fileOf pool2 8 #[] #[{ accessFlags := 0, nameIndex := 5, descriptorIndex := 6, attributes := #[] }, { accessFlags := 0, nameIndex := 63, descriptorIndex := 57, attributes := #[] }, { accessFlags := 0, nameIndex := 65, descriptorIndex := 30, attributes := #[] }, { accessFlags := 0, nameIndex := 66, descriptorIndex := 30, attributes := #[] }, { accessFlags := 2, nameIndex := 29, descriptorIndex := 30, attributes := #[] }, { accessFlags := 2, nameIndex := 19, descriptorIndex := 20, attributes := #[] }] 32 2 #[] #[{ accessFlags := 26, nameIndex := 37, descriptorIndex := 16, attributes := #[] }, { accessFlags := 26, nameIndex := 40, descriptorIndex := 16, attributes := #[] }, { accessFlags := 2, nameIndex := 11, descriptorIndex := 12, attributes := #[] }, { accessFlags := 2, nameIndex := 15, descriptorIndex := 16, attributes := #[] }, { accessFlags := 2, nameIndex := 33, descriptorIndex := 34, attributes := #[] }])
  fields := #[{ name := "SHORTEST", type := .long, accessFlags := 26, slot := 0, constantValue := 0 }, { name := "LONGEST", type := .long, accessFlags := 26, slot := 1, constantValue := 0 }, { name := "tried", type := .boolean, accessFlags := 2, slot := 0, constantValue := 0 }, { name := "endedAt", type := .long, accessFlags := 2, slot := 1, constantValue := 0 }, { name := "failuresInARow", type := .int, accessFlags := 2, slot := 2, constantValue := 0 }]
  methods := #[k2m0, k2m1, k2m2, k2m3, k2m4, k2m5]
  instanceTypes := #[.boolean, .long, .int]
  staticTypes := #[.long, .long]
  resolved := Array.replicate 70 none
  statics := some 0 }

def pool3 : Array CpInfo := pool [(1, .class_ 2), (0, u "java/lang/Math"), (1, .class_ 6), (1, u "java/lang/Object"), (0, u "<init>"), (0, u "()V"), (89, .class_ 100), (1, u "java/lang/Math$RandomNumberGeneratorHolder"), (20, u "(JJ)J"), (50, u "negativeZeroFloatBits"), (0, u "J"), (2, u "negativeZeroDoubleBits"), (21, u "max"), (2, u "min"), (43, u "$assertionsDisabled"), (0, u "Z"), (91, u "twoToTheDoubleScaleDown"), (0, u "D"), (4, u "twoToTheDoubleScaleUp"), (9, u "E"), (3, u "PI"), (2, u "TAU"), (2, u "DEGREES_TO_RADIANS"), (0, u "RADIANS_TO_DEGREES")] 94

def k3m0 : Method := { name := "<init>", desc := "()V", sig := { parameters := [], returnType := none }, accessFlags := 2, code := none }
def k3c1 : Code := { maxStack := 4, maxLocals := 4, code := jdk_29_method_66_code, exceptionTable := #[], attributes := #[] }
def k3m1 : Method := { name := "max", desc := "(JJ)J", sig := { parameters := [.long, .long], returnType := some .long }, accessFlags := 9, code := some k3c1 }
def k3c2 : Code := { maxStack := 4, maxLocals := 4, code := jdk_29_method_70_code, exceptionTable := #[], attributes := #[] }
def k3m2 : Method := { name := "min", desc := "(JJ)J", sig := { parameters := [.long, .long], returnType := some .long }, accessFlags := 9, code := some k3c2 }
/-- java/lang/Math -/
def k3 : Class := { plain "java/lang/Math" (some 0) with
  accessFlags := 49
  interfaces := #[]
  cf := some (fileOf pool3 1 #[.nestMembers #[98]] #[{ accessFlags := 2, nameIndex := 7, descriptorIndex := 8, attributes := #[] }, { accessFlags := 9, nameIndex := 198, descriptorIndex := 121, attributes := #[] }, { accessFlags := 9, nameIndex := 201, descriptorIndex := 121, attributes := #[] }] 49 4 #[] #[{ accessFlags := 25, nameIndex := 354, descriptorIndex := 339, attributes := #[] }, { accessFlags := 25, nameIndex := 358, descriptorIndex := 339, attributes := #[] }, { accessFlags := 25, nameIndex := 361, descriptorIndex := 339, attributes := #[] }, { accessFlags := 26, nameIndex := 364, descriptorIndex := 339, attributes := #[] }, { accessFlags := 26, nameIndex := 365, descriptorIndex := 339, attributes := #[] }, { accessFlags := 26, nameIndex := 172, descriptorIndex := 173, attributes := #[] }, { accessFlags := 26, nameIndex := 176, descriptorIndex := 173, attributes := #[] }, { accessFlags := 8, nameIndex := 344, descriptorIndex := 339, attributes := #[] }, { accessFlags := 8, nameIndex := 338, descriptorIndex := 339, attributes := #[] }, { accessFlags := 4120, nameIndex := 245, descriptorIndex := 246, attributes := #[] }])
  fields := #[{ name := "E", type := .double, accessFlags := 25, slot := 0, constantValue := 0 }, { name := "PI", type := .double, accessFlags := 25, slot := 1, constantValue := 0 }, { name := "TAU", type := .double, accessFlags := 25, slot := 2, constantValue := 0 }, { name := "DEGREES_TO_RADIANS", type := .double, accessFlags := 26, slot := 3, constantValue := 0 }, { name := "RADIANS_TO_DEGREES", type := .double, accessFlags := 26, slot := 4, constantValue := 0 }, { name := "negativeZeroFloatBits", type := .long, accessFlags := 26, slot := 5, constantValue := 0 }, { name := "negativeZeroDoubleBits", type := .long, accessFlags := 26, slot := 6, constantValue := 0 }, { name := "twoToTheDoubleScaleUp", type := .double, accessFlags := 8, slot := 7, constantValue := 0 }, { name := "twoToTheDoubleScaleDown", type := .double, accessFlags := 8, slot := 8, constantValue := 0 }, { name := "$assertionsDisabled", type := .boolean, accessFlags := 4120, slot := 9, constantValue := 0 }]
  methods := #[k3m0, k3m1, k3m2]
  instanceTypes := #[]
  staticTypes := #[.double, .double, .double, .double, .double, .long, .long, .double, .double, .boolean]
  resolved := Array.replicate 460 none
  statics := none }

def pool4 : Array CpInfo := pool [(1, u "java/lang/Cloneable"), (0, .class_ 1), (0, u "java/lang/Object"), (0, .class_ 3)] 3

/-- java/lang/Cloneable -/
def k4 : Class := { plain "java/lang/Cloneable" (some 0) with
  accessFlags := 1537
  interfaces := #[]
  cf := some (fileOf pool4 2 #[] #[] 1537 4 #[] #[])
  fields := #[]
  methods := #[]
  instanceTypes := #[]
  staticTypes := #[]
  resolved := Array.replicate 8 none
  statics := none }

def pool5 : Array CpInfo := pool [(1, u "java/io/Serializable"), (0, .class_ 1), (0, u "java/lang/Object"), (0, .class_ 3)] 3

/-- java/io/Serializable -/
def k5 : Class := { plain "java/io/Serializable" (some 0) with
  accessFlags := 1537
  interfaces := #[]
  cf := some (fileOf pool5 2 #[] #[] 1537 4 #[] #[])
  fields := #[]
  methods := #[]
  instanceTypes := #[]
  staticTypes := #[]
  resolved := Array.replicate 8 none
  statics := none }

/-- the primitive byte -/
def k6 : Class := { plain "byte" none with kind := .primitive 'B', accessFlags := 0x411 }
/-- [B -/
def k7 : Class := { plain "[B" (some 0) with kind := .array 6 .byte, interfaces := #[4, 5], accessFlags := 1041 }

/-- the primitive int -/
def k8 : Class := { plain "int" none with kind := .primitive 'I', accessFlags := 0x411 }
/-- [I -/
def k9 : Class := { plain "[I" (some 0) with kind := .array 8 .int, interfaces := #[4, 5], accessFlags := 1041 }

def heap : Heap := #[{ cls := 2, slots := #[.long 100000000, .long 1000000000], vm := .statics 2 }]
def classes : Array Class := #[k0, k1, k2, k3, k4, k5, k6, k7, k8, k9]
def interned : List (Array UInt16 × Addr) := []
def slotsUsed : Nat := 2
def theMethod : MethodId := ⟨1, 2⟩
def args0 : Array Value := #[.long 1, .int 2, .long 3, .int 5]
def aboutOver (below : List Frame) : State where
  vm := { classes := classes, interned := interned.toArray }
  heap := heap
  slotsUsed := slotsUsed
  threads := #[{ frames := .invoking theMethod args0 :: below }]
def below0 : List Frame := [.native { method := ⟨0, 0⟩, args := #[] }]
def about1 : State := aboutOver below0
def p0 : Program := .bare "" "" ""
def e0 : Env := launch0.env 0 0 0
theorem w_frames : about1.frames = Frame.invoking theMethod args0 :: below0 := rfl
set_option maxRecDepth 65536 in
theorem w_args : argsFit about1.vm theMethod args0 = true := by decide +kernel
set_option maxRecDepth 65536 in
theorem w_heap : heapFits about1 = true := by decide +kernel
set_option maxRecDepth 65536 in
theorem w_runnable : about1.curStatus? = some .runnable := by decide +kernel
set_option maxRecDepth 65536 in
theorem w_alone : about1.alone = true := by decide +kernel
set_option maxRecDepth 65536 in
theorem w_named : about1.methodNamed? x = some theMethod := by decide +kernel
set_option maxRecDepth 65536 in
theorem w_hears : about1.hears theMethod below0 = true := by decide +kernel
set_option maxRecDepth 65536 in
theorem w_ripe : about1.ripe theMethod args0 below0 = true := by decide +kernel
theorem w_running : about1.status = .running := rfl
set_option maxRecDepth 65536 in
theorem w_room : about1.hasRoom e0.platform room_1 = true :=
  launch0.hasRoom_least _ room_1 (by decide +kernel) (by decide +kernel) (by decide +kernel) (by decide +kernel) (by decide +kernel) (by decide +kernel)
theorem allAtoms_all (ts : List Jvm.Cond) (a : Array Jvm.Value) (st : Jvm.State) : (allAtoms ts).before a st = ts.all (fun c => c.before a st) := by
  induction ts with
  | nil => rfl
  | cons c t ih =>
    show (Jvm.Cond.and c (allAtoms t)).before a st = _
    rw [Jvm.Cond.before_and, ih, List.all_cons]
def words1 : List Jvm.Cond := Jvm.Cond.code x code maxLocals ret :: tables_1
/-- a 'code' word, met by the world's own term for the bytes: nothing is compared byte by byte -/
theorem code_word {y : MethodName} {bytes : ByteArray} {mx : Nat} {rt : Option FieldType} {a : Array Value} {s : State} {m : MethodId} {meth : Method} {c : Code} (h1 : s.methodNamed? y = some m) (h2 : s.vm.method? m = some meth) (h3 : meth.code = some c) (h4 : c.code = bytes)
    (h5 : (c.maxLocals == mx && c.exceptionTable.isEmpty && decide (c.maxStack ≤ mostOperands) && decide (meth.sig.returnType = rt) && !meth.locks && decide (parseMethodDescriptor y.desc = some meth.sig)) = true) : (Jvm.Cond.code y bytes mx rt).before a s = true := by
  simp only [Bool.and_eq_true, beq_iff_eq, Bool.not_eq_true', decide_eq_true_eq] at h5
  obtain ⟨⟨⟨⟨⟨g1, g2⟩, g3⟩, g4⟩, g5⟩, g6⟩ := h5
  simp [Cond.before, Cond.holds, Cond.value, h1, h2, h3, h4, g1, g2, g3, g4, g5, g6]
def isCode : Jvm.Cond → Bool
  | .code _ _ _ _ => true
  | _ => false
theorem all_split {L : List Jvm.Cond} {P : Jvm.Cond → Bool} (h1 : L.all (fun c => isCode c || P c) = true) (h2 : ∀ c ∈ L.filter isCode, P c = true) : L.all P = true := by
  refine List.all_eq_true.mpr fun c hc => ?_
  have h := List.all_eq_true.mp h1 c hc
  rcases Bool.eq_false_or_eq_true (isCode c) with hi | hi
  · exact h2 c (List.mem_filter.mpr ⟨hc, hi⟩)
  · simpa [hi] using h
set_option maxRecDepth 65536 in
theorem w_c0 : (Jvm.Cond.code x code maxLocals ret).before args0 about1 = true := code_word (m := ⟨1, 2⟩) (meth := k1m2) (c := k1c2) (by decide +kernel) rfl rfl rfl (by decide +kernel)
set_option maxRecDepth 65536 in
theorem w_c1 : (Jvm.Cond.code ({ cls := "com/example/pooler/pooler/pool/Backoff", name := "<init>", desc := "()V" } : Jvm.MethodName) prog_23_method_1_code (1 : Nat) (Option.none : Option Jvm.ClassFile.FieldType)).before args0 about1 = true := code_word (m := ⟨2, 0⟩) (meth := k2m0) (c := k2c0) (by decide +kernel) rfl rfl rfl (by decide +kernel)
set_option maxRecDepth 65536 in
theorem w_c2 : (Jvm.Cond.code ({ cls := "java/lang/Object", name := "<init>", desc := "()V" } : Jvm.MethodName) object_method_1_code (1 : Nat) (Option.none : Option Jvm.ClassFile.FieldType)).before args0 about1 = true := code_word (m := ⟨0, 0⟩) (meth := k0m0) (c := k0c0) (by decide +kernel) rfl rfl rfl (by decide +kernel)
set_option maxRecDepth 65536 in
theorem w_c3 : (Jvm.Cond.code ({ cls := "com/example/pooler/pooler/pool/Backoff", name := "failed", desc := "(J)V" } : Jvm.MethodName) prog_23_method_4_code (3 : Nat) (Option.none : Option Jvm.ClassFile.FieldType)).before args0 about1 = true := code_word (m := ⟨2, 3⟩) (meth := k2m3) (c := k2c3) (by decide +kernel) rfl rfl rfl (by decide +kernel)
set_option maxRecDepth 65536 in
theorem w_c4 : (Jvm.Cond.code ({ cls := "com/example/pooler/pooler/pool/Backoff", name := "ended", desc := "(J)V" } : Jvm.MethodName) prog_23_method_5_code (3 : Nat) (Option.none : Option Jvm.ClassFile.FieldType)).before args0 about1 = true := code_word (m := ⟨2, 4⟩) (meth := k2m4) (c := k2c4) (by decide +kernel) rfl rfl rfl (by decide +kernel)
set_option maxRecDepth 65536 in
theorem w_c5 : (Jvm.Cond.code ({ cls := "com/example/pooler/pooler/pool/BackoffFailedPinLaw", name := "expectedPause", desc := "(I)J" } : Jvm.MethodName) method_2_code (3 : Nat) (Option.some Jvm.ClassFile.FieldType.long)).before args0 about1 = true := code_word (m := ⟨1, 1⟩) (meth := k1m1) (c := k1c1) (by decide +kernel) rfl rfl rfl (by decide +kernel)
set_option maxRecDepth 65536 in
theorem w_c6 : (Jvm.Cond.code ({ cls := "java/lang/Math", name := "max", desc := "(JJ)J" } : Jvm.MethodName) jdk_29_method_66_code (4 : Nat) (Option.some Jvm.ClassFile.FieldType.long)).before args0 about1 = true := code_word (m := ⟨3, 1⟩) (meth := k3m1) (c := k3c1) (by decide +kernel) rfl rfl rfl (by decide +kernel)
set_option maxRecDepth 65536 in
theorem w_c7 : (Jvm.Cond.code ({ cls := "com/example/pooler/pooler/pool/Backoff", name := "delay", desc := "(J)J" } : Jvm.MethodName) prog_23_method_2_code (5 : Nat) (Option.some Jvm.ClassFile.FieldType.long)).before args0 about1 = true := code_word (m := ⟨2, 1⟩) (meth := k2m1) (c := k2c1) (by decide +kernel) rfl rfl rfl (by decide +kernel)
set_option maxRecDepth 65536 in
theorem w_c8 : (Jvm.Cond.code ({ cls := "com/example/pooler/pooler/pool/Backoff", name := "pause", desc := "()J" } : Jvm.MethodName) prog_23_method_6_code (4 : Nat) (Option.some Jvm.ClassFile.FieldType.long)).before args0 about1 = true := code_word (m := ⟨2, 5⟩) (meth := k2m5) (c := k2c5) (by decide +kernel) rfl rfl rfl (by decide +kernel)
set_option maxRecDepth 65536 in
theorem w_c9 : (Jvm.Cond.code ({ cls := "java/lang/Math", name := "min", desc := "(JJ)J" } : Jvm.MethodName) jdk_29_method_70_code (4 : Nat) (Option.some Jvm.ClassFile.FieldType.long)).before args0 about1 = true := code_word (m := ⟨3, 2⟩) (meth := k3m2) (c := k3c2) (by decide +kernel) rfl rfl rfl (by decide +kernel)
set_option maxRecDepth 65536 in
theorem w_c10 : (Jvm.Cond.code ({ cls := "com/example/pooler/pooler/pool/Backoff", name := "opened", desc := "(J)V" } : Jvm.MethodName) prog_23_method_3_code (3 : Nat) (Option.none : Option Jvm.ClassFile.FieldType)).before args0 about1 = true := code_word (m := ⟨2, 2⟩) (meth := k2m2) (c := k2c2) (by decide +kernel) rfl rfl rfl (by decide +kernel)
def codes1 : List Jvm.Cond := [Jvm.Cond.code x code maxLocals ret, Jvm.Cond.code ({ cls := "com/example/pooler/pooler/pool/Backoff", name := "<init>", desc := "()V" } : Jvm.MethodName) prog_23_method_1_code (1 : Nat) (Option.none : Option Jvm.ClassFile.FieldType), Jvm.Cond.code ({ cls := "java/lang/Object", name := "<init>", desc := "()V" } : Jvm.MethodName) object_method_1_code (1 : Nat) (Option.none : Option Jvm.ClassFile.FieldType), Jvm.Cond.code ({ cls := "com/example/pooler/pooler/pool/Backoff", name := "failed", desc := "(J)V" } : Jvm.MethodName) prog_23_method_4_code (3 : Nat) (Option.none : Option Jvm.ClassFile.FieldType), Jvm.Cond.code ({ cls := "com/example/pooler/pooler/pool/Backoff", name := "ended", desc := "(J)V" } : Jvm.MethodName) prog_23_method_5_code (3 : Nat) (Option.none : Option Jvm.ClassFile.FieldType), Jvm.Cond.code ({ cls := "com/example/pooler/pooler/pool/BackoffFailedPinLaw", name := "expectedPause", desc := "(I)J" } : Jvm.MethodName) method_2_code (3 : Nat) (Option.some Jvm.ClassFile.FieldType.long), Jvm.Cond.code ({ cls := "java/lang/Math", name := "max", desc := "(JJ)J" } : Jvm.MethodName) jdk_29_method_66_code (4 : Nat) (Option.some Jvm.ClassFile.FieldType.long), Jvm.Cond.code ({ cls := "com/example/pooler/pooler/pool/Backoff", name := "delay", desc := "(J)J" } : Jvm.MethodName) prog_23_method_2_code (5 : Nat) (Option.some Jvm.ClassFile.FieldType.long), Jvm.Cond.code ({ cls := "com/example/pooler/pooler/pool/Backoff", name := "pause", desc := "()J" } : Jvm.MethodName) prog_23_method_6_code (4 : Nat) (Option.some Jvm.ClassFile.FieldType.long), Jvm.Cond.code ({ cls := "java/lang/Math", name := "min", desc := "(JJ)J" } : Jvm.MethodName) jdk_29_method_70_code (4 : Nat) (Option.some Jvm.ClassFile.FieldType.long), Jvm.Cond.code ({ cls := "com/example/pooler/pooler/pool/Backoff", name := "opened", desc := "(J)V" } : Jvm.MethodName) prog_23_method_3_code (3 : Nat) (Option.none : Option Jvm.ClassFile.FieldType)]
set_option maxRecDepth 65536 in
theorem codes_eq : words1.filter isCode = codes1 := rfl
theorem w_codes : ∀ c ∈ words1.filter isCode, c.before args0 about1 = true := by
  rw [codes_eq]
  intro c hc
  simp only [codes1, List.mem_cons, List.not_mem_nil, or_false] at hc
  rcases hc with rfl | rfl | rfl | rfl | rfl | rfl | rfl | rfl | rfl | rfl | rfl
  · exact w_c0
  · exact w_c1
  · exact w_c2
  · exact w_c3
  · exact w_c4
  · exact w_c5
  · exact w_c6
  · exact w_c7
  · exact w_c8
  · exact w_c9
  · exact w_c10
set_option maxRecDepth 65536 in
theorem w_t1 : (words1.take 24).all (fun c => isCode c || c.before args0 about1) = true := by decide +kernel
set_option maxRecDepth 65536 in
theorem w_t2 : ((words1.drop 24).take 24).all (fun c => isCode c || c.before args0 about1) = true := by decide +kernel
set_option maxRecDepth 65536 in
theorem w_t3 : ((words1.drop 24).drop 24).all (fun c => isCode c || c.before args0 about1) = true := by decide +kernel
theorem w_tables : (allAtoms (Jvm.Cond.code x code maxLocals ret :: tables_1)).before args0 about1 = true := by
  rw [allAtoms_all]
  show words1.all (fun c => c.before args0 about1) = true
  refine all_split ?_ w_codes
  rw [← List.take_append_drop 24 words1, List.all_append, w_t1, ← List.take_append_drop 24 (words1.drop 24), List.all_append, w_t2, w_t3]
  rfl
set_option maxRecDepth 65536 in
theorem w_case : (Jvm.Cond.and given_1 narrow_1).before args0 about1 = true := by decide +kernel
theorem w_applies : (headSpec (Jvm.Cond.code x code maxLocals ret :: tables_1) room_1).applies x e0.platform about1 = true :=
  (Spec.applies_iff w_frames).mpr ⟨w_running, w_runnable, w_alone, w_named, w_hears, w_ripe, w_room, w_tables⟩
theorem atStart : AtStart classFile x code maxLocals ret World_1 tables_1 room_1 Calls_1 rest_1 Pre_1 launch0 p0 e0 about1 theMethod args0 below0 :=
  ⟨lists_1, trivial, launch0.admits_env _ _ _, launch0.least_env, fairChoices_fair.cas, fairChoices_fair.clock, w_frames, w_args, w_heap, w_applies, trivial, trivial, w_case⟩
end start1
theorem witness_1 : WitnessClaimed_1 := ⟨start1.p0, start1.e0, start1.about1, start1.theMethod, start1.args0, start1.below0, start1.atStart⟩
end Jvm.Pilot.@@N@@
