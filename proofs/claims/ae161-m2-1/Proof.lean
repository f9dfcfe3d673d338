import JvmDerived
import JvmDerived.Pilot.@@N@@Statement
import JvmDerived.Pilot.@@N@@Code
set_option linter.unusedVariables false
set_option linter.unusedSimpArgs false
namespace Jvm.Pilot.@@N@@
open Jvm Jvm.ClassFile Sem Op Lib Jvm.Free Jvm.Stand Jvm.LawKit Jvm.RoadKit Bundle Jvm.Pilot.@@N@@.Jvm.D
section Own
variable {p : Program} {l : Launch} {e : Env} {R : Room} {s : State} {m : MethodId} {args : Array Value} {below : List Frame} {meth : Method} {c : Code} {T : State} {locs : List Loc} {cells slots : Nat} {C S : Nat} {Q : Option Value → Heap → List Loc → Prop} {P : Outcome → State → Prop}
/-- from the state T with the frame g on top the run comes to the method's end, and P holds there -/
def Goes (p : Program) (e : Env) (below : List Frame) (P : Outcome → State → Prop) (T : State) (g : JFrame) : Prop :=
  ∃ s₂ o, Steps p.tables e below (T.setTop g) s₂ ∧ s₂.status = .running ∧ Ended s₂ below o ∧ P o s₂
/-- it returned, Q holds, the frame's bounds are kept -/
def Done (s : State) (C S : Nat) (Q : Option Value → Heap → List Loc → Prop) (o : Outcome) (U : State) : Prop := ∃ v L, o = .returned v ∧ Q v U.heap L ∧ FrameEnd s o U L C S
/-- .. where a String's constant may have been linked -/
def DoneW (s : State) (C S : Nat) (Q : Option Value → Heap → List Loc → Prop) (o : Outcome) (U : State) : Prop := ∃ v L, o = .returned v ∧ Q v U.heap L ∧ ReturnedEndW s o U L C S
theorem Goes.go {T' : State} {g g' : JFrame} (st : ∀ t, Steps p.tables e below (T'.setTop g') t → Steps p.tables e below (T.setTop g) t) (h : Goes p e below P T' g') : Goes p e below P T g := by
  obtain ⟨s₂, o, h1, h2⟩ := h; exact ⟨s₂, o, st _ h1, h2⟩
theorem Goes.tr {T' : State} {g g' : JFrame} (st : Steps p.tables e below (T.setTop g) (T'.setTop g')) (h : Goes p e below P T' g') : Goes p e below P T g := Goes.go (fun _ k => st.trans k) h
/-- the end of a walk that has linked Strings' constants -/
theorem own_wend {vm0 : Vm} {k0 : Nat} {fs : List Frame} {v : Option Value} (hS : s.Since vm0 k0) (hk : k0 ≤ T.heap.size) (hW : (s.setVm vm0).WarmedH (T.setFrames fs).vm) (hsame : (s.setVm vm0).sameButNew ({ T.setFrames fs with vm := (s.setVm vm0).vm } : State) locs cells slots) (hC : cells ≤ C) (hS' : slots ≤ S) : ReturnedEndW s (.returned v) (T.setFrames fs) locs C S := by
  have h2 := hS.trans (hW.since (T.setFrames fs).heap.size) hk
  exact ⟨⟨v, rfl⟩, h2.1, h2.2, (hsame.setVm s.vm).mono hC hS'⟩
/-- a value comes back -/
theorem own_ret (X : Stand p l e R s m args below meth c T locs cells slots) (hx : p.tables.exec = Jvm.exec) (hlk : meth.locks = false) {t : FieldType} (hret : meth.sig.returnType = some t) {i : Instr} {w : Value} (hn : narrow t w = w)
    (hi : (i = .ireturn ∧ (t = .int ∨ t = .boolean ∨ t = .byte ∨ t = .char ∨ t = .short) ∧ ∃ z, w = .int z) ∨ (i = .lreturn ∧ t = .long ∧ ∃ z, w = .long z) ∨ (i = .dreturn ∧ t = .double ∧ ∃ z, w = .double z) ∨ (i = .freturn ∧ t = .float ∧ ∃ z, w = .float z) ∨ (i = .areturn ∧ t.isReference = true ∧ w.isRef = true))
    {pc : Nat} {Ls : Array Slot} {rest : List Value} (hd : decode c.code pc = .ok (i, 1)) (hC : cells ≤ C) (hS : slots ≤ S) {h : Heap} (eT : T.heap = h) (hQ : Q (some w) h locs) : Goes p e below (Done s C S Q) T (mkF m pc Ls (w :: rest)) := by
  obtain ⟨fs, hr, hrun, hended, hW, hsame⟩ := X.leave (v := some w) (fun h => by rw [hret] at h; cases h)
  subst eT
  exact ⟨_, _, retOut X hx hret hn hi hd hr, hrun, hended, _, _, rfl, hQ, ⟨_, rfl⟩, hW, hsame.mono hC hS⟩
theorem own_retI (X : Stand p l e R s m args below meth c T locs cells slots) (hx : p.tables.exec = Jvm.exec) (hlk : meth.locks = false) (hret : meth.sig.returnType = some .int) {z : Int32}
    {pc : Nat} {Ls : Array Slot} {rest : List Value} (hd : decode c.code pc = .ok (.ireturn, 1)) (hC : cells ≤ C) (hS : slots ≤ S) {h : Heap} (eT : T.heap = h) (hQ : Q (some (.int z)) h locs) : Goes p e below (Done s C S Q) T (mkF m pc Ls (.int z :: rest)) :=
  own_ret X hx hlk hret rfl (Or.inl ⟨rfl, Or.inl rfl, z, rfl⟩) hd hC hS eT hQ
theorem own_retZ (X : Stand p l e R s m args below meth c T locs cells slots) (hx : p.tables.exec = Jvm.exec) (hlk : meth.locks = false) (hret : meth.sig.returnType = some .boolean) {z : Int32} (hn : narrow .boolean (.int z) = .int z)
    {pc : Nat} {Ls : Array Slot} {rest : List Value} (hd : decode c.code pc = .ok (.ireturn, 1)) (hC : cells ≤ C) (hS : slots ≤ S) {h : Heap} (eT : T.heap = h) (hQ : Q (some (.int z)) h locs) : Goes p e below (Done s C S Q) T (mkF m pc Ls (.int z :: rest)) :=
  own_ret X hx hlk hret hn (Or.inl ⟨rfl, Or.inr (Or.inl rfl), z, rfl⟩) hd hC hS eT hQ
theorem own_retJ (X : Stand p l e R s m args below meth c T locs cells slots) (hx : p.tables.exec = Jvm.exec) (hlk : meth.locks = false) (hret : meth.sig.returnType = some .long) {z : Int64}
    {pc : Nat} {Ls : Array Slot} {rest : List Value} (hd : decode c.code pc = .ok (.lreturn, 1)) (hC : cells ≤ C) (hS : slots ≤ S) {h : Heap} (eT : T.heap = h) (hQ : Q (some (.long z)) h locs) : Goes p e below (Done s C S Q) T (mkF m pc Ls (.long z :: rest)) :=
  own_ret X hx hlk hret rfl (Or.inr (Or.inl ⟨rfl, rfl, z, rfl⟩)) hd hC hS eT hQ
theorem own_narR {t : FieldType} {w : Value} (hw : w.isRef = true) : narrow t w = w := by
  rcases ref_cases hw with rfl | ⟨a, rfl⟩ <;> cases t <;> rfl
theorem own_retR (X : Stand p l e R s m args below meth c T locs cells slots) (hx : p.tables.exec = Jvm.exec) (hlk : meth.locks = false) {t : FieldType} (hret : meth.sig.returnType = some t) (ht : t.isReference = true) {w : Value} (hw : w.isRef = true)
    {pc : Nat} {Ls : Array Slot} {rest : List Value} (hd : decode c.code pc = .ok (.areturn, 1)) (hC : cells ≤ C) (hS : slots ≤ S) {h : Heap} (eT : T.heap = h) (hQ : Q (some w) h locs) : Goes p e below (Done s C S Q) T (mkF m pc Ls (w :: rest)) :=
  own_ret X hx hlk hret (own_narR hw) (Or.inr (Or.inr (Or.inr (Or.inr ⟨rfl, ht, hw⟩)))) hd hC hS eT hQ
theorem own_retV (X : Stand p l e R s m args below meth c T locs cells slots) (hx : p.tables.exec = Jvm.exec) (hlk : meth.locks = false) (hret : meth.sig.returnType = none)
    {pc : Nat} {Ls : Array Slot} (hd : decode c.code pc = .ok (.return_, 1)) (hC : cells ≤ C) (hS : slots ≤ S) {h : Heap} (eT : T.heap = h) (hQ : Q none h locs) : Goes p e below (Done s C S Q) T (mkF m pc Ls []) := by
  obtain ⟨fs, hr, hrun, hended, hW, hsame⟩ := X.leave (v := none) (fun _ => rfl)
  subst eT
  exact ⟨_, _, X.returnOut hx hret hd hr, hrun, hended, _, _, rfl, hQ, ⟨_, rfl⟩, hW, hsame.mono hC hS⟩
theorem own_retW {vm0 : Vm} {k0 : Nat} (X : Stand p l e R (s.setVm vm0) m args below meth c T locs cells slots) (hx : p.tables.exec = Jvm.exec) (hS : s.Since vm0 k0) (hlk : meth.locks = false) {t : FieldType} (hret : meth.sig.returnType = some t) {i : Instr} {w : Value} (hn : narrow t w = w)
    (hi : (i = .ireturn ∧ (t = .int ∨ t = .boolean ∨ t = .byte ∨ t = .char ∨ t = .short) ∧ ∃ z, w = .int z) ∨ (i = .lreturn ∧ t = .long ∧ ∃ z, w = .long z) ∨ (i = .dreturn ∧ t = .double ∧ ∃ z, w = .double z) ∨ (i = .freturn ∧ t = .float ∧ ∃ z, w = .float z) ∨ (i = .areturn ∧ t.isReference = true ∧ w.isRef = true))
    {pc : Nat} {Ls : Array Slot} {rest : List Value} (hd : decode c.code pc = .ok (i, 1)) (hC : cells ≤ C) (hS' : slots ≤ S) {h : Heap} (eT : T.heap = h) (hk : k0 ≤ h.size) (hQ : Q (some w) h locs) : Goes p e below (DoneW s C S Q) T (mkF m pc Ls (w :: rest)) := by
  obtain ⟨fs, hr, hrun, hended, hW, hsame⟩ := X.leave (v := some w) (fun h => by rw [hret] at h; cases h)
  subst eT
  exact ⟨_, _, retOut X hx hret hn hi hd hr, hrun, hended, _, _, rfl, hQ, own_wend hS hk hW hsame hC hS'⟩
theorem own_retWI {vm0 : Vm} {k0 : Nat} (X : Stand p l e R (s.setVm vm0) m args below meth c T locs cells slots) (hx : p.tables.exec = Jvm.exec) (hS : s.Since vm0 k0) (hlk : meth.locks = false) (hret : meth.sig.returnType = some .int) {z : Int32}
    {pc : Nat} {Ls : Array Slot} {rest : List Value} (hd : decode c.code pc = .ok (.ireturn, 1)) (hC : cells ≤ C) (hS' : slots ≤ S) {h : Heap} (eT : T.heap = h) (hk : k0 ≤ h.size) (hQ : Q (some (.int z)) h locs) : Goes p e below (DoneW s C S Q) T (mkF m pc Ls (.int z :: rest)) :=
  own_retW X hx hS hlk hret rfl (Or.inl ⟨rfl, Or.inl rfl, z, rfl⟩) hd hC hS' eT hk hQ
theorem own_retWZ {vm0 : Vm} {k0 : Nat} (X : Stand p l e R (s.setVm vm0) m args below meth c T locs cells slots) (hx : p.tables.exec = Jvm.exec) (hS : s.Since vm0 k0) (hlk : meth.locks = false) (hret : meth.sig.returnType = some .boolean) {z : Int32} (hn : narrow .boolean (.int z) = .int z)
    {pc : Nat} {Ls : Array Slot} {rest : List Value} (hd : decode c.code pc = .ok (.ireturn, 1)) (hC : cells ≤ C) (hS' : slots ≤ S) {h : Heap} (eT : T.heap = h) (hk : k0 ≤ h.size) (hQ : Q (some (.int z)) h locs) : Goes p e below (DoneW s C S Q) T (mkF m pc Ls (.int z :: rest)) :=
  own_retW X hx hS hlk hret hn (Or.inl ⟨rfl, Or.inr (Or.inl rfl), z, rfl⟩) hd hC hS' eT hk hQ
theorem own_retWR {vm0 : Vm} {k0 : Nat} (X : Stand p l e R (s.setVm vm0) m args below meth c T locs cells slots) (hx : p.tables.exec = Jvm.exec) (hS : s.Since vm0 k0) (hlk : meth.locks = false) {t : FieldType} (hret : meth.sig.returnType = some t) (ht : t.isReference = true) {w : Value} (hw : w.isRef = true)
    {pc : Nat} {Ls : Array Slot} {rest : List Value} (hd : decode c.code pc = .ok (.areturn, 1)) (hC : cells ≤ C) (hS' : slots ≤ S) {h : Heap} (eT : T.heap = h) (hk : k0 ≤ h.size) (hQ : Q (some w) h locs) : Goes p e below (DoneW s C S Q) T (mkF m pc Ls (w :: rest)) :=
  own_retW X hx hS hlk hret (own_narR hw) (Or.inr (Or.inr (Or.inr (Or.inr ⟨rfl, ht, hw⟩)))) hd hC hS' eT hk hQ
theorem own_retWV {vm0 : Vm} {k0 : Nat} (X : Stand p l e R (s.setVm vm0) m args below meth c T locs cells slots) (hx : p.tables.exec = Jvm.exec) (hS : s.Since vm0 k0) (hlk : meth.locks = false) (hret : meth.sig.returnType = none)
    {pc : Nat} {Ls : Array Slot} (hd : decode c.code pc = .ok (.return_, 1)) (hC : cells ≤ C) (hS' : slots ≤ S) {h : Heap} (eT : T.heap = h) (hk : k0 ≤ h.size) (hQ : Q none h locs) : Goes p e below (DoneW s C S Q) T (mkF m pc Ls []) := by
  obtain ⟨fs, hr, hrun, hended, hW, hsame⟩ := X.leave (v := none) (fun _ => rfl)
  subst eT
  exact ⟨_, _, X.returnOut hx hret hd hr, hrun, hended, _, _, rfl, hQ, own_wend hS hk hW hsame hC hS'⟩
/-- the entry -/
theorem own_enter {s₁ : State} {maxL : Nat} {as' : Array Value} {Ls : Array Slot} (hE : entryFrame m as' maxL = mkF m 0 Ls []) (h : Goes p e below P s₁ (mkF m 0 Ls [])) :
    ∃ s₂ o, Steps p.tables e below (s₁.setTop (entryFrame m as' maxL)) s₂ ∧ s₂.status = .running ∧ Ended s₂ below o ∧ P o s₂ := by
  rw [hE]; exact h
section Steps1
variable {pc : Nat} {Ls : Array Slot} {rest : List Value}
theorem own_iadd (X : Stand p l e R s m args below meth c T locs cells slots) (hx : p.tables.exec = Jvm.exec) (pc' : Nat) (hp : pc + 1 = pc') {x y z : Int32} (hd : decode c.code pc = .ok (.iadd, 1)) (hz : x + y = z) (h : Goes p e below P T (mkF m pc' Ls (.int z :: rest))) : Goes p e below P T (mkF m pc Ls (.int y :: .int x :: rest)) := by
  subst hp; subst hz; exact Goes.go (fun _ k => XS.iadd X.here hx rfl hd rfl k) h
theorem own_isub (X : Stand p l e R s m args below meth c T locs cells slots) (hx : p.tables.exec = Jvm.exec) (pc' : Nat) (hp : pc + 1 = pc') {x y z : Int32} (hd : decode c.code pc = .ok (.isub, 1)) (hz : x - y = z) (h : Goes p e below P T (mkF m pc' Ls (.int z :: rest))) : Goes p e below P T (mkF m pc Ls (.int y :: .int x :: rest)) := by
  subst hp; subst hz; exact Goes.go (fun _ k => XS.isub X.here hx rfl hd rfl k) h
theorem own_imul (X : Stand p l e R s m args below meth c T locs cells slots) (hx : p.tables.exec = Jvm.exec) (pc' : Nat) (hp : pc + 1 = pc') {x y z : Int32} (hd : decode c.code pc = .ok (.imul, 1)) (hz : x * y = z) (h : Goes p e below P T (mkF m pc' Ls (.int z :: rest))) : Goes p e below P T (mkF m pc Ls (.int y :: .int x :: rest)) := by
  subst hp; subst hz; exact Goes.go (fun _ k => XS.imul X.here hx rfl hd rfl k) h
theorem own_iand (X : Stand p l e R s m args below meth c T locs cells slots) (hx : p.tables.exec = Jvm.exec) (pc' : Nat) (hp : pc + 1 = pc') {x y z : Int32} (hd : decode c.code pc = .ok (.iand, 1)) (hz : x &&& y = z) (h : Goes p e below P T (mkF m pc' Ls (.int z :: rest))) : Goes p e below P T (mkF m pc Ls (.int y :: .int x :: rest)) := by
  subst hp; subst hz; exact Goes.go (fun _ k => XS.iand X.here hx rfl hd rfl k) h
theorem own_ior (X : Stand p l e R s m args below meth c T locs cells slots) (hx : p.tables.exec = Jvm.exec) (pc' : Nat) (hp : pc + 1 = pc') {x y z : Int32} (hd : decode c.code pc = .ok (.ior, 1)) (hz : x ||| y = z) (h : Goes p e below P T (mkF m pc' Ls (.int z :: rest))) : Goes p e below P T (mkF m pc Ls (.int y :: .int x :: rest)) := by
  subst hp; subst hz; exact Goes.go (fun _ k => XS.ior X.here hx rfl hd rfl k) h
theorem own_ixor (X : Stand p l e R s m args below meth c T locs cells slots) (hx : p.tables.exec = Jvm.exec) (pc' : Nat) (hp : pc + 1 = pc') {x y z : Int32} (hd : decode c.code pc = .ok (.ixor, 1)) (hz : x ^^^ y = z) (h : Goes p e below P T (mkF m pc' Ls (.int z :: rest))) : Goes p e below P T (mkF m pc Ls (.int y :: .int x :: rest)) := by
  subst hp; subst hz; exact Goes.go (fun _ k => XS.ixor X.here hx rfl hd rfl k) h
theorem own_idiv (X : Stand p l e R s m args below meth c T locs cells slots) (hx : p.tables.exec = Jvm.exec) (pc' : Nat) (hp : pc + 1 = pc') {x y z : Int32} (hd : decode c.code pc = .ok (.idiv, 1)) (hy : y ≠ 0) (hz : x / y = z) (h : Goes p e below P T (mkF m pc' Ls (.int z :: rest))) : Goes p e below P T (mkF m pc Ls (.int y :: .int x :: rest)) := by
  subst hp; subst hz; exact Goes.go (fun _ k => XS.idiv X.here hx rfl hd rfl hy k) h
theorem own_ishl (X : Stand p l e R s m args below meth c T locs cells slots) (hx : p.tables.exec = Jvm.exec) (pc' : Nat) (hp : pc + 1 = pc') {x z : Int32} {y : Int32} (hd : decode c.code pc = .ok (.ishl, 1)) (hz : (x <<< (y &&& 31)) = z) (h : Goes p e below P T (mkF m pc' Ls (.int z :: rest))) : Goes p e below P T (mkF m pc Ls (.int y :: .int x :: rest)) := by
  subst hp; subst hz; exact Goes.go (fun _ k => XS.ishl X.here hx rfl hd rfl k) h
theorem own_ishr (X : Stand p l e R s m args below meth c T locs cells slots) (hx : p.tables.exec = Jvm.exec) (pc' : Nat) (hp : pc + 1 = pc') {x z : Int32} {y : Int32} (hd : decode c.code pc = .ok (.ishr, 1)) (hz : (x >>> (y &&& 31)) = z) (h : Goes p e below P T (mkF m pc' Ls (.int z :: rest))) : Goes p e below P T (mkF m pc Ls (.int y :: .int x :: rest)) := by
  subst hp; subst hz; exact Goes.go (fun _ k => XS.ishr X.here hx rfl hd rfl k) h
theorem own_iushr (X : Stand p l e R s m args below meth c T locs cells slots) (hx : p.tables.exec = Jvm.exec) (pc' : Nat) (hp : pc + 1 = pc') {x z : Int32} {y : Int32} (hd : decode c.code pc = .ok (.iushr, 1)) (hz : ((x.toUInt32 >>> (y &&& 31).toUInt32).toInt32) = z) (h : Goes p e below P T (mkF m pc' Ls (.int z :: rest))) : Goes p e below P T (mkF m pc Ls (.int y :: .int x :: rest)) := by
  subst hp; subst hz; exact Goes.go (fun _ k => XS.iushr X.here hx rfl hd rfl k) h
theorem own_ladd (X : Stand p l e R s m args below meth c T locs cells slots) (hx : p.tables.exec = Jvm.exec) (pc' : Nat) (hp : pc + 1 = pc') {x y z : Int64} (hd : decode c.code pc = .ok (.ladd, 1)) (hz : x + y = z) (h : Goes p e below P T (mkF m pc' Ls (.long z :: rest))) : Goes p e below P T (mkF m pc Ls (.long y :: .long x :: rest)) := by
  subst hp; subst hz; exact Goes.go (fun _ k => XS.ladd X.here hx rfl hd rfl k) h
theorem own_lsub (X : Stand p l e R s m args below meth c T locs cells slots) (hx : p.tables.exec = Jvm.exec) (pc' : Nat) (hp : pc + 1 = pc') {x y z : Int64} (hd : decode c.code pc = .ok (.lsub, 1)) (hz : x - y = z) (h : Goes p e below P T (mkF m pc' Ls (.long z :: rest))) : Goes p e below P T (mkF m pc Ls (.long y :: .long x :: rest)) := by
  subst hp; subst hz; exact Goes.go (fun _ k => XS.lsub X.here hx rfl hd rfl k) h
theorem own_lmul (X : Stand p l e R s m args below meth c T locs cells slots) (hx : p.tables.exec = Jvm.exec) (pc' : Nat) (hp : pc + 1 = pc') {x y z : Int64} (hd : decode c.code pc = .ok (.lmul, 1)) (hz : x * y = z) (h : Goes p e below P T (mkF m pc' Ls (.long z :: rest))) : Goes p e below P T (mkF m pc Ls (.long y :: .long x :: rest)) := by
  subst hp; subst hz; exact Goes.go (fun _ k => XS.lmul X.here hx rfl hd rfl k) h
theorem own_land (X : Stand p l e R s m args below meth c T locs cells slots) (hx : p.tables.exec = Jvm.exec) (pc' : Nat) (hp : pc + 1 = pc') {x y z : Int64} (hd : decode c.code pc = .ok (.land, 1)) (hz : x &&& y = z) (h : Goes p e below P T (mkF m pc' Ls (.long z :: rest))) : Goes p e below P T (mkF m pc Ls (.long y :: .long x :: rest)) := by
  subst hp; subst hz; exact Goes.go (fun _ k => XS.land X.here hx rfl hd rfl k) h
theorem own_lor (X : Stand p l e R s m args below meth c T locs cells slots) (hx : p.tables.exec = Jvm.exec) (pc' : Nat) (hp : pc + 1 = pc') {x y z : Int64} (hd : decode c.code pc = .ok (.lor, 1)) (hz : x ||| y = z) (h : Goes p e below P T (mkF m pc' Ls (.long z :: rest))) : Goes p e below P T (mkF m pc Ls (.long y :: .long x :: rest)) := by
  subst hp; subst hz; exact Goes.go (fun _ k => XS.lor X.here hx rfl hd rfl k) h
theorem own_lxor (X : Stand p l e R s m args below meth c T locs cells slots) (hx : p.tables.exec = Jvm.exec) (pc' : Nat) (hp : pc + 1 = pc') {x y z : Int64} (hd : decode c.code pc = .ok (.lxor, 1)) (hz : x ^^^ y = z) (h : Goes p e below P T (mkF m pc' Ls (.long z :: rest))) : Goes p e below P T (mkF m pc Ls (.long y :: .long x :: rest)) := by
  subst hp; subst hz; exact Goes.go (fun _ k => XS.lxor X.here hx rfl hd rfl k) h
theorem own_ldiv (X : Stand p l e R s m args below meth c T locs cells slots) (hx : p.tables.exec = Jvm.exec) (pc' : Nat) (hp : pc + 1 = pc') {x y z : Int64} (hd : decode c.code pc = .ok (.ldiv, 1)) (hy : y ≠ 0) (hz : x / y = z) (h : Goes p e below P T (mkF m pc' Ls (.long z :: rest))) : Goes p e below P T (mkF m pc Ls (.long y :: .long x :: rest)) := by
  subst hp; subst hz; exact Goes.go (fun _ k => XS.ldiv X.here hx rfl hd rfl hy k) h
theorem own_lshl (X : Stand p l e R s m args below meth c T locs cells slots) (hx : p.tables.exec = Jvm.exec) (pc' : Nat) (hp : pc + 1 = pc') {x z : Int64} {y : Int32} (hd : decode c.code pc = .ok (.lshl, 1)) (hz : (x <<< (y &&& 0x3f).toInt64) = z) (h : Goes p e below P T (mkF m pc' Ls (.long z :: rest))) : Goes p e below P T (mkF m pc Ls (.int y :: .long x :: rest)) := by
  subst hp; subst hz; exact Goes.go (fun _ k => XS.lshl X.here hx rfl hd rfl k) h
theorem own_lshr (X : Stand p l e R s m args below meth c T locs cells slots) (hx : p.tables.exec = Jvm.exec) (pc' : Nat) (hp : pc + 1 = pc') {x z : Int64} {y : Int32} (hd : decode c.code pc = .ok (.lshr, 1)) (hz : (x >>> (y &&& 0x3f).toInt64) = z) (h : Goes p e below P T (mkF m pc' Ls (.long z :: rest))) : Goes p e below P T (mkF m pc Ls (.int y :: .long x :: rest)) := by
  subst hp; subst hz; exact Goes.go (fun _ k => XS.lshr X.here hx rfl hd rfl k) h
theorem own_lushr (X : Stand p l e R s m args below meth c T locs cells slots) (hx : p.tables.exec = Jvm.exec) (pc' : Nat) (hp : pc + 1 = pc') {x z : Int64} {y : Int32} (hd : decode c.code pc = .ok (.lushr, 1)) (hz : ((x.toUInt64 >>> (y &&& 0x3f).toInt64.toUInt64).toInt64) = z) (h : Goes p e below P T (mkF m pc' Ls (.long z :: rest))) : Goes p e below P T (mkF m pc Ls (.int y :: .long x :: rest)) := by
  subst hp; subst hz; exact Goes.go (fun _ k => XS.lushr X.here hx rfl hd rfl k) h
theorem own_irem (X : Stand p l e R s m args below meth c T locs cells slots) (hx : p.tables.exec = Jvm.exec) (pc' : Nat) (hp : pc + 1 = pc') {x y z : Int32} (hd : decode c.code pc = .ok (.irem, 1)) (hy : y ≠ 0) (hz : x % y = z) (h : Goes p e below P T (mkF m pc' Ls (.int z :: rest))) : Goes p e below P T (mkF m pc Ls (.int y :: .int x :: rest)) := by
  subst hp; subst hz; exact Goes.go (fun _ k => iremM X hx rfl hd rfl hy k) h
theorem own_lrem (X : Stand p l e R s m args below meth c T locs cells slots) (hx : p.tables.exec = Jvm.exec) (pc' : Nat) (hp : pc + 1 = pc') {x y z : Int64} (hd : decode c.code pc = .ok (.lrem, 1)) (hy : y ≠ 0) (hz : x % y = z) (h : Goes p e below P T (mkF m pc' Ls (.long z :: rest))) : Goes p e below P T (mkF m pc Ls (.long y :: .long x :: rest)) := by
  subst hp; subst hz; exact Goes.go (fun _ k => XS.lrem X.here hx rfl hd rfl hy (by rw [lrem_mod]; exact k)) h
theorem own_ineg (X : Stand p l e R s m args below meth c T locs cells slots) (hx : p.tables.exec = Jvm.exec) (pc' : Nat) (hp : pc + 1 = pc') {x : Int32} {z : Int32} (hd : decode c.code pc = .ok (.ineg, 1)) (hz : -x = z) (h : Goes p e below P T (mkF m pc' Ls (.int z :: rest))) : Goes p e below P T (mkF m pc Ls (.int x :: rest)) := by
  subst hp; subst hz; exact Goes.go (fun _ k => XS.ineg X.here hx rfl hd rfl k) h
theorem own_lneg (X : Stand p l e R s m args below meth c T locs cells slots) (hx : p.tables.exec = Jvm.exec) (pc' : Nat) (hp : pc + 1 = pc') {x : Int64} {z : Int64} (hd : decode c.code pc = .ok (.lneg, 1)) (hz : -x = z) (h : Goes p e below P T (mkF m pc' Ls (.long z :: rest))) : Goes p e below P T (mkF m pc Ls (.long x :: rest)) := by
  subst hp; subst hz; exact Goes.go (fun _ k => XS.lneg X.here hx rfl hd rfl k) h
theorem own_i2l (X : Stand p l e R s m args below meth c T locs cells slots) (hx : p.tables.exec = Jvm.exec) (pc' : Nat) (hp : pc + 1 = pc') {x : Int32} {z : Int64} (hd : decode c.code pc = .ok (.i2l, 1)) (hz : x.toInt64 = z) (h : Goes p e below P T (mkF m pc' Ls (.long z :: rest))) : Goes p e below P T (mkF m pc Ls (.int x :: rest)) := by
  subst hp; subst hz; exact Goes.go (fun _ k => XS.i2l X.here hx rfl hd rfl k) h
theorem own_l2i (X : Stand p l e R s m args below meth c T locs cells slots) (hx : p.tables.exec = Jvm.exec) (pc' : Nat) (hp : pc + 1 = pc') {x : Int64} {z : Int32} (hd : decode c.code pc = .ok (.l2i, 1)) (hz : x.toInt32 = z) (h : Goes p e below P T (mkF m pc' Ls (.int z :: rest))) : Goes p e below P T (mkF m pc Ls (.long x :: rest)) := by
  subst hp; subst hz; exact Goes.go (fun _ k => XS.l2i X.here hx rfl hd rfl k) h
theorem own_i2b (X : Stand p l e R s m args below meth c T locs cells slots) (hx : p.tables.exec = Jvm.exec) (pc' : Nat) (hp : pc + 1 = pc') {x : Int32} {z : Int32} (hd : decode c.code pc = .ok (.i2b, 1)) (hz : x.toInt8.toInt32 = z) (h : Goes p e below P T (mkF m pc' Ls (.int z :: rest))) : Goes p e below P T (mkF m pc Ls (.int x :: rest)) := by
  subst hp; subst hz; exact Goes.go (fun _ k => XS.i2b X.here hx rfl hd rfl k) h
theorem own_i2s (X : Stand p l e R s m args below meth c T locs cells slots) (hx : p.tables.exec = Jvm.exec) (pc' : Nat) (hp : pc + 1 = pc') {x : Int32} {z : Int32} (hd : decode c.code pc = .ok (.i2s, 1)) (hz : x.toInt16.toInt32 = z) (h : Goes p e below P T (mkF m pc' Ls (.int z :: rest))) : Goes p e below P T (mkF m pc Ls (.int x :: rest)) := by
  subst hp; subst hz; exact Goes.go (fun _ k => XS.i2s X.here hx rfl hd rfl k) h
theorem own_i2c (X : Stand p l e R s m args below meth c T locs cells slots) (hx : p.tables.exec = Jvm.exec) (pc' : Nat) (hp : pc + 1 = pc') {x : Int32} {z : Int32} (hd : decode c.code pc = .ok (.i2c, 1)) (hz : x.toUInt32.toUInt16.toUInt32.toInt32 = z) (h : Goes p e below P T (mkF m pc' Ls (.int z :: rest))) : Goes p e below P T (mkF m pc Ls (.int x :: rest)) := by
  subst hp; subst hz; exact Goes.go (fun _ k => XS.i2c X.here hx rfl hd rfl k) h
theorem own_lcmp (X : Stand p l e R s m args below meth c T locs cells slots) (hx : p.tables.exec = Jvm.exec) (pc' : Nat) (hp : pc + 1 = pc') {x y : Int64} (hd : decode c.code pc = .ok (.lcmp, 1))  (h : Goes p e below P T (mkF m pc' Ls (.int (lcmpW x y) :: rest))) : Goes p e below P T (mkF m pc Ls (.long y :: .long x :: rest)) := by
  subst hp; exact Goes.go (fun _ k => XS.lcmp X.here hx rfl hd rfl k) h
theorem own_iload (X : Stand p l e R s m args below meth c T locs cells slots) (hx : p.tables.exec = Jvm.exec) (pc' : Nat) (hp : pc + 2 = pc') {k : Nat} {v : Int32} (hd : decode c.code pc = .ok (.iload k, 2)) (hl : Ls[k]? = some (.val (.int v))) (h : Goes p e below P T (mkF m pc' Ls ((.int v) :: rest))) : Goes p e below P T (mkF m pc Ls rest) := by
  subst hp; exact Goes.go (fun _ k => XS.iload X.here hx rfl hd hl k) h
theorem own_iloadN (X : Stand p l e R s m args below meth c T locs cells slots) (hx : p.tables.exec = Jvm.exec) (pc' : Nat) (hp : pc + 1 = pc') {k : Fin 4} {v : Int32} (hd : decode c.code pc = .ok (.iload_n k, 1)) (hl : Ls[k.val]? = some (.val (.int v))) (h : Goes p e below P T (mkF m pc' Ls ((.int v) :: rest))) : Goes p e below P T (mkF m pc Ls rest) := by
  subst hp; exact Goes.go (fun _ k => XS.iloadN X.here hx rfl hd hl k) h
theorem own_istore (X : Stand p l e R s m args below meth c T locs cells slots) (hx : p.tables.exec = Jvm.exec) (pc' : Nat) (hp : pc + 2 = pc') {k : Nat} {v : Int32} (Ls' : Array Slot) (hd : decode c.code pc = .ok (.istore k, 2)) (hl : storeLocals Ls k (.int v) = some Ls') (h : Goes p e below P T (mkF m pc' Ls' rest)) : Goes p e below P T (mkF m pc Ls ((.int v) :: rest)) := by
  subst hp; exact Goes.go (fun _ k => XS.istore X.here hx rfl hd rfl hl k) h
theorem own_istoreN (X : Stand p l e R s m args below meth c T locs cells slots) (hx : p.tables.exec = Jvm.exec) (pc' : Nat) (hp : pc + 1 = pc') {k : Fin 4} {v : Int32} (Ls' : Array Slot) (hd : decode c.code pc = .ok (.istore_n k, 1)) (hl : storeLocals Ls k.val (.int v) = some Ls') (h : Goes p e below P T (mkF m pc' Ls' rest)) : Goes p e below P T (mkF m pc Ls ((.int v) :: rest)) := by
  subst hp; exact Goes.go (fun _ k => XS.istoreN X.here hx rfl hd rfl hl k) h
theorem own_lload (X : Stand p l e R s m args below meth c T locs cells slots) (hx : p.tables.exec = Jvm.exec) (pc' : Nat) (hp : pc + 2 = pc') {k : Nat} {v : Int64} (hd : decode c.code pc = .ok (.lload k, 2)) (hl : Ls[k]? = some (.val (.long v))) (h : Goes p e below P T (mkF m pc' Ls ((.long v) :: rest))) : Goes p e below P T (mkF m pc Ls rest) := by
  subst hp; exact Goes.go (fun _ k => XS.lload X.here hx rfl hd hl k) h
theorem own_lloadN (X : Stand p l e R s m args below meth c T locs cells slots) (hx : p.tables.exec = Jvm.exec) (pc' : Nat) (hp : pc + 1 = pc') {k : Fin 4} {v : Int64} (hd : decode c.code pc = .ok (.lload_n k, 1)) (hl : Ls[k.val]? = some (.val (.long v))) (h : Goes p e below P T (mkF m pc' Ls ((.long v) :: rest))) : Goes p e below P T (mkF m pc Ls rest) := by
  subst hp; exact Goes.go (fun _ k => XS.lloadN X.here hx rfl hd hl k) h
theorem own_lstore (X : Stand p l e R s m args below meth c T locs cells slots) (hx : p.tables.exec = Jvm.exec) (pc' : Nat) (hp : pc + 2 = pc') {k : Nat} {v : Int64} (Ls' : Array Slot) (hd : decode c.code pc = .ok (.lstore k, 2)) (hl : storeLocals Ls k (.long v) = some Ls') (h : Goes p e below P T (mkF m pc' Ls' rest)) : Goes p e below P T (mkF m pc Ls ((.long v) :: rest)) := by
  subst hp; exact Goes.go (fun _ k => XS.lstore X.here hx rfl hd rfl hl k) h
theorem own_lstoreN (X : Stand p l e R s m args below meth c T locs cells slots) (hx : p.tables.exec = Jvm.exec) (pc' : Nat) (hp : pc + 1 = pc') {k : Fin 4} {v : Int64} (Ls' : Array Slot) (hd : decode c.code pc = .ok (.lstore_n k, 1)) (hl : storeLocals Ls k.val (.long v) = some Ls') (h : Goes p e below P T (mkF m pc' Ls' rest)) : Goes p e below P T (mkF m pc Ls ((.long v) :: rest)) := by
  subst hp; exact Goes.go (fun _ k => XS.lstoreN X.here hx rfl hd rfl hl k) h
theorem own_aload (X : Stand p l e R s m args below meth c T locs cells slots) (hx : p.tables.exec = Jvm.exec) (pc' : Nat) (hp : pc + 2 = pc') {k : Nat} {v : Value} (hd : decode c.code pc = .ok (.aload k, 2)) (hl : Ls[k]? = some (.val v)) (hv : v.isRef = true) (h : Goes p e below P T (mkF m pc' Ls (v :: rest))) : Goes p e below P T (mkF m pc Ls rest) := by
  subst hp; exact Goes.go (fun _ k => XS.aload X.here hx rfl hd hl hv k) h
theorem own_aloadN (X : Stand p l e R s m args below meth c T locs cells slots) (hx : p.tables.exec = Jvm.exec) (pc' : Nat) (hp : pc + 1 = pc') {k : Fin 4} {v : Value} (hd : decode c.code pc = .ok (.aload_n k, 1)) (hl : Ls[k.val]? = some (.val v)) (hv : v.isRef = true) (h : Goes p e below P T (mkF m pc' Ls (v :: rest))) : Goes p e below P T (mkF m pc Ls rest) := by
  subst hp; exact Goes.go (fun _ k => XS.aloadN X.here hx rfl hd hl hv k) h
theorem own_astore (X : Stand p l e R s m args below meth c T locs cells slots) (hx : p.tables.exec = Jvm.exec) (pc' : Nat) (hp : pc + 2 = pc') {k : Nat} {v : Value} (Ls' : Array Slot) (hd : decode c.code pc = .ok (.astore k, 2)) (hl : storeLocals Ls k v = some Ls') (hv : v.isRef = true) (h : Goes p e below P T (mkF m pc' Ls' rest)) : Goes p e below P T (mkF m pc Ls (v :: rest)) := by
  subst hp; exact Goes.go (fun _ k => XS.astore X.here hx rfl hd rfl hv hl k) h
theorem own_astoreN (X : Stand p l e R s m args below meth c T locs cells slots) (hx : p.tables.exec = Jvm.exec) (pc' : Nat) (hp : pc + 1 = pc') {k : Fin 4} {v : Value} (Ls' : Array Slot) (hd : decode c.code pc = .ok (.astore_n k, 1)) (hl : storeLocals Ls k.val v = some Ls') (hv : v.isRef = true) (h : Goes p e below P T (mkF m pc' Ls' rest)) : Goes p e below P T (mkF m pc Ls (v :: rest)) := by
  subst hp; exact Goes.go (fun _ k => XS.astoreN X.here hx rfl hd rfl hv hl k) h
theorem own_iconst (X : Stand p l e R s m args below meth c T locs cells slots) (hx : p.tables.exec = Jvm.exec) (pc' : Nat) (hp : pc + 1 = pc') {i : Int} (v : Int32) (hd : decode c.code pc = .ok (.iconst i, 1)) (hv : Int32.ofInt i = v) (h : Goes p e below P T (mkF m pc' Ls (.int v :: rest))) : Goes p e below P T (mkF m pc Ls rest) := by
  subst hp; subst hv; exact Goes.go (fun _ k => XS.iconst X.here hx rfl hd k) h
theorem own_bipush (X : Stand p l e R s m args below meth c T locs cells slots) (hx : p.tables.exec = Jvm.exec) (pc' : Nat) (hp : pc + 2 = pc') {i : Int} (v : Int32) (hd : decode c.code pc = .ok (.bipush i, 2)) (hv : (Int8.ofInt i).toInt32 = v) (h : Goes p e below P T (mkF m pc' Ls (.int v :: rest))) : Goes p e below P T (mkF m pc Ls rest) := by
  subst hp; subst hv; exact Goes.go (fun _ k => XS.bipush X.here hx rfl hd k) h
theorem own_sipush (X : Stand p l e R s m args below meth c T locs cells slots) (hx : p.tables.exec = Jvm.exec) (pc' : Nat) (hp : pc + 3 = pc') {i : Int} (v : Int32) (hd : decode c.code pc = .ok (.sipush i, 3)) (hv : (Int16.ofInt i).toInt32 = v) (h : Goes p e below P T (mkF m pc' Ls (.int v :: rest))) : Goes p e below P T (mkF m pc Ls rest) := by
  subst hp; subst hv; exact Goes.go (fun _ k => XS.sipush X.here hx rfl hd k) h
theorem own_lconst (X : Stand p l e R s m args below meth c T locs cells slots) (hx : p.tables.exec = Jvm.exec) (pc' : Nat) (hp : pc + 1 = pc') {i : Fin 2} (v : Int64) (hd : decode c.code pc = .ok (.lconst i, 1)) (hv : Int64.ofNat i = v) (h : Goes p e below P T (mkF m pc' Ls (.long v :: rest))) : Goes p e below P T (mkF m pc Ls rest) := by
  subst hp; subst hv; exact Goes.go (fun _ k => XS.lconst X.here hx rfl hd k) h
theorem own_aconst_null (X : Stand p l e R s m args below meth c T locs cells slots) (hx : p.tables.exec = Jvm.exec) (pc' : Nat) (hp : pc + 1 = pc')  (hd : decode c.code pc = .ok (.aconst_null, 1))  (h : Goes p e below P T (mkF m pc' Ls (.null :: rest))) : Goes p e below P T (mkF m pc Ls rest) := by
  subst hp; exact Goes.go (fun _ k => XS.aconstNull X.here hx rfl hd k) h
theorem own_dup (X : Stand p l e R s m args below meth c T locs cells slots) (hx : p.tables.exec = Jvm.exec) (pc' : Nat) (hp : pc + 1 = pc') {v : Value} (hd : decode c.code pc = .ok (.dup, 1)) (hc : v.category = 1) (h : Goes p e below P T (mkF m pc' Ls (v :: v :: rest))) : Goes p e below P T (mkF m pc Ls (v :: rest)) := by
  subst hp; exact Goes.go (fun _ k => XS.dup X.here hx rfl hd rfl hc k) h
theorem own_pop (X : Stand p l e R s m args below meth c T locs cells slots) (hx : p.tables.exec = Jvm.exec) (pc' : Nat) (hp : pc + 1 = pc') {v : Value} (hd : decode c.code pc = .ok (.pop, 1)) (hc : v.category = 1) (h : Goes p e below P T (mkF m pc' Ls rest)) : Goes p e below P T (mkF m pc Ls (v :: rest)) := by
  subst hp; exact Goes.go (fun _ k => XS.pop X.here hx rfl hd rfl hc k) h
theorem own_dup_x1 (X : Stand p l e R s m args below meth c T locs cells slots) (hx : p.tables.exec = Jvm.exec) (pc' : Nat) (hp : pc + 1 = pc') {v w : Value} (hd : decode c.code pc = .ok (.dup_x1, 1)) (hc : v.category = 1) (hc' : w.category = 1) (h : Goes p e below P T (mkF m pc' Ls (v :: w :: v :: rest))) : Goes p e below P T (mkF m pc Ls (v :: w :: rest)) := by
  subst hp; exact Goes.go (fun _ k => XS.dupX1 X.here hx rfl hd rfl hc hc' k) h
theorem own_dup2L (X : Stand p l e R s m args below meth c T locs cells slots) (hx : p.tables.exec = Jvm.exec) (pc' : Nat) (hp : pc + 1 = pc') {v : Int64} (hd : decode c.code pc = .ok (.dup2, 1))  (h : Goes p e below P T (mkF m pc' Ls (.long v :: .long v :: rest))) : Goes p e below P T (mkF m pc Ls (.long v :: rest)) := by
  subst hp; exact Goes.go (fun _ k => Jvm.Free.XT.dup2L X.here hx rfl hd rfl k) h
theorem own_dup2 (X : Stand p l e R s m args below meth c T locs cells slots) (hx : p.tables.exec = Jvm.exec) (pc' : Nat) (hp : pc + 1 = pc') {v w : Value} (hd : decode c.code pc = .ok (.dup2, 1)) (hc : v.category = 1) (hc' : w.category = 1) (h : Goes p e below P T (mkF m pc' Ls (v :: w :: v :: w :: rest))) : Goes p e below P T (mkF m pc Ls (v :: w :: rest)) := by
  subst hp; exact Goes.go (fun _ k => Jvm.Free.XT.dup2 X.here hx rfl hd rfl hc hc' k) h
theorem own_iinc (X : Stand p l e R s m args below meth c T locs cells slots) (hx : p.tables.exec = Jvm.exec) (pc' : Nat) (hp : pc + 3 = pc') {k : Nat} {cst : Int} {x z : Int32} (Ls' : Array Slot) (hd : decode c.code pc = .ok (.iinc k cst, 3)) (hl : Ls[k]? = some (.val (.int x))) (hz : x + Int32.ofInt cst = z) (hl' : storeLocals Ls k (.int z) = some Ls') (h : Goes p e below P T (mkF m pc' Ls' rest)) : Goes p e below P T (mkF m pc Ls rest) := by
  subst hp; subst hz; exact Goes.go (fun _ k => XS.iinc X.here hx rfl hd hl hl' k) h
theorem own_goto (X : Stand p l e R s m args below meth c T locs cells slots) (hx : p.tables.exec = Jvm.exec) (pc' : Nat) {o : Int} (hd : decode c.code pc = .ok (.goto o, 3)) (ho : 0 ≤ (pc : Int) + o) (hp : ((pc : Int) + o).toNat = pc') (h : Goes p e below P T (mkF m pc' Ls rest)) : Goes p e below P T (mkF m pc Ls rest) :=
  Goes.go (fun _ k => XS.goto X.here hx rfl rfl hd ho hp k) h
theorem own_ifY (X : Stand p l e R s m args below meth c T locs cells slots) (hx : p.tables.exec = Jvm.exec) (pc' : Nat) {o : Int} {cd : ClassFile.Cond} {x : Int32} (hd : decode c.code pc = .ok (.ifCond cd o, 3)) (hc : ifCond.holds cd x = true) (ho : 0 ≤ (pc : Int) + o) (hp : ((pc : Int) + o).toNat = pc') (h : Goes p e below P T (mkF m pc' Ls rest)) : Goes p e below P T (mkF m pc Ls (.int x :: rest)) :=
  Goes.go (fun _ k => XS.ifYes X.here hx rfl rfl hd rfl hc ho hp k) h
theorem own_ifN (X : Stand p l e R s m args below meth c T locs cells slots) (hx : p.tables.exec = Jvm.exec) (pc' : Nat) {o : Int} {cd : ClassFile.Cond} {x : Int32} (hd : decode c.code pc = .ok (.ifCond cd o, 3)) (hc : ifCond.holds cd x = false) (hp : pc + 3 = pc') (h : Goes p e below P T (mkF m pc' Ls rest)) : Goes p e below P T (mkF m pc Ls (.int x :: rest)) := by
  subst hp; exact Goes.go (fun _ k => XS.ifNo X.here hx rfl hd rfl hc k) h
theorem own_icmpY (X : Stand p l e R s m args below meth c T locs cells slots) (hx : p.tables.exec = Jvm.exec) (pc' : Nat) {o : Int} {cd : ClassFile.Cond} {x y : Int32} (hd : decode c.code pc = .ok (.if_icmp cd o, 3)) (hc : if_icmp.holds cd x y = true) (ho : 0 ≤ (pc : Int) + o) (hp : ((pc : Int) + o).toNat = pc') (h : Goes p e below P T (mkF m pc' Ls rest)) : Goes p e below P T (mkF m pc Ls (.int y :: .int x :: rest)) :=
  Goes.go (fun _ k => XS.icmpYes X.here hx rfl rfl hd rfl hc ho hp k) h
theorem own_icmpN (X : Stand p l e R s m args below meth c T locs cells slots) (hx : p.tables.exec = Jvm.exec) (pc' : Nat) {o : Int} {cd : ClassFile.Cond} {x y : Int32} (hd : decode c.code pc = .ok (.if_icmp cd o, 3)) (hc : if_icmp.holds cd x y = false) (hp : pc + 3 = pc') (h : Goes p e below P T (mkF m pc' Ls rest)) : Goes p e below P T (mkF m pc Ls (.int y :: .int x :: rest)) := by
  subst hp; exact Goes.go (fun _ k => XS.icmpNo X.here hx rfl hd rfl hc k) h
theorem own_acmp (X : Stand p l e R s m args below meth c T locs cells slots) (hx : p.tables.exec = Jvm.exec) (pc' : Nat) {o : Int} {cd : ACond} {x y : Value} {same : Bool} (h1 : x.isRef = true) (h2 : y.isRef = true) (hd : decode c.code pc = .ok (.if_acmp cd o, 3)) (hq : decide (x = y) = same) (ho : 0 ≤ (pc : Int) + o) (hp : pc' = if acV cd same = true then ((pc : Int) + o).toNat else pc + 3) (h : Goes p e below P T (mkF m pc' Ls rest)) : Goes p e below P T (mkF m pc Ls (y :: x :: rest)) :=
  Goes.go (fun _ k => Jvm.RoadKit.acmp (g := mkF m pc Ls (y :: x :: rest)) X hx rfl h1 h2 rfl hd rfl hq ho hp k) h
theorem own_ifnullY (X : Stand p l e R s m args below meth c T locs cells slots) (hx : p.tables.exec = Jvm.exec) (pc' : Nat) {o : Int} (hd : decode c.code pc = .ok (.ifnull o, 3)) (ho : 0 ≤ (pc : Int) + o) (hp : ((pc : Int) + o).toNat = pc') (h : Goes p e below P T (mkF m pc' Ls rest)) : Goes p e below P T (mkF m pc Ls (.null :: rest)) :=
  Goes.go (fun _ k => XS.ifnullYes X.here hx rfl rfl hd rfl ho hp k) h
theorem own_ifnullN (X : Stand p l e R s m args below meth c T locs cells slots) (hx : p.tables.exec = Jvm.exec) (pc' : Nat) {o : Int} {b : Addr} (hd : decode c.code pc = .ok (.ifnull o, 3)) (hp : pc + 3 = pc') (h : Goes p e below P T (mkF m pc' Ls rest)) : Goes p e below P T (mkF m pc Ls (.ref b :: rest)) := by
  subst hp; exact Goes.go (fun _ k => XS.ifnullNo X.here hx rfl hd rfl k) h
theorem own_ifnonnullY (X : Stand p l e R s m args below meth c T locs cells slots) (hx : p.tables.exec = Jvm.exec) (pc' : Nat) {o : Int} {b : Addr} (hd : decode c.code pc = .ok (.ifnonnull o, 3)) (ho : 0 ≤ (pc : Int) + o) (hp : ((pc : Int) + o).toNat = pc') (h : Goes p e below P T (mkF m pc' Ls rest)) : Goes p e below P T (mkF m pc Ls (.ref b :: rest)) :=
  Goes.go (fun _ k => XS.ifnonnullYes X.here hx rfl rfl hd rfl ho hp k) h
theorem own_ifnonnullN (X : Stand p l e R s m args below meth c T locs cells slots) (hx : p.tables.exec = Jvm.exec) (pc' : Nat) {o : Int} (hd : decode c.code pc = .ok (.ifnonnull o, 3)) (hp : pc + 3 = pc') (h : Goes p e below P T (mkF m pc' Ls rest)) : Goes p e below P T (mkF m pc Ls (.null :: rest)) := by
  subst hp; exact Goes.go (fun _ k => XS.ifnonnullNo X.here hx rfl hd rfl k) h
end Steps1
/-- the branches on a long comparison -/
theorem Ltlt {x y : Int64} (h : x < y) : ifCond.holds .lt (lcmpW x y) = true ∧ ifCond.holds .ge (lcmpW x y) = false ∧ ifCond.holds .gt (lcmpW y x) = true ∧ ifCond.holds .le (lcmpW y x) = false :=
  ⟨(if0 _ _).trans (tlt ((lw_lt x y).mpr h)).1, (if0 _ _).trans (tlt ((lw_lt x y).mpr h)).2.1, (if0 _ _).trans (tlt ((lw_gt y x).mpr h)).2.2.1, (if0 _ _).trans (tlt ((lw_gt y x).mpr h)).2.2.2⟩
theorem Lflt {x y : Int64} (h : ¬ x < y) : ifCond.holds .lt (lcmpW x y) = false ∧ ifCond.holds .ge (lcmpW x y) = true ∧ ifCond.holds .gt (lcmpW y x) = false ∧ ifCond.holds .le (lcmpW y x) = true :=
  ⟨(if0 _ _).trans (flt fun q => h ((lw_lt x y).mp q)).1, (if0 _ _).trans (flt fun q => h ((lw_lt x y).mp q)).2.1, (if0 _ _).trans (flt fun q => h ((lw_gt y x).mp q)).2.2.1, (if0 _ _).trans (flt fun q => h ((lw_gt y x).mp q)).2.2.2⟩
theorem Lteq {x y : Int64} (h : x = y) : ifCond.holds .eq (lcmpW x y) = true ∧ ifCond.holds .ne (lcmpW x y) = false :=
  ⟨(if0 _ _).trans (teq ((lw_eq x y).mpr h)).1, (if0 _ _).trans (teq ((lw_eq x y).mpr h)).2⟩
theorem Lfeq {x y : Int64} (h : ¬ x = y) : ifCond.holds .eq (lcmpW x y) = false ∧ ifCond.holds .ne (lcmpW x y) = true :=
  ⟨(if0 _ _).trans (feq fun q => h ((lw_eq x y).mp q)).1, (if0 _ _).trans (feq fun q => h ((lw_eq x y).mp q)).2⟩
theorem Ztlt {x y : Int32} (h : x < y) : if_icmp.holds .lt x y = true ∧ if_icmp.holds .ge x y = false ∧ if_icmp.holds .gt y x = true ∧ if_icmp.holds .le y x = false := tlt h
/-- the pieces of a memory fact -/
theorem own_lt_ne {a b n : Nat} (h : a < n) (g : b = n) : a ≠ b := by omega
end Own
theorem own_eqv {args : Array Value} {s : State} {t u : Term} {v : Value} (hu : u.eval args s none [] s = some v) (h : (Jvm.Cond.eq t u).value args s none s [] = some true) : t.eval args s none [] s = some v := by
  cases ht : t.eval args s none [] s with
  | none => simp [Cond.value, ht] at h
  | some x =>
    simp only [Cond.value, ht, hu] at h
    cases x <;> cases v <;> simp_all
theorem own_fldv {args : Array Value} {s : State} {t u : Term} {a : Addr} {C n d : String} {v : Value} (ev : t.eval args s none [] s = some (.ref a)) (hu : u.eval args s none [] s = some v) (h : (Jvm.Cond.eq (Term.field t C n d) u).value args s none s [] = some true) : s.fieldOf? a C n d = some v :=
  (fld_at ev).symm.trans (own_eqv hu h)
theorem own_sta_keep {Z : State} {h h' : Heap} {C n d : String} {v : Value} {ws : List Addr} (F : Sta Z h C n d v) (K : Keep h h' ws) (q : ∀ x ∈ ws, ∀ cell : Cell, h[x]? = some cell → cell.vm.isStatics = false) : Sta Z h' C n d v := by
  obtain ⟨cf, i, k, f, st, cell, h1, h2, h3, h4, h5, h6, h7⟩ := F
  refine ⟨cf, i, k, f, st, cell, h1, h2, h3, h4, K.2.1 _ _ h5 (fun hm => ?_), h6, h7⟩
  have q1 := q _ hm cell h5
  rw [h6] at q1; cases q1
theorem own_eplain {Z : State} {h : Heap} {a : Addr} {C : String} (F : Exa Z h a C) : ∀ cell : Cell, h[a]? = some cell → cell.vm.isStatics = false := fun cell hc => by
  obtain ⟨c, k, h1, -, -, h4, -⟩ := F; cases h1.symm.trans hc; exact h4
theorem own_rplain {Z : State} {h : Heap} {a : Addr} {c : Cell} {ty : FieldType} (F : Arr Z h a c ty) : ∀ cell : Cell, h[a]? = some cell → cell.vm.isStatics = false := fun cell hc => by
  cases F.1.symm.trans hc; exact F.plain
theorem own_aplain {Z : State} {h : Heap} {a : Addr} {k : ClassId} {ty : FieldType} {n : Int32} {vs : List Value} {dv : Value} (F : Arv Z h a k ty n vs dv) : ∀ cell : Cell, h[a]? = some cell → cell.vm.isStatics = false := by
  obtain ⟨c, A, -⟩ := F; exact own_rplain A
theorem own_selP {s : State} {args : Array Value} {y : MethodName} {n : Nat} (wi : (Jvm.Cond.instantiable y.cls n).before args s = true) (wp : (Jvm.Cond.privateMethod y).before args s = true) (wn : (Jvm.Cond.instanceMethod y).before args s = true) (hy : y.cls ≠ "java/lang/invoke/MethodHandle" ∧ y.cls ≠ "java/lang/invoke/VarHandle") : (Jvm.Cond.selects y.cls y y).before args s = true := by
  obtain ⟨c, k, hc, hk, -, hniab, -, -⟩ := Cond.instantiable_spec wi
  exact Jvm.Stand.selects_self_of_private hc hk (Bool.or_eq_false_iff.mp hniab).1 (Cond.privateMethod_at wp) wn hy
theorem own_fitsR {t : FieldType} {w : Value} (hw : w.isRef = true) (ht : t.isReference = true) : fits t w = true := by
  rcases ref_cases hw with rfl | ⟨a, rfl⟩ <;> cases t <;> first | rfl | (simp [FieldType.isReference] at ht)
theorem own_nz {args : Array Value} {s : State} {t : Term} {cs : Int32} (ev : t.eval args s none [] s = some (.int cs)) (h : (Jvm.Cond.not (Jvm.Cond.eq t (Term.int 0))).before args s = true) : ¬ cs = (0 : Int32) := by
  have h2 := not_v (Cond.before_iff.mp h)
  simpa [Cond.value, ev, Term.eval] using h2
theorem own_c255 (x : Int32) : ¬ (255 : Int32) < ((((x &&& (255 : Int32)).toUInt32.toUInt16.toUInt32.toInt32)).toUInt32.toUInt16.toUInt32.toInt32) := by
  rw [i2c_mask, i2c_mask]
  have hm : (x &&& (255 : Int32)).toInt = x.toInt % 256 := c_mask x (255 : Int32) 8 (by decide) (by decide)
  have e1 : (255 : Int32).toInt = 255 := by decide
  rw [Int32.lt_iff_toInt_lt]; omega
theorem own_wS {Z : State} {a0 : Array Value} (hw : ∀ d ∈ tables_1, d.before a0 Z = true) : ∀ a ∈ Bundle.stringAtoms, a.before a0 Z = true := fun a ha => by
  rcases List.mem_cons.mp ha with rfl | ha
  · exact (hw _ (List.mem_of_getElem? (i := 6) rfl))
  rcases List.mem_cons.mp ha with rfl | ha
  · exact (hw _ (List.mem_of_getElem? (i := 5) rfl))
  rcases List.mem_cons.mp ha with rfl | ha
  · exact (hw _ (List.mem_of_getElem? (i := 19) rfl))
  rcases List.mem_cons.mp ha with rfl | ha
  · exact (hw _ (List.mem_of_getElem? (i := 20) rfl))
  rcases List.mem_cons.mp ha with rfl | ha
  · exact (hw _ (List.mem_of_getElem? (i := 21) rfl))
  rcases List.mem_cons.mp ha with rfl | ha
  · exact (hw _ (List.mem_of_getElem? (i := 22) rfl))
  rcases List.mem_cons.mp ha with rfl | ha
  · exact (hw _ (List.mem_of_getElem? (i := 23) rfl))
  exact absurd ha (List.not_mem_nil)
theorem own_ibW {Z s : State} {vm : Vm} {Ts : List String} (I : IB Z s.vm Ts) (h : s.WarmedH vm) : IB Z vm Ts := by
  obtain ⟨more, e, q⟩ := I
  exact ⟨more, by rw [h.interned_eq, e], q⟩
theorem own_backSI {l : Launch} {R : Room} {p : Program} {e : Env} {below : List Frame} {s Z : State} {args a0 : Array Value} {h : Heap} {y : MethodName} {bytes : ByteArray} {maxL : Nat} {ret : Option FieldType} {rm : Room} {len W : Nat} {as' : Array Value} {Q : Option Value → Heap → List Loc → Prop} {Ts : List String}
    (hM : MetFree l y (head1 [Jvm.Cond.code y bytes maxL ret] rm) (fun a U => a = as' ∧ Z.Warmed39 U.vm ∧ U.heap = h ∧ IB Z U.vm Ts) (fun _ _ _ _ _ => True) (fun _ U o U' => ∃ v L, o = .returned v ∧ Q v U'.heap L ∧ ReturnedEndW U o U' L rm.cells rm.slots))
    (hZ : Z.Warmed39 s.vm) (wc : (Jvm.Cond.code y bytes maxL ret).before a0 Z = true) (wz : (Jvm.Cond.initialized y.cls).before a0 Z = true) (hf : rm.frames + 1 ≤ R.frames) (hl : W + (maxL + 11) + rm.locals ≤ R.locals) :
    BackS l R p e below s args y len W (fun A a => a = as' ∧ A.U.heap = h ∧ A.cells + rm.cells ≤ R.cells ∧ A.slots + rm.slots ≤ R.slots ∧ IB Z A.U.vm Ts)
      (fun A _ v B => ∃ L, Q v B.U.heap L ∧ B.locs = A.locs ++ L ∧ B.cells = A.cells + rm.cells ∧ B.slots = A.slots + rm.slots) := by
  refine BackS.of_freeW (bytes := bytes) (maxL := maxL) (ret := ret) (E := fun _ _ o t L k n => (k, n) = (rm.cells, rm.slots) ∧ ∃ v, o = .returned v ∧ Q v t.heap L) hM hf hl ?_ ?_ (fun _ _ _ _ _ _ _ _ _ => trivial) ?_ ?_
  · intro m meth c A a X hp
    have u : Z.Warmed39 A.U.vm := wtrans hZ X.warmed
    refine ⟨?_, mv u wc, mv u wz, hp.2.2.1, hp.2.2.2.1⟩
    show (Jvm.Cond.and _ .tt).before a A.U = true
    rw [Cond.before_and, mv u wc]; rfl
  · intro m meth c A a g mk X hp
    exact ⟨hp.1, wtrans hZ X.warmed, hp.2.1, hp.2.2.2.2⟩
  · rintro _ _ _ _ ⟨v, L, rfl, q, r⟩
    exact ⟨L, _, _, r, rfl, v, rfl, q⟩
  · rintro m meth c A a g mk v t L k n X hp - - ⟨q1, v', q2, q3⟩
    cases q1; cases q2
    exact ⟨L, q3, rfl, rfl, rfl⟩
theorem own_len3 (x : Int32) (h0 : ¬ (x &&& (3 : Int32)) = (0 : Int32)) (h1 : ¬ (x &&& (3 : Int32)) = (1 : Int32)) : True := trivial
theorem own_c255' (x : Int32) : ¬ (255 : Int32) < (((x &&& (255 : Int32)).toUInt32.toUInt16.toUInt32.toInt32)) := by
  rw [i2c_mask]
  have hm : (x &&& (255 : Int32)).toInt = x.toInt % 256 := c_mask x (255 : Int32) 8 (by decide) (by decide)
  have e1 : (255 : Int32).toInt = 255 := by decide
  rw [Int32.lt_iff_toInt_lt]; omega
theorem own_d3_0 : decode jdk_42_method_149_code 0 = .ok (.aload_n 0, 1) := by decide +kernel
theorem own_d3_1 : decode jdk_42_method_149_code 1 = .ok (.invokespecial 1, 3) := by decide +kernel
theorem own_d3_4 : decode jdk_42_method_149_code 4 = .ok (.iload_n 3, 1) := by decide +kernel
theorem own_d3_5 : decode jdk_42_method_149_code 5 = .ok (.ifCond .ne 22, 3) := by decide +kernel
theorem own_d3_8 : decode jdk_42_method_149_code 8 = .ok (.aload_n 0, 1) := by decide +kernel
theorem own_d3_9 : decode jdk_42_method_149_code 9 = .ok (.ldc 7, 2) := by decide +kernel
theorem own_d3_11 : decode jdk_42_method_149_code 11 = .ok (.getfield 9, 3) := by decide +kernel
theorem own_d3_14 : decode jdk_42_method_149_code 14 = .ok (.putfield 9, 3) := by decide +kernel
theorem own_d3_17 : decode jdk_42_method_149_code 17 = .ok (.aload_n 0, 1) := by decide +kernel
theorem own_d3_18 : decode jdk_42_method_149_code 18 = .ok (.ldc 7, 2) := by decide +kernel
theorem own_d3_20 : decode jdk_42_method_149_code 20 = .ok (.getfield 15, 3) := by decide +kernel
theorem own_d3_23 : decode jdk_42_method_149_code 23 = .ok (.putfield 15, 3) := by decide +kernel
theorem own_d3_26 : decode jdk_42_method_149_code 26 = .ok (.return_, 1) := by decide +kernel
theorem own_pn_java_lang_String : plainName "java/lang/String" = true := by first | (simp [plainName, overriddenIn]; done) | decide +kernel
def Qini0 (Z : State) (st : Addr) (ca : Addr) (h0 : Heap) (n0 : Nat) (v : Option Value) (h : Heap) (L : List Loc) : Prop := ∃ rb : Addr, ∃ rk : ClassId, v = none ∧ Fr n0 L ∧ Keep h0 h [st] ∧ Fld Z h st "java/lang/String" "value" "[B" (.ref rb) ∧ Fld Z h st "java/lang/String" "coder" "B" (.int (0 : Int32)) ∧ Arv Z h rb rk .byte (0 : Int32) [] (.int (0 : Int32))
set_option maxRecDepth 65536 in
set_option maxHeartbeats 40000000 in
theorem rmini0 (l : Launch) (Z : State) (a0 : Array Value) (hw : ∀ d ∈ tables_1, d.before a0 Z = true) (ws : List Jvm.Cond) (st : Addr) (ca : Addr) (h0 : Heap) (n0 : Nat) (Z0 : n0 ≤ h0.size) (ES : Exa Z h0 st "java/lang/String") (gs : n0 ≤ st) (Fv : Fld Z h0 st "java/lang/String" "value" "[B" .null) (Fc : Fld Z h0 st "java/lang/String" "coder" "B" (.int (0 : Int32))) (hold : Old Z n0 h0) (hemp : Jvm.Lit.constHeld Z "java/lang/String" 7) (hcw : Jvm.Lit.compactW.before a0 Z = true) :
    MetFree l (⟨"java/lang/String", "<init>", "([CIILjava/lang/Void;)V"⟩ : MethodName) (head1 (Jvm.Cond.code (⟨"java/lang/String", "<init>", "([CIILjava/lang/Void;)V"⟩ : MethodName) jdk_42_method_149_code 6 none :: ws) ({ frames := 1, cells := 2, slots := 4, locals := 12 } : Room)) (fun a U => a = #[(.ref st), (.ref ca), (.int (0 : Int32)), (.int (0 : Int32)), .null] ∧ Z.Warmed39 U.vm ∧ U.heap = h0 ∧ IB Z U.vm []) (fun _ _ _ _ _ => True) (fun _ U o U' => ∃ v L, o = .returned v ∧ Qini0 Z st ca h0 n0 v U'.heap L ∧ ReturnedEndW U o U' L ({ frames := 1, cells := 2, slots := 4, locals := 12 } : Room).cells ({ frames := 1, cells := 2, slots := 4, locals := 12 } : Room).slots) := by
  refine MetFree.of_bodySF (plainFor_of_name own_pn_java_lang_String) hisR ?_
  intro p e s m args below meth c s₁ Bd hml0 hP hK
  obtain ⟨rfl, hZ, hh, hI⟩ := hP
  have hx := Bd.exec
  have hby := Bd.bytes
  have hml : c.maxLocals = 6 := hml0
  have hlk := Bd.notSynchronized
  have hown : s.vm.findClass "java/lang/String" = some m.cls := findClass_of_methodNamed Bd.named
  have hnm := (name_of_methodNamed Bd.named Bd.method).1
  have X0 : Stand p l e ({ frames := 1, cells := 2, slots := 4, locals := 12 } : Room) (s.setVm s.vm) m #[(.ref st), (.ref ca), (.int (0 : Int32)), (.int (0 : Int32)), .null] below meth c s₁ [] 0 0 := Stand.of_body Bd
  have e0 : s₁.heap = h0 := by rw [← hh, Bd.state]; rfl
  have N0 := Fr.nil n0
  have hS0 : s.Since s.vm 0 := (State.WarmedH.refl s).since 0
  have hk0 : 0 ≤ h0.size := Nat.zero_le _
  have K0 : Keep h0 h0 [st] := Keep.refl _ _
  refine own_enter (P := (DoneW s ({ frames := 1, cells := 2, slots := 4, locals := 12 } : Room).cells ({ frames := 1, cells := 2, slots := 4, locals := 12 } : Room).slots (Qini0 Z st ca h0 n0))) (Ls := #[.val (.ref st), .val (.ref ca), .val (.int (0 : Int32)), .val (.int (0 : Int32)), .val .null, .unset]) (by first | (simp [entryFrame, mkF, argsToLocals, Value.category]; done) | rfl) ?_
  refine own_aloadN X0 hx 1 rfl (hb hby own_d3_0) rfl rfl ?_
  obtain ⟨T1, X1, e1, st1⟩ := initO X0 hx hZ hown (hw _ (List.mem_of_getElem? (i := 15) rfl)) (hw _ (List.mem_of_getElem? (i := 16) rfl)) (hw _ (List.mem_of_getElem? (i := 17) rfl)) e0 (g := (mkF m 1 #[.val (.ref st), .val (.ref ca), .val (.int (0 : Int32)), .val (.int (0 : Int32)), .val .null, .unset] [(.ref st)])) rfl (by rw [hml]; rfl) rfl (hb hby own_d3_1) (by decide) (W := 0) (by show 2 * 0 + _ ≤ _; exact Nat.le_of_eq rfl) (by decide)
  refine Goes.go st1 ?_
  show Goes p e below _ T1 (mkF m 4 #[.val (.ref st), .val (.ref ca), .val (.int (0 : Int32)), .val (.int (0 : Int32)), .val .null, .unset] [])
  refine own_iloadN X1 hx 5 rfl (hb hby own_d3_4) rfl ?_
  refine own_ifN X1 hx 8 (hb hby own_d3_5) ((if0 _ _).trans (teq ((by decide) : (0 : Int32) = (0 : Int32))).2) rfl ?_
  refine own_aloadN X1 hx 9 rfl (hb hby own_d3_8) rfl rfl ?_
  obtain ⟨la2, T2, h2, k12, lb2, lk2, X2, e2, E2, hS2, hk2, hZ2, ho2, Ea2, Ca2, Va2, Ab2, -, -, -, Li2, st2⟩ := ldcSVL X1 hx hZ hown (hw _ (List.mem_of_getElem? (i := 18) rfl)) (own_wS hw) e1 hS0 hk0 (Fr.nil _) (fun b' cl' q => hh ▸ hold.2.2 b' cl' q) hI (List.not_mem_nil) hemp hcw (vs := []) (z := (0 : Int32)) ⟨by decide, rfl⟩ (by decide) (by decide) (g := (mkF m 9 #[.val (.ref st), .val (.ref ca), .val (.int (0 : Int32)), .val (.int (0 : Int32)), .val .null, .unset] [(.ref st)])) rfl (hb hby own_d3_9) (n := 0) (by decide) (by decide) (by decide) (by decide)
  have f3 := ES.ext E2
  have f4 := Fv.ext E2
  have f5 := Fc.ext E2
  have f6 := hold.ext E2
  have K2 := K0.ext E2
  have Z2 := Nat.le_trans Z0 E2.1
  have ns2 : st ≠ la2 := Fld.ne f4 Va2 (by intro q; cases q)
  have nb2 : st ≠ lb2 := Exa.neArv f3 Ab2 (hw _ (List.mem_of_getElem? (i := 5) rfl))
  refine Goes.go st2 ?_
  show Goes p e below _ T2 (mkF m 11 #[.val (.ref st), .val (.ref ca), .val (.int (0 : Int32)), .val (.int (0 : Int32)), .val .null, .unset] [(.ref la2), (.ref st)])
  obtain ⟨T7, X7, e7, st7⟩ := getF X2 hx hZ2 ho2 (host := "") (Or.inl (hw _ (List.mem_of_getElem? (i := 24) rfl))) Via.refl e2 Va2 (g := (mkF m 11 #[.val (.ref st), .val (.ref ca), .val (.int (0 : Int32)), .val (.int (0 : Int32)), .val .null, .unset] [(.ref la2), (.ref st)])) rfl rfl (hb hby own_d3_11)
  refine Goes.go st7 ?_
  show Goes p e below _ T7 (mkF m 14 #[.val (.ref st), .val (.ref ca), .val (.int (0 : Int32)), .val (.int (0 : Int32)), .val .null, .unset] [(.ref lb2), (.ref st)])
  obtain ⟨T8, h8, X8, e8, W8, st8⟩ := putF X7 hx hZ2 ho2 (host := "") (Or.inl (hw _ (List.mem_of_getElem? (i := 24) rfl))) Via.refl e7 f4 f3 (Or.inr ⟨(hw _ (List.mem_of_getElem? (i := 20) rfl)), rfl, hnm⟩) (hw _ (List.mem_of_getElem? (i := 5) rfl)) (ty := (.array .byte)) (by decide) rfl rfl (g := (mkF m 14 #[.val (.ref st), .val (.ref ca), .val (.int (0 : Int32)), .val (.int (0 : Int32)), .val .null, .unset] [(.ref lb2), (.ref st)])) rfl rfl (hb hby own_d3_14)
  have N8 := Fr.snoc X8 N0 gs
  have f9 := f3.wr W8
  have f10 := f4.same W8
  have f11 := f5.other W8 (Or.inr (slot_ne (Or.inr (hw _ (List.mem_of_getElem? (i := 21) rfl))) (Or.inr (hw _ (List.mem_of_getElem? (i := 20) rfl))) (by decide) (t := .byte) (t' := (.array .byte)) (by decide) (by decide)))
  have f12 := f6.wr W8 gs
  have f13 := Ea2.wr W8
  have f14 := Ca2.other W8 (Or.inl (Ne.symm ns2))
  have f15 := Va2.other W8 (Or.inl (Ne.symm ns2))
  have f16 := Ab2.other W8 (Ne.symm nb2)
  have K8 := K2.wr W8 (Or.inl (List.mem_of_getElem? (i := 0) rfl))
  have Z8 := Nat.le_trans Z2 (Nat.le_of_eq W8.size.symm)
  have hk8 := Nat.le_trans hk2 (Nat.le_of_eq W8.size.symm)
  refine Goes.go st8 ?_
  show Goes p e below _ T8 (mkF m 17 #[.val (.ref st), .val (.ref ca), .val (.int (0 : Int32)), .val (.int (0 : Int32)), .val .null, .unset] [])
  refine own_aloadN X8 hx 18 rfl (hb hby own_d3_17) rfl rfl ?_
  refine Goes.go (ldcAgain X8 hx hZ2 ho2 (hw _ (List.mem_of_getElem? (i := 18) rfl)) Li2 (g := (mkF m 18 #[.val (.ref st), .val (.ref ca), .val (.int (0 : Int32)), .val (.int (0 : Int32)), .val .null, .unset] [(.ref st)])) rfl (hb hby own_d3_18)) ?_
  show Goes p e below _ T8 (mkF m 20 #[.val (.ref st), .val (.ref ca), .val (.int (0 : Int32)), .val (.int (0 : Int32)), .val .null, .unset] [(.ref la2), (.ref st)])
  obtain ⟨T17, X17, e17, st17⟩ := getF X8 hx hZ2 ho2 (host := "") (Or.inl (hw _ (List.mem_of_getElem? (i := 25) rfl))) Via.refl e8 f14 (g := (mkF m 20 #[.val (.ref st), .val (.ref ca), .val (.int (0 : Int32)), .val (.int (0 : Int32)), .val .null, .unset] [(.ref la2), (.ref st)])) rfl rfl (hb hby own_d3_20)
  refine Goes.go st17 ?_
  show Goes p e below _ T17 (mkF m 23 #[.val (.ref st), .val (.ref ca), .val (.int (0 : Int32)), .val (.int (0 : Int32)), .val .null, .unset] [(.int (0 : Int32)), (.ref st)])
  obtain ⟨T18, h18, X18, e18, W18, st18⟩ := putFN X17 hx hZ2 ho2 (hw _ (List.mem_of_getElem? (i := 25) rfl)) Via.refl e17 f11 f9 (Or.inr ⟨(hw _ (List.mem_of_getElem? (i := 21) rfl)), rfl, hnm⟩) (hw _ (List.mem_of_getElem? (i := 5) rfl)) (ty := .byte) (v' := (.int (0 : Int32))) (by decide) rfl (by decide) (g := (mkF m 23 #[.val (.ref st), .val (.ref ca), .val (.int (0 : Int32)), .val (.int (0 : Int32)), .val .null, .unset] [(.int (0 : Int32)), (.ref st)])) rfl rfl (hb hby own_d3_23)
  have N18 := Fr.snoc X18 N8 gs
  have f19 := f9.wr W18
  have f20 := f10.other W18 (Or.inr (slot_ne (Or.inr (hw _ (List.mem_of_getElem? (i := 20) rfl))) (Or.inr (hw _ (List.mem_of_getElem? (i := 21) rfl))) (by decide) (t := (.array .byte)) (t' := .byte) (by decide) (by decide)))
  have f21 := f11.same W18
  have f22 := f12.wr W18 gs
  have f23 := f13.wr W18
  have f24 := f14.other W18 (Or.inl (Ne.symm ns2))
  have f25 := f15.other W18 (Or.inl (Ne.symm ns2))
  have f26 := f16.other W18 (Ne.symm nb2)
  have K18 := K8.wr W18 (Or.inl (List.mem_of_getElem? (i := 0) rfl))
  have Z18 := Nat.le_trans Z8 (Nat.le_of_eq W18.size.symm)
  have hk18 := Nat.le_trans hk8 (Nat.le_of_eq W18.size.symm)
  refine Goes.go st18 ?_
  show Goes p e below _ T18 (mkF m 26 #[.val (.ref st), .val (.ref ca), .val (.int (0 : Int32)), .val (.int (0 : Int32)), .val .null, .unset] [])
  refine own_retWV X18 hx hS2 hlk Bd.returns (hb hby own_d3_26) (by decide) (by decide) e18 hk18 ?_
  exact ⟨lb2, lk2, rfl, N18, K18, f20, f21, f26⟩
theorem own_pd0 : parseMethodDescriptor "([CIILjava/lang/Void;)V" = some ⟨[(.array .char), .int, .int, (.object "java/lang/Void")], none⟩ := by decide +kernel
theorem own_d2_0 : decode jdk_42_method_3_code 0 = .ok (.aload_n 0, 1) := by decide +kernel
theorem own_d2_1 : decode jdk_42_method_3_code 1 = .ok (.aload_n 1, 1) := by decide +kernel
theorem own_d2_2 : decode jdk_42_method_3_code 2 = .ok (.iconst 0, 1) := by decide +kernel
theorem own_d2_3 : decode jdk_42_method_3_code 3 = .ok (.aload_n 1, 1) := by decide +kernel
theorem own_d2_4 : decode jdk_42_method_3_code 4 = .ok (.arraylength, 1) := by decide +kernel
theorem own_d2_5 : decode jdk_42_method_3_code 5 = .ok (.aconst_null, 1) := by decide +kernel
theorem own_d2_6 : decode jdk_42_method_3_code 6 = .ok (.invokespecial 27, 3) := by decide +kernel
theorem own_d2_9 : decode jdk_42_method_3_code 9 = .ok (.return_, 1) := by decide +kernel
def Qnew0 (Z : State) (st : Addr) (ca : Addr) (ck : ClassId) (h0 : Heap) (n0 : Nat) (v : Option Value) (h : Heap) (L : List Loc) : Prop := ∃ rb : Addr, ∃ rk : ClassId, v = none ∧ Fr n0 L ∧ Keep h0 h [st] ∧ Fld Z h st "java/lang/String" "value" "[B" (.ref rb) ∧ Fld Z h st "java/lang/String" "coder" "B" (.int (0 : Int32)) ∧ Arv Z h rb rk .byte (0 : Int32) [] (.int (0 : Int32))
set_option maxRecDepth 65536 in
set_option maxHeartbeats 40000000 in
theorem rmnew0 (l : Launch) (Z : State) (a0 : Array Value) (hw : ∀ d ∈ tables_1, d.before a0 Z = true) (ws : List Jvm.Cond) (st : Addr) (ca : Addr) (ck : ClassId) (h0 : Heap) (n0 : Nat) (Z0 : n0 ≤ h0.size) (ES : Exa Z h0 st "java/lang/String") (gs : n0 ≤ st) (Fv : Fld Z h0 st "java/lang/String" "value" "[B" .null) (Fc : Fld Z h0 st "java/lang/String" "coder" "B" (.int (0 : Int32))) (hold : Old Z n0 h0) (hemp : Jvm.Lit.constHeld Z "java/lang/String" 7) (hcw : Jvm.Lit.compactW.before a0 Z = true) (Ac : Arv Z h0 ca ck .char (0 : Int32) [] (.int (0 : Int32))) (ncs : ca ≠ st) :
    MetFree l (⟨"java/lang/String", "<init>", "([C)V"⟩ : MethodName) (head1 (Jvm.Cond.code (⟨"java/lang/String", "<init>", "([C)V"⟩ : MethodName) jdk_42_method_3_code 2 none :: ws) ({ frames := 2, cells := 2, slots := 4, locals := 29 } : Room)) (fun a U => a = #[(.ref st), (.ref ca)] ∧ Z.Warmed39 U.vm ∧ U.heap = h0 ∧ IB Z U.vm []) (fun _ _ _ _ _ => True) (fun _ U o U' => ∃ v L, o = .returned v ∧ Qnew0 Z st ca ck h0 n0 v U'.heap L ∧ ReturnedEndW U o U' L ({ frames := 2, cells := 2, slots := 4, locals := 29 } : Room).cells ({ frames := 2, cells := 2, slots := 4, locals := 29 } : Room).slots) := by
  refine MetFree.of_bodySF (plainFor_of_name own_pn_java_lang_String) hisR ?_
  intro p e s m args below meth c s₁ Bd hml0 hP hK
  obtain ⟨rfl, hZ, hh, hI⟩ := hP
  have hx := Bd.exec
  have hby := Bd.bytes
  have hml : c.maxLocals = 2 := hml0
  have hlk := Bd.notSynchronized
  have hown : s.vm.findClass "java/lang/String" = some m.cls := findClass_of_methodNamed Bd.named
  have hnm := (name_of_methodNamed Bd.named Bd.method).1
  have X0 : Stand p l e ({ frames := 2, cells := 2, slots := 4, locals := 29 } : Room) (s.setVm s.vm) m #[(.ref st), (.ref ca)] below meth c s₁ [] 0 0 := Stand.of_body Bd
  have e0 : s₁.heap = h0 := by rw [← hh, Bd.state]; rfl
  have N0 := Fr.nil n0
  have hS0 : s.Since s.vm 0 := (State.WarmedH.refl s).since 0
  have hk0 : 0 ≤ h0.size := Nat.zero_le _
  have K0 : Keep h0 h0 [st] := Keep.refl _ _
  refine own_enter (P := (DoneW s ({ frames := 2, cells := 2, slots := 4, locals := 29 } : Room).cells ({ frames := 2, cells := 2, slots := 4, locals := 29 } : Room).slots (Qnew0 Z st ca ck h0 n0))) (Ls := #[.val (.ref st), .val (.ref ca)]) (by first | (simp [entryFrame, mkF, argsToLocals, Value.category]; done) | rfl) ?_
  refine own_aloadN X0 hx 1 rfl (hb hby own_d2_0) rfl rfl ?_
  refine own_aloadN X0 hx 2 rfl (hb hby own_d2_1) rfl rfl ?_
  refine own_iconst X0 hx 3 rfl (0 : Int32) (hb hby own_d2_2) (by decide) ?_
  refine own_aloadN X0 hx 4 rfl (hb hby own_d2_3) rfl rfl ?_
  obtain ⟨cl1, Ar1, qq1, S1, NN1, HH1, GG1⟩ := id Ac
  refine Goes.go (X0.arraylength hx (by rw [e0]; exact Ar1.1) (State.isArrayOf_alike hZ.alike Ar1.2.1) (g := (mkF m 4 #[.val (.ref st), .val (.ref ca)] [(.ref ca), (.int (0 : Int32)), (.ref ca), (.ref st)])) rfl rfl (hb hby own_d2_4)) ?_
  show Goes p e below _ s₁ (mkF m 5 #[.val (.ref st), .val (.ref ca)] [(.int (cl1.slots.size.toInt32)), (.int (0 : Int32)), (.ref ca), (.ref st)])
  rw [len_of S1 NN1]
  refine own_aconst_null X0 hx 6 rfl (hb hby own_d2_5) ?_
  obtain ⟨_, _, ⟨T2, L2, k2, n2⟩, -, X2, Sx2, gr2, ⟨Lc2, hQ2, l2, y2, z2⟩, st2⟩ := X0.specialBackS hx (y := (⟨"java/lang/String", "<init>", "([CIILjava/lang/Void;)V"⟩ : MethodName)) rfl hown (mvT hZ (hw _ (List.mem_of_getElem? (i := 11) rfl))) (mvT hZ (hw _ (List.mem_of_getElem? (i := 12) rfl))) (mvT hZ (hw _ (List.mem_of_getElem? (i := 14) rfl))) (by decide) (own_backSI (W := 0) (rmini0 l Z a0 hw [] st ca h0 n0 Z0 ES gs Fv Fc hold hemp hcw) hZ (hw _ (List.mem_of_getElem? (i := 14) rfl)) (hw _ (List.mem_of_getElem? (i := 6) rfl)) (by decide) (by decide)) (g := (mkF m 6 #[.val (.ref st), .val (.ref ca)] [.null, (.int (0 : Int32)), (.int (0 : Int32)), (.ref ca), (.ref st)])) rfl (by rw [hml]; rfl) (Steps.refl _) (a := st) (argsL := [(.ref ca), (.int (0 : Int32)), (.int (0 : Int32)), .null]) (rest := []) (lenOf own_pd0 rfl) rfl (by show 2 * 0 + _ ≤ _; exact Nat.le_of_eq rfl) (hb hby own_d2_6) (fun _ hv => ⟨rfl, e0, (by decide : 0 + 2 ≤ _), (by decide : 0 + 4 ≤ _), own_ibW hI hv⟩)
  dsimp only [Pt.U, Pt.locs, Pt.cells, Pt.slots] at X2 l2 y2 z2 st2 hQ2 Sx2 gr2
  subst l2 y2 z2
  obtain ⟨Y2, hS2, hZ2, ho2⟩ := rebS hS0 (Nat.le_trans hk0 (Nat.le_of_eq (congrArg Array.size (Eq.symm e0)))) X2 Sx2 gr2 hZ hown
  obtain ⟨rb_2, rk_2, rfl, N2q, K2q, f2_0, f2_1, f2_2⟩ := hQ2
  have N2 := Fr.app N0 N2q
  have f3 := ES.keep K2q
  have f4 := hold.keep K2q (allS gs all0)
  have f5 := Ac.keep K2q (ninS ncs nin0)
  have K2 := K0.trans K2q (allS (Or.inl (List.mem_of_getElem? (i := 0) rfl)) all0)
  have Z2 := Nat.le_trans Z0 K2q.1
  refine Goes.tr st2 ?_
  show Goes p e below _ T2 (mkF m 9 #[.val (.ref st), .val (.ref ca)] [])
  refine own_retWV Y2 hx hS2 hlk Bd.returns (hb hby own_d2_9) (by decide) (by decide) rfl (Nat.le_refl T2.heap.size) ?_
  exact ⟨rb_2, rk_2, rfl, N2, K2, f2_0, f2_1, f2_2⟩
theorem own_d14_0 : decode jdk_52_method_21_code 0 = .ok (.iconst 0, 1) := by decide +kernel
theorem own_d14_1 : decode jdk_52_method_21_code 1 = .ok (.istore 5, 2) := by decide +kernel
theorem own_d14_3 : decode jdk_52_method_21_code 3 = .ok (.iload 5, 2) := by decide +kernel
theorem own_d14_5 : decode jdk_52_method_21_code 5 = .ok (.iload 4, 2) := by decide +kernel
theorem own_d14_7 : decode jdk_52_method_21_code 7 = .ok (.if_icmp .ge 37, 3) := by decide +kernel
theorem own_d14_10 : decode jdk_52_method_21_code 10 = .ok (.aload_n 0, 1) := by decide +kernel
theorem own_d14_11 : decode jdk_52_method_21_code 11 = .ok (.iload_n 1, 1) := by decide +kernel
theorem own_d14_12 : decode jdk_52_method_21_code 12 = .ok (.caload, 1) := by decide +kernel
theorem own_d14_13 : decode jdk_52_method_21_code 13 = .ok (.istore 6, 2) := by decide +kernel
theorem own_d14_15 : decode jdk_52_method_21_code 15 = .ok (.iload 6, 2) := by decide +kernel
theorem own_d14_17 : decode jdk_52_method_21_code 17 = .ok (.sipush 255, 3) := by decide +kernel
theorem own_d14_20 : decode jdk_52_method_21_code 20 = .ok (.if_icmp .le 6, 3) := by decide +kernel
theorem own_d14_26 : decode jdk_52_method_21_code 26 = .ok (.aload_n 2, 1) := by decide +kernel
theorem own_d14_27 : decode jdk_52_method_21_code 27 = .ok (.iload_n 3, 1) := by decide +kernel
theorem own_d14_28 : decode jdk_52_method_21_code 28 = .ok (.iload 6, 2) := by decide +kernel
theorem own_d14_30 : decode jdk_52_method_21_code 30 = .ok (.i2b, 1) := by decide +kernel
theorem own_d14_31 : decode jdk_52_method_21_code 31 = .ok (.bastore, 1) := by decide +kernel
theorem own_d14_32 : decode jdk_52_method_21_code 32 = .ok (.iinc 1 1, 3) := by decide +kernel
theorem own_d14_35 : decode jdk_52_method_21_code 35 = .ok (.iinc 3 1, 3) := by decide +kernel
theorem own_d14_38 : decode jdk_52_method_21_code 38 = .ok (.iinc 5 1, 3) := by decide +kernel
theorem own_d14_41 : decode jdk_52_method_21_code 41 = .ok (.goto (-38), 3) := by decide +kernel
theorem own_d14_44 : decode jdk_52_method_21_code 44 = .ok (.iload 4, 2) := by decide +kernel
theorem own_d14_46 : decode jdk_52_method_21_code 46 = .ok (.ireturn, 1) := by decide +kernel
theorem own_pn_java_lang_StringUTF16 : plainName "java/lang/StringUTF16" = true := by first | (simp [plainName, overriddenIn]; done) | decide +kernel
def Qcmp1 (Z : State) (ca : Addr) (ba : Addr) (ck : ClassId) (sc0 : Int32) (bk : ClassId) (h0 : Heap) (n0 : Nat) (v : Option Value) (h : Heap) (L : List Loc) : Prop := v = some (.int (1 : Int32)) ∧ Fr n0 L ∧ Keep h0 h [ba] ∧ Arv Z h ba bk .byte (1 : Int32) [(.int ((sc0.toInt8.toInt32).toInt8.toInt32))] (.int (0 : Int32))
set_option maxRecDepth 65536 in
set_option maxHeartbeats 40000000 in
theorem rmcmp1 (l : Launch) (Z : State) (a0 : Array Value) (hw : ∀ d ∈ tables_1, d.before a0 Z = true) (ws : List Jvm.Cond) (ca : Addr) (ba : Addr) (ck : ClassId) (sc0 : Int32) (bk : ClassId) (h0 : Heap) (n0 : Nat) (Z0 : n0 ≤ h0.size) (Ac : Arv Z h0 ca ck .char (1 : Int32) [(.int sc0)] (.int (0 : Int32))) (Ab : Arv Z h0 ba bk .byte (1 : Int32) [(.int (0 : Int32))] (.int (0 : Int32))) (gb : n0 ≤ ba) (ncb : ca ≠ ba) (hc0 : ¬ ((255 : Int32) < sc0)) :
    MetFree l (⟨"java/lang/StringUTF16", "compress", "([CI[BII)I"⟩ : MethodName) (head1 (Jvm.Cond.code (⟨"java/lang/StringUTF16", "compress", "([CI[BII)I"⟩ : MethodName) jdk_52_method_21_code 7 (some .int) :: ws) ({ frames := 0, cells := 0, slots := 0, locals := 0 } : Room)) (fun a U => a = #[(.ref ca), (.int (0 : Int32)), (.ref ba), (.int (0 : Int32)), (.int (1 : Int32))] ∧ Z.Warmed39 U.vm ∧ U.heap = h0) (fun _ _ _ _ _ => True) (fun _ U o U' => ∃ v L, o = .returned v ∧ Qcmp1 Z ca ba ck sc0 bk h0 n0 v U'.heap L ∧ FrameEnd U o U' L ({ frames := 0, cells := 0, slots := 0, locals := 0 } : Room).cells ({ frames := 0, cells := 0, slots := 0, locals := 0 } : Room).slots) := by
  refine MetFree.of_bodySF (plainFor_of_name own_pn_java_lang_StringUTF16) hisR ?_
  intro p e s m args below meth c s₁ Bd hml0 hP hK
  obtain ⟨rfl, hZ, hh⟩ := hP
  have hx := Bd.exec
  have hby := Bd.bytes
  have hml : c.maxLocals = 7 := hml0
  have hlk := Bd.notSynchronized
  have hown : s.vm.findClass "java/lang/StringUTF16" = some m.cls := findClass_of_methodNamed Bd.named
  have hnm := (name_of_methodNamed Bd.named Bd.method).1
  have X0 : Stand p l e ({ frames := 0, cells := 0, slots := 0, locals := 0 } : Room) s m #[(.ref ca), (.int (0 : Int32)), (.ref ba), (.int (0 : Int32)), (.int (1 : Int32))] below meth c s₁ [] 0 0 := Stand.of_body Bd
  have e0 : s₁.heap = h0 := by rw [← hh, Bd.state]; rfl
  have N0 := Fr.nil n0
  have K0 : Keep h0 h0 [ba] := Keep.refl _ _
  refine own_enter (P := (Done s ({ frames := 0, cells := 0, slots := 0, locals := 0 } : Room).cells ({ frames := 0, cells := 0, slots := 0, locals := 0 } : Room).slots (Qcmp1 Z ca ba ck sc0 bk h0 n0))) (Ls := #[.val (.ref ca), .val (.int (0 : Int32)), .val (.ref ba), .val (.int (0 : Int32)), .val (.int (1 : Int32)), .unset, .unset]) (by first | (simp [entryFrame, mkF, argsToLocals, Value.category]; done) | rfl) ?_
  refine own_iconst X0 hx 1 rfl (0 : Int32) (hb hby own_d14_0) (by decide) ?_
  refine own_istore X0 hx 3 rfl #[.val (.ref ca), .val (.int (0 : Int32)), .val (.ref ba), .val (.int (0 : Int32)), .val (.int (1 : Int32)), .val (.int (0 : Int32)), .unset] (hb hby own_d14_1) rfl ?_
  refine own_iload X0 hx 5 rfl (hb hby own_d14_3) rfl ?_
  refine own_iload X0 hx 7 rfl (hb hby own_d14_5) rfl ?_
  refine own_icmpN X0 hx 10 (hb hby own_d14_7) (tlt ((by decide) : (0 : Int32) < (1 : Int32))).2.1 rfl ?_
  refine own_aloadN X0 hx 11 rfl (hb hby own_d14_10) rfl rfl ?_
  refine own_iloadN X0 hx 12 rfl (hb hby own_d14_11) rfl ?_
  obtain ⟨cl1, Ar1, qq1, S1, NN1, HH1, GG1⟩ := id Ac
  have hin1 : ¬ ((0 : Int32) < 0 ∨ cl1.slots.size ≤ ((0 : Int32)).toNatClampNeg) := inb_of S1 ⟨by decide, by decide⟩
  have hat1 : cl1.slots[((0 : Int32)).toNatClampNeg]? = some (.int sc0) := HH1.at hin1 rfl
  refine Goes.go (X0.caload hx (j := (0 : Int32)) (v := (.int sc0)) (by rw [e0]; exact Ar1.1) (State.isArrayOf_alike hZ.alike Ar1.2.1) Ar1.2.2 hin1 hat1 (g := (mkF m 12 #[.val (.ref ca), .val (.int (0 : Int32)), .val (.ref ba), .val (.int (0 : Int32)), .val (.int (1 : Int32)), .val (.int (0 : Int32)), .unset] [(.int (0 : Int32)), (.ref ca)])) rfl rfl (hb hby own_d14_12)) ?_
  show Goes p e below _ s₁ (mkF m 13 #[.val (.ref ca), .val (.int (0 : Int32)), .val (.ref ba), .val (.int (0 : Int32)), .val (.int (1 : Int32)), .val (.int (0 : Int32)), .unset] [(.int sc0)])
  refine own_istore X0 hx 15 rfl #[.val (.ref ca), .val (.int (0 : Int32)), .val (.ref ba), .val (.int (0 : Int32)), .val (.int (1 : Int32)), .val (.int (0 : Int32)), .val (.int sc0)] (hb hby own_d14_13) rfl ?_
  refine own_iload X0 hx 17 rfl (hb hby own_d14_15) rfl ?_
  refine own_sipush X0 hx 20 rfl (255 : Int32) (hb hby own_d14_17) (by decide) ?_
  refine own_icmpY X0 hx 26 (hb hby own_d14_20) (flt (hc0 : ¬ ((255 : Int32) < sc0))).2.2.2 (by decide) (by decide) ?_
  refine own_aloadN X0 hx 27 rfl (hb hby own_d14_26) rfl rfl ?_
  refine own_iloadN X0 hx 28 rfl (hb hby own_d14_27) rfl ?_
  refine own_iload X0 hx 30 rfl (hb hby own_d14_28) rfl ?_
  refine own_i2b X0 hx 31 rfl (hb hby own_d14_30) rfl ?_
  obtain ⟨cl2, Ar2, qq2, S2, NN2, HH2, GG2⟩ := id Ab
  have hin2 : ¬ ((0 : Int32) < 0 ∨ cl2.slots.size ≤ ((0 : Int32)).toNatClampNeg) := inb_of S2 ⟨by decide, by decide⟩
  obtain ⟨T2, h2, X2, e2, W2, st2⟩ := stB X0 hx hZ e0 Ar2 (j := (0 : Int32)) hin2 (g := (mkF m 31 #[.val (.ref ca), .val (.int (0 : Int32)), .val (.ref ba), .val (.int (0 : Int32)), .val (.int (1 : Int32)), .val (.int (0 : Int32)), .val (.int sc0)] [(.int (sc0.toInt8.toInt32)), (.int (0 : Int32)), (.ref ba)])) rfl rfl (hb hby own_d14_31)
  have V2 : Arv Z h2 ba bk .byte (1 : Int32) [(.int ((sc0.toInt8.toInt32).toInt8.toInt32))] (.int (0 : Int32)) := Arv.set Ar2 qq2 S2 NN2 HH2 GG2 (fits_nar_byte _) W2 0 rfl (Nat.le_of_ble_eq_true rfl)
  have N2 := Fr.snoc X2 N0 gb
  have f3 := Ac.other W2 ncb
  have K2 := K0.wr W2 (Or.inl (List.mem_of_getElem? (i := 0) rfl))
  have Z2 := Nat.le_trans Z0 (Nat.le_of_eq W2.size.symm)
  refine Goes.go st2 ?_
  show Goes p e below _ T2 (mkF m 32 #[.val (.ref ca), .val (.int (0 : Int32)), .val (.ref ba), .val (.int (0 : Int32)), .val (.int (1 : Int32)), .val (.int (0 : Int32)), .val (.int sc0)] [])
  refine own_iinc X2 hx 35 rfl #[.val (.ref ca), .val (.int (1 : Int32)), .val (.ref ba), .val (.int (0 : Int32)), .val (.int (1 : Int32)), .val (.int (0 : Int32)), .val (.int sc0)] (hb hby own_d14_32) rfl (by decide) rfl ?_
  refine own_iinc X2 hx 38 rfl #[.val (.ref ca), .val (.int (1 : Int32)), .val (.ref ba), .val (.int (1 : Int32)), .val (.int (1 : Int32)), .val (.int (0 : Int32)), .val (.int sc0)] (hb hby own_d14_35) rfl (by decide) rfl ?_
  refine own_iinc X2 hx 41 rfl #[.val (.ref ca), .val (.int (1 : Int32)), .val (.ref ba), .val (.int (1 : Int32)), .val (.int (1 : Int32)), .val (.int (1 : Int32)), .val (.int sc0)] (hb hby own_d14_38) rfl (by decide) rfl ?_
  refine own_goto X2 hx 3 (hb hby own_d14_41) (by decide) (by decide) ?_
  refine own_iload X2 hx 5 rfl (hb hby own_d14_3) rfl ?_
  refine own_iload X2 hx 7 rfl (hb hby own_d14_5) rfl ?_
  refine own_icmpY X2 hx 44 (hb hby own_d14_7) (flt ((by decide) : ¬ ((1 : Int32) < (1 : Int32)))).2.1 (by decide) (by decide) ?_
  refine own_iload X2 hx 46 rfl (hb hby own_d14_44) rfl ?_
  refine own_retI X2 hx hlk Bd.returns (hb hby own_d14_46) (by decide) (by decide) e2 ?_
  exact ⟨rfl, N2, K2, V2⟩
theorem own_pd1 : parseMethodDescriptor "([CI[BII)I" = some ⟨[(.array .char), .int, (.array .byte), .int, .int], some .int⟩ := by decide +kernel
theorem own_d13_0 : decode jdk_52_method_16_code 0 = .ok (.iload_n 2, 1) := by decide +kernel
theorem own_d13_1 : decode jdk_52_method_16_code 1 = .ok (.newarray .byte, 2) := by decide +kernel
theorem own_d13_3 : decode jdk_52_method_16_code 3 = .ok (.astore_n 3, 1) := by decide +kernel
theorem own_d13_4 : decode jdk_52_method_16_code 4 = .ok (.aload_n 0, 1) := by decide +kernel
theorem own_d13_5 : decode jdk_52_method_16_code 5 = .ok (.iload_n 1, 1) := by decide +kernel
theorem own_d13_6 : decode jdk_52_method_16_code 6 = .ok (.aload_n 3, 1) := by decide +kernel
theorem own_d13_7 : decode jdk_52_method_16_code 7 = .ok (.iconst 0, 1) := by decide +kernel
theorem own_d13_8 : decode jdk_52_method_16_code 8 = .ok (.iload_n 2, 1) := by decide +kernel
theorem own_d13_9 : decode jdk_52_method_16_code 9 = .ok (.invokestatic 115, 3) := by decide +kernel
theorem own_d13_12 : decode jdk_52_method_16_code 12 = .ok (.istore 4, 2) := by decide +kernel
theorem own_d13_14 : decode jdk_52_method_16_code 14 = .ok (.iload 4, 2) := by decide +kernel
theorem own_d13_16 : decode jdk_52_method_16_code 16 = .ok (.iload_n 2, 1) := by decide +kernel
theorem own_d13_17 : decode jdk_52_method_16_code 17 = .ok (.if_icmp .eq 40, 3) := by decide +kernel
theorem own_d13_57 : decode jdk_52_method_16_code 57 = .ok (.aload_n 3, 1) := by decide +kernel
theorem own_d13_58 : decode jdk_52_method_16_code 58 = .ok (.areturn, 1) := by decide +kernel
def Qcpr1 (Z : State) (ca : Addr) (ck : ClassId) (sc0 : Int32) (h0 : Heap) (n0 : Nat) (v : Option Value) (h : Heap) (L : List Loc) : Prop := ∃ rb : Addr, ∃ rk : ClassId, v = some (.ref rb) ∧ Fr n0 L ∧ Keep h0 h [] ∧ h0.size ≤ rb ∧ Arv Z h rb rk .byte (1 : Int32) [(.int ((sc0.toInt8.toInt32).toInt8.toInt32))] (.int (0 : Int32))
set_option maxRecDepth 65536 in
set_option maxHeartbeats 40000000 in
theorem rmcpr1 (l : Launch) (Z : State) (a0 : Array Value) (hw : ∀ d ∈ tables_1, d.before a0 Z = true) (ws : List Jvm.Cond) (ca : Addr) (ck : ClassId) (sc0 : Int32) (h0 : Heap) (n0 : Nat) (Z0 : n0 ≤ h0.size) (Ac : Arv Z h0 ca ck .char (1 : Int32) [(.int sc0)] (.int (0 : Int32))) (hc0 : ¬ ((255 : Int32) < sc0)) :
    MetFree l (⟨"java/lang/StringUTF16", "compress", "([CII)[B"⟩ : MethodName) (head1 (Jvm.Cond.code (⟨"java/lang/StringUTF16", "compress", "([CII)[B"⟩ : MethodName) jdk_52_method_16_code 6 (some (.array .byte)) :: ws) ({ frames := 1, cells := 1, slots := 1, locals := 18 } : Room)) (fun a U => a = #[(.ref ca), (.int (0 : Int32)), (.int (1 : Int32))] ∧ Z.Warmed39 U.vm ∧ U.heap = h0) (fun _ _ _ _ _ => True) (fun _ U o U' => ∃ v L, o = .returned v ∧ Qcpr1 Z ca ck sc0 h0 n0 v U'.heap L ∧ FrameEnd U o U' L ({ frames := 1, cells := 1, slots := 1, locals := 18 } : Room).cells ({ frames := 1, cells := 1, slots := 1, locals := 18 } : Room).slots) := by
  refine MetFree.of_bodySF (plainFor_of_name own_pn_java_lang_StringUTF16) hisR ?_
  intro p e s m args below meth c s₁ Bd hml0 hP hK
  obtain ⟨rfl, hZ, hh⟩ := hP
  have hx := Bd.exec
  have hby := Bd.bytes
  have hml : c.maxLocals = 6 := hml0
  have hlk := Bd.notSynchronized
  have hown : s.vm.findClass "java/lang/StringUTF16" = some m.cls := findClass_of_methodNamed Bd.named
  have hnm := (name_of_methodNamed Bd.named Bd.method).1
  have X0 : Stand p l e ({ frames := 1, cells := 1, slots := 1, locals := 18 } : Room) s m #[(.ref ca), (.int (0 : Int32)), (.int (1 : Int32))] below meth c s₁ [] 0 0 := Stand.of_body Bd
  have e0 : s₁.heap = h0 := by rw [← hh, Bd.state]; rfl
  have N0 := Fr.nil n0
  have K0 : Keep h0 h0 [] := Keep.refl _ _
  refine own_enter (P := (Done s ({ frames := 1, cells := 1, slots := 1, locals := 18 } : Room).cells ({ frames := 1, cells := 1, slots := 1, locals := 18 } : Room).slots (Qcpr1 Z ca ck sc0 h0 n0))) (Ls := #[.val (.ref ca), .val (.int (0 : Int32)), .val (.int (1 : Int32)), .unset, .unset, .unset]) (by first | (simp [entryFrame, mkF, argsToLocals, Value.category]; done) | rfl) ?_
  refine own_iloadN X0 hx 1 rfl (hb hby own_d13_0) rfl ?_
  obtain ⟨T1, h1, k1, X1, e1, E1, A1, st1⟩ := newP X0 hx hZ (hw _ (List.mem_of_getElem? (i := 19) rfl)) e0 (g := (mkF m 1 #[.val (.ref ca), .val (.int (0 : Int32)), .val (.int (1 : Int32)), .unset, .unset, .unset] [(.int (1 : Int32))])) rfl (hb hby own_d13_1) rfl (by decide) (cap := 1) (by decide) (by decide) (by decide) (by decide)
  obtain ⟨b1, g1⟩ : ∃ z, z = h0.size := ⟨_, rfl⟩
  rw [← g1] at A1 st1
  have ne2 : ca ≠ b1 := own_lt_ne Ac.lt g1
  have G1 : n0 ≤ b1 := Nat.le_trans Z0 (Nat.le_of_eq g1.symm)
  have H1 : h0.size ≤ b1 := Nat.le_trans K0.1 (Nat.le_of_eq g1.symm)
  have f3 := Ac.ext E1
  have K1 := K0.ext E1
  have Z1 := Nat.le_trans Z0 E1.1
  have V1 : Arv Z h1 b1 k1 .byte (1 : Int32) [(.int (0 : Int32))] (.int (0 : Int32)) := (Arv.new A1 (by decide)).pad (pad_rep [] (.int (0 : Int32)) 1)
  refine Goes.go st1 ?_
  show Goes p e below _ T1 (mkF m 3 #[.val (.ref ca), .val (.int (0 : Int32)), .val (.int (1 : Int32)), .unset, .unset, .unset] [(.ref b1)])
  refine own_astoreN X1 hx 4 rfl #[.val (.ref ca), .val (.int (0 : Int32)), .val (.int (1 : Int32)), .val (.ref b1), .unset, .unset] (hb hby own_d13_3) rfl rfl ?_
  refine own_aloadN X1 hx 5 rfl (hb hby own_d13_4) rfl rfl ?_
  refine own_iloadN X1 hx 6 rfl (hb hby own_d13_5) rfl ?_
  refine own_aloadN X1 hx 7 rfl (hb hby own_d13_6) rfl rfl ?_
  refine own_iconst X1 hx 8 rfl (0 : Int32) (hb hby own_d13_7) (by decide) ?_
  refine own_iloadN X1 hx 9 rfl (hb hby own_d13_8) rfl ?_
  obtain ⟨_, _, ⟨T4, L4, k4, n4⟩, -, X4, ⟨Lc4, hQ4, l4, y4, z4⟩, st4⟩ := Jvm.LawKit.callS X1 hx (y := (⟨"java/lang/StringUTF16", "compress", "([CI[BII)I"⟩ : MethodName)) hown (mvT hZ (hw _ (List.mem_of_getElem? (i := 76) rfl))) (mvT hZ (hw _ (List.mem_of_getElem? (i := 77) rfl))) (mvT hZ (hw _ (List.mem_of_getElem? (i := 74) rfl))) (mvT hZ (hw _ (List.mem_of_getElem? (i := 78) rfl))) (by decide) (backOf (W := 0) (rmcmp1 l Z a0 hw [] ca b1 ck sc0 k1 h1 n0 Z1 f3 V1 G1 ne2 hc0) hZ (hw _ (List.mem_of_getElem? (i := 78) rfl)) (hw _ (List.mem_of_getElem? (i := 74) rfl)) (by decide) (by decide)) (g := (mkF m 9 #[.val (.ref ca), .val (.int (0 : Int32)), .val (.int (1 : Int32)), .val (.ref b1), .unset, .unset] [(.int (1 : Int32)), (.int (0 : Int32)), (.ref b1), (.int (0 : Int32)), (.ref ca)])) rfl (by rw [hml]; rfl) (argsL := [(.ref ca), (.int (0 : Int32)), (.ref b1), (.int (0 : Int32)), (.int (1 : Int32))]) (rest := []) (lenOf own_pd1 rfl) rfl (by show 2 * 0 + _ ≤ _; exact Nat.le_of_eq rfl) (hb hby own_d13_9) (fun _ _ => ⟨rfl, e1, (by decide : 1 + 0 ≤ _), (by decide : 1 + 0 ≤ _)⟩)
  dsimp only [Pt.U, Pt.locs, Pt.cells, Pt.slots] at X4 l4 y4 z4 st4 hQ4
  subst l4 y4 z4
  obtain ⟨rfl, N4q, K4q, f4_0⟩ := hQ4
  have N4 := Fr.app N0 N4q
  have f5 := f3.keep K4q (ninS ne2 nin0)
  have K4 := K1.trans K4q (allS (Or.inr H1) all0)
  have Z4 := Nat.le_trans Z1 K4q.1
  refine Goes.go st4 ?_
  show Goes p e below _ T4 (mkF m 12 #[.val (.ref ca), .val (.int (0 : Int32)), .val (.int (1 : Int32)), .val (.ref b1), .unset, .unset] [(.int (1 : Int32))])
  refine own_istore X4 hx 14 rfl #[.val (.ref ca), .val (.int (0 : Int32)), .val (.int (1 : Int32)), .val (.ref b1), .val (.int (1 : Int32)), .unset] (hb hby own_d13_12) rfl ?_
  refine own_iload X4 hx 16 rfl (hb hby own_d13_14) rfl ?_
  refine own_iloadN X4 hx 17 rfl (hb hby own_d13_16) rfl ?_
  refine own_icmpY X4 hx 57 (hb hby own_d13_17) (teq ((by decide) : (1 : Int32) = (1 : Int32))).1 (by decide) (by decide) ?_
  refine own_aloadN X4 hx 58 rfl (hb hby own_d13_57) rfl rfl ?_
  refine own_retR X4 hx hlk Bd.returns rfl rfl (hb hby own_d13_58) (by decide) (by decide) rfl ?_
  exact ⟨b1, k1, rfl, N4, K4, H1, f4_0⟩
theorem own_d15_0 : decode jdk_52_method_15_code 0 = .ok (.iload_n 1, 1) := by decide +kernel
theorem own_d15_1 : decode jdk_52_method_15_code 1 = .ok (.aload_n 0, 1) := by decide +kernel
theorem own_d15_2 : decode jdk_52_method_15_code 2 = .ok (.arraylength, 1) := by decide +kernel
theorem own_d15_3 : decode jdk_52_method_15_code 3 = .ok (.isub, 1) := by decide +kernel
theorem own_d15_4 : decode jdk_52_method_15_code 4 = .ok (.bipush 31, 2) := by decide +kernel
theorem own_d15_6 : decode jdk_52_method_15_code 6 = .ok (.iushr, 1) := by decide +kernel
theorem own_d15_7 : decode jdk_52_method_15_code 7 = .ok (.i2b, 1) := by decide +kernel
theorem own_d15_8 : decode jdk_52_method_15_code 8 = .ok (.ireturn, 1) := by decide +kernel
def Qcod1 (Z : State) (ba : Addr) (bk : ClassId) (sc0 : Int32) (h0 : Heap) (n0 : Nat) (v : Option Value) (h : Heap) (L : List Loc) : Prop := v = some (.int (0 : Int32)) ∧ Fr n0 L ∧ h = h0
set_option maxRecDepth 65536 in
set_option maxHeartbeats 40000000 in
theorem rmcod1 (l : Launch) (Z : State) (a0 : Array Value) (hw : ∀ d ∈ tables_1, d.before a0 Z = true) (ws : List Jvm.Cond) (ba : Addr) (bk : ClassId) (sc0 : Int32) (h0 : Heap) (n0 : Nat) (Z0 : n0 ≤ h0.size) (Ab : Arv Z h0 ba bk .byte (1 : Int32) [(.int sc0)] (.int (0 : Int32))) :
    MetFree l (⟨"java/lang/StringUTF16", "coderFromArrayLen", "([BI)B"⟩ : MethodName) (head1 (Jvm.Cond.code (⟨"java/lang/StringUTF16", "coderFromArrayLen", "([BI)B"⟩ : MethodName) jdk_52_method_15_code 2 (some .byte) :: ws) ({ frames := 0, cells := 0, slots := 0, locals := 0 } : Room)) (fun a U => a = #[(.ref ba), (.int (1 : Int32))] ∧ Z.Warmed39 U.vm ∧ U.heap = h0) (fun _ _ _ _ _ => True) (fun _ U o U' => ∃ v L, o = .returned v ∧ Qcod1 Z ba bk sc0 h0 n0 v U'.heap L ∧ FrameEnd U o U' L ({ frames := 0, cells := 0, slots := 0, locals := 0 } : Room).cells ({ frames := 0, cells := 0, slots := 0, locals := 0 } : Room).slots) := by
  refine MetFree.of_bodySF (plainFor_of_name own_pn_java_lang_StringUTF16) hisR ?_
  intro p e s m args below meth c s₁ Bd hml0 hP hK
  obtain ⟨rfl, hZ, hh⟩ := hP
  have hx := Bd.exec
  have hby := Bd.bytes
  have hml : c.maxLocals = 2 := hml0
  have hlk := Bd.notSynchronized
  have hown : s.vm.findClass "java/lang/StringUTF16" = some m.cls := findClass_of_methodNamed Bd.named
  have hnm := (name_of_methodNamed Bd.named Bd.method).1
  have X0 : Stand p l e ({ frames := 0, cells := 0, slots := 0, locals := 0 } : Room) s m #[(.ref ba), (.int (1 : Int32))] below meth c s₁ [] 0 0 := Stand.of_body Bd
  have e0 : s₁.heap = h0 := by rw [← hh, Bd.state]; rfl
  have N0 := Fr.nil n0
  refine own_enter (P := (Done s ({ frames := 0, cells := 0, slots := 0, locals := 0 } : Room).cells ({ frames := 0, cells := 0, slots := 0, locals := 0 } : Room).slots (Qcod1 Z ba bk sc0 h0 n0))) (Ls := #[.val (.ref ba), .val (.int (1 : Int32))]) (by first | (simp [entryFrame, mkF, argsToLocals, Value.category]; done) | rfl) ?_
  refine own_iloadN X0 hx 1 rfl (hb hby own_d15_0) rfl ?_
  refine own_aloadN X0 hx 2 rfl (hb hby own_d15_1) rfl rfl ?_
  obtain ⟨cl1, Ar1, qq1, S1, NN1, HH1, GG1⟩ := id Ab
  refine Goes.go (X0.arraylength hx (by rw [e0]; exact Ar1.1) (State.isArrayOf_alike hZ.alike Ar1.2.1) (g := (mkF m 2 #[.val (.ref ba), .val (.int (1 : Int32))] [(.ref ba), (.int (1 : Int32))])) rfl rfl (hb hby own_d15_2)) ?_
  show Goes p e below _ s₁ (mkF m 3 #[.val (.ref ba), .val (.int (1 : Int32))] [(.int (cl1.slots.size.toInt32)), (.int (1 : Int32))])
  rw [len_of S1 NN1]
  refine own_isub X0 hx 4 rfl (z := (0 : Int32)) (hb hby own_d15_3) (by decide) ?_
  refine own_bipush X0 hx 6 rfl (31 : Int32) (hb hby own_d15_4) (by decide) ?_
  refine own_iushr X0 hx 7 rfl (z := (0 : Int32)) (hb hby own_d15_6) (by decide) ?_
  refine own_i2b X0 hx 8 rfl (z := (0 : Int32)) (hb hby own_d15_7) (by decide) ?_
  refine own_ret X0 hx hlk Bd.returns (by decide) (Or.inl ⟨rfl, by simp, _, rfl⟩) (hb hby own_d15_8) (by decide) (by decide) e0 ?_
  exact ⟨rfl, N0, rfl⟩
theorem own_pd2 : parseMethodDescriptor "([CII)[B" = some ⟨[(.array .char), .int, .int], some (.array .byte)⟩ := by decide +kernel
theorem own_pd3 : parseMethodDescriptor "([BI)B" = some ⟨[(.array .byte), .int], some .byte⟩ := by decide +kernel
theorem own_d3_27 : decode jdk_42_method_149_code 27 = .ok (.getstatic 38, 3) := by decide +kernel
theorem own_d3_30 : decode jdk_42_method_149_code 30 = .ok (.ifCond .eq 28, 3) := by decide +kernel
theorem own_d3_33 : decode jdk_42_method_149_code 33 = .ok (.aload_n 1, 1) := by decide +kernel
theorem own_d3_34 : decode jdk_42_method_149_code 34 = .ok (.iload_n 2, 1) := by decide +kernel
theorem own_d3_35 : decode jdk_42_method_149_code 35 = .ok (.iload_n 3, 1) := by decide +kernel
theorem own_d3_36 : decode jdk_42_method_149_code 36 = .ok (.invokestatic 177, 3) := by decide +kernel
theorem own_d3_39 : decode jdk_42_method_149_code 39 = .ok (.astore 5, 2) := by decide +kernel
theorem own_d3_41 : decode jdk_42_method_149_code 41 = .ok (.aload_n 0, 1) := by decide +kernel
theorem own_d3_42 : decode jdk_42_method_149_code 42 = .ok (.aload 5, 2) := by decide +kernel
theorem own_d3_44 : decode jdk_42_method_149_code 44 = .ok (.iload_n 3, 1) := by decide +kernel
theorem own_d3_45 : decode jdk_42_method_149_code 45 = .ok (.invokestatic 47, 3) := by decide +kernel
theorem own_d3_48 : decode jdk_42_method_149_code 48 = .ok (.putfield 15, 3) := by decide +kernel
theorem own_d3_51 : decode jdk_42_method_149_code 51 = .ok (.aload_n 0, 1) := by decide +kernel
theorem own_d3_52 : decode jdk_42_method_149_code 52 = .ok (.aload 5, 2) := by decide +kernel
theorem own_d3_54 : decode jdk_42_method_149_code 54 = .ok (.putfield 9, 3) := by decide +kernel
theorem own_d3_57 : decode jdk_42_method_149_code 57 = .ok (.return_, 1) := by decide +kernel
def Qini1 (Z : State) (st : Addr) (ca : Addr) (ck : ClassId) (sc0 : Int32) (cs : Int32) (h0 : Heap) (n0 : Nat) (v : Option Value) (h : Heap) (L : List Loc) : Prop := ∃ rb : Addr, ∃ rk : ClassId, v = none ∧ Fr n0 L ∧ Keep h0 h [st] ∧ h0.size ≤ rb ∧ Fld Z h st "java/lang/String" "value" "[B" (.ref rb) ∧ Fld Z h st "java/lang/String" "coder" "B" (.int (0 : Int32)) ∧ Arv Z h rb rk .byte (1 : Int32) [(.int ((sc0.toInt8.toInt32).toInt8.toInt32))] (.int (0 : Int32))
set_option maxRecDepth 65536 in
set_option maxHeartbeats 40000000 in
theorem rmini1 (l : Launch) (Z : State) (a0 : Array Value) (hw : ∀ d ∈ tables_1, d.before a0 Z = true) (ws : List Jvm.Cond) (st : Addr) (ca : Addr) (ck : ClassId) (sc0 : Int32) (cs : Int32) (h0 : Heap) (n0 : Nat) (Z0 : n0 ≤ h0.size) (ES : Exa Z h0 st "java/lang/String") (gs : n0 ≤ st) (Fv : Fld Z h0 st "java/lang/String" "value" "[B" .null) (Fc : Fld Z h0 st "java/lang/String" "coder" "B" (.int (0 : Int32))) (Ac : Arv Z h0 ca ck .char (1 : Int32) [(.int sc0)] (.int (0 : Int32))) (Sc : Sta Z h0 "java/lang/String" "COMPACT_STRINGS" "Z" (.int cs)) (hcs : ¬ (cs = (0 : Int32))) (ncs : ca ≠ st) (hc0 : ¬ ((255 : Int32) < sc0)) :
    MetFree l (⟨"java/lang/String", "<init>", "([CIILjava/lang/Void;)V"⟩ : MethodName) (head1 (Jvm.Cond.code (⟨"java/lang/String", "<init>", "([CIILjava/lang/Void;)V"⟩ : MethodName) jdk_42_method_149_code 6 none :: ws) ({ frames := 2, cells := 1, slots := 1, locals := 35 } : Room)) (fun a U => a = #[(.ref st), (.ref ca), (.int (0 : Int32)), (.int (1 : Int32)), .null] ∧ Z.Warmed39 U.vm ∧ U.heap = h0) (fun _ _ _ _ _ => True) (fun _ U o U' => ∃ v L, o = .returned v ∧ Qini1 Z st ca ck sc0 cs h0 n0 v U'.heap L ∧ FrameEnd U o U' L ({ frames := 2, cells := 1, slots := 1, locals := 35 } : Room).cells ({ frames := 2, cells := 1, slots := 1, locals := 35 } : Room).slots) := by
  refine MetFree.of_bodySF (plainFor_of_name own_pn_java_lang_String) hisR ?_
  intro p e s m args below meth c s₁ Bd hml0 hP hK
  obtain ⟨rfl, hZ, hh⟩ := hP
  have hx := Bd.exec
  have hby := Bd.bytes
  have hml : c.maxLocals = 6 := hml0
  have hlk := Bd.notSynchronized
  have hown : s.vm.findClass "java/lang/String" = some m.cls := findClass_of_methodNamed Bd.named
  have hnm := (name_of_methodNamed Bd.named Bd.method).1
  have X0 : Stand p l e ({ frames := 2, cells := 1, slots := 1, locals := 35 } : Room) s m #[(.ref st), (.ref ca), (.int (0 : Int32)), (.int (1 : Int32)), .null] below meth c s₁ [] 0 0 := Stand.of_body Bd
  have e0 : s₁.heap = h0 := by rw [← hh, Bd.state]; rfl
  have N0 := Fr.nil n0
  have K0 : Keep h0 h0 [st] := Keep.refl _ _
  refine own_enter (P := (Done s ({ frames := 2, cells := 1, slots := 1, locals := 35 } : Room).cells ({ frames := 2, cells := 1, slots := 1, locals := 35 } : Room).slots (Qini1 Z st ca ck sc0 cs h0 n0))) (Ls := #[.val (.ref st), .val (.ref ca), .val (.int (0 : Int32)), .val (.int (1 : Int32)), .val .null, .unset]) (by first | (simp [entryFrame, mkF, argsToLocals, Value.category]; done) | rfl) ?_
  refine own_aloadN X0 hx 1 rfl (hb hby own_d3_0) rfl rfl ?_
  obtain ⟨T1, X1, e1, st1⟩ := initO X0 hx hZ hown (hw _ (List.mem_of_getElem? (i := 15) rfl)) (hw _ (List.mem_of_getElem? (i := 16) rfl)) (hw _ (List.mem_of_getElem? (i := 17) rfl)) e0 (g := (mkF m 1 #[.val (.ref st), .val (.ref ca), .val (.int (0 : Int32)), .val (.int (1 : Int32)), .val .null, .unset] [(.ref st)])) rfl (by rw [hml]; rfl) rfl (hb hby own_d3_1) (by decide) (W := 0) (by show 2 * 0 + _ ≤ _; exact Nat.le_of_eq rfl) (by decide)
  refine Goes.go st1 ?_
  show Goes p e below _ T1 (mkF m 4 #[.val (.ref st), .val (.ref ca), .val (.int (0 : Int32)), .val (.int (1 : Int32)), .val .null, .unset] [])
  refine own_iloadN X1 hx 5 rfl (hb hby own_d3_4) rfl ?_
  refine own_ifY X1 hx 27 (hb hby own_d3_5) ((if0 _ _).trans (feq ((by decide) : ¬ ((1 : Int32) = (0 : Int32)))).2) (by decide) (by decide) ?_
  obtain ⟨T2, X2, e2, st2⟩ := getS2 X1 hx hZ hown (host := "") (Or.inl (hw _ (List.mem_of_getElem? (i := 66) rfl))) Via.refl e1 Sc (g := (mkF m 27 #[.val (.ref st), .val (.ref ca), .val (.int (0 : Int32)), .val (.int (1 : Int32)), .val .null, .unset] [])) rfl (hb hby own_d3_27)
  refine Goes.go st2 ?_
  show Goes p e below _ T2 (mkF m 30 #[.val (.ref st), .val (.ref ca), .val (.int (0 : Int32)), .val (.int (1 : Int32)), .val .null, .unset] [(.int cs)])
  refine own_ifN X2 hx 33 (hb hby own_d3_30) ((if0 _ _).trans (feq (hcs : ¬ (cs = (0 : Int32)))).1) rfl ?_
  refine own_aloadN X2 hx 34 rfl (hb hby own_d3_33) rfl rfl ?_
  refine own_iloadN X2 hx 35 rfl (hb hby own_d3_34) rfl ?_
  refine own_iloadN X2 hx 36 rfl (hb hby own_d3_35) rfl ?_
  obtain ⟨_, _, ⟨T3, L3, k3, n3⟩, -, X3, ⟨Lc3, hQ3, l3, y3, z3⟩, st3⟩ := Jvm.LawKit.callS X2 hx (y := (⟨"java/lang/StringUTF16", "compress", "([CII)[B"⟩ : MethodName)) hown (mvT hZ (hw _ (List.mem_of_getElem? (i := 72) rfl))) (mvT hZ (hw _ (List.mem_of_getElem? (i := 73) rfl))) (mvT hZ (hw _ (List.mem_of_getElem? (i := 74) rfl))) (mvT hZ (hw _ (List.mem_of_getElem? (i := 75) rfl))) (by decide) (backOf (W := 0) (rmcpr1 l Z a0 hw [] ca ck sc0 h0 n0 Z0 Ac hc0) hZ (hw _ (List.mem_of_getElem? (i := 75) rfl)) (hw _ (List.mem_of_getElem? (i := 74) rfl)) (by decide) (by decide)) (g := (mkF m 36 #[.val (.ref st), .val (.ref ca), .val (.int (0 : Int32)), .val (.int (1 : Int32)), .val .null, .unset] [(.int (1 : Int32)), (.int (0 : Int32)), (.ref ca)])) rfl (by rw [hml]; rfl) (argsL := [(.ref ca), (.int (0 : Int32)), (.int (1 : Int32))]) (rest := []) (lenOf own_pd2 rfl) rfl (by show 2 * 0 + _ ≤ _; exact Nat.le_of_eq rfl) (hb hby own_d3_36) (fun _ _ => ⟨rfl, e2, (by decide : 0 + 1 ≤ _), (by decide : 0 + 1 ≤ _)⟩)
  dsimp only [Pt.U, Pt.locs, Pt.cells, Pt.slots] at X3 l3 y3 z3 st3 hQ3
  subst l3 y3 z3
  obtain ⟨rb_3, rk_3, rfl, N3q, K3q, f3_0, f3_1⟩ := hQ3
  have N3 := Fr.app N0 N3q
  have ne4 : st ≠ rb_3 := Nat.ne_of_lt (Nat.lt_of_lt_of_le ES.lt f3_0)
  have ne5 : ca ≠ rb_3 := Nat.ne_of_lt (Nat.lt_of_lt_of_le Ac.lt f3_0)
  have GG6 : n0 ≤ rb_3 := Nat.le_trans Z0 f3_0
  have HG6 : h0.size ≤ rb_3 := Nat.le_trans K0.1 f3_0
  have f7 := ES.keep K3q
  have f8 := Fv.keep K3q nin0
  have f9 := Fc.keep K3q nin0
  have f10 := Ac.keep K3q nin0
  have f11 := own_sta_keep Sc K3q all0
  have K3 := K0.trans K3q all0
  have Z3 := Nat.le_trans Z0 K3q.1
  refine Goes.go st3 ?_
  show Goes p e below _ T3 (mkF m 39 #[.val (.ref st), .val (.ref ca), .val (.int (0 : Int32)), .val (.int (1 : Int32)), .val .null, .unset] [(.ref rb_3)])
  refine own_astore X3 hx 41 rfl #[.val (.ref st), .val (.ref ca), .val (.int (0 : Int32)), .val (.int (1 : Int32)), .val .null, .val (.ref rb_3)] (hb hby own_d3_39) rfl rfl ?_
  refine own_aloadN X3 hx 42 rfl (hb hby own_d3_41) rfl rfl ?_
  refine own_aload X3 hx 44 rfl (hb hby own_d3_42) rfl rfl ?_
  refine own_iloadN X3 hx 45 rfl (hb hby own_d3_44) rfl ?_
  obtain ⟨_, _, ⟨T12, L12, k12, n12⟩, -, X12, ⟨Lc12, hQ12, l12, y12, z12⟩, st12⟩ := Jvm.LawKit.callS X3 hx (y := (⟨"java/lang/StringUTF16", "coderFromArrayLen", "([BI)B"⟩ : MethodName)) hown (mvT hZ (hw _ (List.mem_of_getElem? (i := 79) rfl))) (mvT hZ (hw _ (List.mem_of_getElem? (i := 80) rfl))) (mvT hZ (hw _ (List.mem_of_getElem? (i := 74) rfl))) (mvT hZ (hw _ (List.mem_of_getElem? (i := 81) rfl))) (by decide) (backOf (W := 1) (rmcod1 l Z a0 hw [] rb_3 rk_3 ((sc0.toInt8.toInt32).toInt8.toInt32) T3.heap n0 Z3 f3_1) hZ (hw _ (List.mem_of_getElem? (i := 81) rfl)) (hw _ (List.mem_of_getElem? (i := 74) rfl)) (by decide) (by decide)) (g := (mkF m 45 #[.val (.ref st), .val (.ref ca), .val (.int (0 : Int32)), .val (.int (1 : Int32)), .val .null, .val (.ref rb_3)] [(.int (1 : Int32)), (.ref rb_3), (.ref st)])) rfl (by rw [hml]; rfl) (argsL := [(.ref rb_3), (.int (1 : Int32))]) (rest := [(.ref st)]) (lenOf own_pd3 rfl) rfl (by show 2 * 0 + _ ≤ _; exact Nat.le_of_eq rfl) (hb hby own_d3_45) (fun _ _ => ⟨rfl, rfl, (by decide : 1 + 0 ≤ _), (by decide : 1 + 0 ≤ _)⟩)
  dsimp only [Pt.U, Pt.locs, Pt.cells, Pt.slots] at X12 l12 y12 z12 st12 hQ12
  subst l12 y12 z12
  obtain ⟨rfl, N12q, eh12⟩ := hQ12
  have N12 := Fr.app N3 N12q
  refine Goes.go st12 ?_
  show Goes p e below _ T12 (mkF m 48 #[.val (.ref st), .val (.ref ca), .val (.int (0 : Int32)), .val (.int (1 : Int32)), .val .null, .val (.ref rb_3)] [(.int (0 : Int32)), (.ref st)])
  obtain ⟨T13, h13, X13, e13, W13, st13⟩ := putFN X12 hx hZ hown (hw _ (List.mem_of_getElem? (i := 25) rfl)) Via.refl eh12 f9 f7 (Or.inr ⟨(hw _ (List.mem_of_getElem? (i := 21) rfl)), rfl, hnm⟩) (hw _ (List.mem_of_getElem? (i := 5) rfl)) (ty := .byte) (v' := (.int (0 : Int32))) (by decide) rfl (by decide) (g := (mkF m 48 #[.val (.ref st), .val (.ref ca), .val (.int (0 : Int32)), .val (.int (1 : Int32)), .val .null, .val (.ref rb_3)] [(.int (0 : Int32)), (.ref st)])) rfl rfl (hb hby own_d3_48)
  have N13 := Fr.snoc X13 N12 gs
  have f14 := f7.wr W13
  have f15 := f8.other W13 (Or.inr (slot_ne (Or.inr (hw _ (List.mem_of_getElem? (i := 20) rfl))) (Or.inr (hw _ (List.mem_of_getElem? (i := 21) rfl))) (by decide) (t := (.array .byte)) (t' := .byte) (by decide) (by decide)))
  have f16 := f9.same W13
  have f17 := f10.other W13 ncs
  have f18 := f11.wr W13
  have f19 := f3_1.other W13 (Ne.symm ne4)
  have K13 := K3.wr W13 (Or.inl (List.mem_of_getElem? (i := 0) rfl))
  have Z13 := Nat.le_trans Z3 (Nat.le_of_eq W13.size.symm)
  refine Goes.go st13 ?_
  show Goes p e below _ T13 (mkF m 51 #[.val (.ref st), .val (.ref ca), .val (.int (0 : Int32)), .val (.int (1 : Int32)), .val .null, .val (.ref rb_3)] [])
  refine own_aloadN X13 hx 52 rfl (hb hby own_d3_51) rfl rfl ?_
  refine own_aload X13 hx 54 rfl (hb hby own_d3_52) rfl rfl ?_
  obtain ⟨T20, h20, X20, e20, W20, st20⟩ := putF X13 hx hZ hown (host := "") (Or.inl (hw _ (List.mem_of_getElem? (i := 24) rfl))) Via.refl e13 f15 f14 (Or.inr ⟨(hw _ (List.mem_of_getElem? (i := 20) rfl)), rfl, hnm⟩) (hw _ (List.mem_of_getElem? (i := 5) rfl)) (ty := (.array .byte)) (by decide) rfl rfl (g := (mkF m 54 #[.val (.ref st), .val (.ref ca), .val (.int (0 : Int32)), .val (.int (1 : Int32)), .val .null, .val (.ref rb_3)] [(.ref rb_3), (.ref st)])) rfl rfl (hb hby own_d3_54)
  have N20 := Fr.snoc X20 N13 gs
  have f21 := f14.wr W20
  have f22 := f15.same W20
  have f23 := f16.other W20 (Or.inr (slot_ne (Or.inr (hw _ (List.mem_of_getElem? (i := 21) rfl))) (Or.inr (hw _ (List.mem_of_getElem? (i := 20) rfl))) (by decide) (t := .byte) (t' := (.array .byte)) (by decide) (by decide)))
  have f24 := f17.other W20 ncs
  have f25 := f18.wr W20
  have f26 := f19.other W20 (Ne.symm ne4)
  have K20 := K13.wr W20 (Or.inl (List.mem_of_getElem? (i := 0) rfl))
  have Z20 := Nat.le_trans Z13 (Nat.le_of_eq W20.size.symm)
  refine Goes.go st20 ?_
  show Goes p e below _ T20 (mkF m 57 #[.val (.ref st), .val (.ref ca), .val (.int (0 : Int32)), .val (.int (1 : Int32)), .val .null, .val (.ref rb_3)] [])
  refine own_retV X20 hx hlk Bd.returns (hb hby own_d3_57) (by decide) (by decide) e20 ?_
  exact ⟨rb_3, rk_3, rfl, N20, K20, HG6, f22, f23, f26⟩
def Qnew1 (Z : State) (st : Addr) (ca : Addr) (ck : ClassId) (sc0 : Int32) (cs : Int32) (h0 : Heap) (n0 : Nat) (v : Option Value) (h : Heap) (L : List Loc) : Prop := ∃ rb : Addr, ∃ rk : ClassId, v = none ∧ Fr n0 L ∧ Keep h0 h [st] ∧ h0.size ≤ rb ∧ Fld Z h st "java/lang/String" "value" "[B" (.ref rb) ∧ Fld Z h st "java/lang/String" "coder" "B" (.int (0 : Int32)) ∧ Arv Z h rb rk .byte (1 : Int32) [(.int ((sc0.toInt8.toInt32).toInt8.toInt32))] (.int (0 : Int32))
set_option maxRecDepth 65536 in
set_option maxHeartbeats 40000000 in
theorem rmnew1 (l : Launch) (Z : State) (a0 : Array Value) (hw : ∀ d ∈ tables_1, d.before a0 Z = true) (ws : List Jvm.Cond) (st : Addr) (ca : Addr) (ck : ClassId) (sc0 : Int32) (cs : Int32) (h0 : Heap) (n0 : Nat) (Z0 : n0 ≤ h0.size) (ES : Exa Z h0 st "java/lang/String") (gs : n0 ≤ st) (Fv : Fld Z h0 st "java/lang/String" "value" "[B" .null) (Fc : Fld Z h0 st "java/lang/String" "coder" "B" (.int (0 : Int32))) (Ac : Arv Z h0 ca ck .char (1 : Int32) [(.int sc0)] (.int (0 : Int32))) (Sc : Sta Z h0 "java/lang/String" "COMPACT_STRINGS" "Z" (.int cs)) (hcs : ¬ (cs = (0 : Int32))) (ncs : ca ≠ st) (hc0 : ¬ ((255 : Int32) < sc0)) :
    MetFree l (⟨"java/lang/String", "<init>", "([C)V"⟩ : MethodName) (head1 (Jvm.Cond.code (⟨"java/lang/String", "<init>", "([C)V"⟩ : MethodName) jdk_42_method_3_code 2 none :: ws) ({ frames := 3, cells := 1, slots := 1, locals := 52 } : Room)) (fun a U => a = #[(.ref st), (.ref ca)] ∧ Z.Warmed39 U.vm ∧ U.heap = h0) (fun _ _ _ _ _ => True) (fun _ U o U' => ∃ v L, o = .returned v ∧ Qnew1 Z st ca ck sc0 cs h0 n0 v U'.heap L ∧ FrameEnd U o U' L ({ frames := 3, cells := 1, slots := 1, locals := 52 } : Room).cells ({ frames := 3, cells := 1, slots := 1, locals := 52 } : Room).slots) := by
  refine MetFree.of_bodySF (plainFor_of_name own_pn_java_lang_String) hisR ?_
  intro p e s m args below meth c s₁ Bd hml0 hP hK
  obtain ⟨rfl, hZ, hh⟩ := hP
  have hx := Bd.exec
  have hby := Bd.bytes
  have hml : c.maxLocals = 2 := hml0
  have hlk := Bd.notSynchronized
  have hown : s.vm.findClass "java/lang/String" = some m.cls := findClass_of_methodNamed Bd.named
  have hnm := (name_of_methodNamed Bd.named Bd.method).1
  have X0 : Stand p l e ({ frames := 3, cells := 1, slots := 1, locals := 52 } : Room) s m #[(.ref st), (.ref ca)] below meth c s₁ [] 0 0 := Stand.of_body Bd
  have e0 : s₁.heap = h0 := by rw [← hh, Bd.state]; rfl
  have N0 := Fr.nil n0
  have K0 : Keep h0 h0 [st] := Keep.refl _ _
  refine own_enter (P := (Done s ({ frames := 3, cells := 1, slots := 1, locals := 52 } : Room).cells ({ frames := 3, cells := 1, slots := 1, locals := 52 } : Room).slots (Qnew1 Z st ca ck sc0 cs h0 n0))) (Ls := #[.val (.ref st), .val (.ref ca)]) (by first | (simp [entryFrame, mkF, argsToLocals, Value.category]; done) | rfl) ?_
  refine own_aloadN X0 hx 1 rfl (hb hby own_d2_0) rfl rfl ?_
  refine own_aloadN X0 hx 2 rfl (hb hby own_d2_1) rfl rfl ?_
  refine own_iconst X0 hx 3 rfl (0 : Int32) (hb hby own_d2_2) (by decide) ?_
  refine own_aloadN X0 hx 4 rfl (hb hby own_d2_3) rfl rfl ?_
  obtain ⟨cl1, Ar1, qq1, S1, NN1, HH1, GG1⟩ := id Ac
  refine Goes.go (X0.arraylength hx (by rw [e0]; exact Ar1.1) (State.isArrayOf_alike hZ.alike Ar1.2.1) (g := (mkF m 4 #[.val (.ref st), .val (.ref ca)] [(.ref ca), (.int (0 : Int32)), (.ref ca), (.ref st)])) rfl rfl (hb hby own_d2_4)) ?_
  show Goes p e below _ s₁ (mkF m 5 #[.val (.ref st), .val (.ref ca)] [(.int (cl1.slots.size.toInt32)), (.int (0 : Int32)), (.ref ca), (.ref st)])
  rw [len_of S1 NN1]
  refine own_aconst_null X0 hx 6 rfl (hb hby own_d2_5) ?_
  obtain ⟨_, _, ⟨T2, L2, k2, n2⟩, -, X2, ⟨Lc2, hQ2, l2, y2, z2⟩, st2⟩ := X0.specialBack hx (y := (⟨"java/lang/String", "<init>", "([CIILjava/lang/Void;)V"⟩ : MethodName)) rfl hown (mvT hZ (hw _ (List.mem_of_getElem? (i := 11) rfl))) (mvT hZ (hw _ (List.mem_of_getElem? (i := 12) rfl))) (mvT hZ (hw _ (List.mem_of_getElem? (i := 14) rfl))) (by decide) (backOf (W := 0) (rmini1 l Z a0 hw [] st ca ck sc0 cs h0 n0 Z0 ES gs Fv Fc Ac Sc hcs ncs hc0) hZ (hw _ (List.mem_of_getElem? (i := 14) rfl)) (hw _ (List.mem_of_getElem? (i := 6) rfl)) (by decide) (by decide)) (g := (mkF m 6 #[.val (.ref st), .val (.ref ca)] [.null, (.int (1 : Int32)), (.int (0 : Int32)), (.ref ca), (.ref st)])) rfl (by rw [hml]; rfl) (Steps.refl _) (a := st) (argsL := [(.ref ca), (.int (0 : Int32)), (.int (1 : Int32)), .null]) (rest := []) (lenOf own_pd0 rfl) rfl (by show 2 * 0 + _ ≤ _; exact Nat.le_of_eq rfl) (hb hby own_d2_6) (fun _ _ => ⟨rfl, e0, (by decide : 0 + 1 ≤ _), (by decide : 0 + 1 ≤ _)⟩)
  dsimp only [Pt.U, Pt.locs, Pt.cells, Pt.slots] at X2 l2 y2 z2 st2 hQ2
  subst l2 y2 z2
  obtain ⟨rb_2, rk_2, rfl, N2q, K2q, f2_0, f2_1, f2_2, f2_3⟩ := hQ2
  have N2 := Fr.app N0 N2q
  have ne3 : st ≠ rb_2 := Nat.ne_of_lt (Nat.lt_of_lt_of_le ES.lt f2_0)
  have ne4 : ca ≠ rb_2 := Nat.ne_of_lt (Nat.lt_of_lt_of_le Ac.lt f2_0)
  have GG5 : n0 ≤ rb_2 := Nat.le_trans Z0 f2_0
  have HG5 : h0.size ≤ rb_2 := Nat.le_trans K0.1 f2_0
  have f6 := ES.keep K2q
  have f7 := Ac.keep K2q (ninS ncs nin0)
  have f8 := own_sta_keep Sc K2q (allS (own_eplain ES) all0)
  have K2 := K0.trans K2q (allS (Or.inl (List.mem_of_getElem? (i := 0) rfl)) all0)
  have Z2 := Nat.le_trans Z0 K2q.1
  refine Goes.tr st2 ?_
  show Goes p e below _ T2 (mkF m 9 #[.val (.ref st), .val (.ref ca)] [])
  refine own_retV X2 hx hlk Bd.returns (hb hby own_d2_9) (by decide) (by decide) rfl ?_
  exact ⟨rb_2, rk_2, rfl, N2, K2, HG5, f2_1, f2_2, f2_3⟩
def Qcmp2 (Z : State) (ca : Addr) (ba : Addr) (ck : ClassId) (sc0 : Int32) (sc1 : Int32) (bk : ClassId) (h0 : Heap) (n0 : Nat) (v : Option Value) (h : Heap) (L : List Loc) : Prop := v = some (.int (2 : Int32)) ∧ Fr n0 L ∧ Keep h0 h [ba] ∧ Arv Z h ba bk .byte (2 : Int32) [(.int ((sc0.toInt8.toInt32).toInt8.toInt32)), (.int ((sc1.toInt8.toInt32).toInt8.toInt32))] (.int (0 : Int32))
set_option maxRecDepth 65536 in
set_option maxHeartbeats 40000000 in
theorem rmcmp2 (l : Launch) (Z : State) (a0 : Array Value) (hw : ∀ d ∈ tables_1, d.before a0 Z = true) (ws : List Jvm.Cond) (ca : Addr) (ba : Addr) (ck : ClassId) (sc0 : Int32) (sc1 : Int32) (bk : ClassId) (h0 : Heap) (n0 : Nat) (Z0 : n0 ≤ h0.size) (Ac : Arv Z h0 ca ck .char (2 : Int32) [(.int sc0), (.int sc1)] (.int (0 : Int32))) (Ab : Arv Z h0 ba bk .byte (2 : Int32) [(.int (0 : Int32)), (.int (0 : Int32))] (.int (0 : Int32))) (gb : n0 ≤ ba) (ncb : ca ≠ ba) (hc0 : ¬ ((255 : Int32) < sc0)) (hc1 : ¬ ((255 : Int32) < sc1)) :
    MetFree l (⟨"java/lang/StringUTF16", "compress", "([CI[BII)I"⟩ : MethodName) (head1 (Jvm.Cond.code (⟨"java/lang/StringUTF16", "compress", "([CI[BII)I"⟩ : MethodName) jdk_52_method_21_code 7 (some .int) :: ws) ({ frames := 0, cells := 0, slots := 0, locals := 0 } : Room)) (fun a U => a = #[(.ref ca), (.int (0 : Int32)), (.ref ba), (.int (0 : Int32)), (.int (2 : Int32))] ∧ Z.Warmed39 U.vm ∧ U.heap = h0) (fun _ _ _ _ _ => True) (fun _ U o U' => ∃ v L, o = .returned v ∧ Qcmp2 Z ca ba ck sc0 sc1 bk h0 n0 v U'.heap L ∧ FrameEnd U o U' L ({ frames := 0, cells := 0, slots := 0, locals := 0 } : Room).cells ({ frames := 0, cells := 0, slots := 0, locals := 0 } : Room).slots) := by
  refine MetFree.of_bodySF (plainFor_of_name own_pn_java_lang_StringUTF16) hisR ?_
  intro p e s m args below meth c s₁ Bd hml0 hP hK
  obtain ⟨rfl, hZ, hh⟩ := hP
  have hx := Bd.exec
  have hby := Bd.bytes
  have hml : c.maxLocals = 7 := hml0
  have hlk := Bd.notSynchronized
  have hown : s.vm.findClass "java/lang/StringUTF16" = some m.cls := findClass_of_methodNamed Bd.named
  have hnm := (name_of_methodNamed Bd.named Bd.method).1
  have X0 : Stand p l e ({ frames := 0, cells := 0, slots := 0, locals := 0 } : Room) s m #[(.ref ca), (.int (0 : Int32)), (.ref ba), (.int (0 : Int32)), (.int (2 : Int32))] below meth c s₁ [] 0 0 := Stand.of_body Bd
  have e0 : s₁.heap = h0 := by rw [← hh, Bd.state]; rfl
  have N0 := Fr.nil n0
  have K0 : Keep h0 h0 [ba] := Keep.refl _ _
  refine own_enter (P := (Done s ({ frames := 0, cells := 0, slots := 0, locals := 0 } : Room).cells ({ frames := 0, cells := 0, slots := 0, locals := 0 } : Room).slots (Qcmp2 Z ca ba ck sc0 sc1 bk h0 n0))) (Ls := #[.val (.ref ca), .val (.int (0 : Int32)), .val (.ref ba), .val (.int (0 : Int32)), .val (.int (2 : Int32)), .unset, .unset]) (by first | (simp [entryFrame, mkF, argsToLocals, Value.category]; done) | rfl) ?_
  refine own_iconst X0 hx 1 rfl (0 : Int32) (hb hby own_d14_0) (by decide) ?_
  refine own_istore X0 hx 3 rfl #[.val (.ref ca), .val (.int (0 : Int32)), .val (.ref ba), .val (.int (0 : Int32)), .val (.int (2 : Int32)), .val (.int (0 : Int32)), .unset] (hb hby own_d14_1) rfl ?_
  refine own_iload X0 hx 5 rfl (hb hby own_d14_3) rfl ?_
  refine own_iload X0 hx 7 rfl (hb hby own_d14_5) rfl ?_
  refine own_icmpN X0 hx 10 (hb hby own_d14_7) (tlt ((by decide) : (0 : Int32) < (2 : Int32))).2.1 rfl ?_
  refine own_aloadN X0 hx 11 rfl (hb hby own_d14_10) rfl rfl ?_
  refine own_iloadN X0 hx 12 rfl (hb hby own_d14_11) rfl ?_
  obtain ⟨cl1, Ar1, qq1, S1, NN1, HH1, GG1⟩ := id Ac
  have hin1 : ¬ ((0 : Int32) < 0 ∨ cl1.slots.size ≤ ((0 : Int32)).toNatClampNeg) := inb_of S1 ⟨by decide, by decide⟩
  have hat1 : cl1.slots[((0 : Int32)).toNatClampNeg]? = some (.int sc0) := HH1.at hin1 rfl
  refine Goes.go (X0.caload hx (j := (0 : Int32)) (v := (.int sc0)) (by rw [e0]; exact Ar1.1) (State.isArrayOf_alike hZ.alike Ar1.2.1) Ar1.2.2 hin1 hat1 (g := (mkF m 12 #[.val (.ref ca), .val (.int (0 : Int32)), .val (.ref ba), .val (.int (0 : Int32)), .val (.int (2 : Int32)), .val (.int (0 : Int32)), .unset] [(.int (0 : Int32)), (.ref ca)])) rfl rfl (hb hby own_d14_12)) ?_
  show Goes p e below _ s₁ (mkF m 13 #[.val (.ref ca), .val (.int (0 : Int32)), .val (.ref ba), .val (.int (0 : Int32)), .val (.int (2 : Int32)), .val (.int (0 : Int32)), .unset] [(.int sc0)])
  refine own_istore X0 hx 15 rfl #[.val (.ref ca), .val (.int (0 : Int32)), .val (.ref ba), .val (.int (0 : Int32)), .val (.int (2 : Int32)), .val (.int (0 : Int32)), .val (.int sc0)] (hb hby own_d14_13) rfl ?_
  refine own_iload X0 hx 17 rfl (hb hby own_d14_15) rfl ?_
  refine own_sipush X0 hx 20 rfl (255 : Int32) (hb hby own_d14_17) (by decide) ?_
  refine own_icmpY X0 hx 26 (hb hby own_d14_20) (flt (hc0 : ¬ ((255 : Int32) < sc0))).2.2.2 (by decide) (by decide) ?_
  refine own_aloadN X0 hx 27 rfl (hb hby own_d14_26) rfl rfl ?_
  refine own_iloadN X0 hx 28 rfl (hb hby own_d14_27) rfl ?_
  refine own_iload X0 hx 30 rfl (hb hby own_d14_28) rfl ?_
  refine own_i2b X0 hx 31 rfl (hb hby own_d14_30) rfl ?_
  obtain ⟨cl2, Ar2, qq2, S2, NN2, HH2, GG2⟩ := id Ab
  have hin2 : ¬ ((0 : Int32) < 0 ∨ cl2.slots.size ≤ ((0 : Int32)).toNatClampNeg) := inb_of S2 ⟨by decide, by decide⟩
  obtain ⟨T2, h2, X2, e2, W2, st2⟩ := stB X0 hx hZ e0 Ar2 (j := (0 : Int32)) hin2 (g := (mkF m 31 #[.val (.ref ca), .val (.int (0 : Int32)), .val (.ref ba), .val (.int (0 : Int32)), .val (.int (2 : Int32)), .val (.int (0 : Int32)), .val (.int sc0)] [(.int (sc0.toInt8.toInt32)), (.int (0 : Int32)), (.ref ba)])) rfl rfl (hb hby own_d14_31)
  have V2 : Arv Z h2 ba bk .byte (2 : Int32) [(.int ((sc0.toInt8.toInt32).toInt8.toInt32)), (.int (0 : Int32))] (.int (0 : Int32)) := Arv.set Ar2 qq2 S2 NN2 HH2 GG2 (fits_nar_byte _) W2 0 rfl (Nat.le_of_ble_eq_true rfl)
  have N2 := Fr.snoc X2 N0 gb
  have f3 := Ac.other W2 ncb
  have K2 := K0.wr W2 (Or.inl (List.mem_of_getElem? (i := 0) rfl))
  have Z2 := Nat.le_trans Z0 (Nat.le_of_eq W2.size.symm)
  refine Goes.go st2 ?_
  show Goes p e below _ T2 (mkF m 32 #[.val (.ref ca), .val (.int (0 : Int32)), .val (.ref ba), .val (.int (0 : Int32)), .val (.int (2 : Int32)), .val (.int (0 : Int32)), .val (.int sc0)] [])
  refine own_iinc X2 hx 35 rfl #[.val (.ref ca), .val (.int (1 : Int32)), .val (.ref ba), .val (.int (0 : Int32)), .val (.int (2 : Int32)), .val (.int (0 : Int32)), .val (.int sc0)] (hb hby own_d14_32) rfl (by decide) rfl ?_
  refine own_iinc X2 hx 38 rfl #[.val (.ref ca), .val (.int (1 : Int32)), .val (.ref ba), .val (.int (1 : Int32)), .val (.int (2 : Int32)), .val (.int (0 : Int32)), .val (.int sc0)] (hb hby own_d14_35) rfl (by decide) rfl ?_
  refine own_iinc X2 hx 41 rfl #[.val (.ref ca), .val (.int (1 : Int32)), .val (.ref ba), .val (.int (1 : Int32)), .val (.int (2 : Int32)), .val (.int (1 : Int32)), .val (.int sc0)] (hb hby own_d14_38) rfl (by decide) rfl ?_
  refine own_goto X2 hx 3 (hb hby own_d14_41) (by decide) (by decide) ?_
  refine own_iload X2 hx 5 rfl (hb hby own_d14_3) rfl ?_
  refine own_iload X2 hx 7 rfl (hb hby own_d14_5) rfl ?_
  refine own_icmpN X2 hx 10 (hb hby own_d14_7) (tlt ((by decide) : (1 : Int32) < (2 : Int32))).2.1 rfl ?_
  refine own_aloadN X2 hx 11 rfl (hb hby own_d14_10) rfl rfl ?_
  refine own_iloadN X2 hx 12 rfl (hb hby own_d14_11) rfl ?_
  obtain ⟨cl4, Ar4, qq4, S4, NN4, HH4, GG4⟩ := id f3
  have hin4 : ¬ ((1 : Int32) < 0 ∨ cl4.slots.size ≤ ((1 : Int32)).toNatClampNeg) := inb_of S4 ⟨by decide, by decide⟩
  have hat4 : cl4.slots[((1 : Int32)).toNatClampNeg]? = some (.int sc1) := HH4.at hin4 rfl
  refine Goes.go (X2.caload hx (j := (1 : Int32)) (v := (.int sc1)) (by rw [e2]; exact Ar4.1) (State.isArrayOf_alike hZ.alike Ar4.2.1) Ar4.2.2 hin4 hat4 (g := (mkF m 12 #[.val (.ref ca), .val (.int (1 : Int32)), .val (.ref ba), .val (.int (1 : Int32)), .val (.int (2 : Int32)), .val (.int (1 : Int32)), .val (.int sc0)] [(.int (1 : Int32)), (.ref ca)])) rfl rfl (hb hby own_d14_12)) ?_
  show Goes p e below _ T2 (mkF m 13 #[.val (.ref ca), .val (.int (1 : Int32)), .val (.ref ba), .val (.int (1 : Int32)), .val (.int (2 : Int32)), .val (.int (1 : Int32)), .val (.int sc0)] [(.int sc1)])
  refine own_istore X2 hx 15 rfl #[.val (.ref ca), .val (.int (1 : Int32)), .val (.ref ba), .val (.int (1 : Int32)), .val (.int (2 : Int32)), .val (.int (1 : Int32)), .val (.int sc1)] (hb hby own_d14_13) rfl ?_
  refine own_iload X2 hx 17 rfl (hb hby own_d14_15) rfl ?_
  refine own_sipush X2 hx 20 rfl (255 : Int32) (hb hby own_d14_17) (by decide) ?_
  refine own_icmpY X2 hx 26 (hb hby own_d14_20) (flt (hc1 : ¬ ((255 : Int32) < sc1))).2.2.2 (by decide) (by decide) ?_
  refine own_aloadN X2 hx 27 rfl (hb hby own_d14_26) rfl rfl ?_
  refine own_iloadN X2 hx 28 rfl (hb hby own_d14_27) rfl ?_
  refine own_iload X2 hx 30 rfl (hb hby own_d14_28) rfl ?_
  refine own_i2b X2 hx 31 rfl (hb hby own_d14_30) rfl ?_
  obtain ⟨cl5, Ar5, qq5, S5, NN5, HH5, GG5⟩ := id V2
  have hin5 : ¬ ((1 : Int32) < 0 ∨ cl5.slots.size ≤ ((1 : Int32)).toNatClampNeg) := inb_of S5 ⟨by decide, by decide⟩
  obtain ⟨T5, h5, X5, e5, W5, st5⟩ := stB X2 hx hZ e2 Ar5 (j := (1 : Int32)) hin5 (g := (mkF m 31 #[.val (.ref ca), .val (.int (1 : Int32)), .val (.ref ba), .val (.int (1 : Int32)), .val (.int (2 : Int32)), .val (.int (1 : Int32)), .val (.int sc1)] [(.int (sc1.toInt8.toInt32)), (.int (1 : Int32)), (.ref ba)])) rfl rfl (hb hby own_d14_31)
  have V5 : Arv Z h5 ba bk .byte (2 : Int32) [(.int ((sc0.toInt8.toInt32).toInt8.toInt32)), (.int ((sc1.toInt8.toInt32).toInt8.toInt32))] (.int (0 : Int32)) := Arv.set Ar5 qq5 S5 NN5 HH5 GG5 (fits_nar_byte _) W5 1 rfl (Nat.le_of_ble_eq_true rfl)
  have N5 := Fr.snoc X5 N2 gb
  have f6 := f3.other W5 ncb
  have K5 := K2.wr W5 (Or.inl (List.mem_of_getElem? (i := 0) rfl))
  have Z5 := Nat.le_trans Z2 (Nat.le_of_eq W5.size.symm)
  refine Goes.go st5 ?_
  show Goes p e below _ T5 (mkF m 32 #[.val (.ref ca), .val (.int (1 : Int32)), .val (.ref ba), .val (.int (1 : Int32)), .val (.int (2 : Int32)), .val (.int (1 : Int32)), .val (.int sc1)] [])
  refine own_iinc X5 hx 35 rfl #[.val (.ref ca), .val (.int (2 : Int32)), .val (.ref ba), .val (.int (1 : Int32)), .val (.int (2 : Int32)), .val (.int (1 : Int32)), .val (.int sc1)] (hb hby own_d14_32) rfl (by decide) rfl ?_
  refine own_iinc X5 hx 38 rfl #[.val (.ref ca), .val (.int (2 : Int32)), .val (.ref ba), .val (.int (2 : Int32)), .val (.int (2 : Int32)), .val (.int (1 : Int32)), .val (.int sc1)] (hb hby own_d14_35) rfl (by decide) rfl ?_
  refine own_iinc X5 hx 41 rfl #[.val (.ref ca), .val (.int (2 : Int32)), .val (.ref ba), .val (.int (2 : Int32)), .val (.int (2 : Int32)), .val (.int (2 : Int32)), .val (.int sc1)] (hb hby own_d14_38) rfl (by decide) rfl ?_
  refine own_goto X5 hx 3 (hb hby own_d14_41) (by decide) (by decide) ?_
  refine own_iload X5 hx 5 rfl (hb hby own_d14_3) rfl ?_
  refine own_iload X5 hx 7 rfl (hb hby own_d14_5) rfl ?_
  refine own_icmpY X5 hx 44 (hb hby own_d14_7) (flt ((by decide) : ¬ ((2 : Int32) < (2 : Int32)))).2.1 (by decide) (by decide) ?_
  refine own_iload X5 hx 46 rfl (hb hby own_d14_44) rfl ?_
  refine own_retI X5 hx hlk Bd.returns (hb hby own_d14_46) (by decide) (by decide) e5 ?_
  exact ⟨rfl, N5, K5, V5⟩
def Qcpr2 (Z : State) (ca : Addr) (ck : ClassId) (sc0 : Int32) (sc1 : Int32) (h0 : Heap) (n0 : Nat) (v : Option Value) (h : Heap) (L : List Loc) : Prop := ∃ rb : Addr, ∃ rk : ClassId, v = some (.ref rb) ∧ Fr n0 L ∧ Keep h0 h [] ∧ h0.size ≤ rb ∧ Arv Z h rb rk .byte (2 : Int32) [(.int ((sc0.toInt8.toInt32).toInt8.toInt32)), (.int ((sc1.toInt8.toInt32).toInt8.toInt32))] (.int (0 : Int32))
set_option maxRecDepth 65536 in
set_option maxHeartbeats 40000000 in
theorem rmcpr2 (l : Launch) (Z : State) (a0 : Array Value) (hw : ∀ d ∈ tables_1, d.before a0 Z = true) (ws : List Jvm.Cond) (ca : Addr) (ck : ClassId) (sc0 : Int32) (sc1 : Int32) (h0 : Heap) (n0 : Nat) (Z0 : n0 ≤ h0.size) (Ac : Arv Z h0 ca ck .char (2 : Int32) [(.int sc0), (.int sc1)] (.int (0 : Int32))) (hc0 : ¬ ((255 : Int32) < sc0)) (hc1 : ¬ ((255 : Int32) < sc1)) :
    MetFree l (⟨"java/lang/StringUTF16", "compress", "([CII)[B"⟩ : MethodName) (head1 (Jvm.Cond.code (⟨"java/lang/StringUTF16", "compress", "([CII)[B"⟩ : MethodName) jdk_52_method_16_code 6 (some (.array .byte)) :: ws) ({ frames := 1, cells := 1, slots := 2, locals := 18 } : Room)) (fun a U => a = #[(.ref ca), (.int (0 : Int32)), (.int (2 : Int32))] ∧ Z.Warmed39 U.vm ∧ U.heap = h0) (fun _ _ _ _ _ => True) (fun _ U o U' => ∃ v L, o = .returned v ∧ Qcpr2 Z ca ck sc0 sc1 h0 n0 v U'.heap L ∧ FrameEnd U o U' L ({ frames := 1, cells := 1, slots := 2, locals := 18 } : Room).cells ({ frames := 1, cells := 1, slots := 2, locals := 18 } : Room).slots) := by
  refine MetFree.of_bodySF (plainFor_of_name own_pn_java_lang_StringUTF16) hisR ?_
  intro p e s m args below meth c s₁ Bd hml0 hP hK
  obtain ⟨rfl, hZ, hh⟩ := hP
  have hx := Bd.exec
  have hby := Bd.bytes
  have hml : c.maxLocals = 6 := hml0
  have hlk := Bd.notSynchronized
  have hown : s.vm.findClass "java/lang/StringUTF16" = some m.cls := findClass_of_methodNamed Bd.named
  have hnm := (name_of_methodNamed Bd.named Bd.method).1
  have X0 : Stand p l e ({ frames := 1, cells := 1, slots := 2, locals := 18 } : Room) s m #[(.ref ca), (.int (0 : Int32)), (.int (2 : Int32))] below meth c s₁ [] 0 0 := Stand.of_body Bd
  have e0 : s₁.heap = h0 := by rw [← hh, Bd.state]; rfl
  have N0 := Fr.nil n0
  have K0 : Keep h0 h0 [] := Keep.refl _ _
  refine own_enter (P := (Done s ({ frames := 1, cells := 1, slots := 2, locals := 18 } : Room).cells ({ frames := 1, cells := 1, slots := 2, locals := 18 } : Room).slots (Qcpr2 Z ca ck sc0 sc1 h0 n0))) (Ls := #[.val (.ref ca), .val (.int (0 : Int32)), .val (.int (2 : Int32)), .unset, .unset, .unset]) (by first | (simp [entryFrame, mkF, argsToLocals, Value.category]; done) | rfl) ?_
  refine own_iloadN X0 hx 1 rfl (hb hby own_d13_0) rfl ?_
  obtain ⟨T1, h1, k1, X1, e1, E1, A1, st1⟩ := newP X0 hx hZ (hw _ (List.mem_of_getElem? (i := 19) rfl)) e0 (g := (mkF m 1 #[.val (.ref ca), .val (.int (0 : Int32)), .val (.int (2 : Int32)), .unset, .unset, .unset] [(.int (2 : Int32))])) rfl (hb hby own_d13_1) rfl (by decide) (cap := 2) (by decide) (by decide) (by decide) (by decide)
  obtain ⟨b1, g1⟩ : ∃ z, z = h0.size := ⟨_, rfl⟩
  rw [← g1] at A1 st1
  have ne2 : ca ≠ b1 := own_lt_ne Ac.lt g1
  have G1 : n0 ≤ b1 := Nat.le_trans Z0 (Nat.le_of_eq g1.symm)
  have H1 : h0.size ≤ b1 := Nat.le_trans K0.1 (Nat.le_of_eq g1.symm)
  have f3 := Ac.ext E1
  have K1 := K0.ext E1
  have Z1 := Nat.le_trans Z0 E1.1
  have V1 : Arv Z h1 b1 k1 .byte (2 : Int32) [(.int (0 : Int32)), (.int (0 : Int32))] (.int (0 : Int32)) := (Arv.new A1 (by decide)).pad (pad_rep [] (.int (0 : Int32)) 2)
  refine Goes.go st1 ?_
  show Goes p e below _ T1 (mkF m 3 #[.val (.ref ca), .val (.int (0 : Int32)), .val (.int (2 : Int32)), .unset, .unset, .unset] [(.ref b1)])
  refine own_astoreN X1 hx 4 rfl #[.val (.ref ca), .val (.int (0 : Int32)), .val (.int (2 : Int32)), .val (.ref b1), .unset, .unset] (hb hby own_d13_3) rfl rfl ?_
  refine own_aloadN X1 hx 5 rfl (hb hby own_d13_4) rfl rfl ?_
  refine own_iloadN X1 hx 6 rfl (hb hby own_d13_5) rfl ?_
  refine own_aloadN X1 hx 7 rfl (hb hby own_d13_6) rfl rfl ?_
  refine own_iconst X1 hx 8 rfl (0 : Int32) (hb hby own_d13_7) (by decide) ?_
  refine own_iloadN X1 hx 9 rfl (hb hby own_d13_8) rfl ?_
  obtain ⟨_, _, ⟨T4, L4, k4, n4⟩, -, X4, ⟨Lc4, hQ4, l4, y4, z4⟩, st4⟩ := Jvm.LawKit.callS X1 hx (y := (⟨"java/lang/StringUTF16", "compress", "([CI[BII)I"⟩ : MethodName)) hown (mvT hZ (hw _ (List.mem_of_getElem? (i := 76) rfl))) (mvT hZ (hw _ (List.mem_of_getElem? (i := 77) rfl))) (mvT hZ (hw _ (List.mem_of_getElem? (i := 74) rfl))) (mvT hZ (hw _ (List.mem_of_getElem? (i := 78) rfl))) (by decide) (backOf (W := 0) (rmcmp2 l Z a0 hw [] ca b1 ck sc0 sc1 k1 h1 n0 Z1 f3 V1 G1 ne2 hc0 hc1) hZ (hw _ (List.mem_of_getElem? (i := 78) rfl)) (hw _ (List.mem_of_getElem? (i := 74) rfl)) (by decide) (by decide)) (g := (mkF m 9 #[.val (.ref ca), .val (.int (0 : Int32)), .val (.int (2 : Int32)), .val (.ref b1), .unset, .unset] [(.int (2 : Int32)), (.int (0 : Int32)), (.ref b1), (.int (0 : Int32)), (.ref ca)])) rfl (by rw [hml]; rfl) (argsL := [(.ref ca), (.int (0 : Int32)), (.ref b1), (.int (0 : Int32)), (.int (2 : Int32))]) (rest := []) (lenOf own_pd1 rfl) rfl (by show 2 * 0 + _ ≤ _; exact Nat.le_of_eq rfl) (hb hby own_d13_9) (fun _ _ => ⟨rfl, e1, (by decide : 1 + 0 ≤ _), (by decide : 2 + 0 ≤ _)⟩)
  dsimp only [Pt.U, Pt.locs, Pt.cells, Pt.slots] at X4 l4 y4 z4 st4 hQ4
  subst l4 y4 z4
  obtain ⟨rfl, N4q, K4q, f4_0⟩ := hQ4
  have N4 := Fr.app N0 N4q
  have f5 := f3.keep K4q (ninS ne2 nin0)
  have K4 := K1.trans K4q (allS (Or.inr H1) all0)
  have Z4 := Nat.le_trans Z1 K4q.1
  refine Goes.go st4 ?_
  show Goes p e below _ T4 (mkF m 12 #[.val (.ref ca), .val (.int (0 : Int32)), .val (.int (2 : Int32)), .val (.ref b1), .unset, .unset] [(.int (2 : Int32))])
  refine own_istore X4 hx 14 rfl #[.val (.ref ca), .val (.int (0 : Int32)), .val (.int (2 : Int32)), .val (.ref b1), .val (.int (2 : Int32)), .unset] (hb hby own_d13_12) rfl ?_
  refine own_iload X4 hx 16 rfl (hb hby own_d13_14) rfl ?_
  refine own_iloadN X4 hx 17 rfl (hb hby own_d13_16) rfl ?_
  refine own_icmpY X4 hx 57 (hb hby own_d13_17) (teq ((by decide) : (2 : Int32) = (2 : Int32))).1 (by decide) (by decide) ?_
  refine own_aloadN X4 hx 58 rfl (hb hby own_d13_57) rfl rfl ?_
  refine own_retR X4 hx hlk Bd.returns rfl rfl (hb hby own_d13_58) (by decide) (by decide) rfl ?_
  exact ⟨b1, k1, rfl, N4, K4, H1, f4_0⟩
def Qcod2 (Z : State) (ba : Addr) (bk : ClassId) (sc0 : Int32) (sc1 : Int32) (h0 : Heap) (n0 : Nat) (v : Option Value) (h : Heap) (L : List Loc) : Prop := v = some (.int (0 : Int32)) ∧ Fr n0 L ∧ h = h0
set_option maxRecDepth 65536 in
set_option maxHeartbeats 40000000 in
theorem rmcod2 (l : Launch) (Z : State) (a0 : Array Value) (hw : ∀ d ∈ tables_1, d.before a0 Z = true) (ws : List Jvm.Cond) (ba : Addr) (bk : ClassId) (sc0 : Int32) (sc1 : Int32) (h0 : Heap) (n0 : Nat) (Z0 : n0 ≤ h0.size) (Ab : Arv Z h0 ba bk .byte (2 : Int32) [(.int sc0), (.int sc1)] (.int (0 : Int32))) :
    MetFree l (⟨"java/lang/StringUTF16", "coderFromArrayLen", "([BI)B"⟩ : MethodName) (head1 (Jvm.Cond.code (⟨"java/lang/StringUTF16", "coderFromArrayLen", "([BI)B"⟩ : MethodName) jdk_52_method_15_code 2 (some .byte) :: ws) ({ frames := 0, cells := 0, slots := 0, locals := 0 } : Room)) (fun a U => a = #[(.ref ba), (.int (2 : Int32))] ∧ Z.Warmed39 U.vm ∧ U.heap = h0) (fun _ _ _ _ _ => True) (fun _ U o U' => ∃ v L, o = .returned v ∧ Qcod2 Z ba bk sc0 sc1 h0 n0 v U'.heap L ∧ FrameEnd U o U' L ({ frames := 0, cells := 0, slots := 0, locals := 0 } : Room).cells ({ frames := 0, cells := 0, slots := 0, locals := 0 } : Room).slots) := by
  refine MetFree.of_bodySF (plainFor_of_name own_pn_java_lang_StringUTF16) hisR ?_
  intro p e s m args below meth c s₁ Bd hml0 hP hK
  obtain ⟨rfl, hZ, hh⟩ := hP
  have hx := Bd.exec
  have hby := Bd.bytes
  have hml : c.maxLocals = 2 := hml0
  have hlk := Bd.notSynchronized
  have hown : s.vm.findClass "java/lang/StringUTF16" = some m.cls := findClass_of_methodNamed Bd.named
  have hnm := (name_of_methodNamed Bd.named Bd.method).1
  have X0 : Stand p l e ({ frames := 0, cells := 0, slots := 0, locals := 0 } : Room) s m #[(.ref ba), (.int (2 : Int32))] below meth c s₁ [] 0 0 := Stand.of_body Bd
  have e0 : s₁.heap = h0 := by rw [← hh, Bd.state]; rfl
  have N0 := Fr.nil n0
  refine own_enter (P := (Done s ({ frames := 0, cells := 0, slots := 0, locals := 0 } : Room).cells ({ frames := 0, cells := 0, slots := 0, locals := 0 } : Room).slots (Qcod2 Z ba bk sc0 sc1 h0 n0))) (Ls := #[.val (.ref ba), .val (.int (2 : Int32))]) (by first | (simp [entryFrame, mkF, argsToLocals, Value.category]; done) | rfl) ?_
  refine own_iloadN X0 hx 1 rfl (hb hby own_d15_0) rfl ?_
  refine own_aloadN X0 hx 2 rfl (hb hby own_d15_1) rfl rfl ?_
  obtain ⟨cl1, Ar1, qq1, S1, NN1, HH1, GG1⟩ := id Ab
  refine Goes.go (X0.arraylength hx (by rw [e0]; exact Ar1.1) (State.isArrayOf_alike hZ.alike Ar1.2.1) (g := (mkF m 2 #[.val (.ref ba), .val (.int (2 : Int32))] [(.ref ba), (.int (2 : Int32))])) rfl rfl (hb hby own_d15_2)) ?_
  show Goes p e below _ s₁ (mkF m 3 #[.val (.ref ba), .val (.int (2 : Int32))] [(.int (cl1.slots.size.toInt32)), (.int (2 : Int32))])
  rw [len_of S1 NN1]
  refine own_isub X0 hx 4 rfl (z := (0 : Int32)) (hb hby own_d15_3) (by decide) ?_
  refine own_bipush X0 hx 6 rfl (31 : Int32) (hb hby own_d15_4) (by decide) ?_
  refine own_iushr X0 hx 7 rfl (z := (0 : Int32)) (hb hby own_d15_6) (by decide) ?_
  refine own_i2b X0 hx 8 rfl (z := (0 : Int32)) (hb hby own_d15_7) (by decide) ?_
  refine own_ret X0 hx hlk Bd.returns (by decide) (Or.inl ⟨rfl, by simp, _, rfl⟩) (hb hby own_d15_8) (by decide) (by decide) e0 ?_
  exact ⟨rfl, N0, rfl⟩
def Qini2 (Z : State) (st : Addr) (ca : Addr) (ck : ClassId) (sc0 : Int32) (sc1 : Int32) (cs : Int32) (h0 : Heap) (n0 : Nat) (v : Option Value) (h : Heap) (L : List Loc) : Prop := ∃ rb : Addr, ∃ rk : ClassId, v = none ∧ Fr n0 L ∧ Keep h0 h [st] ∧ h0.size ≤ rb ∧ Fld Z h st "java/lang/String" "value" "[B" (.ref rb) ∧ Fld Z h st "java/lang/String" "coder" "B" (.int (0 : Int32)) ∧ Arv Z h rb rk .byte (2 : Int32) [(.int ((sc0.toInt8.toInt32).toInt8.toInt32)), (.int ((sc1.toInt8.toInt32).toInt8.toInt32))] (.int (0 : Int32))
set_option maxRecDepth 65536 in
set_option maxHeartbeats 40000000 in
theorem rmini2 (l : Launch) (Z : State) (a0 : Array Value) (hw : ∀ d ∈ tables_1, d.before a0 Z = true) (ws : List Jvm.Cond) (st : Addr) (ca : Addr) (ck : ClassId) (sc0 : Int32) (sc1 : Int32) (cs : Int32) (h0 : Heap) (n0 : Nat) (Z0 : n0 ≤ h0.size) (ES : Exa Z h0 st "java/lang/String") (gs : n0 ≤ st) (Fv : Fld Z h0 st "java/lang/String" "value" "[B" .null) (Fc : Fld Z h0 st "java/lang/String" "coder" "B" (.int (0 : Int32))) (Ac : Arv Z h0 ca ck .char (2 : Int32) [(.int sc0), (.int sc1)] (.int (0 : Int32))) (Sc : Sta Z h0 "java/lang/String" "COMPACT_STRINGS" "Z" (.int cs)) (hcs : ¬ (cs = (0 : Int32))) (ncs : ca ≠ st) (hc0 : ¬ ((255 : Int32) < sc0)) (hc1 : ¬ ((255 : Int32) < sc1)) :
    MetFree l (⟨"java/lang/String", "<init>", "([CIILjava/lang/Void;)V"⟩ : MethodName) (head1 (Jvm.Cond.code (⟨"java/lang/String", "<init>", "([CIILjava/lang/Void;)V"⟩ : MethodName) jdk_42_method_149_code 6 none :: ws) ({ frames := 2, cells := 1, slots := 2, locals := 35 } : Room)) (fun a U => a = #[(.ref st), (.ref ca), (.int (0 : Int32)), (.int (2 : Int32)), .null] ∧ Z.Warmed39 U.vm ∧ U.heap = h0) (fun _ _ _ _ _ => True) (fun _ U o U' => ∃ v L, o = .returned v ∧ Qini2 Z st ca ck sc0 sc1 cs h0 n0 v U'.heap L ∧ FrameEnd U o U' L ({ frames := 2, cells := 1, slots := 2, locals := 35 } : Room).cells ({ frames := 2, cells := 1, slots := 2, locals := 35 } : Room).slots) := by
  refine MetFree.of_bodySF (plainFor_of_name own_pn_java_lang_String) hisR ?_
  intro p e s m args below meth c s₁ Bd hml0 hP hK
  obtain ⟨rfl, hZ, hh⟩ := hP
  have hx := Bd.exec
  have hby := Bd.bytes
  have hml : c.maxLocals = 6 := hml0
  have hlk := Bd.notSynchronized
  have hown : s.vm.findClass "java/lang/String" = some m.cls := findClass_of_methodNamed Bd.named
  have hnm := (name_of_methodNamed Bd.named Bd.method).1
  have X0 : Stand p l e ({ frames := 2, cells := 1, slots := 2, locals := 35 } : Room) s m #[(.ref st), (.ref ca), (.int (0 : Int32)), (.int (2 : Int32)), .null] below meth c s₁ [] 0 0 := Stand.of_body Bd
  have e0 : s₁.heap = h0 := by rw [← hh, Bd.state]; rfl
  have N0 := Fr.nil n0
  have K0 : Keep h0 h0 [st] := Keep.refl _ _
  refine own_enter (P := (Done s ({ frames := 2, cells := 1, slots := 2, locals := 35 } : Room).cells ({ frames := 2, cells := 1, slots := 2, locals := 35 } : Room).slots (Qini2 Z st ca ck sc0 sc1 cs h0 n0))) (Ls := #[.val (.ref st), .val (.ref ca), .val (.int (0 : Int32)), .val (.int (2 : Int32)), .val .null, .unset]) (by first | (simp [entryFrame, mkF, argsToLocals, Value.category]; done) | rfl) ?_
  refine own_aloadN X0 hx 1 rfl (hb hby own_d3_0) rfl rfl ?_
  obtain ⟨T1, X1, e1, st1⟩ := initO X0 hx hZ hown (hw _ (List.mem_of_getElem? (i := 15) rfl)) (hw _ (List.mem_of_getElem? (i := 16) rfl)) (hw _ (List.mem_of_getElem? (i := 17) rfl)) e0 (g := (mkF m 1 #[.val (.ref st), .val (.ref ca), .val (.int (0 : Int32)), .val (.int (2 : Int32)), .val .null, .unset] [(.ref st)])) rfl (by rw [hml]; rfl) rfl (hb hby own_d3_1) (by decide) (W := 0) (by show 2 * 0 + _ ≤ _; exact Nat.le_of_eq rfl) (by decide)
  refine Goes.go st1 ?_
  show Goes p e below _ T1 (mkF m 4 #[.val (.ref st), .val (.ref ca), .val (.int (0 : Int32)), .val (.int (2 : Int32)), .val .null, .unset] [])
  refine own_iloadN X1 hx 5 rfl (hb hby own_d3_4) rfl ?_
  refine own_ifY X1 hx 27 (hb hby own_d3_5) ((if0 _ _).trans (feq ((by decide) : ¬ ((2 : Int32) = (0 : Int32)))).2) (by decide) (by decide) ?_
  obtain ⟨T2, X2, e2, st2⟩ := getS2 X1 hx hZ hown (host := "") (Or.inl (hw _ (List.mem_of_getElem? (i := 66) rfl))) Via.refl e1 Sc (g := (mkF m 27 #[.val (.ref st), .val (.ref ca), .val (.int (0 : Int32)), .val (.int (2 : Int32)), .val .null, .unset] [])) rfl (hb hby own_d3_27)
  refine Goes.go st2 ?_
  show Goes p e below _ T2 (mkF m 30 #[.val (.ref st), .val (.ref ca), .val (.int (0 : Int32)), .val (.int (2 : Int32)), .val .null, .unset] [(.int cs)])
  refine own_ifN X2 hx 33 (hb hby own_d3_30) ((if0 _ _).trans (feq (hcs : ¬ (cs = (0 : Int32)))).1) rfl ?_
  refine own_aloadN X2 hx 34 rfl (hb hby own_d3_33) rfl rfl ?_
  refine own_iloadN X2 hx 35 rfl (hb hby own_d3_34) rfl ?_
  refine own_iloadN X2 hx 36 rfl (hb hby own_d3_35) rfl ?_
  obtain ⟨_, _, ⟨T3, L3, k3, n3⟩, -, X3, ⟨Lc3, hQ3, l3, y3, z3⟩, st3⟩ := Jvm.LawKit.callS X2 hx (y := (⟨"java/lang/StringUTF16", "compress", "([CII)[B"⟩ : MethodName)) hown (mvT hZ (hw _ (List.mem_of_getElem? (i := 72) rfl))) (mvT hZ (hw _ (List.mem_of_getElem? (i := 73) rfl))) (mvT hZ (hw _ (List.mem_of_getElem? (i := 74) rfl))) (mvT hZ (hw _ (List.mem_of_getElem? (i := 75) rfl))) (by decide) (backOf (W := 0) (rmcpr2 l Z a0 hw [] ca ck sc0 sc1 h0 n0 Z0 Ac hc0 hc1) hZ (hw _ (List.mem_of_getElem? (i := 75) rfl)) (hw _ (List.mem_of_getElem? (i := 74) rfl)) (by decide) (by decide)) (g := (mkF m 36 #[.val (.ref st), .val (.ref ca), .val (.int (0 : Int32)), .val (.int (2 : Int32)), .val .null, .unset] [(.int (2 : Int32)), (.int (0 : Int32)), (.ref ca)])) rfl (by rw [hml]; rfl) (argsL := [(.ref ca), (.int (0 : Int32)), (.int (2 : Int32))]) (rest := []) (lenOf own_pd2 rfl) rfl (by show 2 * 0 + _ ≤ _; exact Nat.le_of_eq rfl) (hb hby own_d3_36) (fun _ _ => ⟨rfl, e2, (by decide : 0 + 1 ≤ _), (by decide : 0 + 2 ≤ _)⟩)
  dsimp only [Pt.U, Pt.locs, Pt.cells, Pt.slots] at X3 l3 y3 z3 st3 hQ3
  subst l3 y3 z3
  obtain ⟨rb_3, rk_3, rfl, N3q, K3q, f3_0, f3_1⟩ := hQ3
  have N3 := Fr.app N0 N3q
  have ne4 : st ≠ rb_3 := Nat.ne_of_lt (Nat.lt_of_lt_of_le ES.lt f3_0)
  have ne5 : ca ≠ rb_3 := Nat.ne_of_lt (Nat.lt_of_lt_of_le Ac.lt f3_0)
  have GG6 : n0 ≤ rb_3 := Nat.le_trans Z0 f3_0
  have HG6 : h0.size ≤ rb_3 := Nat.le_trans K0.1 f3_0
  have f7 := ES.keep K3q
  have f8 := Fv.keep K3q nin0
  have f9 := Fc.keep K3q nin0
  have f10 := Ac.keep K3q nin0
  have f11 := own_sta_keep Sc K3q all0
  have K3 := K0.trans K3q all0
  have Z3 := Nat.le_trans Z0 K3q.1
  refine Goes.go st3 ?_
  show Goes p e below _ T3 (mkF m 39 #[.val (.ref st), .val (.ref ca), .val (.int (0 : Int32)), .val (.int (2 : Int32)), .val .null, .unset] [(.ref rb_3)])
  refine own_astore X3 hx 41 rfl #[.val (.ref st), .val (.ref ca), .val (.int (0 : Int32)), .val (.int (2 : Int32)), .val .null, .val (.ref rb_3)] (hb hby own_d3_39) rfl rfl ?_
  refine own_aloadN X3 hx 42 rfl (hb hby own_d3_41) rfl rfl ?_
  refine own_aload X3 hx 44 rfl (hb hby own_d3_42) rfl rfl ?_
  refine own_iloadN X3 hx 45 rfl (hb hby own_d3_44) rfl ?_
  obtain ⟨_, _, ⟨T12, L12, k12, n12⟩, -, X12, ⟨Lc12, hQ12, l12, y12, z12⟩, st12⟩ := Jvm.LawKit.callS X3 hx (y := (⟨"java/lang/StringUTF16", "coderFromArrayLen", "([BI)B"⟩ : MethodName)) hown (mvT hZ (hw _ (List.mem_of_getElem? (i := 79) rfl))) (mvT hZ (hw _ (List.mem_of_getElem? (i := 80) rfl))) (mvT hZ (hw _ (List.mem_of_getElem? (i := 74) rfl))) (mvT hZ (hw _ (List.mem_of_getElem? (i := 81) rfl))) (by decide) (backOf (W := 1) (rmcod2 l Z a0 hw [] rb_3 rk_3 ((sc0.toInt8.toInt32).toInt8.toInt32) ((sc1.toInt8.toInt32).toInt8.toInt32) T3.heap n0 Z3 f3_1) hZ (hw _ (List.mem_of_getElem? (i := 81) rfl)) (hw _ (List.mem_of_getElem? (i := 74) rfl)) (by decide) (by decide)) (g := (mkF m 45 #[.val (.ref st), .val (.ref ca), .val (.int (0 : Int32)), .val (.int (2 : Int32)), .val .null, .val (.ref rb_3)] [(.int (2 : Int32)), (.ref rb_3), (.ref st)])) rfl (by rw [hml]; rfl) (argsL := [(.ref rb_3), (.int (2 : Int32))]) (rest := [(.ref st)]) (lenOf own_pd3 rfl) rfl (by show 2 * 0 + _ ≤ _; exact Nat.le_of_eq rfl) (hb hby own_d3_45) (fun _ _ => ⟨rfl, rfl, (by decide : 1 + 0 ≤ _), (by decide : 2 + 0 ≤ _)⟩)
  dsimp only [Pt.U, Pt.locs, Pt.cells, Pt.slots] at X12 l12 y12 z12 st12 hQ12
  subst l12 y12 z12
  obtain ⟨rfl, N12q, eh12⟩ := hQ12
  have N12 := Fr.app N3 N12q
  refine Goes.go st12 ?_
  show Goes p e below _ T12 (mkF m 48 #[.val (.ref st), .val (.ref ca), .val (.int (0 : Int32)), .val (.int (2 : Int32)), .val .null, .val (.ref rb_3)] [(.int (0 : Int32)), (.ref st)])
  obtain ⟨T13, h13, X13, e13, W13, st13⟩ := putFN X12 hx hZ hown (hw _ (List.mem_of_getElem? (i := 25) rfl)) Via.refl eh12 f9 f7 (Or.inr ⟨(hw _ (List.mem_of_getElem? (i := 21) rfl)), rfl, hnm⟩) (hw _ (List.mem_of_getElem? (i := 5) rfl)) (ty := .byte) (v' := (.int (0 : Int32))) (by decide) rfl (by decide) (g := (mkF m 48 #[.val (.ref st), .val (.ref ca), .val (.int (0 : Int32)), .val (.int (2 : Int32)), .val .null, .val (.ref rb_3)] [(.int (0 : Int32)), (.ref st)])) rfl rfl (hb hby own_d3_48)
  have N13 := Fr.snoc X13 N12 gs
  have f14 := f7.wr W13
  have f15 := f8.other W13 (Or.inr (slot_ne (Or.inr (hw _ (List.mem_of_getElem? (i := 20) rfl))) (Or.inr (hw _ (List.mem_of_getElem? (i := 21) rfl))) (by decide) (t := (.array .byte)) (t' := .byte) (by decide) (by decide)))
  have f16 := f9.same W13
  have f17 := f10.other W13 ncs
  have f18 := f11.wr W13
  have f19 := f3_1.other W13 (Ne.symm ne4)
  have K13 := K3.wr W13 (Or.inl (List.mem_of_getElem? (i := 0) rfl))
  have Z13 := Nat.le_trans Z3 (Nat.le_of_eq W13.size.symm)
  refine Goes.go st13 ?_
  show Goes p e below _ T13 (mkF m 51 #[.val (.ref st), .val (.ref ca), .val (.int (0 : Int32)), .val (.int (2 : Int32)), .val .null, .val (.ref rb_3)] [])
  refine own_aloadN X13 hx 52 rfl (hb hby own_d3_51) rfl rfl ?_
  refine own_aload X13 hx 54 rfl (hb hby own_d3_52) rfl rfl ?_
  obtain ⟨T20, h20, X20, e20, W20, st20⟩ := putF X13 hx hZ hown (host := "") (Or.inl (hw _ (List.mem_of_getElem? (i := 24) rfl))) Via.refl e13 f15 f14 (Or.inr ⟨(hw _ (List.mem_of_getElem? (i := 20) rfl)), rfl, hnm⟩) (hw _ (List.mem_of_getElem? (i := 5) rfl)) (ty := (.array .byte)) (by decide) rfl rfl (g := (mkF m 54 #[.val (.ref st), .val (.ref ca), .val (.int (0 : Int32)), .val (.int (2 : Int32)), .val .null, .val (.ref rb_3)] [(.ref rb_3), (.ref st)])) rfl rfl (hb hby own_d3_54)
  have N20 := Fr.snoc X20 N13 gs
  have f21 := f14.wr W20
  have f22 := f15.same W20
  have f23 := f16.other W20 (Or.inr (slot_ne (Or.inr (hw _ (List.mem_of_getElem? (i := 21) rfl))) (Or.inr (hw _ (List.mem_of_getElem? (i := 20) rfl))) (by decide) (t := .byte) (t' := (.array .byte)) (by decide) (by decide)))
  have f24 := f17.other W20 ncs
  have f25 := f18.wr W20
  have f26 := f19.other W20 (Ne.symm ne4)
  have K20 := K13.wr W20 (Or.inl (List.mem_of_getElem? (i := 0) rfl))
  have Z20 := Nat.le_trans Z13 (Nat.le_of_eq W20.size.symm)
  refine Goes.go st20 ?_
  show Goes p e below _ T20 (mkF m 57 #[.val (.ref st), .val (.ref ca), .val (.int (0 : Int32)), .val (.int (2 : Int32)), .val .null, .val (.ref rb_3)] [])
  refine own_retV X20 hx hlk Bd.returns (hb hby own_d3_57) (by decide) (by decide) e20 ?_
  exact ⟨rb_3, rk_3, rfl, N20, K20, HG6, f22, f23, f26⟩
def Qnew2 (Z : State) (st : Addr) (ca : Addr) (ck : ClassId) (sc0 : Int32) (sc1 : Int32) (cs : Int32) (h0 : Heap) (n0 : Nat) (v : Option Value) (h : Heap) (L : List Loc) : Prop := ∃ rb : Addr, ∃ rk : ClassId, v = none ∧ Fr n0 L ∧ Keep h0 h [st] ∧ h0.size ≤ rb ∧ Fld Z h st "java/lang/String" "value" "[B" (.ref rb) ∧ Fld Z h st "java/lang/String" "coder" "B" (.int (0 : Int32)) ∧ Arv Z h rb rk .byte (2 : Int32) [(.int ((sc0.toInt8.toInt32).toInt8.toInt32)), (.int ((sc1.toInt8.toInt32).toInt8.toInt32))] (.int (0 : Int32))
set_option maxRecDepth 65536 in
set_option maxHeartbeats 40000000 in
theorem rmnew2 (l : Launch) (Z : State) (a0 : Array Value) (hw : ∀ d ∈ tables_1, d.before a0 Z = true) (ws : List Jvm.Cond) (st : Addr) (ca : Addr) (ck : ClassId) (sc0 : Int32) (sc1 : Int32) (cs : Int32) (h0 : Heap) (n0 : Nat) (Z0 : n0 ≤ h0.size) (ES : Exa Z h0 st "java/lang/String") (gs : n0 ≤ st) (Fv : Fld Z h0 st "java/lang/String" "value" "[B" .null) (Fc : Fld Z h0 st "java/lang/String" "coder" "B" (.int (0 : Int32))) (Ac : Arv Z h0 ca ck .char (2 : Int32) [(.int sc0), (.int sc1)] (.int (0 : Int32))) (Sc : Sta Z h0 "java/lang/String" "COMPACT_STRINGS" "Z" (.int cs)) (hcs : ¬ (cs = (0 : Int32))) (ncs : ca ≠ st) (hc0 : ¬ ((255 : Int32) < sc0)) (hc1 : ¬ ((255 : Int32) < sc1)) :
    MetFree l (⟨"java/lang/String", "<init>", "([C)V"⟩ : MethodName) (head1 (Jvm.Cond.code (⟨"java/lang/String", "<init>", "([C)V"⟩ : MethodName) jdk_42_method_3_code 2 none :: ws) ({ frames := 3, cells := 1, slots := 2, locals := 52 } : Room)) (fun a U => a = #[(.ref st), (.ref ca)] ∧ Z.Warmed39 U.vm ∧ U.heap = h0) (fun _ _ _ _ _ => True) (fun _ U o U' => ∃ v L, o = .returned v ∧ Qnew2 Z st ca ck sc0 sc1 cs h0 n0 v U'.heap L ∧ FrameEnd U o U' L ({ frames := 3, cells := 1, slots := 2, locals := 52 } : Room).cells ({ frames := 3, cells := 1, slots := 2, locals := 52 } : Room).slots) := by
  refine MetFree.of_bodySF (plainFor_of_name own_pn_java_lang_String) hisR ?_
  intro p e s m args below meth c s₁ Bd hml0 hP hK
  obtain ⟨rfl, hZ, hh⟩ := hP
  have hx := Bd.exec
  have hby := Bd.bytes
  have hml : c.maxLocals = 2 := hml0
  have hlk := Bd.notSynchronized
  have hown : s.vm.findClass "java/lang/String" = some m.cls := findClass_of_methodNamed Bd.named
  have hnm := (name_of_methodNamed Bd.named Bd.method).1
  have X0 : Stand p l e ({ frames := 3, cells := 1, slots := 2, locals := 52 } : Room) s m #[(.ref st), (.ref ca)] below meth c s₁ [] 0 0 := Stand.of_body Bd
  have e0 : s₁.heap = h0 := by rw [← hh, Bd.state]; rfl
  have N0 := Fr.nil n0
  have K0 : Keep h0 h0 [st] := Keep.refl _ _
  refine own_enter (P := (Done s ({ frames := 3, cells := 1, slots := 2, locals := 52 } : Room).cells ({ frames := 3, cells := 1, slots := 2, locals := 52 } : Room).slots (Qnew2 Z st ca ck sc0 sc1 cs h0 n0))) (Ls := #[.val (.ref st), .val (.ref ca)]) (by first | (simp [entryFrame, mkF, argsToLocals, Value.category]; done) | rfl) ?_
  refine own_aloadN X0 hx 1 rfl (hb hby own_d2_0) rfl rfl ?_
  refine own_aloadN X0 hx 2 rfl (hb hby own_d2_1) rfl rfl ?_
  refine own_iconst X0 hx 3 rfl (0 : Int32) (hb hby own_d2_2) (by decide) ?_
  refine own_aloadN X0 hx 4 rfl (hb hby own_d2_3) rfl rfl ?_
  obtain ⟨cl1, Ar1, qq1, S1, NN1, HH1, GG1⟩ := id Ac
  refine Goes.go (X0.arraylength hx (by rw [e0]; exact Ar1.1) (State.isArrayOf_alike hZ.alike Ar1.2.1) (g := (mkF m 4 #[.val (.ref st), .val (.ref ca)] [(.ref ca), (.int (0 : Int32)), (.ref ca), (.ref st)])) rfl rfl (hb hby own_d2_4)) ?_
  show Goes p e below _ s₁ (mkF m 5 #[.val (.ref st), .val (.ref ca)] [(.int (cl1.slots.size.toInt32)), (.int (0 : Int32)), (.ref ca), (.ref st)])
  rw [len_of S1 NN1]
  refine own_aconst_null X0 hx 6 rfl (hb hby own_d2_5) ?_
  obtain ⟨_, _, ⟨T2, L2, k2, n2⟩, -, X2, ⟨Lc2, hQ2, l2, y2, z2⟩, st2⟩ := X0.specialBack hx (y := (⟨"java/lang/String", "<init>", "([CIILjava/lang/Void;)V"⟩ : MethodName)) rfl hown (mvT hZ (hw _ (List.mem_of_getElem? (i := 11) rfl))) (mvT hZ (hw _ (List.mem_of_getElem? (i := 12) rfl))) (mvT hZ (hw _ (List.mem_of_getElem? (i := 14) rfl))) (by decide) (backOf (W := 0) (rmini2 l Z a0 hw [] st ca ck sc0 sc1 cs h0 n0 Z0 ES gs Fv Fc Ac Sc hcs ncs hc0 hc1) hZ (hw _ (List.mem_of_getElem? (i := 14) rfl)) (hw _ (List.mem_of_getElem? (i := 6) rfl)) (by decide) (by decide)) (g := (mkF m 6 #[.val (.ref st), .val (.ref ca)] [.null, (.int (2 : Int32)), (.int (0 : Int32)), (.ref ca), (.ref st)])) rfl (by rw [hml]; rfl) (Steps.refl _) (a := st) (argsL := [(.ref ca), (.int (0 : Int32)), (.int (2 : Int32)), .null]) (rest := []) (lenOf own_pd0 rfl) rfl (by show 2 * 0 + _ ≤ _; exact Nat.le_of_eq rfl) (hb hby own_d2_6) (fun _ _ => ⟨rfl, e0, (by decide : 0 + 1 ≤ _), (by decide : 0 + 2 ≤ _)⟩)
  dsimp only [Pt.U, Pt.locs, Pt.cells, Pt.slots] at X2 l2 y2 z2 st2 hQ2
  subst l2 y2 z2
  obtain ⟨rb_2, rk_2, rfl, N2q, K2q, f2_0, f2_1, f2_2, f2_3⟩ := hQ2
  have N2 := Fr.app N0 N2q
  have ne3 : st ≠ rb_2 := Nat.ne_of_lt (Nat.lt_of_lt_of_le ES.lt f2_0)
  have ne4 : ca ≠ rb_2 := Nat.ne_of_lt (Nat.lt_of_lt_of_le Ac.lt f2_0)
  have GG5 : n0 ≤ rb_2 := Nat.le_trans Z0 f2_0
  have HG5 : h0.size ≤ rb_2 := Nat.le_trans K0.1 f2_0
  have f6 := ES.keep K2q
  have f7 := Ac.keep K2q (ninS ncs nin0)
  have f8 := own_sta_keep Sc K2q (allS (own_eplain ES) all0)
  have K2 := K0.trans K2q (allS (Or.inl (List.mem_of_getElem? (i := 0) rfl)) all0)
  have Z2 := Nat.le_trans Z0 K2q.1
  refine Goes.tr st2 ?_
  show Goes p e below _ T2 (mkF m 9 #[.val (.ref st), .val (.ref ca)] [])
  refine own_retV X2 hx hlk Bd.returns (hb hby own_d2_9) (by decide) (by decide) rfl ?_
  exact ⟨rb_2, rk_2, rfl, N2, K2, HG5, f2_1, f2_2, f2_3⟩
def Qcmp3 (Z : State) (ca : Addr) (ba : Addr) (ck : ClassId) (sc0 : Int32) (sc1 : Int32) (sc2 : Int32) (bk : ClassId) (h0 : Heap) (n0 : Nat) (v : Option Value) (h : Heap) (L : List Loc) : Prop := v = some (.int (3 : Int32)) ∧ Fr n0 L ∧ Keep h0 h [ba] ∧ Arv Z h ba bk .byte (3 : Int32) [(.int ((sc0.toInt8.toInt32).toInt8.toInt32)), (.int ((sc1.toInt8.toInt32).toInt8.toInt32)), (.int ((sc2.toInt8.toInt32).toInt8.toInt32))] (.int (0 : Int32))
set_option maxRecDepth 65536 in
set_option maxHeartbeats 40000000 in
theorem rmcmp3 (l : Launch) (Z : State) (a0 : Array Value) (hw : ∀ d ∈ tables_1, d.before a0 Z = true) (ws : List Jvm.Cond) (ca : Addr) (ba : Addr) (ck : ClassId) (sc0 : Int32) (sc1 : Int32) (sc2 : Int32) (bk : ClassId) (h0 : Heap) (n0 : Nat) (Z0 : n0 ≤ h0.size) (Ac : Arv Z h0 ca ck .char (3 : Int32) [(.int sc0), (.int sc1), (.int sc2)] (.int (0 : Int32))) (Ab : Arv Z h0 ba bk .byte (3 : Int32) [(.int (0 : Int32)), (.int (0 : Int32)), (.int (0 : Int32))] (.int (0 : Int32))) (gb : n0 ≤ ba) (ncb : ca ≠ ba) (hc0 : ¬ ((255 : Int32) < sc0)) (hc1 : ¬ ((255 : Int32) < sc1)) (hc2 : ¬ ((255 : Int32) < sc2)) :
    MetFree l (⟨"java/lang/StringUTF16", "compress", "([CI[BII)I"⟩ : MethodName) (head1 (Jvm.Cond.code (⟨"java/lang/StringUTF16", "compress", "([CI[BII)I"⟩ : MethodName) jdk_52_method_21_code 7 (some .int) :: ws) ({ frames := 0, cells := 0, slots := 0, locals := 0 } : Room)) (fun a U => a = #[(.ref ca), (.int (0 : Int32)), (.ref ba), (.int (0 : Int32)), (.int (3 : Int32))] ∧ Z.Warmed39 U.vm ∧ U.heap = h0) (fun _ _ _ _ _ => True) (fun _ U o U' => ∃ v L, o = .returned v ∧ Qcmp3 Z ca ba ck sc0 sc1 sc2 bk h0 n0 v U'.heap L ∧ FrameEnd U o U' L ({ frames := 0, cells := 0, slots := 0, locals := 0 } : Room).cells ({ frames := 0, cells := 0, slots := 0, locals := 0 } : Room).slots) := by
  refine MetFree.of_bodySF (plainFor_of_name own_pn_java_lang_StringUTF16) hisR ?_
  intro p e s m args below meth c s₁ Bd hml0 hP hK
  obtain ⟨rfl, hZ, hh⟩ := hP
  have hx := Bd.exec
  have hby := Bd.bytes
  have hml : c.maxLocals = 7 := hml0
  have hlk := Bd.notSynchronized
  have hown : s.vm.findClass "java/lang/StringUTF16" = some m.cls := findClass_of_methodNamed Bd.named
  have hnm := (name_of_methodNamed Bd.named Bd.method).1
  have X0 : Stand p l e ({ frames := 0, cells := 0, slots := 0, locals := 0 } : Room) s m #[(.ref ca), (.int (0 : Int32)), (.ref ba), (.int (0 : Int32)), (.int (3 : Int32))] below meth c s₁ [] 0 0 := Stand.of_body Bd
  have e0 : s₁.heap = h0 := by rw [← hh, Bd.state]; rfl
  have N0 := Fr.nil n0
  have K0 : Keep h0 h0 [ba] := Keep.refl _ _
  refine own_enter (P := (Done s ({ frames := 0, cells := 0, slots := 0, locals := 0 } : Room).cells ({ frames := 0, cells := 0, slots := 0, locals := 0 } : Room).slots (Qcmp3 Z ca ba ck sc0 sc1 sc2 bk h0 n0))) (Ls := #[.val (.ref ca), .val (.int (0 : Int32)), .val (.ref ba), .val (.int (0 : Int32)), .val (.int (3 : Int32)), .unset, .unset]) (by first | (simp [entryFrame, mkF, argsToLocals, Value.category]; done) | rfl) ?_
  refine own_iconst X0 hx 1 rfl (0 : Int32) (hb hby own_d14_0) (by decide) ?_
  refine own_istore X0 hx 3 rfl #[.val (.ref ca), .val (.int (0 : Int32)), .val (.ref ba), .val (.int (0 : Int32)), .val (.int (3 : Int32)), .val (.int (0 : Int32)), .unset] (hb hby own_d14_1) rfl ?_
  refine own_iload X0 hx 5 rfl (hb hby own_d14_3) rfl ?_
  refine own_iload X0 hx 7 rfl (hb hby own_d14_5) rfl ?_
  refine own_icmpN X0 hx 10 (hb hby own_d14_7) (tlt ((by decide) : (0 : Int32) < (3 : Int32))).2.1 rfl ?_
  refine own_aloadN X0 hx 11 rfl (hb hby own_d14_10) rfl rfl ?_
  refine own_iloadN X0 hx 12 rfl (hb hby own_d14_11) rfl ?_
  obtain ⟨cl1, Ar1, qq1, S1, NN1, HH1, GG1⟩ := id Ac
  have hin1 : ¬ ((0 : Int32) < 0 ∨ cl1.slots.size ≤ ((0 : Int32)).toNatClampNeg) := inb_of S1 ⟨by decide, by decide⟩
  have hat1 : cl1.slots[((0 : Int32)).toNatClampNeg]? = some (.int sc0) := HH1.at hin1 rfl
  refine Goes.go (X0.caload hx (j := (0 : Int32)) (v := (.int sc0)) (by rw [e0]; exact Ar1.1) (State.isArrayOf_alike hZ.alike Ar1.2.1) Ar1.2.2 hin1 hat1 (g := (mkF m 12 #[.val (.ref ca), .val (.int (0 : Int32)), .val (.ref ba), .val (.int (0 : Int32)), .val (.int (3 : Int32)), .val (.int (0 : Int32)), .unset] [(.int (0 : Int32)), (.ref ca)])) rfl rfl (hb hby own_d14_12)) ?_
  show Goes p e below _ s₁ (mkF m 13 #[.val (.ref ca), .val (.int (0 : Int32)), .val (.ref ba), .val (.int (0 : Int32)), .val (.int (3 : Int32)), .val (.int (0 : Int32)), .unset] [(.int sc0)])
  refine own_istore X0 hx 15 rfl #[.val (.ref ca), .val (.int (0 : Int32)), .val (.ref ba), .val (.int (0 : Int32)), .val (.int (3 : Int32)), .val (.int (0 : Int32)), .val (.int sc0)] (hb hby own_d14_13) rfl ?_
  refine own_iload X0 hx 17 rfl (hb hby own_d14_15) rfl ?_
  refine own_sipush X0 hx 20 rfl (255 : Int32) (hb hby own_d14_17) (by decide) ?_
  refine own_icmpY X0 hx 26 (hb hby own_d14_20) (flt (hc0 : ¬ ((255 : Int32) < sc0))).2.2.2 (by decide) (by decide) ?_
  refine own_aloadN X0 hx 27 rfl (hb hby own_d14_26) rfl rfl ?_
  refine own_iloadN X0 hx 28 rfl (hb hby own_d14_27) rfl ?_
  refine own_iload X0 hx 30 rfl (hb hby own_d14_28) rfl ?_
  refine own_i2b X0 hx 31 rfl (hb hby own_d14_30) rfl ?_
  obtain ⟨cl2, Ar2, qq2, S2, NN2, HH2, GG2⟩ := id Ab
  have hin2 : ¬ ((0 : Int32) < 0 ∨ cl2.slots.size ≤ ((0 : Int32)).toNatClampNeg) := inb_of S2 ⟨by decide, by decide⟩
  obtain ⟨T2, h2, X2, e2, W2, st2⟩ := stB X0 hx hZ e0 Ar2 (j := (0 : Int32)) hin2 (g := (mkF m 31 #[.val (.ref ca), .val (.int (0 : Int32)), .val (.ref ba), .val (.int (0 : Int32)), .val (.int (3 : Int32)), .val (.int (0 : Int32)), .val (.int sc0)] [(.int (sc0.toInt8.toInt32)), (.int (0 : Int32)), (.ref ba)])) rfl rfl (hb hby own_d14_31)
  have V2 : Arv Z h2 ba bk .byte (3 : Int32) [(.int ((sc0.toInt8.toInt32).toInt8.toInt32)), (.int (0 : Int32)), (.int (0 : Int32))] (.int (0 : Int32)) := Arv.set Ar2 qq2 S2 NN2 HH2 GG2 (fits_nar_byte _) W2 0 rfl (Nat.le_of_ble_eq_true rfl)
  have N2 := Fr.snoc X2 N0 gb
  have f3 := Ac.other W2 ncb
  have K2 := K0.wr W2 (Or.inl (List.mem_of_getElem? (i := 0) rfl))
  have Z2 := Nat.le_trans Z0 (Nat.le_of_eq W2.size.symm)
  refine Goes.go st2 ?_
  show Goes p e below _ T2 (mkF m 32 #[.val (.ref ca), .val (.int (0 : Int32)), .val (.ref ba), .val (.int (0 : Int32)), .val (.int (3 : Int32)), .val (.int (0 : Int32)), .val (.int sc0)] [])
  refine own_iinc X2 hx 35 rfl #[.val (.ref ca), .val (.int (1 : Int32)), .val (.ref ba), .val (.int (0 : Int32)), .val (.int (3 : Int32)), .val (.int (0 : Int32)), .val (.int sc0)] (hb hby own_d14_32) rfl (by decide) rfl ?_
  refine own_iinc X2 hx 38 rfl #[.val (.ref ca), .val (.int (1 : Int32)), .val (.ref ba), .val (.int (1 : Int32)), .val (.int (3 : Int32)), .val (.int (0 : Int32)), .val (.int sc0)] (hb hby own_d14_35) rfl (by decide) rfl ?_
  refine own_iinc X2 hx 41 rfl #[.val (.ref ca), .val (.int (1 : Int32)), .val (.ref ba), .val (.int (1 : Int32)), .val (.int (3 : Int32)), .val (.int (1 : Int32)), .val (.int sc0)] (hb hby own_d14_38) rfl (by decide) rfl ?_
  refine own_goto X2 hx 3 (hb hby own_d14_41) (by decide) (by decide) ?_
  refine own_iload X2 hx 5 rfl (hb hby own_d14_3) rfl ?_
  refine own_iload X2 hx 7 rfl (hb hby own_d14_5) rfl ?_
  refine own_icmpN X2 hx 10 (hb hby own_d14_7) (tlt ((by decide) : (1 : Int32) < (3 : Int32))).2.1 rfl ?_
  refine own_aloadN X2 hx 11 rfl (hb hby own_d14_10) rfl rfl ?_
  refine own_iloadN X2 hx 12 rfl (hb hby own_d14_11) rfl ?_
  obtain ⟨cl4, Ar4, qq4, S4, NN4, HH4, GG4⟩ := id f3
  have hin4 : ¬ ((1 : Int32) < 0 ∨ cl4.slots.size ≤ ((1 : Int32)).toNatClampNeg) := inb_of S4 ⟨by decide, by decide⟩
  have hat4 : cl4.slots[((1 : Int32)).toNatClampNeg]? = some (.int sc1) := HH4.at hin4 rfl
  refine Goes.go (X2.caload hx (j := (1 : Int32)) (v := (.int sc1)) (by rw [e2]; exact Ar4.1) (State.isArrayOf_alike hZ.alike Ar4.2.1) Ar4.2.2 hin4 hat4 (g := (mkF m 12 #[.val (.ref ca), .val (.int (1 : Int32)), .val (.ref ba), .val (.int (1 : Int32)), .val (.int (3 : Int32)), .val (.int (1 : Int32)), .val (.int sc0)] [(.int (1 : Int32)), (.ref ca)])) rfl rfl (hb hby own_d14_12)) ?_
  show Goes p e below _ T2 (mkF m 13 #[.val (.ref ca), .val (.int (1 : Int32)), .val (.ref ba), .val (.int (1 : Int32)), .val (.int (3 : Int32)), .val (.int (1 : Int32)), .val (.int sc0)] [(.int sc1)])
  refine own_istore X2 hx 15 rfl #[.val (.ref ca), .val (.int (1 : Int32)), .val (.ref ba), .val (.int (1 : Int32)), .val (.int (3 : Int32)), .val (.int (1 : Int32)), .val (.int sc1)] (hb hby own_d14_13) rfl ?_
  refine own_iload X2 hx 17 rfl (hb hby own_d14_15) rfl ?_
  refine own_sipush X2 hx 20 rfl (255 : Int32) (hb hby own_d14_17) (by decide) ?_
  refine own_icmpY X2 hx 26 (hb hby own_d14_20) (flt (hc1 : ¬ ((255 : Int32) < sc1))).2.2.2 (by decide) (by decide) ?_
  refine own_aloadN X2 hx 27 rfl (hb hby own_d14_26) rfl rfl ?_
  refine own_iloadN X2 hx 28 rfl (hb hby own_d14_27) rfl ?_
  refine own_iload X2 hx 30 rfl (hb hby own_d14_28) rfl ?_
  refine own_i2b X2 hx 31 rfl (hb hby own_d14_30) rfl ?_
  obtain ⟨cl5, Ar5, qq5, S5, NN5, HH5, GG5⟩ := id V2
  have hin5 : ¬ ((1 : Int32) < 0 ∨ cl5.slots.size ≤ ((1 : Int32)).toNatClampNeg) := inb_of S5 ⟨by decide, by decide⟩
  obtain ⟨T5, h5, X5, e5, W5, st5⟩ := stB X2 hx hZ e2 Ar5 (j := (1 : Int32)) hin5 (g := (mkF m 31 #[.val (.ref ca), .val (.int (1 : Int32)), .val (.ref ba), .val (.int (1 : Int32)), .val (.int (3 : Int32)), .val (.int (1 : Int32)), .val (.int sc1)] [(.int (sc1.toInt8.toInt32)), (.int (1 : Int32)), (.ref ba)])) rfl rfl (hb hby own_d14_31)
  have V5 : Arv Z h5 ba bk .byte (3 : Int32) [(.int ((sc0.toInt8.toInt32).toInt8.toInt32)), (.int ((sc1.toInt8.toInt32).toInt8.toInt32)), (.int (0 : Int32))] (.int (0 : Int32)) := Arv.set Ar5 qq5 S5 NN5 HH5 GG5 (fits_nar_byte _) W5 1 rfl (Nat.le_of_ble_eq_true rfl)
  have N5 := Fr.snoc X5 N2 gb
  have f6 := f3.other W5 ncb
  have K5 := K2.wr W5 (Or.inl (List.mem_of_getElem? (i := 0) rfl))
  have Z5 := Nat.le_trans Z2 (Nat.le_of_eq W5.size.symm)
  refine Goes.go st5 ?_
  show Goes p e below _ T5 (mkF m 32 #[.val (.ref ca), .val (.int (1 : Int32)), .val (.ref ba), .val (.int (1 : Int32)), .val (.int (3 : Int32)), .val (.int (1 : Int32)), .val (.int sc1)] [])
  refine own_iinc X5 hx 35 rfl #[.val (.ref ca), .val (.int (2 : Int32)), .val (.ref ba), .val (.int (1 : Int32)), .val (.int (3 : Int32)), .val (.int (1 : Int32)), .val (.int sc1)] (hb hby own_d14_32) rfl (by decide) rfl ?_
  refine own_iinc X5 hx 38 rfl #[.val (.ref ca), .val (.int (2 : Int32)), .val (.ref ba), .val (.int (2 : Int32)), .val (.int (3 : Int32)), .val (.int (1 : Int32)), .val (.int sc1)] (hb hby own_d14_35) rfl (by decide) rfl ?_
  refine own_iinc X5 hx 41 rfl #[.val (.ref ca), .val (.int (2 : Int32)), .val (.ref ba), .val (.int (2 : Int32)), .val (.int (3 : Int32)), .val (.int (2 : Int32)), .val (.int sc1)] (hb hby own_d14_38) rfl (by decide) rfl ?_
  refine own_goto X5 hx 3 (hb hby own_d14_41) (by decide) (by decide) ?_
  refine own_iload X5 hx 5 rfl (hb hby own_d14_3) rfl ?_
  refine own_iload X5 hx 7 rfl (hb hby own_d14_5) rfl ?_
  refine own_icmpN X5 hx 10 (hb hby own_d14_7) (tlt ((by decide) : (2 : Int32) < (3 : Int32))).2.1 rfl ?_
  refine own_aloadN X5 hx 11 rfl (hb hby own_d14_10) rfl rfl ?_
  refine own_iloadN X5 hx 12 rfl (hb hby own_d14_11) rfl ?_
  obtain ⟨cl7, Ar7, qq7, S7, NN7, HH7, GG7⟩ := id f6
  have hin7 : ¬ ((2 : Int32) < 0 ∨ cl7.slots.size ≤ ((2 : Int32)).toNatClampNeg) := inb_of S7 ⟨by decide, by decide⟩
  have hat7 : cl7.slots[((2 : Int32)).toNatClampNeg]? = some (.int sc2) := HH7.at hin7 rfl
  refine Goes.go (X5.caload hx (j := (2 : Int32)) (v := (.int sc2)) (by rw [e5]; exact Ar7.1) (State.isArrayOf_alike hZ.alike Ar7.2.1) Ar7.2.2 hin7 hat7 (g := (mkF m 12 #[.val (.ref ca), .val (.int (2 : Int32)), .val (.ref ba), .val (.int (2 : Int32)), .val (.int (3 : Int32)), .val (.int (2 : Int32)), .val (.int sc1)] [(.int (2 : Int32)), (.ref ca)])) rfl rfl (hb hby own_d14_12)) ?_
  show Goes p e below _ T5 (mkF m 13 #[.val (.ref ca), .val (.int (2 : Int32)), .val (.ref ba), .val (.int (2 : Int32)), .val (.int (3 : Int32)), .val (.int (2 : Int32)), .val (.int sc1)] [(.int sc2)])
  refine own_istore X5 hx 15 rfl #[.val (.ref ca), .val (.int (2 : Int32)), .val (.ref ba), .val (.int (2 : Int32)), .val (.int (3 : Int32)), .val (.int (2 : Int32)), .val (.int sc2)] (hb hby own_d14_13) rfl ?_
  refine own_iload X5 hx 17 rfl (hb hby own_d14_15) rfl ?_
  refine own_sipush X5 hx 20 rfl (255 : Int32) (hb hby own_d14_17) (by decide) ?_
  refine own_icmpY X5 hx 26 (hb hby own_d14_20) (flt (hc2 : ¬ ((255 : Int32) < sc2))).2.2.2 (by decide) (by decide) ?_
  refine own_aloadN X5 hx 27 rfl (hb hby own_d14_26) rfl rfl ?_
  refine own_iloadN X5 hx 28 rfl (hb hby own_d14_27) rfl ?_
  refine own_iload X5 hx 30 rfl (hb hby own_d14_28) rfl ?_
  refine own_i2b X5 hx 31 rfl (hb hby own_d14_30) rfl ?_
  obtain ⟨cl8, Ar8, qq8, S8, NN8, HH8, GG8⟩ := id V5
  have hin8 : ¬ ((2 : Int32) < 0 ∨ cl8.slots.size ≤ ((2 : Int32)).toNatClampNeg) := inb_of S8 ⟨by decide, by decide⟩
  obtain ⟨T8, h8, X8, e8, W8, st8⟩ := stB X5 hx hZ e5 Ar8 (j := (2 : Int32)) hin8 (g := (mkF m 31 #[.val (.ref ca), .val (.int (2 : Int32)), .val (.ref ba), .val (.int (2 : Int32)), .val (.int (3 : Int32)), .val (.int (2 : Int32)), .val (.int sc2)] [(.int (sc2.toInt8.toInt32)), (.int (2 : Int32)), (.ref ba)])) rfl rfl (hb hby own_d14_31)
  have V8 : Arv Z h8 ba bk .byte (3 : Int32) [(.int ((sc0.toInt8.toInt32).toInt8.toInt32)), (.int ((sc1.toInt8.toInt32).toInt8.toInt32)), (.int ((sc2.toInt8.toInt32).toInt8.toInt32))] (.int (0 : Int32)) := Arv.set Ar8 qq8 S8 NN8 HH8 GG8 (fits_nar_byte _) W8 2 rfl (Nat.le_of_ble_eq_true rfl)
  have N8 := Fr.snoc X8 N5 gb
  have f9 := f6.other W8 ncb
  have K8 := K5.wr W8 (Or.inl (List.mem_of_getElem? (i := 0) rfl))
  have Z8 := Nat.le_trans Z5 (Nat.le_of_eq W8.size.symm)
  refine Goes.go st8 ?_
  show Goes p e below _ T8 (mkF m 32 #[.val (.ref ca), .val (.int (2 : Int32)), .val (.ref ba), .val (.int (2 : Int32)), .val (.int (3 : Int32)), .val (.int (2 : Int32)), .val (.int sc2)] [])
  refine own_iinc X8 hx 35 rfl #[.val (.ref ca), .val (.int (3 : Int32)), .val (.ref ba), .val (.int (2 : Int32)), .val (.int (3 : Int32)), .val (.int (2 : Int32)), .val (.int sc2)] (hb hby own_d14_32) rfl (by decide) rfl ?_
  refine own_iinc X8 hx 38 rfl #[.val (.ref ca), .val (.int (3 : Int32)), .val (.ref ba), .val (.int (3 : Int32)), .val (.int (3 : Int32)), .val (.int (2 : Int32)), .val (.int sc2)] (hb hby own_d14_35) rfl (by decide) rfl ?_
  refine own_iinc X8 hx 41 rfl #[.val (.ref ca), .val (.int (3 : Int32)), .val (.ref ba), .val (.int (3 : Int32)), .val (.int (3 : Int32)), .val (.int (3 : Int32)), .val (.int sc2)] (hb hby own_d14_38) rfl (by decide) rfl ?_
  refine own_goto X8 hx 3 (hb hby own_d14_41) (by decide) (by decide) ?_
  refine own_iload X8 hx 5 rfl (hb hby own_d14_3) rfl ?_
  refine own_iload X8 hx 7 rfl (hb hby own_d14_5) rfl ?_
  refine own_icmpY X8 hx 44 (hb hby own_d14_7) (flt ((by decide) : ¬ ((3 : Int32) < (3 : Int32)))).2.1 (by decide) (by decide) ?_
  refine own_iload X8 hx 46 rfl (hb hby own_d14_44) rfl ?_
  refine own_retI X8 hx hlk Bd.returns (hb hby own_d14_46) (by decide) (by decide) e8 ?_
  exact ⟨rfl, N8, K8, V8⟩
def Qcpr3 (Z : State) (ca : Addr) (ck : ClassId) (sc0 : Int32) (sc1 : Int32) (sc2 : Int32) (h0 : Heap) (n0 : Nat) (v : Option Value) (h : Heap) (L : List Loc) : Prop := ∃ rb : Addr, ∃ rk : ClassId, v = some (.ref rb) ∧ Fr n0 L ∧ Keep h0 h [] ∧ h0.size ≤ rb ∧ Arv Z h rb rk .byte (3 : Int32) [(.int ((sc0.toInt8.toInt32).toInt8.toInt32)), (.int ((sc1.toInt8.toInt32).toInt8.toInt32)), (.int ((sc2.toInt8.toInt32).toInt8.toInt32))] (.int (0 : Int32))
set_option maxRecDepth 65536 in
set_option maxHeartbeats 40000000 in
theorem rmcpr3 (l : Launch) (Z : State) (a0 : Array Value) (hw : ∀ d ∈ tables_1, d.before a0 Z = true) (ws : List Jvm.Cond) (ca : Addr) (ck : ClassId) (sc0 : Int32) (sc1 : Int32) (sc2 : Int32) (h0 : Heap) (n0 : Nat) (Z0 : n0 ≤ h0.size) (Ac : Arv Z h0 ca ck .char (3 : Int32) [(.int sc0), (.int sc1), (.int sc2)] (.int (0 : Int32))) (hc0 : ¬ ((255 : Int32) < sc0)) (hc1 : ¬ ((255 : Int32) < sc1)) (hc2 : ¬ ((255 : Int32) < sc2)) :
    MetFree l (⟨"java/lang/StringUTF16", "compress", "([CII)[B"⟩ : MethodName) (head1 (Jvm.Cond.code (⟨"java/lang/StringUTF16", "compress", "([CII)[B"⟩ : MethodName) jdk_52_method_16_code 6 (some (.array .byte)) :: ws) ({ frames := 1, cells := 1, slots := 3, locals := 18 } : Room)) (fun a U => a = #[(.ref ca), (.int (0 : Int32)), (.int (3 : Int32))] ∧ Z.Warmed39 U.vm ∧ U.heap = h0) (fun _ _ _ _ _ => True) (fun _ U o U' => ∃ v L, o = .returned v ∧ Qcpr3 Z ca ck sc0 sc1 sc2 h0 n0 v U'.heap L ∧ FrameEnd U o U' L ({ frames := 1, cells := 1, slots := 3, locals := 18 } : Room).cells ({ frames := 1, cells := 1, slots := 3, locals := 18 } : Room).slots) := by
  refine MetFree.of_bodySF (plainFor_of_name own_pn_java_lang_StringUTF16) hisR ?_
  intro p e s m args below meth c s₁ Bd hml0 hP hK
  obtain ⟨rfl, hZ, hh⟩ := hP
  have hx := Bd.exec
  have hby := Bd.bytes
  have hml : c.maxLocals = 6 := hml0
  have hlk := Bd.notSynchronized
  have hown : s.vm.findClass "java/lang/StringUTF16" = some m.cls := findClass_of_methodNamed Bd.named
  have hnm := (name_of_methodNamed Bd.named Bd.method).1
  have X0 : Stand p l e ({ frames := 1, cells := 1, slots := 3, locals := 18 } : Room) s m #[(.ref ca), (.int (0 : Int32)), (.int (3 : Int32))] below meth c s₁ [] 0 0 := Stand.of_body Bd
  have e0 : s₁.heap = h0 := by rw [← hh, Bd.state]; rfl
  have N0 := Fr.nil n0
  have K0 : Keep h0 h0 [] := Keep.refl _ _
  refine own_enter (P := (Done s ({ frames := 1, cells := 1, slots := 3, locals := 18 } : Room).cells ({ frames := 1, cells := 1, slots := 3, locals := 18 } : Room).slots (Qcpr3 Z ca ck sc0 sc1 sc2 h0 n0))) (Ls := #[.val (.ref ca), .val (.int (0 : Int32)), .val (.int (3 : Int32)), .unset, .unset, .unset]) (by first | (simp [entryFrame, mkF, argsToLocals, Value.category]; done) | rfl) ?_
  refine own_iloadN X0 hx 1 rfl (hb hby own_d13_0) rfl ?_
  obtain ⟨T1, h1, k1, X1, e1, E1, A1, st1⟩ := newP X0 hx hZ (hw _ (List.mem_of_getElem? (i := 19) rfl)) e0 (g := (mkF m 1 #[.val (.ref ca), .val (.int (0 : Int32)), .val (.int (3 : Int32)), .unset, .unset, .unset] [(.int (3 : Int32))])) rfl (hb hby own_d13_1) rfl (by decide) (cap := 3) (by decide) (by decide) (by decide) (by decide)
  obtain ⟨b1, g1⟩ : ∃ z, z = h0.size := ⟨_, rfl⟩
  rw [← g1] at A1 st1
  have ne2 : ca ≠ b1 := own_lt_ne Ac.lt g1
  have G1 : n0 ≤ b1 := Nat.le_trans Z0 (Nat.le_of_eq g1.symm)
  have H1 : h0.size ≤ b1 := Nat.le_trans K0.1 (Nat.le_of_eq g1.symm)
  have f3 := Ac.ext E1
  have K1 := K0.ext E1
  have Z1 := Nat.le_trans Z0 E1.1
  have V1 : Arv Z h1 b1 k1 .byte (3 : Int32) [(.int (0 : Int32)), (.int (0 : Int32)), (.int (0 : Int32))] (.int (0 : Int32)) := (Arv.new A1 (by decide)).pad (pad_rep [] (.int (0 : Int32)) 3)
  refine Goes.go st1 ?_
  show Goes p e below _ T1 (mkF m 3 #[.val (.ref ca), .val (.int (0 : Int32)), .val (.int (3 : Int32)), .unset, .unset, .unset] [(.ref b1)])
  refine own_astoreN X1 hx 4 rfl #[.val (.ref ca), .val (.int (0 : Int32)), .val (.int (3 : Int32)), .val (.ref b1), .unset, .unset] (hb hby own_d13_3) rfl rfl ?_
  refine own_aloadN X1 hx 5 rfl (hb hby own_d13_4) rfl rfl ?_
  refine own_iloadN X1 hx 6 rfl (hb hby own_d13_5) rfl ?_
  refine own_aloadN X1 hx 7 rfl (hb hby own_d13_6) rfl rfl ?_
  refine own_iconst X1 hx 8 rfl (0 : Int32) (hb hby own_d13_7) (by decide) ?_
  refine own_iloadN X1 hx 9 rfl (hb hby own_d13_8) rfl ?_
  obtain ⟨_, _, ⟨T4, L4, k4, n4⟩, -, X4, ⟨Lc4, hQ4, l4, y4, z4⟩, st4⟩ := Jvm.LawKit.callS X1 hx (y := (⟨"java/lang/StringUTF16", "compress", "([CI[BII)I"⟩ : MethodName)) hown (mvT hZ (hw _ (List.mem_of_getElem? (i := 76) rfl))) (mvT hZ (hw _ (List.mem_of_getElem? (i := 77) rfl))) (mvT hZ (hw _ (List.mem_of_getElem? (i := 74) rfl))) (mvT hZ (hw _ (List.mem_of_getElem? (i := 78) rfl))) (by decide) (backOf (W := 0) (rmcmp3 l Z a0 hw [] ca b1 ck sc0 sc1 sc2 k1 h1 n0 Z1 f3 V1 G1 ne2 hc0 hc1 hc2) hZ (hw _ (List.mem_of_getElem? (i := 78) rfl)) (hw _ (List.mem_of_getElem? (i := 74) rfl)) (by decide) (by decide)) (g := (mkF m 9 #[.val (.ref ca), .val (.int (0 : Int32)), .val (.int (3 : Int32)), .val (.ref b1), .unset, .unset] [(.int (3 : Int32)), (.int (0 : Int32)), (.ref b1), (.int (0 : Int32)), (.ref ca)])) rfl (by rw [hml]; rfl) (argsL := [(.ref ca), (.int (0 : Int32)), (.ref b1), (.int (0 : Int32)), (.int (3 : Int32))]) (rest := []) (lenOf own_pd1 rfl) rfl (by show 2 * 0 + _ ≤ _; exact Nat.le_of_eq rfl) (hb hby own_d13_9) (fun _ _ => ⟨rfl, e1, (by decide : 1 + 0 ≤ _), (by decide : 3 + 0 ≤ _)⟩)
  dsimp only [Pt.U, Pt.locs, Pt.cells, Pt.slots] at X4 l4 y4 z4 st4 hQ4
  subst l4 y4 z4
  obtain ⟨rfl, N4q, K4q, f4_0⟩ := hQ4
  have N4 := Fr.app N0 N4q
  have f5 := f3.keep K4q (ninS ne2 nin0)
  have K4 := K1.trans K4q (allS (Or.inr H1) all0)
  have Z4 := Nat.le_trans Z1 K4q.1
  refine Goes.go st4 ?_
  show Goes p e below _ T4 (mkF m 12 #[.val (.ref ca), .val (.int (0 : Int32)), .val (.int (3 : Int32)), .val (.ref b1), .unset, .unset] [(.int (3 : Int32))])
  refine own_istore X4 hx 14 rfl #[.val (.ref ca), .val (.int (0 : Int32)), .val (.int (3 : Int32)), .val (.ref b1), .val (.int (3 : Int32)), .unset] (hb hby own_d13_12) rfl ?_
  refine own_iload X4 hx 16 rfl (hb hby own_d13_14) rfl ?_
  refine own_iloadN X4 hx 17 rfl (hb hby own_d13_16) rfl ?_
  refine own_icmpY X4 hx 57 (hb hby own_d13_17) (teq ((by decide) : (3 : Int32) = (3 : Int32))).1 (by decide) (by decide) ?_
  refine own_aloadN X4 hx 58 rfl (hb hby own_d13_57) rfl rfl ?_
  refine own_retR X4 hx hlk Bd.returns rfl rfl (hb hby own_d13_58) (by decide) (by decide) rfl ?_
  exact ⟨b1, k1, rfl, N4, K4, H1, f4_0⟩
def Qcod3 (Z : State) (ba : Addr) (bk : ClassId) (sc0 : Int32) (sc1 : Int32) (sc2 : Int32) (h0 : Heap) (n0 : Nat) (v : Option Value) (h : Heap) (L : List Loc) : Prop := v = some (.int (0 : Int32)) ∧ Fr n0 L ∧ h = h0
set_option maxRecDepth 65536 in
set_option maxHeartbeats 40000000 in
theorem rmcod3 (l : Launch) (Z : State) (a0 : Array Value) (hw : ∀ d ∈ tables_1, d.before a0 Z = true) (ws : List Jvm.Cond) (ba : Addr) (bk : ClassId) (sc0 : Int32) (sc1 : Int32) (sc2 : Int32) (h0 : Heap) (n0 : Nat) (Z0 : n0 ≤ h0.size) (Ab : Arv Z h0 ba bk .byte (3 : Int32) [(.int sc0), (.int sc1), (.int sc2)] (.int (0 : Int32))) :
    MetFree l (⟨"java/lang/StringUTF16", "coderFromArrayLen", "([BI)B"⟩ : MethodName) (head1 (Jvm.Cond.code (⟨"java/lang/StringUTF16", "coderFromArrayLen", "([BI)B"⟩ : MethodName) jdk_52_method_15_code 2 (some .byte) :: ws) ({ frames := 0, cells := 0, slots := 0, locals := 0 } : Room)) (fun a U => a = #[(.ref ba), (.int (3 : Int32))] ∧ Z.Warmed39 U.vm ∧ U.heap = h0) (fun _ _ _ _ _ => True) (fun _ U o U' => ∃ v L, o = .returned v ∧ Qcod3 Z ba bk sc0 sc1 sc2 h0 n0 v U'.heap L ∧ FrameEnd U o U' L ({ frames := 0, cells := 0, slots := 0, locals := 0 } : Room).cells ({ frames := 0, cells := 0, slots := 0, locals := 0 } : Room).slots) := by
  refine MetFree.of_bodySF (plainFor_of_name own_pn_java_lang_StringUTF16) hisR ?_
  intro p e s m args below meth c s₁ Bd hml0 hP hK
  obtain ⟨rfl, hZ, hh⟩ := hP
  have hx := Bd.exec
  have hby := Bd.bytes
  have hml : c.maxLocals = 2 := hml0
  have hlk := Bd.notSynchronized
  have hown : s.vm.findClass "java/lang/StringUTF16" = some m.cls := findClass_of_methodNamed Bd.named
  have hnm := (name_of_methodNamed Bd.named Bd.method).1
  have X0 : Stand p l e ({ frames := 0, cells := 0, slots := 0, locals := 0 } : Room) s m #[(.ref ba), (.int (3 : Int32))] below meth c s₁ [] 0 0 := Stand.of_body Bd
  have e0 : s₁.heap = h0 := by rw [← hh, Bd.state]; rfl
  have N0 := Fr.nil n0
  refine own_enter (P := (Done s ({ frames := 0, cells := 0, slots := 0, locals := 0 } : Room).cells ({ frames := 0, cells := 0, slots := 0, locals := 0 } : Room).slots (Qcod3 Z ba bk sc0 sc1 sc2 h0 n0))) (Ls := #[.val (.ref ba), .val (.int (3 : Int32))]) (by first | (simp [entryFrame, mkF, argsToLocals, Value.category]; done) | rfl) ?_
  refine own_iloadN X0 hx 1 rfl (hb hby own_d15_0) rfl ?_
  refine own_aloadN X0 hx 2 rfl (hb hby own_d15_1) rfl rfl ?_
  obtain ⟨cl1, Ar1, qq1, S1, NN1, HH1, GG1⟩ := id Ab
  refine Goes.go (X0.arraylength hx (by rw [e0]; exact Ar1.1) (State.isArrayOf_alike hZ.alike Ar1.2.1) (g := (mkF m 2 #[.val (.ref ba), .val (.int (3 : Int32))] [(.ref ba), (.int (3 : Int32))])) rfl rfl (hb hby own_d15_2)) ?_
  show Goes p e below _ s₁ (mkF m 3 #[.val (.ref ba), .val (.int (3 : Int32))] [(.int (cl1.slots.size.toInt32)), (.int (3 : Int32))])
  rw [len_of S1 NN1]
  refine own_isub X0 hx 4 rfl (z := (0 : Int32)) (hb hby own_d15_3) (by decide) ?_
  refine own_bipush X0 hx 6 rfl (31 : Int32) (hb hby own_d15_4) (by decide) ?_
  refine own_iushr X0 hx 7 rfl (z := (0 : Int32)) (hb hby own_d15_6) (by decide) ?_
  refine own_i2b X0 hx 8 rfl (z := (0 : Int32)) (hb hby own_d15_7) (by decide) ?_
  refine own_ret X0 hx hlk Bd.returns (by decide) (Or.inl ⟨rfl, by simp, _, rfl⟩) (hb hby own_d15_8) (by decide) (by decide) e0 ?_
  exact ⟨rfl, N0, rfl⟩
def Qini3 (Z : State) (st : Addr) (ca : Addr) (ck : ClassId) (sc0 : Int32) (sc1 : Int32) (sc2 : Int32) (cs : Int32) (h0 : Heap) (n0 : Nat) (v : Option Value) (h : Heap) (L : List Loc) : Prop := ∃ rb : Addr, ∃ rk : ClassId, v = none ∧ Fr n0 L ∧ Keep h0 h [st] ∧ h0.size ≤ rb ∧ Fld Z h st "java/lang/String" "value" "[B" (.ref rb) ∧ Fld Z h st "java/lang/String" "coder" "B" (.int (0 : Int32)) ∧ Arv Z h rb rk .byte (3 : Int32) [(.int ((sc0.toInt8.toInt32).toInt8.toInt32)), (.int ((sc1.toInt8.toInt32).toInt8.toInt32)), (.int ((sc2.toInt8.toInt32).toInt8.toInt32))] (.int (0 : Int32))
set_option maxRecDepth 65536 in
set_option maxHeartbeats 40000000 in
theorem rmini3 (l : Launch) (Z : State) (a0 : Array Value) (hw : ∀ d ∈ tables_1, d.before a0 Z = true) (ws : List Jvm.Cond) (st : Addr) (ca : Addr) (ck : ClassId) (sc0 : Int32) (sc1 : Int32) (sc2 : Int32) (cs : Int32) (h0 : Heap) (n0 : Nat) (Z0 : n0 ≤ h0.size) (ES : Exa Z h0 st "java/lang/String") (gs : n0 ≤ st) (Fv : Fld Z h0 st "java/lang/String" "value" "[B" .null) (Fc : Fld Z h0 st "java/lang/String" "coder" "B" (.int (0 : Int32))) (Ac : Arv Z h0 ca ck .char (3 : Int32) [(.int sc0), (.int sc1), (.int sc2)] (.int (0 : Int32))) (Sc : Sta Z h0 "java/lang/String" "COMPACT_STRINGS" "Z" (.int cs)) (hcs : ¬ (cs = (0 : Int32))) (ncs : ca ≠ st) (hc0 : ¬ ((255 : Int32) < sc0)) (hc1 : ¬ ((255 : Int32) < sc1)) (hc2 : ¬ ((255 : Int32) < sc2)) :
    MetFree l (⟨"java/lang/String", "<init>", "([CIILjava/lang/Void;)V"⟩ : MethodName) (head1 (Jvm.Cond.code (⟨"java/lang/String", "<init>", "([CIILjava/lang/Void;)V"⟩ : MethodName) jdk_42_method_149_code 6 none :: ws) ({ frames := 2, cells := 1, slots := 3, locals := 35 } : Room)) (fun a U => a = #[(.ref st), (.ref ca), (.int (0 : Int32)), (.int (3 : Int32)), .null] ∧ Z.Warmed39 U.vm ∧ U.heap = h0) (fun _ _ _ _ _ => True) (fun _ U o U' => ∃ v L, o = .returned v ∧ Qini3 Z st ca ck sc0 sc1 sc2 cs h0 n0 v U'.heap L ∧ FrameEnd U o U' L ({ frames := 2, cells := 1, slots := 3, locals := 35 } : Room).cells ({ frames := 2, cells := 1, slots := 3, locals := 35 } : Room).slots) := by
  refine MetFree.of_bodySF (plainFor_of_name own_pn_java_lang_String) hisR ?_
  intro p e s m args below meth c s₁ Bd hml0 hP hK
  obtain ⟨rfl, hZ, hh⟩ := hP
  have hx := Bd.exec
  have hby := Bd.bytes
  have hml : c.maxLocals = 6 := hml0
  have hlk := Bd.notSynchronized
  have hown : s.vm.findClass "java/lang/String" = some m.cls := findClass_of_methodNamed Bd.named
  have hnm := (name_of_methodNamed Bd.named Bd.method).1
  have X0 : Stand p l e ({ frames := 2, cells := 1, slots := 3, locals := 35 } : Room) s m #[(.ref st), (.ref ca), (.int (0 : Int32)), (.int (3 : Int32)), .null] below meth c s₁ [] 0 0 := Stand.of_body Bd
  have e0 : s₁.heap = h0 := by rw [← hh, Bd.state]; rfl
  have N0 := Fr.nil n0
  have K0 : Keep h0 h0 [st] := Keep.refl _ _
  refine own_enter (P := (Done s ({ frames := 2, cells := 1, slots := 3, locals := 35 } : Room).cells ({ frames := 2, cells := 1, slots := 3, locals := 35 } : Room).slots (Qini3 Z st ca ck sc0 sc1 sc2 cs h0 n0))) (Ls := #[.val (.ref st), .val (.ref ca), .val (.int (0 : Int32)), .val (.int (3 : Int32)), .val .null, .unset]) (by first | (simp [entryFrame, mkF, argsToLocals, Value.category]; done) | rfl) ?_
  refine own_aloadN X0 hx 1 rfl (hb hby own_d3_0) rfl rfl ?_
  obtain ⟨T1, X1, e1, st1⟩ := initO X0 hx hZ hown (hw _ (List.mem_of_getElem? (i := 15) rfl)) (hw _ (List.mem_of_getElem? (i := 16) rfl)) (hw _ (List.mem_of_getElem? (i := 17) rfl)) e0 (g := (mkF m 1 #[.val (.ref st), .val (.ref ca), .val (.int (0 : Int32)), .val (.int (3 : Int32)), .val .null, .unset] [(.ref st)])) rfl (by rw [hml]; rfl) rfl (hb hby own_d3_1) (by decide) (W := 0) (by show 2 * 0 + _ ≤ _; exact Nat.le_of_eq rfl) (by decide)
  refine Goes.go st1 ?_
  show Goes p e below _ T1 (mkF m 4 #[.val (.ref st), .val (.ref ca), .val (.int (0 : Int32)), .val (.int (3 : Int32)), .val .null, .unset] [])
  refine own_iloadN X1 hx 5 rfl (hb hby own_d3_4) rfl ?_
  refine own_ifY X1 hx 27 (hb hby own_d3_5) ((if0 _ _).trans (feq ((by decide) : ¬ ((3 : Int32) = (0 : Int32)))).2) (by decide) (by decide) ?_
  obtain ⟨T2, X2, e2, st2⟩ := getS2 X1 hx hZ hown (host := "") (Or.inl (hw _ (List.mem_of_getElem? (i := 66) rfl))) Via.refl e1 Sc (g := (mkF m 27 #[.val (.ref st), .val (.ref ca), .val (.int (0 : Int32)), .val (.int (3 : Int32)), .val .null, .unset] [])) rfl (hb hby own_d3_27)
  refine Goes.go st2 ?_
  show Goes p e below _ T2 (mkF m 30 #[.val (.ref st), .val (.ref ca), .val (.int (0 : Int32)), .val (.int (3 : Int32)), .val .null, .unset] [(.int cs)])
  refine own_ifN X2 hx 33 (hb hby own_d3_30) ((if0 _ _).trans (feq (hcs : ¬ (cs = (0 : Int32)))).1) rfl ?_
  refine own_aloadN X2 hx 34 rfl (hb hby own_d3_33) rfl rfl ?_
  refine own_iloadN X2 hx 35 rfl (hb hby own_d3_34) rfl ?_
  refine own_iloadN X2 hx 36 rfl (hb hby own_d3_35) rfl ?_
  obtain ⟨_, _, ⟨T3, L3, k3, n3⟩, -, X3, ⟨Lc3, hQ3, l3, y3, z3⟩, st3⟩ := Jvm.LawKit.callS X2 hx (y := (⟨"java/lang/StringUTF16", "compress", "([CII)[B"⟩ : MethodName)) hown (mvT hZ (hw _ (List.mem_of_getElem? (i := 72) rfl))) (mvT hZ (hw _ (List.mem_of_getElem? (i := 73) rfl))) (mvT hZ (hw _ (List.mem_of_getElem? (i := 74) rfl))) (mvT hZ (hw _ (List.mem_of_getElem? (i := 75) rfl))) (by decide) (backOf (W := 0) (rmcpr3 l Z a0 hw [] ca ck sc0 sc1 sc2 h0 n0 Z0 Ac hc0 hc1 hc2) hZ (hw _ (List.mem_of_getElem? (i := 75) rfl)) (hw _ (List.mem_of_getElem? (i := 74) rfl)) (by decide) (by decide)) (g := (mkF m 36 #[.val (.ref st), .val (.ref ca), .val (.int (0 : Int32)), .val (.int (3 : Int32)), .val .null, .unset] [(.int (3 : Int32)), (.int (0 : Int32)), (.ref ca)])) rfl (by rw [hml]; rfl) (argsL := [(.ref ca), (.int (0 : Int32)), (.int (3 : Int32))]) (rest := []) (lenOf own_pd2 rfl) rfl (by show 2 * 0 + _ ≤ _; exact Nat.le_of_eq rfl) (hb hby own_d3_36) (fun _ _ => ⟨rfl, e2, (by decide : 0 + 1 ≤ _), (by decide : 0 + 3 ≤ _)⟩)
  dsimp only [Pt.U, Pt.locs, Pt.cells, Pt.slots] at X3 l3 y3 z3 st3 hQ3
  subst l3 y3 z3
  obtain ⟨rb_3, rk_3, rfl, N3q, K3q, f3_0, f3_1⟩ := hQ3
  have N3 := Fr.app N0 N3q
  have ne4 : st ≠ rb_3 := Nat.ne_of_lt (Nat.lt_of_lt_of_le ES.lt f3_0)
  have ne5 : ca ≠ rb_3 := Nat.ne_of_lt (Nat.lt_of_lt_of_le Ac.lt f3_0)
  have GG6 : n0 ≤ rb_3 := Nat.le_trans Z0 f3_0
  have HG6 : h0.size ≤ rb_3 := Nat.le_trans K0.1 f3_0
  have f7 := ES.keep K3q
  have f8 := Fv.keep K3q nin0
  have f9 := Fc.keep K3q nin0
  have f10 := Ac.keep K3q nin0
  have f11 := own_sta_keep Sc K3q all0
  have K3 := K0.trans K3q all0
  have Z3 := Nat.le_trans Z0 K3q.1
  refine Goes.go st3 ?_
  show Goes p e below _ T3 (mkF m 39 #[.val (.ref st), .val (.ref ca), .val (.int (0 : Int32)), .val (.int (3 : Int32)), .val .null, .unset] [(.ref rb_3)])
  refine own_astore X3 hx 41 rfl #[.val (.ref st), .val (.ref ca), .val (.int (0 : Int32)), .val (.int (3 : Int32)), .val .null, .val (.ref rb_3)] (hb hby own_d3_39) rfl rfl ?_
  refine own_aloadN X3 hx 42 rfl (hb hby own_d3_41) rfl rfl ?_
  refine own_aload X3 hx 44 rfl (hb hby own_d3_42) rfl rfl ?_
  refine own_iloadN X3 hx 45 rfl (hb hby own_d3_44) rfl ?_
  obtain ⟨_, _, ⟨T12, L12, k12, n12⟩, -, X12, ⟨Lc12, hQ12, l12, y12, z12⟩, st12⟩ := Jvm.LawKit.callS X3 hx (y := (⟨"java/lang/StringUTF16", "coderFromArrayLen", "([BI)B"⟩ : MethodName)) hown (mvT hZ (hw _ (List.mem_of_getElem? (i := 79) rfl))) (mvT hZ (hw _ (List.mem_of_getElem? (i := 80) rfl))) (mvT hZ (hw _ (List.mem_of_getElem? (i := 74) rfl))) (mvT hZ (hw _ (List.mem_of_getElem? (i := 81) rfl))) (by decide) (backOf (W := 1) (rmcod3 l Z a0 hw [] rb_3 rk_3 ((sc0.toInt8.toInt32).toInt8.toInt32) ((sc1.toInt8.toInt32).toInt8.toInt32) ((sc2.toInt8.toInt32).toInt8.toInt32) T3.heap n0 Z3 f3_1) hZ (hw _ (List.mem_of_getElem? (i := 81) rfl)) (hw _ (List.mem_of_getElem? (i := 74) rfl)) (by decide) (by decide)) (g := (mkF m 45 #[.val (.ref st), .val (.ref ca), .val (.int (0 : Int32)), .val (.int (3 : Int32)), .val .null, .val (.ref rb_3)] [(.int (3 : Int32)), (.ref rb_3), (.ref st)])) rfl (by rw [hml]; rfl) (argsL := [(.ref rb_3), (.int (3 : Int32))]) (rest := [(.ref st)]) (lenOf own_pd3 rfl) rfl (by show 2 * 0 + _ ≤ _; exact Nat.le_of_eq rfl) (hb hby own_d3_45) (fun _ _ => ⟨rfl, rfl, (by decide : 1 + 0 ≤ _), (by decide : 3 + 0 ≤ _)⟩)
  dsimp only [Pt.U, Pt.locs, Pt.cells, Pt.slots] at X12 l12 y12 z12 st12 hQ12
  subst l12 y12 z12
  obtain ⟨rfl, N12q, eh12⟩ := hQ12
  have N12 := Fr.app N3 N12q
  refine Goes.go st12 ?_
  show Goes p e below _ T12 (mkF m 48 #[.val (.ref st), .val (.ref ca), .val (.int (0 : Int32)), .val (.int (3 : Int32)), .val .null, .val (.ref rb_3)] [(.int (0 : Int32)), (.ref st)])
  obtain ⟨T13, h13, X13, e13, W13, st13⟩ := putFN X12 hx hZ hown (hw _ (List.mem_of_getElem? (i := 25) rfl)) Via.refl eh12 f9 f7 (Or.inr ⟨(hw _ (List.mem_of_getElem? (i := 21) rfl)), rfl, hnm⟩) (hw _ (List.mem_of_getElem? (i := 5) rfl)) (ty := .byte) (v' := (.int (0 : Int32))) (by decide) rfl (by decide) (g := (mkF m 48 #[.val (.ref st), .val (.ref ca), .val (.int (0 : Int32)), .val (.int (3 : Int32)), .val .null, .val (.ref rb_3)] [(.int (0 : Int32)), (.ref st)])) rfl rfl (hb hby own_d3_48)
  have N13 := Fr.snoc X13 N12 gs
  have f14 := f7.wr W13
  have f15 := f8.other W13 (Or.inr (slot_ne (Or.inr (hw _ (List.mem_of_getElem? (i := 20) rfl))) (Or.inr (hw _ (List.mem_of_getElem? (i := 21) rfl))) (by decide) (t := (.array .byte)) (t' := .byte) (by decide) (by decide)))
  have f16 := f9.same W13
  have f17 := f10.other W13 ncs
  have f18 := f11.wr W13
  have f19 := f3_1.other W13 (Ne.symm ne4)
  have K13 := K3.wr W13 (Or.inl (List.mem_of_getElem? (i := 0) rfl))
  have Z13 := Nat.le_trans Z3 (Nat.le_of_eq W13.size.symm)
  refine Goes.go st13 ?_
  show Goes p e below _ T13 (mkF m 51 #[.val (.ref st), .val (.ref ca), .val (.int (0 : Int32)), .val (.int (3 : Int32)), .val .null, .val (.ref rb_3)] [])
  refine own_aloadN X13 hx 52 rfl (hb hby own_d3_51) rfl rfl ?_
  refine own_aload X13 hx 54 rfl (hb hby own_d3_52) rfl rfl ?_
  obtain ⟨T20, h20, X20, e20, W20, st20⟩ := putF X13 hx hZ hown (host := "") (Or.inl (hw _ (List.mem_of_getElem? (i := 24) rfl))) Via.refl e13 f15 f14 (Or.inr ⟨(hw _ (List.mem_of_getElem? (i := 20) rfl)), rfl, hnm⟩) (hw _ (List.mem_of_getElem? (i := 5) rfl)) (ty := (.array .byte)) (by decide) rfl rfl (g := (mkF m 54 #[.val (.ref st), .val (.ref ca), .val (.int (0 : Int32)), .val (.int (3 : Int32)), .val .null, .val (.ref rb_3)] [(.ref rb_3), (.ref st)])) rfl rfl (hb hby own_d3_54)
  have N20 := Fr.snoc X20 N13 gs
  have f21 := f14.wr W20
  have f22 := f15.same W20
  have f23 := f16.other W20 (Or.inr (slot_ne (Or.inr (hw _ (List.mem_of_getElem? (i := 21) rfl))) (Or.inr (hw _ (List.mem_of_getElem? (i := 20) rfl))) (by decide) (t := .byte) (t' := (.array .byte)) (by decide) (by decide)))
  have f24 := f17.other W20 ncs
  have f25 := f18.wr W20
  have f26 := f19.other W20 (Ne.symm ne4)
  have K20 := K13.wr W20 (Or.inl (List.mem_of_getElem? (i := 0) rfl))
  have Z20 := Nat.le_trans Z13 (Nat.le_of_eq W20.size.symm)
  refine Goes.go st20 ?_
  show Goes p e below _ T20 (mkF m 57 #[.val (.ref st), .val (.ref ca), .val (.int (0 : Int32)), .val (.int (3 : Int32)), .val .null, .val (.ref rb_3)] [])
  refine own_retV X20 hx hlk Bd.returns (hb hby own_d3_57) (by decide) (by decide) e20 ?_
  exact ⟨rb_3, rk_3, rfl, N20, K20, HG6, f22, f23, f26⟩
def Qnew3 (Z : State) (st : Addr) (ca : Addr) (ck : ClassId) (sc0 : Int32) (sc1 : Int32) (sc2 : Int32) (cs : Int32) (h0 : Heap) (n0 : Nat) (v : Option Value) (h : Heap) (L : List Loc) : Prop := ∃ rb : Addr, ∃ rk : ClassId, v = none ∧ Fr n0 L ∧ Keep h0 h [st] ∧ h0.size ≤ rb ∧ Fld Z h st "java/lang/String" "value" "[B" (.ref rb) ∧ Fld Z h st "java/lang/String" "coder" "B" (.int (0 : Int32)) ∧ Arv Z h rb rk .byte (3 : Int32) [(.int ((sc0.toInt8.toInt32).toInt8.toInt32)), (.int ((sc1.toInt8.toInt32).toInt8.toInt32)), (.int ((sc2.toInt8.toInt32).toInt8.toInt32))] (.int (0 : Int32))
set_option maxRecDepth 65536 in
set_option maxHeartbeats 40000000 in
theorem rmnew3 (l : Launch) (Z : State) (a0 : Array Value) (hw : ∀ d ∈ tables_1, d.before a0 Z = true) (ws : List Jvm.Cond) (st : Addr) (ca : Addr) (ck : ClassId) (sc0 : Int32) (sc1 : Int32) (sc2 : Int32) (cs : Int32) (h0 : Heap) (n0 : Nat) (Z0 : n0 ≤ h0.size) (ES : Exa Z h0 st "java/lang/String") (gs : n0 ≤ st) (Fv : Fld Z h0 st "java/lang/String" "value" "[B" .null) (Fc : Fld Z h0 st "java/lang/String" "coder" "B" (.int (0 : Int32))) (Ac : Arv Z h0 ca ck .char (3 : Int32) [(.int sc0), (.int sc1), (.int sc2)] (.int (0 : Int32))) (Sc : Sta Z h0 "java/lang/String" "COMPACT_STRINGS" "Z" (.int cs)) (hcs : ¬ (cs = (0 : Int32))) (ncs : ca ≠ st) (hc0 : ¬ ((255 : Int32) < sc0)) (hc1 : ¬ ((255 : Int32) < sc1)) (hc2 : ¬ ((255 : Int32) < sc2)) :
    MetFree l (⟨"java/lang/String", "<init>", "([C)V"⟩ : MethodName) (head1 (Jvm.Cond.code (⟨"java/lang/String", "<init>", "([C)V"⟩ : MethodName) jdk_42_method_3_code 2 none :: ws) ({ frames := 3, cells := 1, slots := 3, locals := 52 } : Room)) (fun a U => a = #[(.ref st), (.ref ca)] ∧ Z.Warmed39 U.vm ∧ U.heap = h0) (fun _ _ _ _ _ => True) (fun _ U o U' => ∃ v L, o = .returned v ∧ Qnew3 Z st ca ck sc0 sc1 sc2 cs h0 n0 v U'.heap L ∧ FrameEnd U o U' L ({ frames := 3, cells := 1, slots := 3, locals := 52 } : Room).cells ({ frames := 3, cells := 1, slots := 3, locals := 52 } : Room).slots) := by
  refine MetFree.of_bodySF (plainFor_of_name own_pn_java_lang_String) hisR ?_
  intro p e s m args below meth c s₁ Bd hml0 hP hK
  obtain ⟨rfl, hZ, hh⟩ := hP
  have hx := Bd.exec
  have hby := Bd.bytes
  have hml : c.maxLocals = 2 := hml0
  have hlk := Bd.notSynchronized
  have hown : s.vm.findClass "java/lang/String" = some m.cls := findClass_of_methodNamed Bd.named
  have hnm := (name_of_methodNamed Bd.named Bd.method).1
  have X0 : Stand p l e ({ frames := 3, cells := 1, slots := 3, locals := 52 } : Room) s m #[(.ref st), (.ref ca)] below meth c s₁ [] 0 0 := Stand.of_body Bd
  have e0 : s₁.heap = h0 := by rw [← hh, Bd.state]; rfl
  have N0 := Fr.nil n0
  have K0 : Keep h0 h0 [st] := Keep.refl _ _
  refine own_enter (P := (Done s ({ frames := 3, cells := 1, slots := 3, locals := 52 } : Room).cells ({ frames := 3, cells := 1, slots := 3, locals := 52 } : Room).slots (Qnew3 Z st ca ck sc0 sc1 sc2 cs h0 n0))) (Ls := #[.val (.ref st), .val (.ref ca)]) (by first | (simp [entryFrame, mkF, argsToLocals, Value.category]; done) | rfl) ?_
  refine own_aloadN X0 hx 1 rfl (hb hby own_d2_0) rfl rfl ?_
  refine own_aloadN X0 hx 2 rfl (hb hby own_d2_1) rfl rfl ?_
  refine own_iconst X0 hx 3 rfl (0 : Int32) (hb hby own_d2_2) (by decide) ?_
  refine own_aloadN X0 hx 4 rfl (hb hby own_d2_3) rfl rfl ?_
  obtain ⟨cl1, Ar1, qq1, S1, NN1, HH1, GG1⟩ := id Ac
  refine Goes.go (X0.arraylength hx (by rw [e0]; exact Ar1.1) (State.isArrayOf_alike hZ.alike Ar1.2.1) (g := (mkF m 4 #[.val (.ref st), .val (.ref ca)] [(.ref ca), (.int (0 : Int32)), (.ref ca), (.ref st)])) rfl rfl (hb hby own_d2_4)) ?_
  show Goes p e below _ s₁ (mkF m 5 #[.val (.ref st), .val (.ref ca)] [(.int (cl1.slots.size.toInt32)), (.int (0 : Int32)), (.ref ca), (.ref st)])
  rw [len_of S1 NN1]
  refine own_aconst_null X0 hx 6 rfl (hb hby own_d2_5) ?_
  obtain ⟨_, _, ⟨T2, L2, k2, n2⟩, -, X2, ⟨Lc2, hQ2, l2, y2, z2⟩, st2⟩ := X0.specialBack hx (y := (⟨"java/lang/String", "<init>", "([CIILjava/lang/Void;)V"⟩ : MethodName)) rfl hown (mvT hZ (hw _ (List.mem_of_getElem? (i := 11) rfl))) (mvT hZ (hw _ (List.mem_of_getElem? (i := 12) rfl))) (mvT hZ (hw _ (List.mem_of_getElem? (i := 14) rfl))) (by decide) (backOf (W := 0) (rmini3 l Z a0 hw [] st ca ck sc0 sc1 sc2 cs h0 n0 Z0 ES gs Fv Fc Ac Sc hcs ncs hc0 hc1 hc2) hZ (hw _ (List.mem_of_getElem? (i := 14) rfl)) (hw _ (List.mem_of_getElem? (i := 6) rfl)) (by decide) (by decide)) (g := (mkF m 6 #[.val (.ref st), .val (.ref ca)] [.null, (.int (3 : Int32)), (.int (0 : Int32)), (.ref ca), (.ref st)])) rfl (by rw [hml]; rfl) (Steps.refl _) (a := st) (argsL := [(.ref ca), (.int (0 : Int32)), (.int (3 : Int32)), .null]) (rest := []) (lenOf own_pd0 rfl) rfl (by show 2 * 0 + _ ≤ _; exact Nat.le_of_eq rfl) (hb hby own_d2_6) (fun _ _ => ⟨rfl, e0, (by decide : 0 + 1 ≤ _), (by decide : 0 + 3 ≤ _)⟩)
  dsimp only [Pt.U, Pt.locs, Pt.cells, Pt.slots] at X2 l2 y2 z2 st2 hQ2
  subst l2 y2 z2
  obtain ⟨rb_2, rk_2, rfl, N2q, K2q, f2_0, f2_1, f2_2, f2_3⟩ := hQ2
  have N2 := Fr.app N0 N2q
  have ne3 : st ≠ rb_2 := Nat.ne_of_lt (Nat.lt_of_lt_of_le ES.lt f2_0)
  have ne4 : ca ≠ rb_2 := Nat.ne_of_lt (Nat.lt_of_lt_of_le Ac.lt f2_0)
  have GG5 : n0 ≤ rb_2 := Nat.le_trans Z0 f2_0
  have HG5 : h0.size ≤ rb_2 := Nat.le_trans K0.1 f2_0
  have f6 := ES.keep K2q
  have f7 := Ac.keep K2q (ninS ncs nin0)
  have f8 := own_sta_keep Sc K2q (allS (own_eplain ES) all0)
  have K2 := K0.trans K2q (allS (Or.inl (List.mem_of_getElem? (i := 0) rfl)) all0)
  have Z2 := Nat.le_trans Z0 K2q.1
  refine Goes.tr st2 ?_
  show Goes p e below _ T2 (mkF m 9 #[.val (.ref st), .val (.ref ca)] [])
  refine own_retV X2 hx hlk Bd.returns (hb hby own_d2_9) (by decide) (by decide) rfl ?_
  exact ⟨rb_2, rk_2, rfl, N2, K2, HG5, f2_1, f2_2, f2_3⟩
theorem own_pd4 : parseMethodDescriptor "([C)V" = some ⟨[(.array .char)], none⟩ := by decide +kernel
theorem own_d1_0 : decode method_2_code 0 = .ok (.iload_n 1, 1) := by decide +kernel
theorem own_d1_1 : decode method_2_code 1 = .ok (.sipush 255, 3) := by decide +kernel
theorem own_d1_4 : decode method_2_code 4 = .ok (.iand, 1) := by decide +kernel
theorem own_d1_5 : decode method_2_code 5 = .ok (.i2c, 1) := by decide +kernel
theorem own_d1_6 : decode method_2_code 6 = .ok (.istore 4, 2) := by decide +kernel
theorem own_d1_8 : decode method_2_code 8 = .ok (.iload_n 2, 1) := by decide +kernel
theorem own_d1_9 : decode method_2_code 9 = .ok (.sipush 255, 3) := by decide +kernel
theorem own_d1_12 : decode method_2_code 12 = .ok (.iand, 1) := by decide +kernel
theorem own_d1_13 : decode method_2_code 13 = .ok (.i2c, 1) := by decide +kernel
theorem own_d1_14 : decode method_2_code 14 = .ok (.istore 5, 2) := by decide +kernel
theorem own_d1_16 : decode method_2_code 16 = .ok (.iload_n 3, 1) := by decide +kernel
theorem own_d1_17 : decode method_2_code 17 = .ok (.sipush 255, 3) := by decide +kernel
theorem own_d1_20 : decode method_2_code 20 = .ok (.iand, 1) := by decide +kernel
theorem own_d1_21 : decode method_2_code 21 = .ok (.i2c, 1) := by decide +kernel
theorem own_d1_22 : decode method_2_code 22 = .ok (.istore 6, 2) := by decide +kernel
theorem own_d1_24 : decode method_2_code 24 = .ok (.iload_n 0, 1) := by decide +kernel
theorem own_d1_25 : decode method_2_code 25 = .ok (.iconst 3, 1) := by decide +kernel
theorem own_d1_26 : decode method_2_code 26 = .ok (.iand, 1) := by decide +kernel
theorem own_d1_27 : decode method_2_code 27 = .ok (.istore 7, 2) := by decide +kernel
theorem own_d1_29 : decode method_2_code 29 = .ok (.iload 7, 2) := by decide +kernel
theorem own_d1_31 : decode method_2_code 31 = .ok (.ifCond .ne 14, 3) := by decide +kernel
theorem own_d1_34 : decode method_2_code 34 = .ok (.new 7, 3) := by decide +kernel
theorem own_d1_37 : decode method_2_code 37 = .ok (.dup, 1) := by decide +kernel
theorem own_d1_38 : decode method_2_code 38 = .ok (.iconst 0, 1) := by decide +kernel
theorem own_d1_39 : decode method_2_code 39 = .ok (.newarray .char, 2) := by decide +kernel
theorem own_d1_41 : decode method_2_code 41 = .ok (.invokespecial 9, 3) := by decide +kernel
theorem own_d1_44 : decode method_2_code 44 = .ok (.areturn, 1) := by decide +kernel
theorem own_d1_45 : decode method_2_code 45 = .ok (.iload 7, 2) := by decide +kernel
theorem own_d1_47 : decode method_2_code 47 = .ok (.iconst 1, 1) := by decide +kernel
theorem own_d1_48 : decode method_2_code 48 = .ok (.if_icmp .ne 19, 3) := by decide +kernel
theorem own_d1_51 : decode method_2_code 51 = .ok (.new 7, 3) := by decide +kernel
theorem own_d1_54 : decode method_2_code 54 = .ok (.dup, 1) := by decide +kernel
theorem own_d1_55 : decode method_2_code 55 = .ok (.iconst 1, 1) := by decide +kernel
theorem own_d1_56 : decode method_2_code 56 = .ok (.newarray .char, 2) := by decide +kernel
theorem own_d1_58 : decode method_2_code 58 = .ok (.dup, 1) := by decide +kernel
theorem own_d1_59 : decode method_2_code 59 = .ok (.iconst 0, 1) := by decide +kernel
theorem own_d1_60 : decode method_2_code 60 = .ok (.iload 4, 2) := by decide +kernel
theorem own_d1_62 : decode method_2_code 62 = .ok (.castore, 1) := by decide +kernel
theorem own_d1_63 : decode method_2_code 63 = .ok (.invokespecial 9, 3) := by decide +kernel
theorem own_d1_66 : decode method_2_code 66 = .ok (.areturn, 1) := by decide +kernel
theorem own_d1_67 : decode method_2_code 67 = .ok (.iload 7, 2) := by decide +kernel
theorem own_d1_69 : decode method_2_code 69 = .ok (.iconst 2, 1) := by decide +kernel
theorem own_d1_70 : decode method_2_code 70 = .ok (.if_icmp .ne 24, 3) := by decide +kernel
theorem own_d1_73 : decode method_2_code 73 = .ok (.new 7, 3) := by decide +kernel
theorem own_d1_76 : decode method_2_code 76 = .ok (.dup, 1) := by decide +kernel
theorem own_d1_77 : decode method_2_code 77 = .ok (.iconst 2, 1) := by decide +kernel
theorem own_d1_78 : decode method_2_code 78 = .ok (.newarray .char, 2) := by decide +kernel
theorem own_d1_80 : decode method_2_code 80 = .ok (.dup, 1) := by decide +kernel
theorem own_d1_81 : decode method_2_code 81 = .ok (.iconst 0, 1) := by decide +kernel
theorem own_d1_82 : decode method_2_code 82 = .ok (.iload 4, 2) := by decide +kernel
theorem own_d1_84 : decode method_2_code 84 = .ok (.castore, 1) := by decide +kernel
theorem own_d1_85 : decode method_2_code 85 = .ok (.dup, 1) := by decide +kernel
theorem own_d1_86 : decode method_2_code 86 = .ok (.iconst 1, 1) := by decide +kernel
theorem own_d1_87 : decode method_2_code 87 = .ok (.iload 5, 2) := by decide +kernel
theorem own_d1_89 : decode method_2_code 89 = .ok (.castore, 1) := by decide +kernel
theorem own_d1_90 : decode method_2_code 90 = .ok (.invokespecial 9, 3) := by decide +kernel
theorem own_d1_93 : decode method_2_code 93 = .ok (.areturn, 1) := by decide +kernel
theorem own_d1_94 : decode method_2_code 94 = .ok (.new 7, 3) := by decide +kernel
theorem own_d1_97 : decode method_2_code 97 = .ok (.dup, 1) := by decide +kernel
theorem own_d1_98 : decode method_2_code 98 = .ok (.iconst 3, 1) := by decide +kernel
theorem own_d1_99 : decode method_2_code 99 = .ok (.newarray .char, 2) := by decide +kernel
theorem own_d1_101 : decode method_2_code 101 = .ok (.dup, 1) := by decide +kernel
theorem own_d1_102 : decode method_2_code 102 = .ok (.iconst 0, 1) := by decide +kernel
theorem own_d1_103 : decode method_2_code 103 = .ok (.iload 4, 2) := by decide +kernel
theorem own_d1_105 : decode method_2_code 105 = .ok (.castore, 1) := by decide +kernel
theorem own_d1_106 : decode method_2_code 106 = .ok (.dup, 1) := by decide +kernel
theorem own_d1_107 : decode method_2_code 107 = .ok (.iconst 1, 1) := by decide +kernel
theorem own_d1_108 : decode method_2_code 108 = .ok (.iload 5, 2) := by decide +kernel
theorem own_d1_110 : decode method_2_code 110 = .ok (.castore, 1) := by decide +kernel
theorem own_d1_111 : decode method_2_code 111 = .ok (.dup, 1) := by decide +kernel
theorem own_d1_112 : decode method_2_code 112 = .ok (.iconst 2, 1) := by decide +kernel
theorem own_d1_113 : decode method_2_code 113 = .ok (.iload 6, 2) := by decide +kernel
theorem own_d1_115 : decode method_2_code 115 = .ok (.castore, 1) := by decide +kernel
theorem own_d1_116 : decode method_2_code 116 = .ok (.invokespecial 9, 3) := by decide +kernel
theorem own_d1_119 : decode method_2_code 119 = .ok (.areturn, 1) := by decide +kernel
theorem own_pn_com_example_narrow_gate_narrowgate_model_CaptureDeclinedPinLaw : plainName "com/example/narrow_gate/narrowgate/model/CaptureDeclinedPinLaw" = true := by first | (simp [plainName, overriddenIn]; done) | decide +kernel
def Q1 (Z : State) (dn : Int32) (d0 : Int32) (d1 : Int32) (d2 : Int32) (cs : Int32) (h0 : Heap) (n0 : Nat) (v : Option Value) (h : Heap) (L : List Loc) : Prop := ∃ db : Addr, ∃ dv : Addr, ∃ dk : ClassId, ∃ dl : Int32, ∃ du : List Value, v = some (.ref db) ∧ Fr n0 L ∧ Keep h0 h [] ∧ h0.size ≤ db ∧ Exa Z h db "java/lang/String" ∧ Fld Z h db "java/lang/String" "value" "[B" (.ref dv) ∧ Fld Z h db "java/lang/String" "coder" "B" (.int (0 : Int32)) ∧ Arv Z h dv dk .byte dl du (.int (0 : Int32))
set_option maxRecDepth 65536 in
set_option maxHeartbeats 40000000 in
theorem rm1 (l : Launch) (Z : State) (a0 : Array Value) (hw : ∀ d ∈ tables_1, d.before a0 Z = true) (ws : List Jvm.Cond) (dn : Int32) (d0 : Int32) (d1 : Int32) (d2 : Int32) (cs : Int32) (h0 : Heap) (n0 : Nat) (Z0 : n0 ≤ h0.size) (Sc : Sta Z h0 "java/lang/String" "COMPACT_STRINGS" "Z" (.int cs)) (hcs : ¬ (cs = (0 : Int32))) (hold : Old Z n0 h0) (hemp : Jvm.Lit.constHeld Z "java/lang/String" 7) (hcw : Jvm.Lit.compactW.before a0 Z = true) :
    MetFree l (⟨"com/example/narrow_gate/narrowgate/model/CaptureDeclinedPinLaw", "draw", "(IIII)Ljava/lang/String;"⟩ : MethodName) (head1 (Jvm.Cond.code (⟨"com/example/narrow_gate/narrowgate/model/CaptureDeclinedPinLaw", "draw", "(IIII)Ljava/lang/String;"⟩ : MethodName) method_2_code 8 (some (.object "java/lang/String")) :: ws) ({ frames := 4, cells := 4, slots := 10, locals := 66 } : Room)) (fun a U => a = #[(.int dn), (.int d0), (.int d1), (.int d2)] ∧ Z.Warmed39 U.vm ∧ U.heap = h0 ∧ IB Z U.vm []) (fun _ _ _ _ _ => True) (fun _ U o U' => ∃ v L, o = .returned v ∧ Q1 Z dn d0 d1 d2 cs h0 n0 v U'.heap L ∧ ReturnedEndW U o U' L ({ frames := 4, cells := 4, slots := 10, locals := 66 } : Room).cells ({ frames := 4, cells := 4, slots := 10, locals := 66 } : Room).slots) := by
  refine MetFree.of_bodySF (plainFor_of_name own_pn_com_example_narrow_gate_narrowgate_model_CaptureDeclinedPinLaw) hisR ?_
  intro p e s m args below meth c s₁ Bd hml0 hP hK
  obtain ⟨rfl, hZ, hh, hI⟩ := hP
  have hx := Bd.exec
  have hby := Bd.bytes
  have hml : c.maxLocals = 8 := hml0
  have hlk := Bd.notSynchronized
  have hown : s.vm.findClass "com/example/narrow_gate/narrowgate/model/CaptureDeclinedPinLaw" = some m.cls := findClass_of_methodNamed Bd.named
  have hnm := (name_of_methodNamed Bd.named Bd.method).1
  have X0 : Stand p l e ({ frames := 4, cells := 4, slots := 10, locals := 66 } : Room) (s.setVm s.vm) m #[(.int dn), (.int d0), (.int d1), (.int d2)] below meth c s₁ [] 0 0 := Stand.of_body Bd
  have e0 : s₁.heap = h0 := by rw [← hh, Bd.state]; rfl
  have N0 := Fr.nil n0
  have hS0 : s.Since s.vm 0 := (State.WarmedH.refl s).since 0
  have hk0 : 0 ≤ h0.size := Nat.zero_le _
  have K0 : Keep h0 h0 [] := Keep.refl _ _
  refine own_enter (P := (DoneW s ({ frames := 4, cells := 4, slots := 10, locals := 66 } : Room).cells ({ frames := 4, cells := 4, slots := 10, locals := 66 } : Room).slots (Q1 Z dn d0 d1 d2 cs h0 n0))) (Ls := #[.val (.int dn), .val (.int d0), .val (.int d1), .val (.int d2), .unset, .unset, .unset, .unset]) (by first | (simp [entryFrame, mkF, argsToLocals, Value.category]; done) | rfl) ?_
  refine own_iloadN X0 hx 1 rfl (hb hby own_d1_0) rfl ?_
  refine own_sipush X0 hx 4 rfl (255 : Int32) (hb hby own_d1_1) (by decide) ?_
  refine own_iand X0 hx 5 rfl (hb hby own_d1_4) rfl ?_
  refine own_i2c X0 hx 6 rfl (hb hby own_d1_5) rfl ?_
  refine own_istore X0 hx 8 rfl #[.val (.int dn), .val (.int d0), .val (.int d1), .val (.int d2), .val (.int ((d0 &&& (255 : Int32)).toUInt32.toUInt16.toUInt32.toInt32)), .unset, .unset, .unset] (hb hby own_d1_6) rfl ?_
  refine own_iloadN X0 hx 9 rfl (hb hby own_d1_8) rfl ?_
  refine own_sipush X0 hx 12 rfl (255 : Int32) (hb hby own_d1_9) (by decide) ?_
  refine own_iand X0 hx 13 rfl (hb hby own_d1_12) rfl ?_
  refine own_i2c X0 hx 14 rfl (hb hby own_d1_13) rfl ?_
  refine own_istore X0 hx 16 rfl #[.val (.int dn), .val (.int d0), .val (.int d1), .val (.int d2), .val (.int ((d0 &&& (255 : Int32)).toUInt32.toUInt16.toUInt32.toInt32)), .val (.int ((d1 &&& (255 : Int32)).toUInt32.toUInt16.toUInt32.toInt32)), .unset, .unset] (hb hby own_d1_14) rfl ?_
  refine own_iloadN X0 hx 17 rfl (hb hby own_d1_16) rfl ?_
  refine own_sipush X0 hx 20 rfl (255 : Int32) (hb hby own_d1_17) (by decide) ?_
  refine own_iand X0 hx 21 rfl (hb hby own_d1_20) rfl ?_
  refine own_i2c X0 hx 22 rfl (hb hby own_d1_21) rfl ?_
  refine own_istore X0 hx 24 rfl #[.val (.int dn), .val (.int d0), .val (.int d1), .val (.int d2), .val (.int ((d0 &&& (255 : Int32)).toUInt32.toUInt16.toUInt32.toInt32)), .val (.int ((d1 &&& (255 : Int32)).toUInt32.toUInt16.toUInt32.toInt32)), .val (.int ((d2 &&& (255 : Int32)).toUInt32.toUInt16.toUInt32.toInt32)), .unset] (hb hby own_d1_22) rfl ?_
  refine own_iloadN X0 hx 25 rfl (hb hby own_d1_24) rfl ?_
  refine own_iconst X0 hx 26 rfl (3 : Int32) (hb hby own_d1_25) (by decide) ?_
  refine own_iand X0 hx 27 rfl (hb hby own_d1_26) rfl ?_
  refine own_istore X0 hx 29 rfl #[.val (.int dn), .val (.int d0), .val (.int d1), .val (.int d2), .val (.int ((d0 &&& (255 : Int32)).toUInt32.toUInt16.toUInt32.toInt32)), .val (.int ((d1 &&& (255 : Int32)).toUInt32.toUInt16.toUInt32.toInt32)), .val (.int ((d2 &&& (255 : Int32)).toUInt32.toUInt16.toUInt32.toInt32)), .val (.int (dn &&& (3 : Int32)))] (hb hby own_d1_27) rfl ?_
  refine own_iload X0 hx 31 rfl (hb hby own_d1_29) rfl ?_
  by_cases hc31_1 : (dn &&& (3 : Int32)) = (0 : Int32)
  · refine own_ifN X0 hx 34 (hb hby own_d1_31) ((if0 _ _).trans (teq hc31_1).2) rfl ?_
    obtain ⟨T2, h2, X2, e2, E2, A2, D2, -, st2⟩ := newO X0 hx hZ hown (hw _ (List.mem_of_getElem? (i := 4) rfl)) (hw _ (List.mem_of_getElem? (i := 5) rfl)) (hw _ (List.mem_of_getElem? (i := 6) rfl)) e0 (g := (mkF m 34 #[.val (.int dn), .val (.int d0), .val (.int d1), .val (.int d2), .val (.int ((d0 &&& (255 : Int32)).toUInt32.toUInt16.toUInt32.toInt32)), .val (.int ((d1 &&& (255 : Int32)).toUInt32.toUInt16.toUInt32.toInt32)), .val (.int ((d2 &&& (255 : Int32)).toUInt32.toUInt16.toUInt32.toInt32)), .val (.int (dn &&& (3 : Int32)))] [])) rfl (hb hby own_d1_34) (by decide) (by decide)
    obtain ⟨b2, g2⟩ : ∃ z, z = h0.size := ⟨_, rfl⟩
    rw [← g2] at A2 D2 st2
    have G2 : n0 ≤ b2 := Nat.le_trans Z0 (Nat.le_of_eq g2.symm)
    have H2 : h0.size ≤ b2 := Nat.le_trans K0.1 (Nat.le_of_eq g2.symm)
    have f3 := Sc.ext E2
    have f4 := hold.ext E2
    have K2 := K0.ext E2
    have Z2 := Nat.le_trans Z0 E2.1
    have hk2 := Nat.le_trans hk0 E2.1
    have f5 : Fld Z h2 b2 "java/lang/String" "value" "[B" .null := D2 (Or.inr (hw _ (List.mem_of_getElem? (i := 20) rfl))) (ty := (.array .byte)) (by decide)
    have f6 : Fld Z h2 b2 "java/lang/String" "coder" "B" (.int (0 : Int32)) := D2 (Or.inr (hw _ (List.mem_of_getElem? (i := 21) rfl))) (ty := .byte) (by decide)
    refine Goes.go st2 ?_
    show Goes p e below _ T2 (mkF m 37 #[.val (.int dn), .val (.int d0), .val (.int d1), .val (.int d2), .val (.int ((d0 &&& (255 : Int32)).toUInt32.toUInt16.toUInt32.toInt32)), .val (.int ((d1 &&& (255 : Int32)).toUInt32.toUInt16.toUInt32.toInt32)), .val (.int ((d2 &&& (255 : Int32)).toUInt32.toUInt16.toUInt32.toInt32)), .val (.int (dn &&& (3 : Int32)))] [(.ref b2)])
    refine own_dup X2 hx 38 rfl (hb hby own_d1_37) rfl ?_
    refine own_iconst X2 hx 39 rfl (0 : Int32) (hb hby own_d1_38) (by decide) ?_
    obtain ⟨T7, h7, k7, X7, e7, E7, A7, st7⟩ := newP X2 hx hZ (hw _ (List.mem_of_getElem? (i := 7) rfl)) e2 (g := (mkF m 39 #[.val (.int dn), .val (.int d0), .val (.int d1), .val (.int d2), .val (.int ((d0 &&& (255 : Int32)).toUInt32.toUInt16.toUInt32.toInt32)), .val (.int ((d1 &&& (255 : Int32)).toUInt32.toUInt16.toUInt32.toInt32)), .val (.int ((d2 &&& (255 : Int32)).toUInt32.toUInt16.toUInt32.toInt32)), .val (.int (dn &&& (3 : Int32)))] [(.int (0 : Int32)), (.ref b2), (.ref b2)])) rfl (hb hby own_d1_39) rfl (by decide) (cap := 0) (by decide) (by decide) (by decide) (by decide)
    obtain ⟨b7, g7⟩ : ∃ z, z = h2.size := ⟨_, rfl⟩
    rw [← g7] at A7 st7
    have ne8 : b2 ≠ b7 := own_lt_ne A2.lt g7
    have G7 : n0 ≤ b7 := Nat.le_trans Z2 (Nat.le_of_eq g7.symm)
    have H7 : h0.size ≤ b7 := Nat.le_trans K2.1 (Nat.le_of_eq g7.symm)
    have f9 := f3.ext E7
    have f10 := f4.ext E7
    have f11 := A2.ext E7
    have f12 := f5.ext E7
    have f13 := f6.ext E7
    have K7 := K2.ext E7
    have Z7 := Nat.le_trans Z2 E7.1
    have hk7 := Nat.le_trans hk2 E7.1
    have V7 : Arv Z h7 b7 k7 .char (0 : Int32) [] (.int (0 : Int32)) := (Arv.new A7 (by decide)).pad (pad_rep [] (.int (0 : Int32)) 0)
    refine Goes.go st7 ?_
    show Goes p e below _ T7 (mkF m 41 #[.val (.int dn), .val (.int d0), .val (.int d1), .val (.int d2), .val (.int ((d0 &&& (255 : Int32)).toUInt32.toUInt16.toUInt32.toInt32)), .val (.int ((d1 &&& (255 : Int32)).toUInt32.toUInt16.toUInt32.toInt32)), .val (.int ((d2 &&& (255 : Int32)).toUInt32.toUInt16.toUInt32.toInt32)), .val (.int (dn &&& (3 : Int32)))] [(.ref b7), (.ref b2), (.ref b2)])
    obtain ⟨_, _, ⟨T14, L14, k14, n14⟩, -, X14, Sx14, gr14, ⟨Lc14, hQ14, l14, y14, z14⟩, st14⟩ := X7.specialBackS hx (y := (⟨"java/lang/String", "<init>", "([C)V"⟩ : MethodName)) rfl hown (mvT hZ (hw _ (List.mem_of_getElem? (i := 8) rfl))) (mvT hZ (hw _ (List.mem_of_getElem? (i := 9) rfl))) (mvT hZ (hw _ (List.mem_of_getElem? (i := 10) rfl))) (by decide) (own_backSI (W := 1) (rmnew0 l Z a0 hw [] b2 b7 k7 h7 n0 Z7 f11 G2 f12 f13 f10 hemp hcw V7 (Ne.symm ne8)) hZ (hw _ (List.mem_of_getElem? (i := 10) rfl)) (hw _ (List.mem_of_getElem? (i := 6) rfl)) (by decide) (by decide)) (g := (mkF m 41 #[.val (.int dn), .val (.int d0), .val (.int d1), .val (.int d2), .val (.int ((d0 &&& (255 : Int32)).toUInt32.toUInt16.toUInt32.toInt32)), .val (.int ((d1 &&& (255 : Int32)).toUInt32.toUInt16.toUInt32.toInt32)), .val (.int ((d2 &&& (255 : Int32)).toUInt32.toUInt16.toUInt32.toInt32)), .val (.int (dn &&& (3 : Int32)))] [(.ref b7), (.ref b2), (.ref b2)])) rfl (by rw [hml]; rfl) (Steps.refl _) (a := b2) (argsL := [(.ref b7)]) (rest := [(.ref b2)]) (lenOf own_pd4 rfl) rfl (by show 2 * 0 + _ ≤ _; exact Nat.le_of_eq rfl) (hb hby own_d1_41) (fun _ hv => ⟨rfl, e7, (by decide : 2 + 2 ≤ _), (by decide : 4 + 4 ≤ _), own_ibW hI hv⟩)
    dsimp only [Pt.U, Pt.locs, Pt.cells, Pt.slots] at X14 l14 y14 z14 st14 hQ14 Sx14 gr14
    subst l14 y14 z14
    obtain ⟨Y14, hS14, hZ14, ho14⟩ := rebS hS0 (Nat.le_trans hk7 (Nat.le_of_eq (congrArg Array.size (Eq.symm e7)))) X14 Sx14 gr14 hZ hown
    obtain ⟨rb_14, rk_14, rfl, N14q, K14q, f14_0, f14_1, f14_2⟩ := hQ14
    have N14 := Fr.app N0 N14q
    have f15 := own_sta_keep f9 K14q (allS (own_eplain f11) all0)
    have f16 := f10.keep K14q (allS G2 all0)
    have f17 := f11.keep K14q
    have f18 := V7.keep K14q (ninS (Ne.symm ne8) nin0)
    have K14 := K7.trans K14q (allS (Or.inr H2) all0)
    have Z14 := Nat.le_trans Z7 K14q.1
    refine Goes.tr st14 ?_
    show Goes p e below _ T14 (mkF m 44 #[.val (.int dn), .val (.int d0), .val (.int d1), .val (.int d2), .val (.int ((d0 &&& (255 : Int32)).toUInt32.toUInt16.toUInt32.toInt32)), .val (.int ((d1 &&& (255 : Int32)).toUInt32.toUInt16.toUInt32.toInt32)), .val (.int ((d2 &&& (255 : Int32)).toUInt32.toUInt16.toUInt32.toInt32)), .val (.int (dn &&& (3 : Int32)))] [(.ref b2)])
    refine own_retWR Y14 hx hS14 hlk Bd.returns rfl rfl (hb hby own_d1_44) (by decide) (by decide) rfl (Nat.le_refl T14.heap.size) ?_
    exact ⟨b2, rb_14, rk_14, (0 : Int32), [], rfl, N14, K14, H2, f17, f14_0, f14_1, f14_2⟩
  · refine own_ifY X0 hx 45 (hb hby own_d1_31) ((if0 _ _).trans (feq hc31_1).2) (by decide) (by decide) ?_
    refine own_iload X0 hx 47 rfl (hb hby own_d1_45) rfl ?_
    refine own_iconst X0 hx 48 rfl (1 : Int32) (hb hby own_d1_47) (by decide) ?_
    by_cases hc48_19 : (dn &&& (3 : Int32)) = (1 : Int32)
    · refine own_icmpN X0 hx 51 (hb hby own_d1_48) (teq hc48_19).2 rfl ?_
      obtain ⟨T20, h20, X20, e20, E20, A20, D20, -, st20⟩ := newO X0 hx hZ hown (hw _ (List.mem_of_getElem? (i := 4) rfl)) (hw _ (List.mem_of_getElem? (i := 5) rfl)) (hw _ (List.mem_of_getElem? (i := 6) rfl)) e0 (g := (mkF m 51 #[.val (.int dn), .val (.int d0), .val (.int d1), .val (.int d2), .val (.int ((d0 &&& (255 : Int32)).toUInt32.toUInt16.toUInt32.toInt32)), .val (.int ((d1 &&& (255 : Int32)).toUInt32.toUInt16.toUInt32.toInt32)), .val (.int ((d2 &&& (255 : Int32)).toUInt32.toUInt16.toUInt32.toInt32)), .val (.int (dn &&& (3 : Int32)))] [])) rfl (hb hby own_d1_51) (by decide) (by decide)
      obtain ⟨b20, g20⟩ : ∃ z, z = h0.size := ⟨_, rfl⟩
      rw [← g20] at A20 D20 st20
      have G20 : n0 ≤ b20 := Nat.le_trans Z0 (Nat.le_of_eq g20.symm)
      have H20 : h0.size ≤ b20 := Nat.le_trans K0.1 (Nat.le_of_eq g20.symm)
      have f21 := Sc.ext E20
      have f22 := hold.ext E20
      have K20 := K0.ext E20
      have Z20 := Nat.le_trans Z0 E20.1
      have hk20 := Nat.le_trans hk0 E20.1
      have f23 : Fld Z h20 b20 "java/lang/String" "value" "[B" .null := D20 (Or.inr (hw _ (List.mem_of_getElem? (i := 20) rfl))) (ty := (.array .byte)) (by decide)
      have f24 : Fld Z h20 b20 "java/lang/String" "coder" "B" (.int (0 : Int32)) := D20 (Or.inr (hw _ (List.mem_of_getElem? (i := 21) rfl))) (ty := .byte) (by decide)
      refine Goes.go st20 ?_
      show Goes p e below _ T20 (mkF m 54 #[.val (.int dn), .val (.int d0), .val (.int d1), .val (.int d2), .val (.int ((d0 &&& (255 : Int32)).toUInt32.toUInt16.toUInt32.toInt32)), .val (.int ((d1 &&& (255 : Int32)).toUInt32.toUInt16.toUInt32.toInt32)), .val (.int ((d2 &&& (255 : Int32)).toUInt32.toUInt16.toUInt32.toInt32)), .val (.int (dn &&& (3 : Int32)))] [(.ref b20)])
      refine own_dup X20 hx 55 rfl (hb hby own_d1_54) rfl ?_
      refine own_iconst X20 hx 56 rfl (1 : Int32) (hb hby own_d1_55) (by decide) ?_
      obtain ⟨T25, h25, k25, X25, e25, E25, A25, st25⟩ := newP X20 hx hZ (hw _ (List.mem_of_getElem? (i := 7) rfl)) e20 (g := (mkF m 56 #[.val (.int dn), .val (.int d0), .val (.int d1), .val (.int d2), .val (.int ((d0 &&& (255 : Int32)).toUInt32.toUInt16.toUInt32.toInt32)), .val (.int ((d1 &&& (255 : Int32)).toUInt32.toUInt16.toUInt32.toInt32)), .val (.int ((d2 &&& (255 : Int32)).toUInt32.toUInt16.toUInt32.toInt32)), .val (.int (dn &&& (3 : Int32)))] [(.int (1 : Int32)), (.ref b20), (.ref b20)])) rfl (hb hby own_d1_56) rfl (by decide) (cap := 1) (by decide) (by decide) (by decide) (by decide)
      obtain ⟨b25, g25⟩ : ∃ z, z = h20.size := ⟨_, rfl⟩
      rw [← g25] at A25 st25
      have ne26 : b20 ≠ b25 := own_lt_ne A20.lt g25
      have G25 : n0 ≤ b25 := Nat.le_trans Z20 (Nat.le_of_eq g25.symm)
      have H25 : h0.size ≤ b25 := Nat.le_trans K20.1 (Nat.le_of_eq g25.symm)
      have f27 := f21.ext E25
      have f28 := f22.ext E25
      have f29 := A20.ext E25
      have f30 := f23.ext E25
      have f31 := f24.ext E25
      have K25 := K20.ext E25
      have Z25 := Nat.le_trans Z20 E25.1
      have hk25 := Nat.le_trans hk20 E25.1
      have V25 : Arv Z h25 b25 k25 .char (1 : Int32) [(.int (0 : Int32))] (.int (0 : Int32)) := (Arv.new A25 (by decide)).pad (pad_rep [] (.int (0 : Int32)) 1)
      refine Goes.go st25 ?_
      show Goes p e below _ T25 (mkF m 58 #[.val (.int dn), .val (.int d0), .val (.int d1), .val (.int d2), .val (.int ((d0 &&& (255 : Int32)).toUInt32.toUInt16.toUInt32.toInt32)), .val (.int ((d1 &&& (255 : Int32)).toUInt32.toUInt16.toUInt32.toInt32)), .val (.int ((d2 &&& (255 : Int32)).toUInt32.toUInt16.toUInt32.toInt32)), .val (.int (dn &&& (3 : Int32)))] [(.ref b25), (.ref b20), (.ref b20)])
      refine own_dup X25 hx 59 rfl (hb hby own_d1_58) rfl ?_
      refine own_iconst X25 hx 60 rfl (0 : Int32) (hb hby own_d1_59) (by decide) ?_
      refine own_iload X25 hx 62 rfl (hb hby own_d1_60) rfl ?_
      obtain ⟨cl32, Ar32, qq32, S32, NN32, HH32, GG32⟩ := id V25
      have hin32 : ¬ ((0 : Int32) < 0 ∨ cl32.slots.size ≤ ((0 : Int32)).toNatClampNeg) := inb_of S32 ⟨by decide, by decide⟩
      obtain ⟨T32, h32, X32, e32, W32, st32⟩ := stC X25 hx hZ e25 Ar32 (j := (0 : Int32)) hin32 (g := (mkF m 62 #[.val (.int dn), .val (.int d0), .val (.int d1), .val (.int d2), .val (.int ((d0 &&& (255 : Int32)).toUInt32.toUInt16.toUInt32.toInt32)), .val (.int ((d1 &&& (255 : Int32)).toUInt32.toUInt16.toUInt32.toInt32)), .val (.int ((d2 &&& (255 : Int32)).toUInt32.toUInt16.toUInt32.toInt32)), .val (.int (dn &&& (3 : Int32)))] [(.int ((d0 &&& (255 : Int32)).toUInt32.toUInt16.toUInt32.toInt32)), (.int (0 : Int32)), (.ref b25), (.ref b25), (.ref b20), (.ref b20)])) rfl rfl (hb hby own_d1_62)
      have V32 : Arv Z h32 b25 k25 .char (1 : Int32) [(.int (((d0 &&& (255 : Int32)).toUInt32.toUInt16.toUInt32.toInt32).toUInt32.toUInt16.toUInt32.toInt32))] (.int (0 : Int32)) := Arv.set Ar32 qq32 S32 NN32 HH32 GG32 (fits_nar_char _) W32 0 rfl (Nat.le_of_ble_eq_true rfl)
      have N32 := Fr.snoc X32 N0 G25
      have f33 := f27.wr W32
      have f34 := f28.wr W32 G25
      have f35 := f29.wr W32
      have f36 := f30.other W32 (Or.inl ne26)
      have f37 := f31.other W32 (Or.inl ne26)
      have K32 := K25.wr W32 (Or.inr H25)
      have Z32 := Nat.le_trans Z25 (Nat.le_of_eq W32.size.symm)
      have hk32 := Nat.le_trans hk25 (Nat.le_of_eq W32.size.symm)
      refine Goes.go st32 ?_
      show Goes p e below _ T32 (mkF m 63 #[.val (.int dn), .val (.int d0), .val (.int d1), .val (.int d2), .val (.int ((d0 &&& (255 : Int32)).toUInt32.toUInt16.toUInt32.toInt32)), .val (.int ((d1 &&& (255 : Int32)).toUInt32.toUInt16.toUInt32.toInt32)), .val (.int ((d2 &&& (255 : Int32)).toUInt32.toUInt16.toUInt32.toInt32)), .val (.int (dn &&& (3 : Int32)))] [(.ref b25), (.ref b20), (.ref b20)])
      obtain ⟨_, _, ⟨T38, L38, k38, n38⟩, -, X38, ⟨Lc38, hQ38, l38, y38, z38⟩, st38⟩ := X32.specialBack hx (y := (⟨"java/lang/String", "<init>", "([C)V"⟩ : MethodName)) rfl hown (mvT hZ (hw _ (List.mem_of_getElem? (i := 8) rfl))) (mvT hZ (hw _ (List.mem_of_getElem? (i := 9) rfl))) (mvT hZ (hw _ (List.mem_of_getElem? (i := 10) rfl))) (by decide) (backOf (W := 1) (rmnew1 l Z a0 hw [] b20 b25 k25 (((d0 &&& (255 : Int32)).toUInt32.toUInt16.toUInt32.toInt32).toUInt32.toUInt16.toUInt32.toInt32) cs h32 n0 Z32 f35 G20 f36 f37 V32 f33 hcs (Ne.symm ne26) (own_c255 _)) hZ (hw _ (List.mem_of_getElem? (i := 10) rfl)) (hw _ (List.mem_of_getElem? (i := 6) rfl)) (by decide) (by decide)) (g := (mkF m 63 #[.val (.int dn), .val (.int d0), .val (.int d1), .val (.int d2), .val (.int ((d0 &&& (255 : Int32)).toUInt32.toUInt16.toUInt32.toInt32)), .val (.int ((d1 &&& (255 : Int32)).toUInt32.toUInt16.toUInt32.toInt32)), .val (.int ((d2 &&& (255 : Int32)).toUInt32.toUInt16.toUInt32.toInt32)), .val (.int (dn &&& (3 : Int32)))] [(.ref b25), (.ref b20), (.ref b20)])) rfl (by rw [hml]; rfl) (Steps.refl _) (a := b20) (argsL := [(.ref b25)]) (rest := [(.ref b20)]) (lenOf own_pd4 rfl) rfl (by show 2 * 0 + _ ≤ _; exact Nat.le_of_eq rfl) (hb hby own_d1_63) (fun _ _ => ⟨rfl, e32, (by decide : 2 + 1 ≤ _), (by decide : 5 + 1 ≤ _)⟩)
      dsimp only [Pt.U, Pt.locs, Pt.cells, Pt.slots] at X38 l38 y38 z38 st38 hQ38
      subst l38 y38 z38
      obtain ⟨rb_38, rk_38, rfl, N38q, K38q, f38_0, f38_1, f38_2, f38_3⟩ := hQ38
      have N38 := Fr.app N32 N38q
      have ne39 : b20 ≠ rb_38 := Nat.ne_of_lt (Nat.lt_of_lt_of_le f35.lt f38_0)
      have ne40 : b25 ≠ rb_38 := Nat.ne_of_lt (Nat.lt_of_lt_of_le V32.lt f38_0)
      have GG41 : n0 ≤ rb_38 := Nat.le_trans Z32 f38_0
      have HG41 : h0.size ≤ rb_38 := Nat.le_trans K32.1 f38_0
      have f42 := own_sta_keep f33 K38q (allS (own_eplain f35) all0)
      have f43 := f34.keep K38q (allS G20 all0)
      have f44 := f35.keep K38q
      have f45 := V32.keep K38q (ninS (Ne.symm ne26) nin0)
      have K38 := K32.trans K38q (allS (Or.inr H20) all0)
      have Z38 := Nat.le_trans Z32 K38q.1
      have hk38 := Nat.le_trans hk32 K38q.1
      refine Goes.tr st38 ?_
      show Goes p e below _ T38 (mkF m 66 #[.val (.int dn), .val (.int d0), .val (.int d1), .val (.int d2), .val (.int ((d0 &&& (255 : Int32)).toUInt32.toUInt16.toUInt32.toInt32)), .val (.int ((d1 &&& (255 : Int32)).toUInt32.toUInt16.toUInt32.toInt32)), .val (.int ((d2 &&& (255 : Int32)).toUInt32.toUInt16.toUInt32.toInt32)), .val (.int (dn &&& (3 : Int32)))] [(.ref b20)])
      refine own_retWR X38 hx hS0 hlk Bd.returns rfl rfl (hb hby own_d1_66) (by decide) (by decide) rfl hk38 ?_
      exact ⟨b20, rb_38, rk_38, (1 : Int32), [(.int (((((d0 &&& (255 : Int32)).toUInt32.toUInt16.toUInt32.toInt32).toUInt32.toUInt16.toUInt32.toInt32).toInt8.toInt32).toInt8.toInt32))], rfl, N38, K38, H20, f44, f38_1, f38_2, f38_3⟩
    · refine own_icmpY X0 hx 67 (hb hby own_d1_48) (feq hc48_19).2 (by decide) (by decide) ?_
      refine own_iload X0 hx 69 rfl (hb hby own_d1_67) rfl ?_
      refine own_iconst X0 hx 70 rfl (2 : Int32) (hb hby own_d1_69) (by decide) ?_
      by_cases hc70_46 : (dn &&& (3 : Int32)) = (2 : Int32)
      · refine own_icmpN X0 hx 73 (hb hby own_d1_70) (teq hc70_46).2 rfl ?_
        obtain ⟨T47, h47, X47, e47, E47, A47, D47, -, st47⟩ := newO X0 hx hZ hown (hw _ (List.mem_of_getElem? (i := 4) rfl)) (hw _ (List.mem_of_getElem? (i := 5) rfl)) (hw _ (List.mem_of_getElem? (i := 6) rfl)) e0 (g := (mkF m 73 #[.val (.int dn), .val (.int d0), .val (.int d1), .val (.int d2), .val (.int ((d0 &&& (255 : Int32)).toUInt32.toUInt16.toUInt32.toInt32)), .val (.int ((d1 &&& (255 : Int32)).toUInt32.toUInt16.toUInt32.toInt32)), .val (.int ((d2 &&& (255 : Int32)).toUInt32.toUInt16.toUInt32.toInt32)), .val (.int (dn &&& (3 : Int32)))] [])) rfl (hb hby own_d1_73) (by decide) (by decide)
        obtain ⟨b47, g47⟩ : ∃ z, z = h0.size := ⟨_, rfl⟩
        rw [← g47] at A47 D47 st47
        have G47 : n0 ≤ b47 := Nat.le_trans Z0 (Nat.le_of_eq g47.symm)
        have H47 : h0.size ≤ b47 := Nat.le_trans K0.1 (Nat.le_of_eq g47.symm)
        have f48 := Sc.ext E47
        have f49 := hold.ext E47
        have K47 := K0.ext E47
        have Z47 := Nat.le_trans Z0 E47.1
        have hk47 := Nat.le_trans hk0 E47.1
        have f50 : Fld Z h47 b47 "java/lang/String" "value" "[B" .null := D47 (Or.inr (hw _ (List.mem_of_getElem? (i := 20) rfl))) (ty := (.array .byte)) (by decide)
        have f51 : Fld Z h47 b47 "java/lang/String" "coder" "B" (.int (0 : Int32)) := D47 (Or.inr (hw _ (List.mem_of_getElem? (i := 21) rfl))) (ty := .byte) (by decide)
        refine Goes.go st47 ?_
        show Goes p e below _ T47 (mkF m 76 #[.val (.int dn), .val (.int d0), .val (.int d1), .val (.int d2), .val (.int ((d0 &&& (255 : Int32)).toUInt32.toUInt16.toUInt32.toInt32)), .val (.int ((d1 &&& (255 : Int32)).toUInt32.toUInt16.toUInt32.toInt32)), .val (.int ((d2 &&& (255 : Int32)).toUInt32.toUInt16.toUInt32.toInt32)), .val (.int (dn &&& (3 : Int32)))] [(.ref b47)])
        refine own_dup X47 hx 77 rfl (hb hby own_d1_76) rfl ?_
        refine own_iconst X47 hx 78 rfl (2 : Int32) (hb hby own_d1_77) (by decide) ?_
        obtain ⟨T52, h52, k52, X52, e52, E52, A52, st52⟩ := newP X47 hx hZ (hw _ (List.mem_of_getElem? (i := 7) rfl)) e47 (g := (mkF m 78 #[.val (.int dn), .val (.int d0), .val (.int d1), .val (.int d2), .val (.int ((d0 &&& (255 : Int32)).toUInt32.toUInt16.toUInt32.toInt32)), .val (.int ((d1 &&& (255 : Int32)).toUInt32.toUInt16.toUInt32.toInt32)), .val (.int ((d2 &&& (255 : Int32)).toUInt32.toUInt16.toUInt32.toInt32)), .val (.int (dn &&& (3 : Int32)))] [(.int (2 : Int32)), (.ref b47), (.ref b47)])) rfl (hb hby own_d1_78) rfl (by decide) (cap := 2) (by decide) (by decide) (by decide) (by decide)
        obtain ⟨b52, g52⟩ : ∃ z, z = h47.size := ⟨_, rfl⟩
        rw [← g52] at A52 st52
        have ne53 : b47 ≠ b52 := own_lt_ne A47.lt g52
        have G52 : n0 ≤ b52 := Nat.le_trans Z47 (Nat.le_of_eq g52.symm)
        have H52 : h0.size ≤ b52 := Nat.le_trans K47.1 (Nat.le_of_eq g52.symm)
        have f54 := f48.ext E52
        have f55 := f49.ext E52
        have f56 := A47.ext E52
        have f57 := f50.ext E52
        have f58 := f51.ext E52
        have K52 := K47.ext E52
        have Z52 := Nat.le_trans Z47 E52.1
        have hk52 := Nat.le_trans hk47 E52.1
        have V52 : Arv Z h52 b52 k52 .char (2 : Int32) [(.int (0 : Int32)), (.int (0 : Int32))] (.int (0 : Int32)) := (Arv.new A52 (by decide)).pad (pad_rep [] (.int (0 : Int32)) 2)
        refine Goes.go st52 ?_
        show Goes p e below _ T52 (mkF m 80 #[.val (.int dn), .val (.int d0), .val (.int d1), .val (.int d2), .val (.int ((d0 &&& (255 : Int32)).toUInt32.toUInt16.toUInt32.toInt32)), .val (.int ((d1 &&& (255 : Int32)).toUInt32.toUInt16.toUInt32.toInt32)), .val (.int ((d2 &&& (255 : Int32)).toUInt32.toUInt16.toUInt32.toInt32)), .val (.int (dn &&& (3 : Int32)))] [(.ref b52), (.ref b47), (.ref b47)])
        refine own_dup X52 hx 81 rfl (hb hby own_d1_80) rfl ?_
        refine own_iconst X52 hx 82 rfl (0 : Int32) (hb hby own_d1_81) (by decide) ?_
        refine own_iload X52 hx 84 rfl (hb hby own_d1_82) rfl ?_
        obtain ⟨cl59, Ar59, qq59, S59, NN59, HH59, GG59⟩ := id V52
        have hin59 : ¬ ((0 : Int32) < 0 ∨ cl59.slots.size ≤ ((0 : Int32)).toNatClampNeg) := inb_of S59 ⟨by decide, by decide⟩
        obtain ⟨T59, h59, X59, e59, W59, st59⟩ := stC X52 hx hZ e52 Ar59 (j := (0 : Int32)) hin59 (g := (mkF m 84 #[.val (.int dn), .val (.int d0), .val (.int d1), .val (.int d2), .val (.int ((d0 &&& (255 : Int32)).toUInt32.toUInt16.toUInt32.toInt32)), .val (.int ((d1 &&& (255 : Int32)).toUInt32.toUInt16.toUInt32.toInt32)), .val (.int ((d2 &&& (255 : Int32)).toUInt32.toUInt16.toUInt32.toInt32)), .val (.int (dn &&& (3 : Int32)))] [(.int ((d0 &&& (255 : Int32)).toUInt32.toUInt16.toUInt32.toInt32)), (.int (0 : Int32)), (.ref b52), (.ref b52), (.ref b47), (.ref b47)])) rfl rfl (hb hby own_d1_84)
        have V59 : Arv Z h59 b52 k52 .char (2 : Int32) [(.int (((d0 &&& (255 : Int32)).toUInt32.toUInt16.toUInt32.toInt32).toUInt32.toUInt16.toUInt32.toInt32)), (.int (0 : Int32))] (.int (0 : Int32)) := Arv.set Ar59 qq59 S59 NN59 HH59 GG59 (fits_nar_char _) W59 0 rfl (Nat.le_of_ble_eq_true rfl)
        have N59 := Fr.snoc X59 N0 G52
        have f60 := f54.wr W59
        have f61 := f55.wr W59 G52
        have f62 := f56.wr W59
        have f63 := f57.other W59 (Or.inl ne53)
        have f64 := f58.other W59 (Or.inl ne53)
        have K59 := K52.wr W59 (Or.inr H52)
        have Z59 := Nat.le_trans Z52 (Nat.le_of_eq W59.size.symm)
        have hk59 := Nat.le_trans hk52 (Nat.le_of_eq W59.size.symm)
        refine Goes.go st59 ?_
        show Goes p e below _ T59 (mkF m 85 #[.val (.int dn), .val (.int d0), .val (.int d1), .val (.int d2), .val (.int ((d0 &&& (255 : Int32)).toUInt32.toUInt16.toUInt32.toInt32)), .val (.int ((d1 &&& (255 : Int32)).toUInt32.toUInt16.toUInt32.toInt32)), .val (.int ((d2 &&& (255 : Int32)).toUInt32.toUInt16.toUInt32.toInt32)), .val (.int (dn &&& (3 : Int32)))] [(.ref b52), (.ref b47), (.ref b47)])
        refine own_dup X59 hx 86 rfl (hb hby own_d1_85) rfl ?_
        refine own_iconst X59 hx 87 rfl (1 : Int32) (hb hby own_d1_86) (by decide) ?_
        refine own_iload X59 hx 89 rfl (hb hby own_d1_87) rfl ?_
        obtain ⟨cl65, Ar65, qq65, S65, NN65, HH65, GG65⟩ := id V59
        have hin65 : ¬ ((1 : Int32) < 0 ∨ cl65.slots.size ≤ ((1 : Int32)).toNatClampNeg) := inb_of S65 ⟨by decide, by decide⟩
        obtain ⟨T65, h65, X65, e65, W65, st65⟩ := stC X59 hx hZ e59 Ar65 (j := (1 : Int32)) hin65 (g := (mkF m 89 #[.val (.int dn), .val (.int d0), .val (.int d1), .val (.int d2), .val (.int ((d0 &&& (255 : Int32)).toUInt32.toUInt16.toUInt32.toInt32)), .val (.int ((d1 &&& (255 : Int32)).toUInt32.toUInt16.toUInt32.toInt32)), .val (.int ((d2 &&& (255 : Int32)).toUInt32.toUInt16.toUInt32.toInt32)), .val (.int (dn &&& (3 : Int32)))] [(.int ((d1 &&& (255 : Int32)).toUInt32.toUInt16.toUInt32.toInt32)), (.int (1 : Int32)), (.ref b52), (.ref b52), (.ref b47), (.ref b47)])) rfl rfl (hb hby own_d1_89)
        have V65 : Arv Z h65 b52 k52 .char (2 : Int32) [(.int (((d0 &&& (255 : Int32)).toUInt32.toUInt16.toUInt32.toInt32).toUInt32.toUInt16.toUInt32.toInt32)), (.int (((d1 &&& (255 : Int32)).toUInt32.toUInt16.toUInt32.toInt32).toUInt32.toUInt16.toUInt32.toInt32))] (.int (0 : Int32)) := Arv.set Ar65 qq65 S65 NN65 HH65 GG65 (fits_nar_char _) W65 1 rfl (Nat.le_of_ble_eq_true rfl)
        have N65 := Fr.snoc X65 N59 G52
        have f66 := f60.wr W65
        have f67 := f61.wr W65 G52
        have f68 := f62.wr W65
        have f69 := f63.other W65 (Or.inl ne53)
        have f70 := f64.other W65 (Or.inl ne53)
        have K65 := K59.wr W65 (Or.inr H52)
        have Z65 := Nat.le_trans Z59 (Nat.le_of_eq W65.size.symm)
        have hk65 := Nat.le_trans hk59 (Nat.le_of_eq W65.size.symm)
        refine Goes.go st65 ?_
        show Goes p e below _ T65 (mkF m 90 #[.val (.int dn), .val (.int d0), .val (.int d1), .val (.int d2), .val (.int ((d0 &&& (255 : Int32)).toUInt32.toUInt16.toUInt32.toInt32)), .val (.int ((d1 &&& (255 : Int32)).toUInt32.toUInt16.toUInt32.toInt32)), .val (.int ((d2 &&& (255 : Int32)).toUInt32.toUInt16.toUInt32.toInt32)), .val (.int (dn &&& (3 : Int32)))] [(.ref b52), (.ref b47), (.ref b47)])
        obtain ⟨_, _, ⟨T71, L71, k71, n71⟩, -, X71, ⟨Lc71, hQ71, l71, y71, z71⟩, st71⟩ := X65.specialBack hx (y := (⟨"java/lang/String", "<init>", "([C)V"⟩ : MethodName)) rfl hown (mvT hZ (hw _ (List.mem_of_getElem? (i := 8) rfl))) (mvT hZ (hw _ (List.mem_of_getElem? (i := 9) rfl))) (mvT hZ (hw _ (List.mem_of_getElem? (i := 10) rfl))) (by decide) (backOf (W := 1) (rmnew2 l Z a0 hw [] b47 b52 k52 (((d0 &&& (255 : Int32)).toUInt32.toUInt16.toUInt32.toInt32).toUInt32.toUInt16.toUInt32.toInt32) (((d1 &&& (255 : Int32)).toUInt32.toUInt16.toUInt32.toInt32).toUInt32.toUInt16.toUInt32.toInt32) cs h65 n0 Z65 f68 G47 f69 f70 V65 f66 hcs (Ne.symm ne53) (own_c255 _) (own_c255 _)) hZ (hw _ (List.mem_of_getElem? (i := 10) rfl)) (hw _ (List.mem_of_getElem? (i := 6) rfl)) (by decide) (by decide)) (g := (mkF m 90 #[.val (.int dn), .val (.int d0), .val (.int d1), .val (.int d2), .val (.int ((d0 &&& (255 : Int32)).toUInt32.toUInt16.toUInt32.toInt32)), .val (.int ((d1 &&& (255 : Int32)).toUInt32.toUInt16.toUInt32.toInt32)), .val (.int ((d2 &&& (255 : Int32)).toUInt32.toUInt16.toUInt32.toInt32)), .val (.int (dn &&& (3 : Int32)))] [(.ref b52), (.ref b47), (.ref b47)])) rfl (by rw [hml]; rfl) (Steps.refl _) (a := b47) (argsL := [(.ref b52)]) (rest := [(.ref b47)]) (lenOf own_pd4 rfl) rfl (by show 2 * 0 + _ ≤ _; exact Nat.le_of_eq rfl) (hb hby own_d1_90) (fun _ _ => ⟨rfl, e65, (by decide : 2 + 1 ≤ _), (by decide : 6 + 2 ≤ _)⟩)
        dsimp only [Pt.U, Pt.locs, Pt.cells, Pt.slots] at X71 l71 y71 z71 st71 hQ71
        subst l71 y71 z71
        obtain ⟨rb_71, rk_71, rfl, N71q, K71q, f71_0, f71_1, f71_2, f71_3⟩ := hQ71
        have N71 := Fr.app N65 N71q
        have ne72 : b47 ≠ rb_71 := Nat.ne_of_lt (Nat.lt_of_lt_of_le f68.lt f71_0)
        have ne73 : b52 ≠ rb_71 := Nat.ne_of_lt (Nat.lt_of_lt_of_le V65.lt f71_0)
        have GG74 : n0 ≤ rb_71 := Nat.le_trans Z65 f71_0
        have HG74 : h0.size ≤ rb_71 := Nat.le_trans K65.1 f71_0
        have f75 := own_sta_keep f66 K71q (allS (own_eplain f68) all0)
        have f76 := f67.keep K71q (allS G47 all0)
        have f77 := f68.keep K71q
        have f78 := V65.keep K71q (ninS (Ne.symm ne53) nin0)
        have K71 := K65.trans K71q (allS (Or.inr H47) all0)
        have Z71 := Nat.le_trans Z65 K71q.1
        have hk71 := Nat.le_trans hk65 K71q.1
        refine Goes.tr st71 ?_
        show Goes p e below _ T71 (mkF m 93 #[.val (.int dn), .val (.int d0), .val (.int d1), .val (.int d2), .val (.int ((d0 &&& (255 : Int32)).toUInt32.toUInt16.toUInt32.toInt32)), .val (.int ((d1 &&& (255 : Int32)).toUInt32.toUInt16.toUInt32.toInt32)), .val (.int ((d2 &&& (255 : Int32)).toUInt32.toUInt16.toUInt32.toInt32)), .val (.int (dn &&& (3 : Int32)))] [(.ref b47)])
        refine own_retWR X71 hx hS0 hlk Bd.returns rfl rfl (hb hby own_d1_93) (by decide) (by decide) rfl hk71 ?_
        exact ⟨b47, rb_71, rk_71, (2 : Int32), [(.int (((((d0 &&& (255 : Int32)).toUInt32.toUInt16.toUInt32.toInt32).toUInt32.toUInt16.toUInt32.toInt32).toInt8.toInt32).toInt8.toInt32)), (.int (((((d1 &&& (255 : Int32)).toUInt32.toUInt16.toUInt32.toInt32).toUInt32.toUInt16.toUInt32.toInt32).toInt8.toInt32).toInt8.toInt32))], rfl, N71, K71, H47, f77, f71_1, f71_2, f71_3⟩
      · refine own_icmpY X0 hx 94 (hb hby own_d1_70) (feq hc70_46).2 (by decide) (by decide) ?_
        obtain ⟨T79, h79, X79, e79, E79, A79, D79, -, st79⟩ := newO X0 hx hZ hown (hw _ (List.mem_of_getElem? (i := 4) rfl)) (hw _ (List.mem_of_getElem? (i := 5) rfl)) (hw _ (List.mem_of_getElem? (i := 6) rfl)) e0 (g := (mkF m 94 #[.val (.int dn), .val (.int d0), .val (.int d1), .val (.int d2), .val (.int ((d0 &&& (255 : Int32)).toUInt32.toUInt16.toUInt32.toInt32)), .val (.int ((d1 &&& (255 : Int32)).toUInt32.toUInt16.toUInt32.toInt32)), .val (.int ((d2 &&& (255 : Int32)).toUInt32.toUInt16.toUInt32.toInt32)), .val (.int (dn &&& (3 : Int32)))] [])) rfl (hb hby own_d1_94) (by decide) (by decide)
        obtain ⟨b79, g79⟩ : ∃ z, z = h0.size := ⟨_, rfl⟩
        rw [← g79] at A79 D79 st79
        have G79 : n0 ≤ b79 := Nat.le_trans Z0 (Nat.le_of_eq g79.symm)
        have H79 : h0.size ≤ b79 := Nat.le_trans K0.1 (Nat.le_of_eq g79.symm)
        have f80 := Sc.ext E79
        have f81 := hold.ext E79
        have K79 := K0.ext E79
        have Z79 := Nat.le_trans Z0 E79.1
        have hk79 := Nat.le_trans hk0 E79.1
        have f82 : Fld Z h79 b79 "java/lang/String" "value" "[B" .null := D79 (Or.inr (hw _ (List.mem_of_getElem? (i := 20) rfl))) (ty := (.array .byte)) (by decide)
        have f83 : Fld Z h79 b79 "java/lang/String" "coder" "B" (.int (0 : Int32)) := D79 (Or.inr (hw _ (List.mem_of_getElem? (i := 21) rfl))) (ty := .byte) (by decide)
        refine Goes.go st79 ?_
        show Goes p e below _ T79 (mkF m 97 #[.val (.int dn), .val (.int d0), .val (.int d1), .val (.int d2), .val (.int ((d0 &&& (255 : Int32)).toUInt32.toUInt16.toUInt32.toInt32)), .val (.int ((d1 &&& (255 : Int32)).toUInt32.toUInt16.toUInt32.toInt32)), .val (.int ((d2 &&& (255 : Int32)).toUInt32.toUInt16.toUInt32.toInt32)), .val (.int (dn &&& (3 : Int32)))] [(.ref b79)])
        refine own_dup X79 hx 98 rfl (hb hby own_d1_97) rfl ?_
        refine own_iconst X79 hx 99 rfl (3 : Int32) (hb hby own_d1_98) (by decide) ?_
        obtain ⟨T84, h84, k84, X84, e84, E84, A84, st84⟩ := newP X79 hx hZ (hw _ (List.mem_of_getElem? (i := 7) rfl)) e79 (g := (mkF m 99 #[.val (.int dn), .val (.int d0), .val (.int d1), .val (.int d2), .val (.int ((d0 &&& (255 : Int32)).toUInt32.toUInt16.toUInt32.toInt32)), .val (.int ((d1 &&& (255 : Int32)).toUInt32.toUInt16.toUInt32.toInt32)), .val (.int ((d2 &&& (255 : Int32)).toUInt32.toUInt16.toUInt32.toInt32)), .val (.int (dn &&& (3 : Int32)))] [(.int (3 : Int32)), (.ref b79), (.ref b79)])) rfl (hb hby own_d1_99) rfl (by decide) (cap := 3) (by decide) (by decide) (by decide) (by decide)
        obtain ⟨b84, g84⟩ : ∃ z, z = h79.size := ⟨_, rfl⟩
        rw [← g84] at A84 st84
        have ne85 : b79 ≠ b84 := own_lt_ne A79.lt g84
        have G84 : n0 ≤ b84 := Nat.le_trans Z79 (Nat.le_of_eq g84.symm)
        have H84 : h0.size ≤ b84 := Nat.le_trans K79.1 (Nat.le_of_eq g84.symm)
        have f86 := f80.ext E84
        have f87 := f81.ext E84
        have f88 := A79.ext E84
        have f89 := f82.ext E84
        have f90 := f83.ext E84
        have K84 := K79.ext E84
        have Z84 := Nat.le_trans Z79 E84.1
        have hk84 := Nat.le_trans hk79 E84.1
        have V84 : Arv Z h84 b84 k84 .char (3 : Int32) [(.int (0 : Int32)), (.int (0 : Int32)), (.int (0 : Int32))] (.int (0 : Int32)) := (Arv.new A84 (by decide)).pad (pad_rep [] (.int (0 : Int32)) 3)
        refine Goes.go st84 ?_
        show Goes p e below _ T84 (mkF m 101 #[.val (.int dn), .val (.int d0), .val (.int d1), .val (.int d2), .val (.int ((d0 &&& (255 : Int32)).toUInt32.toUInt16.toUInt32.toInt32)), .val (.int ((d1 &&& (255 : Int32)).toUInt32.toUInt16.toUInt32.toInt32)), .val (.int ((d2 &&& (255 : Int32)).toUInt32.toUInt16.toUInt32.toInt32)), .val (.int (dn &&& (3 : Int32)))] [(.ref b84), (.ref b79), (.ref b79)])
        refine own_dup X84 hx 102 rfl (hb hby own_d1_101) rfl ?_
        refine own_iconst X84 hx 103 rfl (0 : Int32) (hb hby own_d1_102) (by decide) ?_
        refine own_iload X84 hx 105 rfl (hb hby own_d1_103) rfl ?_
        obtain ⟨cl91, Ar91, qq91, S91, NN91, HH91, GG91⟩ := id V84
        have hin91 : ¬ ((0 : Int32) < 0 ∨ cl91.slots.size ≤ ((0 : Int32)).toNatClampNeg) := inb_of S91 ⟨by decide, by decide⟩
        obtain ⟨T91, h91, X91, e91, W91, st91⟩ := stC X84 hx hZ e84 Ar91 (j := (0 : Int32)) hin91 (g := (mkF m 105 #[.val (.int dn), .val (.int d0), .val (.int d1), .val (.int d2), .val (.int ((d0 &&& (255 : Int32)).toUInt32.toUInt16.toUInt32.toInt32)), .val (.int ((d1 &&& (255 : Int32)).toUInt32.toUInt16.toUInt32.toInt32)), .val (.int ((d2 &&& (255 : Int32)).toUInt32.toUInt16.toUInt32.toInt32)), .val (.int (dn &&& (3 : Int32)))] [(.int ((d0 &&& (255 : Int32)).toUInt32.toUInt16.toUInt32.toInt32)), (.int (0 : Int32)), (.ref b84), (.ref b84), (.ref b79), (.ref b79)])) rfl rfl (hb hby own_d1_105)
        have V91 : Arv Z h91 b84 k84 .char (3 : Int32) [(.int (((d0 &&& (255 : Int32)).toUInt32.toUInt16.toUInt32.toInt32).toUInt32.toUInt16.toUInt32.toInt32)), (.int (0 : Int32)), (.int (0 : Int32))] (.int (0 : Int32)) := Arv.set Ar91 qq91 S91 NN91 HH91 GG91 (fits_nar_char _) W91 0 rfl (Nat.le_of_ble_eq_true rfl)
        have N91 := Fr.snoc X91 N0 G84
        have f92 := f86.wr W91
        have f93 := f87.wr W91 G84
        have f94 := f88.wr W91
        have f95 := f89.other W91 (Or.inl ne85)
        have f96 := f90.other W91 (Or.inl ne85)
        have K91 := K84.wr W91 (Or.inr H84)
        have Z91 := Nat.le_trans Z84 (Nat.le_of_eq W91.size.symm)
        have hk91 := Nat.le_trans hk84 (Nat.le_of_eq W91.size.symm)
        refine Goes.go st91 ?_
        show Goes p e below _ T91 (mkF m 106 #[.val (.int dn), .val (.int d0), .val (.int d1), .val (.int d2), .val (.int ((d0 &&& (255 : Int32)).toUInt32.toUInt16.toUInt32.toInt32)), .val (.int ((d1 &&& (255 : Int32)).toUInt32.toUInt16.toUInt32.toInt32)), .val (.int ((d2 &&& (255 : Int32)).toUInt32.toUInt16.toUInt32.toInt32)), .val (.int (dn &&& (3 : Int32)))] [(.ref b84), (.ref b79), (.ref b79)])
        refine own_dup X91 hx 107 rfl (hb hby own_d1_106) rfl ?_
        refine own_iconst X91 hx 108 rfl (1 : Int32) (hb hby own_d1_107) (by decide) ?_
        refine own_iload X91 hx 110 rfl (hb hby own_d1_108) rfl ?_
        obtain ⟨cl97, Ar97, qq97, S97, NN97, HH97, GG97⟩ := id V91
        have hin97 : ¬ ((1 : Int32) < 0 ∨ cl97.slots.size ≤ ((1 : Int32)).toNatClampNeg) := inb_of S97 ⟨by decide, by decide⟩
        obtain ⟨T97, h97, X97, e97, W97, st97⟩ := stC X91 hx hZ e91 Ar97 (j := (1 : Int32)) hin97 (g := (mkF m 110 #[.val (.int dn), .val (.int d0), .val (.int d1), .val (.int d2), .val (.int ((d0 &&& (255 : Int32)).toUInt32.toUInt16.toUInt32.toInt32)), .val (.int ((d1 &&& (255 : Int32)).toUInt32.toUInt16.toUInt32.toInt32)), .val (.int ((d2 &&& (255 : Int32)).toUInt32.toUInt16.toUInt32.toInt32)), .val (.int (dn &&& (3 : Int32)))] [(.int ((d1 &&& (255 : Int32)).toUInt32.toUInt16.toUInt32.toInt32)), (.int (1 : Int32)), (.ref b84), (.ref b84), (.ref b79), (.ref b79)])) rfl rfl (hb hby own_d1_110)
        have V97 : Arv Z h97 b84 k84 .char (3 : Int32) [(.int (((d0 &&& (255 : Int32)).toUInt32.toUInt16.toUInt32.toInt32).toUInt32.toUInt16.toUInt32.toInt32)), (.int (((d1 &&& (255 : Int32)).toUInt32.toUInt16.toUInt32.toInt32).toUInt32.toUInt16.toUInt32.toInt32)), (.int (0 : Int32))] (.int (0 : Int32)) := Arv.set Ar97 qq97 S97 NN97 HH97 GG97 (fits_nar_char _) W97 1 rfl (Nat.le_of_ble_eq_true rfl)
        have N97 := Fr.snoc X97 N91 G84
        have f98 := f92.wr W97
        have f99 := f93.wr W97 G84
        have f100 := f94.wr W97
        have f101 := f95.other W97 (Or.inl ne85)
        have f102 := f96.other W97 (Or.inl ne85)
        have K97 := K91.wr W97 (Or.inr H84)
        have Z97 := Nat.le_trans Z91 (Nat.le_of_eq W97.size.symm)
        have hk97 := Nat.le_trans hk91 (Nat.le_of_eq W97.size.symm)
        refine Goes.go st97 ?_
        show Goes p e below _ T97 (mkF m 111 #[.val (.int dn), .val (.int d0), .val (.int d1), .val (.int d2), .val (.int ((d0 &&& (255 : Int32)).toUInt32.toUInt16.toUInt32.toInt32)), .val (.int ((d1 &&& (255 : Int32)).toUInt32.toUInt16.toUInt32.toInt32)), .val (.int ((d2 &&& (255 : Int32)).toUInt32.toUInt16.toUInt32.toInt32)), .val (.int (dn &&& (3 : Int32)))] [(.ref b84), (.ref b79), (.ref b79)])
        refine own_dup X97 hx 112 rfl (hb hby own_d1_111) rfl ?_
        refine own_iconst X97 hx 113 rfl (2 : Int32) (hb hby own_d1_112) (by decide) ?_
        refine own_iload X97 hx 115 rfl (hb hby own_d1_113) rfl ?_
        obtain ⟨cl103, Ar103, qq103, S103, NN103, HH103, GG103⟩ := id V97
        have hin103 : ¬ ((2 : Int32) < 0 ∨ cl103.slots.size ≤ ((2 : Int32)).toNatClampNeg) := inb_of S103 ⟨by decide, by decide⟩
        obtain ⟨T103, h103, X103, e103, W103, st103⟩ := stC X97 hx hZ e97 Ar103 (j := (2 : Int32)) hin103 (g := (mkF m 115 #[.val (.int dn), .val (.int d0), .val (.int d1), .val (.int d2), .val (.int ((d0 &&& (255 : Int32)).toUInt32.toUInt16.toUInt32.toInt32)), .val (.int ((d1 &&& (255 : Int32)).toUInt32.toUInt16.toUInt32.toInt32)), .val (.int ((d2 &&& (255 : Int32)).toUInt32.toUInt16.toUInt32.toInt32)), .val (.int (dn &&& (3 : Int32)))] [(.int ((d2 &&& (255 : Int32)).toUInt32.toUInt16.toUInt32.toInt32)), (.int (2 : Int32)), (.ref b84), (.ref b84), (.ref b79), (.ref b79)])) rfl rfl (hb hby own_d1_115)
        have V103 : Arv Z h103 b84 k84 .char (3 : Int32) [(.int (((d0 &&& (255 : Int32)).toUInt32.toUInt16.toUInt32.toInt32).toUInt32.toUInt16.toUInt32.toInt32)), (.int (((d1 &&& (255 : Int32)).toUInt32.toUInt16.toUInt32.toInt32).toUInt32.toUInt16.toUInt32.toInt32)), (.int (((d2 &&& (255 : Int32)).toUInt32.toUInt16.toUInt32.toInt32).toUInt32.toUInt16.toUInt32.toInt32))] (.int (0 : Int32)) := Arv.set Ar103 qq103 S103 NN103 HH103 GG103 (fits_nar_char _) W103 2 rfl (Nat.le_of_ble_eq_true rfl)
        have N103 := Fr.snoc X103 N97 G84
        have f104 := f98.wr W103
        have f105 := f99.wr W103 G84
        have f106 := f100.wr W103
        have f107 := f101.other W103 (Or.inl ne85)
        have f108 := f102.other W103 (Or.inl ne85)
        have K103 := K97.wr W103 (Or.inr H84)
        have Z103 := Nat.le_trans Z97 (Nat.le_of_eq W103.size.symm)
        have hk103 := Nat.le_trans hk97 (Nat.le_of_eq W103.size.symm)
        refine Goes.go st103 ?_
        show Goes p e below _ T103 (mkF m 116 #[.val (.int dn), .val (.int d0), .val (.int d1), .val (.int d2), .val (.int ((d0 &&& (255 : Int32)).toUInt32.toUInt16.toUInt32.toInt32)), .val (.int ((d1 &&& (255 : Int32)).toUInt32.toUInt16.toUInt32.toInt32)), .val (.int ((d2 &&& (255 : Int32)).toUInt32.toUInt16.toUInt32.toInt32)), .val (.int (dn &&& (3 : Int32)))] [(.ref b84), (.ref b79), (.ref b79)])
        obtain ⟨_, _, ⟨T109, L109, k109, n109⟩, -, X109, ⟨Lc109, hQ109, l109, y109, z109⟩, st109⟩ := X103.specialBack hx (y := (⟨"java/lang/String", "<init>", "([C)V"⟩ : MethodName)) rfl hown (mvT hZ (hw _ (List.mem_of_getElem? (i := 8) rfl))) (mvT hZ (hw _ (List.mem_of_getElem? (i := 9) rfl))) (mvT hZ (hw _ (List.mem_of_getElem? (i := 10) rfl))) (by decide) (backOf (W := 1) (rmnew3 l Z a0 hw [] b79 b84 k84 (((d0 &&& (255 : Int32)).toUInt32.toUInt16.toUInt32.toInt32).toUInt32.toUInt16.toUInt32.toInt32) (((d1 &&& (255 : Int32)).toUInt32.toUInt16.toUInt32.toInt32).toUInt32.toUInt16.toUInt32.toInt32) (((d2 &&& (255 : Int32)).toUInt32.toUInt16.toUInt32.toInt32).toUInt32.toUInt16.toUInt32.toInt32) cs h103 n0 Z103 f106 G79 f107 f108 V103 f104 hcs (Ne.symm ne85) (own_c255 _) (own_c255 _) (own_c255 _)) hZ (hw _ (List.mem_of_getElem? (i := 10) rfl)) (hw _ (List.mem_of_getElem? (i := 6) rfl)) (by decide) (by decide)) (g := (mkF m 116 #[.val (.int dn), .val (.int d0), .val (.int d1), .val (.int d2), .val (.int ((d0 &&& (255 : Int32)).toUInt32.toUInt16.toUInt32.toInt32)), .val (.int ((d1 &&& (255 : Int32)).toUInt32.toUInt16.toUInt32.toInt32)), .val (.int ((d2 &&& (255 : Int32)).toUInt32.toUInt16.toUInt32.toInt32)), .val (.int (dn &&& (3 : Int32)))] [(.ref b84), (.ref b79), (.ref b79)])) rfl (by rw [hml]; rfl) (Steps.refl _) (a := b79) (argsL := [(.ref b84)]) (rest := [(.ref b79)]) (lenOf own_pd4 rfl) rfl (by show 2 * 0 + _ ≤ _; exact Nat.le_of_eq rfl) (hb hby own_d1_116) (fun _ _ => ⟨rfl, e103, (by decide : 2 + 1 ≤ _), (by decide : 7 + 3 ≤ _)⟩)
        dsimp only [Pt.U, Pt.locs, Pt.cells, Pt.slots] at X109 l109 y109 z109 st109 hQ109
        subst l109 y109 z109
        obtain ⟨rb_109, rk_109, rfl, N109q, K109q, f109_0, f109_1, f109_2, f109_3⟩ := hQ109
        have N109 := Fr.app N103 N109q
        have ne110 : b79 ≠ rb_109 := Nat.ne_of_lt (Nat.lt_of_lt_of_le f106.lt f109_0)
        have ne111 : b84 ≠ rb_109 := Nat.ne_of_lt (Nat.lt_of_lt_of_le V103.lt f109_0)
        have GG112 : n0 ≤ rb_109 := Nat.le_trans Z103 f109_0
        have HG112 : h0.size ≤ rb_109 := Nat.le_trans K103.1 f109_0
        have f113 := own_sta_keep f104 K109q (allS (own_eplain f106) all0)
        have f114 := f105.keep K109q (allS G79 all0)
        have f115 := f106.keep K109q
        have f116 := V103.keep K109q (ninS (Ne.symm ne85) nin0)
        have K109 := K103.trans K109q (allS (Or.inr H79) all0)
        have Z109 := Nat.le_trans Z103 K109q.1
        have hk109 := Nat.le_trans hk103 K109q.1
        refine Goes.tr st109 ?_
        show Goes p e below _ T109 (mkF m 119 #[.val (.int dn), .val (.int d0), .val (.int d1), .val (.int d2), .val (.int ((d0 &&& (255 : Int32)).toUInt32.toUInt16.toUInt32.toInt32)), .val (.int ((d1 &&& (255 : Int32)).toUInt32.toUInt16.toUInt32.toInt32)), .val (.int ((d2 &&& (255 : Int32)).toUInt32.toUInt16.toUInt32.toInt32)), .val (.int (dn &&& (3 : Int32)))] [(.ref b79)])
        refine own_retWR X109 hx hS0 hlk Bd.returns rfl rfl (hb hby own_d1_119) (by decide) (by decide) rfl hk109 ?_
        exact ⟨b79, rb_109, rk_109, (3 : Int32), [(.int (((((d0 &&& (255 : Int32)).toUInt32.toUInt16.toUInt32.toInt32).toUInt32.toUInt16.toUInt32.toInt32).toInt8.toInt32).toInt8.toInt32)), (.int (((((d1 &&& (255 : Int32)).toUInt32.toUInt16.toUInt32.toInt32).toUInt32.toUInt16.toUInt32.toInt32).toInt8.toInt32).toInt8.toInt32)), (.int (((((d2 &&& (255 : Int32)).toUInt32.toUInt16.toUInt32.toInt32).toUInt32.toUInt16.toUInt32.toInt32).toInt8.toInt32).toInt8.toInt32))], rfl, N109, K109, H79, f115, f109_1, f109_2, f109_3⟩
theorem own_d6_0 : decode jdk_31_method_11_code 0 = .ok (.aload_n 0, 1) := by decide +kernel
theorem own_d6_1 : decode jdk_31_method_11_code 1 = .ok (.ifnonnull 12, 3) := by decide +kernel
theorem own_d6_13 : decode jdk_31_method_11_code 13 = .ok (.aload_n 0, 1) := by decide +kernel
theorem own_d6_14 : decode jdk_31_method_11_code 14 = .ok (.areturn, 1) := by decide +kernel
theorem own_pn_java_util_Objects : plainName "java/util/Objects" = true := by first | (simp [plainName, overriddenIn]; done) | decide +kernel
def Q6 (Z : State) (ro : Addr) (rs : Addr) (h0 : Heap) (n0 : Nat) (v : Option Value) (h : Heap) (L : List Loc) : Prop := v = some (.ref ro) ∧ Fr n0 L ∧ h = h0
set_option maxRecDepth 65536 in
set_option maxHeartbeats 40000000 in
theorem rm6 (l : Launch) (Z : State) (a0 : Array Value) (hw : ∀ d ∈ tables_1, d.before a0 Z = true) (ws : List Jvm.Cond) (ro : Addr) (rs : Addr) (h0 : Heap) (n0 : Nat) (Z0 : n0 ≤ h0.size)  :
    MetFree l (⟨"java/util/Objects", "requireNonNull", "(Ljava/lang/Object;Ljava/lang/String;)Ljava/lang/Object;"⟩ : MethodName) (head1 (Jvm.Cond.code (⟨"java/util/Objects", "requireNonNull", "(Ljava/lang/Object;Ljava/lang/String;)Ljava/lang/Object;"⟩ : MethodName) jdk_31_method_11_code 2 (some (.object "java/lang/Object")) :: ws) ({ frames := 0, cells := 0, slots := 0, locals := 0 } : Room)) (fun a U => a = #[(.ref ro), (.ref rs)] ∧ Z.Warmed39 U.vm ∧ U.heap = h0) (fun _ _ _ _ _ => True) (fun _ U o U' => ∃ v L, o = .returned v ∧ Q6 Z ro rs h0 n0 v U'.heap L ∧ FrameEnd U o U' L ({ frames := 0, cells := 0, slots := 0, locals := 0 } : Room).cells ({ frames := 0, cells := 0, slots := 0, locals := 0 } : Room).slots) := by
  refine MetFree.of_bodySF (plainFor_of_name own_pn_java_util_Objects) hisR ?_
  intro p e s m args below meth c s₁ Bd hml0 hP hK
  obtain ⟨rfl, hZ, hh⟩ := hP
  have hx := Bd.exec
  have hby := Bd.bytes
  have hml : c.maxLocals = 2 := hml0
  have hlk := Bd.notSynchronized
  have hown : s.vm.findClass "java/util/Objects" = some m.cls := findClass_of_methodNamed Bd.named
  have hnm := (name_of_methodNamed Bd.named Bd.method).1
  have X0 : Stand p l e ({ frames := 0, cells := 0, slots := 0, locals := 0 } : Room) s m #[(.ref ro), (.ref rs)] below meth c s₁ [] 0 0 := Stand.of_body Bd
  have e0 : s₁.heap = h0 := by rw [← hh, Bd.state]; rfl
  have N0 := Fr.nil n0
  refine own_enter (P := (Done s ({ frames := 0, cells := 0, slots := 0, locals := 0 } : Room).cells ({ frames := 0, cells := 0, slots := 0, locals := 0 } : Room).slots (Q6 Z ro rs h0 n0))) (Ls := #[.val (.ref ro), .val (.ref rs)]) (by first | (simp [entryFrame, mkF, argsToLocals, Value.category]; done) | rfl) ?_
  refine own_aloadN X0 hx 1 rfl (hb hby own_d6_0) rfl rfl ?_
  refine own_ifnonnullY X0 hx 13 (hb hby own_d6_1) (by decide) (by decide) ?_
  refine own_aloadN X0 hx 14 rfl (hb hby own_d6_13) rfl rfl ?_
  refine own_retR X0 hx hlk Bd.returns rfl rfl (hb hby own_d6_14) (by decide) (by decide) e0 ?_
  exact ⟨rfl, N0, rfl⟩
theorem own_d7_0 : decode prog_1_method_1_code 0 = .ok (.aload_n 0, 1) := by decide +kernel
theorem own_d7_1 : decode prog_1_method_1_code 1 = .ok (.invokespecial 1, 3) := by decide +kernel
theorem own_d7_4 : decode prog_1_method_1_code 4 = .ok (.aload_n 0, 1) := by decide +kernel
theorem own_d7_5 : decode prog_1_method_1_code 5 = .ok (.aload_n 1, 1) := by decide +kernel
theorem own_d7_6 : decode prog_1_method_1_code 6 = .ok (.putfield 7, 3) := by decide +kernel
theorem own_d7_9 : decode prog_1_method_1_code 9 = .ok (.return_, 1) := by decide +kernel
theorem own_pn_com_example_narrow_gate_narrowgate_model_Capture : plainName "com/example/narrow_gate/narrowgate/model/Capture" = true := by first | (simp [plainName, overriddenIn]; done) | decide +kernel
def Q7 (Z : State) (co : Addr) (cr : Addr) (h0 : Heap) (n0 : Nat) (v : Option Value) (h : Heap) (L : List Loc) : Prop := v = none ∧ Fr n0 L ∧ Keep h0 h [co] ∧ Fld Z h co "com/example/narrow_gate/narrowgate/model/Capture" "declineReason" "Ljava/lang/String;" (.ref cr)
set_option maxRecDepth 65536 in
set_option maxHeartbeats 40000000 in
theorem rm7 (l : Launch) (Z : State) (a0 : Array Value) (hw : ∀ d ∈ tables_1, d.before a0 Z = true) (ws : List Jvm.Cond) (co : Addr) (cr : Addr) (h0 : Heap) (n0 : Nat) (Z0 : n0 ≤ h0.size) (EC : Exa Z h0 co "com/example/narrow_gate/narrowgate/model/Capture") (gc : n0 ≤ co) (Fd : Fld Z h0 co "com/example/narrow_gate/narrowgate/model/Capture" "declineReason" "Ljava/lang/String;" .null) :
    MetFree l (⟨"com/example/narrow_gate/narrowgate/model/Capture", "<init>", "(Ljava/lang/String;)V"⟩ : MethodName) (head1 (Jvm.Cond.code (⟨"com/example/narrow_gate/narrowgate/model/Capture", "<init>", "(Ljava/lang/String;)V"⟩ : MethodName) prog_1_method_1_code 2 none :: ws) ({ frames := 1, cells := 0, slots := 0, locals := 12 } : Room)) (fun a U => a = #[(.ref co), (.ref cr)] ∧ Z.Warmed39 U.vm ∧ U.heap = h0) (fun _ _ _ _ _ => True) (fun _ U o U' => ∃ v L, o = .returned v ∧ Q7 Z co cr h0 n0 v U'.heap L ∧ FrameEnd U o U' L ({ frames := 1, cells := 0, slots := 0, locals := 12 } : Room).cells ({ frames := 1, cells := 0, slots := 0, locals := 12 } : Room).slots) := by
  refine MetFree.of_bodySF (plainFor_of_name own_pn_com_example_narrow_gate_narrowgate_model_Capture) hisR ?_
  intro p e s m args below meth c s₁ Bd hml0 hP hK
  obtain ⟨rfl, hZ, hh⟩ := hP
  have hx := Bd.exec
  have hby := Bd.bytes
  have hml : c.maxLocals = 2 := hml0
  have hlk := Bd.notSynchronized
  have hown : s.vm.findClass "com/example/narrow_gate/narrowgate/model/Capture" = some m.cls := findClass_of_methodNamed Bd.named
  have hnm := (name_of_methodNamed Bd.named Bd.method).1
  have X0 : Stand p l e ({ frames := 1, cells := 0, slots := 0, locals := 12 } : Room) s m #[(.ref co), (.ref cr)] below meth c s₁ [] 0 0 := Stand.of_body Bd
  have e0 : s₁.heap = h0 := by rw [← hh, Bd.state]; rfl
  have N0 := Fr.nil n0
  have K0 : Keep h0 h0 [co] := Keep.refl _ _
  refine own_enter (P := (Done s ({ frames := 1, cells := 0, slots := 0, locals := 12 } : Room).cells ({ frames := 1, cells := 0, slots := 0, locals := 12 } : Room).slots (Q7 Z co cr h0 n0))) (Ls := #[.val (.ref co), .val (.ref cr)]) (by first | (simp [entryFrame, mkF, argsToLocals, Value.category]; done) | rfl) ?_
  refine own_aloadN X0 hx 1 rfl (hb hby own_d7_0) rfl rfl ?_
  obtain ⟨T1, X1, e1, st1⟩ := initO X0 hx hZ hown (hw _ (List.mem_of_getElem? (i := 41) rfl)) (hw _ (List.mem_of_getElem? (i := 16) rfl)) (hw _ (List.mem_of_getElem? (i := 17) rfl)) e0 (g := (mkF m 1 #[.val (.ref co), .val (.ref cr)] [(.ref co)])) rfl (by rw [hml]; rfl) rfl (hb hby own_d7_1) (by decide) (W := 0) (by show 2 * 0 + _ ≤ _; exact Nat.le_of_eq rfl) (by decide)
  refine Goes.go st1 ?_
  show Goes p e below _ T1 (mkF m 4 #[.val (.ref co), .val (.ref cr)] [])
  refine own_aloadN X1 hx 5 rfl (hb hby own_d7_4) rfl rfl ?_
  refine own_aloadN X1 hx 6 rfl (hb hby own_d7_5) rfl rfl ?_
  obtain ⟨T2, h2, X2, e2, W2, st2⟩ := putF X1 hx hZ hown (host := "") (Or.inl (hw _ (List.mem_of_getElem? (i := 42) rfl))) Via.refl e1 Fd EC (Or.inr ⟨(hw _ (List.mem_of_getElem? (i := 43) rfl)), rfl, hnm⟩) (hw _ (List.mem_of_getElem? (i := 31) rfl)) (ty := (.object "java/lang/String")) (by decide) rfl rfl (g := (mkF m 6 #[.val (.ref co), .val (.ref cr)] [(.ref cr), (.ref co)])) rfl rfl (hb hby own_d7_6)
  have N2 := Fr.snoc X2 N0 gc
  have f3 := EC.wr W2
  have f4 := Fd.same W2
  have K2 := K0.wr W2 (Or.inl (List.mem_of_getElem? (i := 0) rfl))
  have Z2 := Nat.le_trans Z0 (Nat.le_of_eq W2.size.symm)
  refine Goes.go st2 ?_
  show Goes p e below _ T2 (mkF m 9 #[.val (.ref co), .val (.ref cr)] [])
  refine own_retV X2 hx hlk Bd.returns (hb hby own_d7_9) (by decide) (by decide) e2 ?_
  exact ⟨rfl, N2, K2, f4⟩
theorem own_pd5 : parseMethodDescriptor "(Ljava/lang/Object;Ljava/lang/String;)Ljava/lang/Object;" = some ⟨[(.object "java/lang/Object"), (.object "java/lang/String")], some (.object "java/lang/Object")⟩ := by decide +kernel
theorem own_pd6 : parseMethodDescriptor "(Ljava/lang/String;)V" = some ⟨[(.object "java/lang/String")], none⟩ := by decide +kernel
theorem own_d5_0 : decode prog_1_method_2_code 0 = .ok (.new 8, 3) := by decide +kernel
theorem own_d5_3 : decode prog_1_method_2_code 3 = .ok (.dup, 1) := by decide +kernel
theorem own_d5_4 : decode prog_1_method_2_code 4 = .ok (.aload_n 0, 1) := by decide +kernel
theorem own_d5_5 : decode prog_1_method_2_code 5 = .ok (.ldc 13, 2) := by decide +kernel
theorem own_d5_7 : decode prog_1_method_2_code 7 = .ok (.invokestatic 15, 3) := by decide +kernel
theorem own_d5_10 : decode prog_1_method_2_code 10 = .ok (.checkcast 21, 3) := by decide +kernel
theorem own_d5_13 : decode prog_1_method_2_code 13 = .ok (.invokespecial 23, 3) := by decide +kernel
theorem own_d5_16 : decode prog_1_method_2_code 16 = .ok (.areturn, 1) := by decide +kernel
def Q5 (Z : State) (dr : Addr) (h0 : Heap) (n0 : Nat) (v : Option Value) (h : Heap) (L : List Loc) : Prop := ∃ cb : Addr, v = some (.ref cb) ∧ Fr n0 L ∧ Keep h0 h [] ∧ h0.size ≤ cb ∧ Exa Z h cb "com/example/narrow_gate/narrowgate/model/Capture" ∧ Fld Z h cb "com/example/narrow_gate/narrowgate/model/Capture" "declineReason" "Ljava/lang/String;" (.ref dr)
set_option maxRecDepth 65536 in
set_option maxHeartbeats 40000000 in
theorem rm5 (l : Launch) (Z : State) (a0 : Array Value) (hw : ∀ d ∈ tables_1, d.before a0 Z = true) (ws : List Jvm.Cond) (dr : Addr) (h0 : Heap) (n0 : Nat) (Z0 : n0 ≤ h0.size) (Er : Exa Z h0 dr "java/lang/String") :
    MetFree l (⟨"com/example/narrow_gate/narrowgate/model/Capture", "declined", "(Ljava/lang/String;)Lcom/example/narrow_gate/narrowgate/model/Capture;"⟩ : MethodName) (head1 (Jvm.Cond.code (⟨"com/example/narrow_gate/narrowgate/model/Capture", "declined", "(Ljava/lang/String;)Lcom/example/narrow_gate/narrowgate/model/Capture;"⟩ : MethodName) prog_1_method_2_code 1 (some (.object "com/example/narrow_gate/narrowgate/model/Capture")) :: ws) ({ frames := 2, cells := 3, slots := 29, locals := 26 } : Room)) (fun a U => a = #[(.ref dr)] ∧ Z.Warmed39 U.vm ∧ U.heap = h0) (fun _ _ _ _ _ => True) (fun _ U o U' => ∃ v L, o = .returned v ∧ Q5 Z dr h0 n0 v U'.heap L ∧ ReturnedEndW U o U' L ({ frames := 2, cells := 3, slots := 29, locals := 26 } : Room).cells ({ frames := 2, cells := 3, slots := 29, locals := 26 } : Room).slots) := by
  refine MetFree.of_bodySF (plainFor_of_name own_pn_com_example_narrow_gate_narrowgate_model_Capture) hisR ?_
  intro p e s m args below meth c s₁ Bd hml0 hP hK
  obtain ⟨rfl, hZ, hh⟩ := hP
  have hx := Bd.exec
  have hby := Bd.bytes
  have hml : c.maxLocals = 1 := hml0
  have hlk := Bd.notSynchronized
  have hown : s.vm.findClass "com/example/narrow_gate/narrowgate/model/Capture" = some m.cls := findClass_of_methodNamed Bd.named
  have hnm := (name_of_methodNamed Bd.named Bd.method).1
  have X0 : Stand p l e ({ frames := 2, cells := 3, slots := 29, locals := 26 } : Room) (s.setVm s.vm) m #[(.ref dr)] below meth c s₁ [] 0 0 := Stand.of_body Bd
  have e0 : s₁.heap = h0 := by rw [← hh, Bd.state]; rfl
  have N0 := Fr.nil n0
  have hS0 : s.Since s.vm 0 := (State.WarmedH.refl s).since 0
  have hk0 : 0 ≤ h0.size := Nat.zero_le _
  have K0 : Keep h0 h0 [] := Keep.refl _ _
  refine own_enter (P := (DoneW s ({ frames := 2, cells := 3, slots := 29, locals := 26 } : Room).cells ({ frames := 2, cells := 3, slots := 29, locals := 26 } : Room).slots (Q5 Z dr h0 n0))) (Ls := #[.val (.ref dr)]) (by first | (simp [entryFrame, mkF, argsToLocals, Value.category]; done) | rfl) ?_
  obtain ⟨T1, h1, X1, e1, E1, A1, D1, -, st1⟩ := newO X0 hx hZ hown (hw _ (List.mem_of_getElem? (i := 30) rfl)) (hw _ (List.mem_of_getElem? (i := 31) rfl)) (hw _ (List.mem_of_getElem? (i := 28) rfl)) e0 (g := (mkF m 0 #[.val (.ref dr)] [])) rfl (hb hby own_d5_0) (by decide) (by decide)
  obtain ⟨b1, g1⟩ : ∃ z, z = h0.size := ⟨_, rfl⟩
  rw [← g1] at A1 D1 st1
  have ne2 : dr ≠ b1 := own_lt_ne Er.lt g1
  have G1 : n0 ≤ b1 := Nat.le_trans Z0 (Nat.le_of_eq g1.symm)
  have H1 : h0.size ≤ b1 := Nat.le_trans K0.1 (Nat.le_of_eq g1.symm)
  have f3 := Er.ext E1
  have K1 := K0.ext E1
  have Z1 := Nat.le_trans Z0 E1.1
  have hk1 := Nat.le_trans hk0 E1.1
  have f4 : Fld Z h1 b1 "com/example/narrow_gate/narrowgate/model/Capture" "declineReason" "Ljava/lang/String;" .null := D1 (Or.inr (hw _ (List.mem_of_getElem? (i := 43) rfl))) (ty := (.object "java/lang/String")) (by decide)
  refine Goes.go st1 ?_
  show Goes p e below _ T1 (mkF m 3 #[.val (.ref dr)] [(.ref b1)])
  refine own_dup X1 hx 4 rfl (hb hby own_d5_3) rfl ?_
  refine own_aloadN X1 hx 5 rfl (hb hby own_d5_4) rfl rfl ?_
  obtain ⟨sa5, T5, h5, k15, X5, e5, E5, hS5, hk5, hZ5, ho5, st5⟩ := ldcS X1 hx hZ hown (hw _ (List.mem_of_getElem? (i := 32) rfl)) (own_wS hw) e1 hS0 hk1 (g := (mkF m 5 #[.val (.ref dr)] [(.ref dr), (.ref b1), (.ref b1)])) rfl (hb hby own_d5_5) (n := 24) (by decide) (by decide) (by decide) (by decide)
  have f6 := f3.ext E5
  have f7 := A1.ext E5
  have f8 := f4.ext E5
  have K5 := K1.ext E5
  have Z5 := Nat.le_trans Z1 E5.1
  refine Goes.go st5 ?_
  show Goes p e below _ T5 (mkF m 7 #[.val (.ref dr)] [(.ref sa5), (.ref dr), (.ref b1), (.ref b1)])
  obtain ⟨_, _, ⟨T9, L9, k9, n9⟩, -, X9, ⟨Lc9, hQ9, l9, y9, z9⟩, st9⟩ := Jvm.LawKit.callS X5 hx (y := (⟨"java/util/Objects", "requireNonNull", "(Ljava/lang/Object;Ljava/lang/String;)Ljava/lang/Object;"⟩ : MethodName)) ho5 (mvT hZ5 (hw _ (List.mem_of_getElem? (i := 33) rfl))) (mvT hZ5 (hw _ (List.mem_of_getElem? (i := 34) rfl))) (mvT hZ5 (hw _ (List.mem_of_getElem? (i := 35) rfl))) (mvT hZ5 (hw _ (List.mem_of_getElem? (i := 36) rfl))) (by decide) (backOf (W := 2) (rm6 l Z a0 hw [] dr sa5 h5 n0 Z5 ) hZ5 (hw _ (List.mem_of_getElem? (i := 36) rfl)) (hw _ (List.mem_of_getElem? (i := 35) rfl)) (by decide) (by decide)) (g := (mkF m 7 #[.val (.ref dr)] [(.ref sa5), (.ref dr), (.ref b1), (.ref b1)])) rfl (by rw [hml]; rfl) (argsL := [(.ref dr), (.ref sa5)]) (rest := [(.ref b1), (.ref b1)]) (lenOf own_pd5 rfl) rfl (by show 2 * 0 + _ ≤ _; exact Nat.le_of_eq rfl) (hb hby own_d5_7) (fun _ _ => ⟨rfl, e5, (by decide : 3 + 0 ≤ _), (by decide : 29 + 0 ≤ _)⟩)
  dsimp only [Pt.U, Pt.locs, Pt.cells, Pt.slots] at X9 l9 y9 z9 st9 hQ9
  subst l9 y9 z9
  obtain ⟨rfl, N9q, eh9⟩ := hQ9
  have N9 := Fr.app N0 N9q
  refine Goes.go st9 ?_
  show Goes p e below _ T9 (mkF m 10 #[.val (.ref dr)] [(.ref dr), (.ref b1), (.ref b1)])
  obtain ⟨T10, X10, e10, st10⟩ := castY X9 hx hZ5 ho5 (hw _ (List.mem_of_getElem? (i := 37) rfl)) eh9 (Ins.self f6) (g := (mkF m 10 #[.val (.ref dr)] [(.ref dr), (.ref b1), (.ref b1)])) rfl rfl (hb hby own_d5_10)
  refine Goes.go st10 ?_
  show Goes p e below _ T10 (mkF m 13 #[.val (.ref dr)] [(.ref dr), (.ref b1), (.ref b1)])
  obtain ⟨_, _, ⟨T11, L11, k11, n11⟩, -, X11, ⟨Lc11, hQ11, l11, y11, z11⟩, st11⟩ := X10.specialBack hx (y := (⟨"com/example/narrow_gate/narrowgate/model/Capture", "<init>", "(Ljava/lang/String;)V"⟩ : MethodName)) rfl ho5 (mvT hZ5 (hw _ (List.mem_of_getElem? (i := 38) rfl))) (mvT hZ5 (hw _ (List.mem_of_getElem? (i := 39) rfl))) (mvT hZ5 (hw _ (List.mem_of_getElem? (i := 40) rfl))) (by decide) (backOf (W := 1) (rm7 l Z a0 hw [] b1 dr h5 n0 Z5 f7 G1 f8) hZ5 (hw _ (List.mem_of_getElem? (i := 40) rfl)) (hw _ (List.mem_of_getElem? (i := 28) rfl)) (by decide) (by decide)) (g := (mkF m 13 #[.val (.ref dr)] [(.ref dr), (.ref b1), (.ref b1)])) rfl (by rw [hml]; rfl) (Steps.refl _) (a := b1) (argsL := [(.ref dr)]) (rest := [(.ref b1)]) (lenOf own_pd6 rfl) rfl (by show 2 * 0 + _ ≤ _; exact Nat.le_of_eq rfl) (hb hby own_d5_13) (fun _ _ => ⟨rfl, e10, (by decide : 3 + 0 ≤ _), (by decide : 29 + 0 ≤ _)⟩)
  dsimp only [Pt.U, Pt.locs, Pt.cells, Pt.slots] at X11 l11 y11 z11 st11 hQ11
  subst l11 y11 z11
  obtain ⟨rfl, N11q, K11q, f11_0⟩ := hQ11
  have N11 := Fr.app N9 N11q
  have f12 := f6.keep K11q
  have f13 := f7.keep K11q
  have K11 := K5.trans K11q (allS (Or.inr H1) all0)
  have Z11 := Nat.le_trans Z5 K11q.1
  have hk11 := Nat.le_trans hk5 K11q.1
  refine Goes.tr st11 ?_
  show Goes p e below _ T11 (mkF m 16 #[.val (.ref dr)] [(.ref b1)])
  refine own_retWR X11 hx hS5 hlk Bd.returns rfl rfl (hb hby own_d5_16) (by decide) (by decide) rfl hk11 ?_
  exact ⟨b1, rfl, N11, K11, H1, f13, f11_0⟩
theorem own_d8_0 : decode prog_1_method_3_code 0 = .ok (.aload_n 0, 1) := by decide +kernel
theorem own_d8_1 : decode prog_1_method_3_code 1 = .ok (.getfield 7, 3) := by decide +kernel
theorem own_d8_4 : decode prog_1_method_3_code 4 = .ok (.ifnonnull 7, 3) := by decide +kernel
theorem own_d8_7 : decode prog_1_method_3_code 7 = .ok (.iconst 1, 1) := by decide +kernel
theorem own_d8_8 : decode prog_1_method_3_code 8 = .ok (.goto 4, 3) := by decide +kernel
theorem own_d8_12 : decode prog_1_method_3_code 12 = .ok (.ireturn, 1) := by decide +kernel
def Qis1 (Z : State) (co : Addr) (h0 : Heap) (n0 : Nat) (v : Option Value) (h : Heap) (L : List Loc) : Prop := v = some (.int (1 : Int32)) ∧ Fr n0 L ∧ h = h0
set_option maxRecDepth 65536 in
set_option maxHeartbeats 40000000 in
theorem rmis1 (l : Launch) (Z : State) (a0 : Array Value) (hw : ∀ d ∈ tables_1, d.before a0 Z = true) (ws : List Jvm.Cond) (co : Addr) (h0 : Heap) (n0 : Nat) (Z0 : n0 ≤ h0.size) (Fd : Fld Z h0 co "com/example/narrow_gate/narrowgate/model/Capture" "declineReason" "Ljava/lang/String;" .null) :
    MetFree l (⟨"com/example/narrow_gate/narrowgate/model/Capture", "isCaptured", "()Z"⟩ : MethodName) (head1 (Jvm.Cond.code (⟨"com/example/narrow_gate/narrowgate/model/Capture", "isCaptured", "()Z"⟩ : MethodName) prog_1_method_3_code 1 (some .boolean) :: ws) ({ frames := 0, cells := 0, slots := 0, locals := 0 } : Room)) (fun a U => a = #[(.ref co)] ∧ Z.Warmed39 U.vm ∧ U.heap = h0) (fun _ _ _ _ _ => True) (fun _ U o U' => ∃ v L, o = .returned v ∧ Qis1 Z co h0 n0 v U'.heap L ∧ FrameEnd U o U' L ({ frames := 0, cells := 0, slots := 0, locals := 0 } : Room).cells ({ frames := 0, cells := 0, slots := 0, locals := 0 } : Room).slots) := by
  refine MetFree.of_bodySF (plainFor_of_name own_pn_com_example_narrow_gate_narrowgate_model_Capture) hisR ?_
  intro p e s m args below meth c s₁ Bd hml0 hP hK
  obtain ⟨rfl, hZ, hh⟩ := hP
  have hx := Bd.exec
  have hby := Bd.bytes
  have hml : c.maxLocals = 1 := hml0
  have hlk := Bd.notSynchronized
  have hown : s.vm.findClass "com/example/narrow_gate/narrowgate/model/Capture" = some m.cls := findClass_of_methodNamed Bd.named
  have hnm := (name_of_methodNamed Bd.named Bd.method).1
  have X0 : Stand p l e ({ frames := 0, cells := 0, slots := 0, locals := 0 } : Room) s m #[(.ref co)] below meth c s₁ [] 0 0 := Stand.of_body Bd
  have e0 : s₁.heap = h0 := by rw [← hh, Bd.state]; rfl
  have N0 := Fr.nil n0
  refine own_enter (P := (Done s ({ frames := 0, cells := 0, slots := 0, locals := 0 } : Room).cells ({ frames := 0, cells := 0, slots := 0, locals := 0 } : Room).slots (Qis1 Z co h0 n0))) (Ls := #[.val (.ref co)]) (by first | (simp [entryFrame, mkF, argsToLocals, Value.category]; done) | rfl) ?_
  refine own_aloadN X0 hx 1 rfl (hb hby own_d8_0) rfl rfl ?_
  obtain ⟨T1, X1, e1, st1⟩ := getF X0 hx hZ hown (host := "") (Or.inl (hw _ (List.mem_of_getElem? (i := 42) rfl))) Via.refl e0 Fd (g := (mkF m 1 #[.val (.ref co)] [(.ref co)])) rfl rfl (hb hby own_d8_1)
  refine Goes.go st1 ?_
  show Goes p e below _ T1 (mkF m 4 #[.val (.ref co)] [.null])
  refine own_ifnonnullN X1 hx 7 (hb hby own_d8_4) rfl ?_
  refine own_iconst X1 hx 8 rfl (1 : Int32) (hb hby own_d8_7) (by decide) ?_
  refine own_goto X1 hx 12 (hb hby own_d8_8) (by decide) (by decide) ?_
  refine own_retZ X1 hx hlk Bd.returns (by decide) (hb hby own_d8_12) (by decide) (by decide) e1 ?_
  exact ⟨rfl, N0, rfl⟩
theorem own_d8_11 : decode prog_1_method_3_code 11 = .ok (.iconst 0, 1) := by decide +kernel
def Qis0 (Z : State) (co : Addr) (cr : Addr) (h0 : Heap) (n0 : Nat) (v : Option Value) (h : Heap) (L : List Loc) : Prop := v = some (.int (0 : Int32)) ∧ Fr n0 L ∧ h = h0
set_option maxRecDepth 65536 in
set_option maxHeartbeats 40000000 in
theorem rmis0 (l : Launch) (Z : State) (a0 : Array Value) (hw : ∀ d ∈ tables_1, d.before a0 Z = true) (ws : List Jvm.Cond) (co : Addr) (cr : Addr) (h0 : Heap) (n0 : Nat) (Z0 : n0 ≤ h0.size) (Fd : Fld Z h0 co "com/example/narrow_gate/narrowgate/model/Capture" "declineReason" "Ljava/lang/String;" (.ref cr)) :
    MetFree l (⟨"com/example/narrow_gate/narrowgate/model/Capture", "isCaptured", "()Z"⟩ : MethodName) (head1 (Jvm.Cond.code (⟨"com/example/narrow_gate/narrowgate/model/Capture", "isCaptured", "()Z"⟩ : MethodName) prog_1_method_3_code 1 (some .boolean) :: ws) ({ frames := 0, cells := 0, slots := 0, locals := 0 } : Room)) (fun a U => a = #[(.ref co)] ∧ Z.Warmed39 U.vm ∧ U.heap = h0) (fun _ _ _ _ _ => True) (fun _ U o U' => ∃ v L, o = .returned v ∧ Qis0 Z co cr h0 n0 v U'.heap L ∧ FrameEnd U o U' L ({ frames := 0, cells := 0, slots := 0, locals := 0 } : Room).cells ({ frames := 0, cells := 0, slots := 0, locals := 0 } : Room).slots) := by
  refine MetFree.of_bodySF (plainFor_of_name own_pn_com_example_narrow_gate_narrowgate_model_Capture) hisR ?_
  intro p e s m args below meth c s₁ Bd hml0 hP hK
  obtain ⟨rfl, hZ, hh⟩ := hP
  have hx := Bd.exec
  have hby := Bd.bytes
  have hml : c.maxLocals = 1 := hml0
  have hlk := Bd.notSynchronized
  have hown : s.vm.findClass "com/example/narrow_gate/narrowgate/model/Capture" = some m.cls := findClass_of_methodNamed Bd.named
  have hnm := (name_of_methodNamed Bd.named Bd.method).1
  have X0 : Stand p l e ({ frames := 0, cells := 0, slots := 0, locals := 0 } : Room) s m #[(.ref co)] below meth c s₁ [] 0 0 := Stand.of_body Bd
  have e0 : s₁.heap = h0 := by rw [← hh, Bd.state]; rfl
  have N0 := Fr.nil n0
  refine own_enter (P := (Done s ({ frames := 0, cells := 0, slots := 0, locals := 0 } : Room).cells ({ frames := 0, cells := 0, slots := 0, locals := 0 } : Room).slots (Qis0 Z co cr h0 n0))) (Ls := #[.val (.ref co)]) (by first | (simp [entryFrame, mkF, argsToLocals, Value.category]; done) | rfl) ?_
  refine own_aloadN X0 hx 1 rfl (hb hby own_d8_0) rfl rfl ?_
  obtain ⟨T1, X1, e1, st1⟩ := getF X0 hx hZ hown (host := "") (Or.inl (hw _ (List.mem_of_getElem? (i := 42) rfl))) Via.refl e0 Fd (g := (mkF m 1 #[.val (.ref co)] [(.ref co)])) rfl rfl (hb hby own_d8_1)
  refine Goes.go st1 ?_
  show Goes p e below _ T1 (mkF m 4 #[.val (.ref co)] [(.ref cr)])
  refine own_ifnonnullY X1 hx 11 (hb hby own_d8_4) (by decide) (by decide) ?_
  refine own_iconst X1 hx 12 rfl (0 : Int32) (hb hby own_d8_11) (by decide) ?_
  refine own_retZ X1 hx hlk Bd.returns (by decide) (hb hby own_d8_12) (by decide) (by decide) e1 ?_
  exact ⟨rfl, N0, rfl⟩
theorem own_d9_0 : decode prog_1_method_4_code 0 = .ok (.aload_n 0, 1) := by decide +kernel
theorem own_d9_1 : decode prog_1_method_4_code 1 = .ok (.getfield 7, 3) := by decide +kernel
theorem own_d9_4 : decode prog_1_method_4_code 4 = .ok (.ifnonnull 13, 3) := by decide +kernel
theorem own_d9_17 : decode prog_1_method_4_code 17 = .ok (.aload_n 0, 1) := by decide +kernel
theorem own_d9_18 : decode prog_1_method_4_code 18 = .ok (.getfield 7, 3) := by decide +kernel
theorem own_d9_21 : decode prog_1_method_4_code 21 = .ok (.areturn, 1) := by decide +kernel
def Q9 (Z : State) (co : Addr) (cr : Addr) (h0 : Heap) (n0 : Nat) (v : Option Value) (h : Heap) (L : List Loc) : Prop := v = some (.ref cr) ∧ Fr n0 L ∧ h = h0
set_option maxRecDepth 65536 in
set_option maxHeartbeats 40000000 in
theorem rm9 (l : Launch) (Z : State) (a0 : Array Value) (hw : ∀ d ∈ tables_1, d.before a0 Z = true) (ws : List Jvm.Cond) (co : Addr) (cr : Addr) (h0 : Heap) (n0 : Nat) (Z0 : n0 ≤ h0.size) (Fd : Fld Z h0 co "com/example/narrow_gate/narrowgate/model/Capture" "declineReason" "Ljava/lang/String;" (.ref cr)) :
    MetFree l (⟨"com/example/narrow_gate/narrowgate/model/Capture", "getDeclineReason", "()Ljava/lang/String;"⟩ : MethodName) (head1 (Jvm.Cond.code (⟨"com/example/narrow_gate/narrowgate/model/Capture", "getDeclineReason", "()Ljava/lang/String;"⟩ : MethodName) prog_1_method_4_code 1 (some (.object "java/lang/String")) :: ws) ({ frames := 0, cells := 0, slots := 0, locals := 0 } : Room)) (fun a U => a = #[(.ref co)] ∧ Z.Warmed39 U.vm ∧ U.heap = h0) (fun _ _ _ _ _ => True) (fun _ U o U' => ∃ v L, o = .returned v ∧ Q9 Z co cr h0 n0 v U'.heap L ∧ FrameEnd U o U' L ({ frames := 0, cells := 0, slots := 0, locals := 0 } : Room).cells ({ frames := 0, cells := 0, slots := 0, locals := 0 } : Room).slots) := by
  refine MetFree.of_bodySF (plainFor_of_name own_pn_com_example_narrow_gate_narrowgate_model_Capture) hisR ?_
  intro p e s m args below meth c s₁ Bd hml0 hP hK
  obtain ⟨rfl, hZ, hh⟩ := hP
  have hx := Bd.exec
  have hby := Bd.bytes
  have hml : c.maxLocals = 1 := hml0
  have hlk := Bd.notSynchronized
  have hown : s.vm.findClass "com/example/narrow_gate/narrowgate/model/Capture" = some m.cls := findClass_of_methodNamed Bd.named
  have hnm := (name_of_methodNamed Bd.named Bd.method).1
  have X0 : Stand p l e ({ frames := 0, cells := 0, slots := 0, locals := 0 } : Room) s m #[(.ref co)] below meth c s₁ [] 0 0 := Stand.of_body Bd
  have e0 : s₁.heap = h0 := by rw [← hh, Bd.state]; rfl
  have N0 := Fr.nil n0
  refine own_enter (P := (Done s ({ frames := 0, cells := 0, slots := 0, locals := 0 } : Room).cells ({ frames := 0, cells := 0, slots := 0, locals := 0 } : Room).slots (Q9 Z co cr h0 n0))) (Ls := #[.val (.ref co)]) (by first | (simp [entryFrame, mkF, argsToLocals, Value.category]; done) | rfl) ?_
  refine own_aloadN X0 hx 1 rfl (hb hby own_d9_0) rfl rfl ?_
  obtain ⟨T1, X1, e1, st1⟩ := getF X0 hx hZ hown (host := "") (Or.inl (hw _ (List.mem_of_getElem? (i := 42) rfl))) Via.refl e0 Fd (g := (mkF m 1 #[.val (.ref co)] [(.ref co)])) rfl rfl (hb hby own_d9_1)
  refine Goes.go st1 ?_
  show Goes p e below _ T1 (mkF m 4 #[.val (.ref co)] [(.ref cr)])
  refine own_ifnonnullY X1 hx 17 (hb hby own_d9_4) (by decide) (by decide) ?_
  refine own_aloadN X1 hx 18 rfl (hb hby own_d9_17) rfl rfl ?_
  obtain ⟨T2, X2, e2, st2⟩ := getF X1 hx hZ hown (host := "") (Or.inl (hw _ (List.mem_of_getElem? (i := 42) rfl))) Via.refl e1 Fd (g := (mkF m 18 #[.val (.ref co)] [(.ref co)])) rfl rfl (hb hby own_d9_18)
  refine Goes.go st2 ?_
  show Goes p e below _ T2 (mkF m 21 #[.val (.ref co)] [(.ref cr)])
  refine own_retR X2 hx hlk Bd.returns rfl rfl (hb hby own_d9_21) (by decide) (by decide) e2 ?_
  exact ⟨rfl, N0, rfl⟩
theorem own_d11_0 : decode jdk_42_method_152_code 0 = .ok (.getstatic 38, 3) := by decide +kernel
theorem own_d11_3 : decode jdk_42_method_152_code 3 = .ok (.ifCond .eq 10, 3) := by decide +kernel
theorem own_d11_6 : decode jdk_42_method_152_code 6 = .ok (.aload_n 0, 1) := by decide +kernel
theorem own_d11_7 : decode jdk_42_method_152_code 7 = .ok (.getfield 15, 3) := by decide +kernel
theorem own_d11_10 : decode jdk_42_method_152_code 10 = .ok (.goto 4, 3) := by decide +kernel
theorem own_d11_14 : decode jdk_42_method_152_code 14 = .ok (.ireturn, 1) := by decide +kernel
def Q11 (Z : State) (lt : Addr) (cs : Int32) (h0 : Heap) (n0 : Nat) (v : Option Value) (h : Heap) (L : List Loc) : Prop := v = some (.int (0 : Int32)) ∧ Fr n0 L ∧ h = h0
set_option maxRecDepth 65536 in
set_option maxHeartbeats 40000000 in
theorem rm11 (l : Launch) (Z : State) (a0 : Array Value) (hw : ∀ d ∈ tables_1, d.before a0 Z = true) (ws : List Jvm.Cond) (lt : Addr) (cs : Int32) (h0 : Heap) (n0 : Nat) (Z0 : n0 ≤ h0.size) (Sc : Sta Z h0 "java/lang/String" "COMPACT_STRINGS" "Z" (.int cs)) (hcs : ¬ (cs = (0 : Int32))) (Fc : Fld Z h0 lt "java/lang/String" "coder" "B" (.int (0 : Int32))) :
    MetFree l (⟨"java/lang/String", "coder", "()B"⟩ : MethodName) (head1 (Jvm.Cond.code (⟨"java/lang/String", "coder", "()B"⟩ : MethodName) jdk_42_method_152_code 1 (some .byte) :: ws) ({ frames := 0, cells := 0, slots := 0, locals := 0 } : Room)) (fun a U => a = #[(.ref lt)] ∧ Z.Warmed39 U.vm ∧ U.heap = h0) (fun _ _ _ _ _ => True) (fun _ U o U' => ∃ v L, o = .returned v ∧ Q11 Z lt cs h0 n0 v U'.heap L ∧ FrameEnd U o U' L ({ frames := 0, cells := 0, slots := 0, locals := 0 } : Room).cells ({ frames := 0, cells := 0, slots := 0, locals := 0 } : Room).slots) := by
  refine MetFree.of_bodySF (plainFor_of_name own_pn_java_lang_String) hisR ?_
  intro p e s m args below meth c s₁ Bd hml0 hP hK
  obtain ⟨rfl, hZ, hh⟩ := hP
  have hx := Bd.exec
  have hby := Bd.bytes
  have hml : c.maxLocals = 1 := hml0
  have hlk := Bd.notSynchronized
  have hown : s.vm.findClass "java/lang/String" = some m.cls := findClass_of_methodNamed Bd.named
  have hnm := (name_of_methodNamed Bd.named Bd.method).1
  have X0 : Stand p l e ({ frames := 0, cells := 0, slots := 0, locals := 0 } : Room) s m #[(.ref lt)] below meth c s₁ [] 0 0 := Stand.of_body Bd
  have e0 : s₁.heap = h0 := by rw [← hh, Bd.state]; rfl
  have N0 := Fr.nil n0
  refine own_enter (P := (Done s ({ frames := 0, cells := 0, slots := 0, locals := 0 } : Room).cells ({ frames := 0, cells := 0, slots := 0, locals := 0 } : Room).slots (Q11 Z lt cs h0 n0))) (Ls := #[.val (.ref lt)]) (by first | (simp [entryFrame, mkF, argsToLocals, Value.category]; done) | rfl) ?_
  obtain ⟨T1, X1, e1, st1⟩ := getS2 X0 hx hZ hown (host := "") (Or.inl (hw _ (List.mem_of_getElem? (i := 66) rfl))) Via.refl e0 Sc (g := (mkF m 0 #[.val (.ref lt)] [])) rfl (hb hby own_d11_0)
  refine Goes.go st1 ?_
  show Goes p e below _ T1 (mkF m 3 #[.val (.ref lt)] [(.int cs)])
  refine own_ifN X1 hx 6 (hb hby own_d11_3) ((if0 _ _).trans (feq (hcs : ¬ (cs = (0 : Int32)))).1) rfl ?_
  refine own_aloadN X1 hx 7 rfl (hb hby own_d11_6) rfl rfl ?_
  obtain ⟨T2, X2, e2, st2⟩ := getF X1 hx hZ hown (host := "") (Or.inl (hw _ (List.mem_of_getElem? (i := 25) rfl))) Via.refl e1 Fc (g := (mkF m 7 #[.val (.ref lt)] [(.ref lt)])) rfl rfl (hb hby own_d11_7)
  refine Goes.go st2 ?_
  show Goes p e below _ T2 (mkF m 10 #[.val (.ref lt)] [(.int (0 : Int32))])
  refine own_goto X2 hx 14 (hb hby own_d11_10) (by decide) (by decide) ?_
  refine own_ret X2 hx hlk Bd.returns (by decide) (Or.inl ⟨rfl, by simp, _, rfl⟩) (hb hby own_d11_14) (by decide) (by decide) e2 ?_
  exact ⟨rfl, N0, rfl⟩
theorem own_pd7 : parseMethodDescriptor "()B" = some ⟨[], some .byte⟩ := by decide +kernel
theorem own_d10_0 : decode jdk_42_method_54_code 0 = .ok (.aload_n 0, 1) := by decide +kernel
theorem own_d10_1 : decode jdk_42_method_54_code 1 = .ok (.getfield 9, 3) := by decide +kernel
theorem own_d10_4 : decode jdk_42_method_54_code 4 = .ok (.arraylength, 1) := by decide +kernel
theorem own_d10_5 : decode jdk_42_method_54_code 5 = .ok (.aload_n 0, 1) := by decide +kernel
theorem own_d10_6 : decode jdk_42_method_54_code 6 = .ok (.invokevirtual 335, 3) := by decide +kernel
theorem own_d10_9 : decode jdk_42_method_54_code 9 = .ok (.ishr, 1) := by decide +kernel
theorem own_d10_10 : decode jdk_42_method_54_code 10 = .ok (.ireturn, 1) := by decide +kernel
def Q10 (Z : State) (lt : Addr) (cs : Int32) (vb : Addr) (vk : ClassId) (vn : Int32) (vs : List Value) (h0 : Heap) (n0 : Nat) (v : Option Value) (h : Heap) (L : List Loc) : Prop := v = some (.int (vn >>> ((0 : Int32) &&& 31))) ∧ Fr n0 L ∧ h = h0
set_option maxRecDepth 65536 in
set_option maxHeartbeats 40000000 in
theorem rm10 (l : Launch) (Z : State) (a0 : Array Value) (hw : ∀ d ∈ tables_1, d.before a0 Z = true) (ws : List Jvm.Cond) (lt : Addr) (cs : Int32) (vb : Addr) (vk : ClassId) (vn : Int32) (vs : List Value) (h0 : Heap) (n0 : Nat) (Z0 : n0 ≤ h0.size) (Sc : Sta Z h0 "java/lang/String" "COMPACT_STRINGS" "Z" (.int cs)) (hcs : ¬ (cs = (0 : Int32))) (El : Exa Z h0 lt "java/lang/String") (Fc : Fld Z h0 lt "java/lang/String" "coder" "B" (.int (0 : Int32))) (Fv : Fld Z h0 lt "java/lang/String" "value" "[B" (.ref vb)) (Av : Arv Z h0 vb vk .byte vn vs (.int (0 : Int32))) :
    MetFree l (⟨"java/lang/String", "length", "()I"⟩ : MethodName) (head1 (Jvm.Cond.code (⟨"java/lang/String", "length", "()I"⟩ : MethodName) jdk_42_method_54_code 1 (some .int) :: ws) ({ frames := 1, cells := 0, slots := 0, locals := 13 } : Room)) (fun a U => a = #[(.ref lt)] ∧ Z.Warmed39 U.vm ∧ U.heap = h0) (fun _ _ _ _ _ => True) (fun _ U o U' => ∃ v L, o = .returned v ∧ Q10 Z lt cs vb vk vn vs h0 n0 v U'.heap L ∧ FrameEnd U o U' L ({ frames := 1, cells := 0, slots := 0, locals := 13 } : Room).cells ({ frames := 1, cells := 0, slots := 0, locals := 13 } : Room).slots) := by
  refine MetFree.of_bodySF (plainFor_of_name own_pn_java_lang_String) hisR ?_
  intro p e s m args below meth c s₁ Bd hml0 hP hK
  obtain ⟨rfl, hZ, hh⟩ := hP
  have hx := Bd.exec
  have hby := Bd.bytes
  have hml : c.maxLocals = 1 := hml0
  have hlk := Bd.notSynchronized
  have hown : s.vm.findClass "java/lang/String" = some m.cls := findClass_of_methodNamed Bd.named
  have hnm := (name_of_methodNamed Bd.named Bd.method).1
  have X0 : Stand p l e ({ frames := 1, cells := 0, slots := 0, locals := 13 } : Room) s m #[(.ref lt)] below meth c s₁ [] 0 0 := Stand.of_body Bd
  have e0 : s₁.heap = h0 := by rw [← hh, Bd.state]; rfl
  have N0 := Fr.nil n0
  refine own_enter (P := (Done s ({ frames := 1, cells := 0, slots := 0, locals := 13 } : Room).cells ({ frames := 1, cells := 0, slots := 0, locals := 13 } : Room).slots (Q10 Z lt cs vb vk vn vs h0 n0))) (Ls := #[.val (.ref lt)]) (by first | (simp [entryFrame, mkF, argsToLocals, Value.category]; done) | rfl) ?_
  refine own_aloadN X0 hx 1 rfl (hb hby own_d10_0) rfl rfl ?_
  obtain ⟨T1, X1, e1, st1⟩ := getF X0 hx hZ hown (host := "") (Or.inl (hw _ (List.mem_of_getElem? (i := 24) rfl))) Via.refl e0 Fv (g := (mkF m 1 #[.val (.ref lt)] [(.ref lt)])) rfl rfl (hb hby own_d10_1)
  refine Goes.go st1 ?_
  show Goes p e below _ T1 (mkF m 4 #[.val (.ref lt)] [(.ref vb)])
  obtain ⟨cl2, Ar2, qq2, S2, NN2, HH2, GG2⟩ := id Av
  refine Goes.go (X1.arraylength hx (by rw [e1]; exact Ar2.1) (State.isArrayOf_alike hZ.alike Ar2.2.1) (g := (mkF m 4 #[.val (.ref lt)] [(.ref vb)])) rfl rfl (hb hby own_d10_4)) ?_
  show Goes p e below _ T1 (mkF m 5 #[.val (.ref lt)] [(.int (cl2.slots.size.toInt32))])
  rw [len_of S2 NN2]
  refine own_aloadN X1 hx 6 rfl (hb hby own_d10_5) rfl rfl ?_
  obtain ⟨cq3, kq3, q3a, q3b, q3c⟩ := isOf hZ e1 El
  obtain ⟨_, _, ⟨T3, L3, k3, n3⟩, -, X3, ⟨Lc3, hQ3, l3, y3, z3⟩, st3⟩ := X1.virtualBack hx (y := (⟨"java/lang/String", "coder", "()B"⟩ : MethodName)) (z := (⟨"java/lang/String", "coder", "()B"⟩ : MethodName)) hown (mvT hZ (hw _ (List.mem_of_getElem? (i := 61) rfl))) (mvT hZ (hw _ (List.mem_of_getElem? (i := 62) rfl))) (notFace_of_selects (args := #[]) (mvT hZ (hw _ (List.mem_of_getElem? (i := 64) rfl)))) (mvT hZ (hw _ (List.mem_of_getElem? (i := 64) rfl))) (mvT hZ (hw _ (List.mem_of_getElem? (i := 63) rfl))) (by decide) (backOf (W := 1) (rm11 l Z a0 hw [] lt cs h0 n0 Z0 Sc hcs Fc) hZ (hw _ (List.mem_of_getElem? (i := 65) rfl)) (hw _ (List.mem_of_getElem? (i := 6) rfl)) (by decide) (by decide)) q3a q3c (g := (mkF m 6 #[.val (.ref lt)] [(.ref lt), (.int vn)])) rfl (by rw [hml]; rfl) (Steps.refl _) (argsL := []) (rest := [(.int vn)]) (lenOf own_pd7 rfl) rfl (by show 2 * 0 + _ ≤ _; exact Nat.le_of_eq rfl) (hb hby own_d10_6) (fun _ _ => ⟨rfl, e1, (by decide : 0 + 0 ≤ _), (by decide : 0 + 0 ≤ _)⟩)
  dsimp only [Pt.U, Pt.locs, Pt.cells, Pt.slots] at X3 l3 y3 z3 st3 hQ3
  subst l3 y3 z3
  obtain ⟨rfl, N3q, eh3⟩ := hQ3
  have N3 := Fr.app N0 N3q
  refine Goes.tr st3 ?_
  show Goes p e below _ T3 (mkF m 9 #[.val (.ref lt)] [(.int (0 : Int32)), (.int vn)])
  refine own_ishr X3 hx 10 rfl (hb hby own_d10_9) rfl ?_
  refine own_retI X3 hx hlk Bd.returns (hb hby own_d10_10) (by decide) (by decide) eh3 ?_
  exact ⟨rfl, N3, rfl⟩
theorem own_d12_0 : decode jdk_42_method_66_code 0 = .ok (.aload_n 0, 1) := by decide +kernel
theorem own_d12_1 : decode jdk_42_method_66_code 1 = .ok (.aload_n 1, 1) := by decide +kernel
theorem own_d12_2 : decode jdk_42_method_66_code 2 = .ok (.if_acmp .ne 5, 3) := by decide +kernel
theorem own_d12_5 : decode jdk_42_method_66_code 5 = .ok (.iconst 1, 1) := by decide +kernel
theorem own_d12_6 : decode jdk_42_method_66_code 6 = .ok (.ireturn, 1) := by decide +kernel
def Q12 (Z : State) (et : Addr) (h0 : Heap) (n0 : Nat) (v : Option Value) (h : Heap) (L : List Loc) : Prop := v = some (.int (1 : Int32)) ∧ Fr n0 L ∧ h = h0
set_option maxRecDepth 65536 in
set_option maxHeartbeats 40000000 in
theorem rm12 (l : Launch) (Z : State) (a0 : Array Value) (hw : ∀ d ∈ tables_1, d.before a0 Z = true) (ws : List Jvm.Cond) (et : Addr) (h0 : Heap) (n0 : Nat) (Z0 : n0 ≤ h0.size)  :
    MetFree l (⟨"java/lang/String", "equals", "(Ljava/lang/Object;)Z"⟩ : MethodName) (head1 (Jvm.Cond.code (⟨"java/lang/String", "equals", "(Ljava/lang/Object;)Z"⟩ : MethodName) jdk_42_method_66_code 3 (some .boolean) :: ws) ({ frames := 0, cells := 0, slots := 0, locals := 0 } : Room)) (fun a U => a = #[(.ref et), (.ref et)] ∧ Z.Warmed39 U.vm ∧ U.heap = h0) (fun _ _ _ _ _ => True) (fun _ U o U' => ∃ v L, o = .returned v ∧ Q12 Z et h0 n0 v U'.heap L ∧ FrameEnd U o U' L ({ frames := 0, cells := 0, slots := 0, locals := 0 } : Room).cells ({ frames := 0, cells := 0, slots := 0, locals := 0 } : Room).slots) := by
  refine MetFree.of_bodySF (plainFor_of_name own_pn_java_lang_String) hisR ?_
  intro p e s m args below meth c s₁ Bd hml0 hP hK
  obtain ⟨rfl, hZ, hh⟩ := hP
  have hx := Bd.exec
  have hby := Bd.bytes
  have hml : c.maxLocals = 3 := hml0
  have hlk := Bd.notSynchronized
  have hown : s.vm.findClass "java/lang/String" = some m.cls := findClass_of_methodNamed Bd.named
  have hnm := (name_of_methodNamed Bd.named Bd.method).1
  have X0 : Stand p l e ({ frames := 0, cells := 0, slots := 0, locals := 0 } : Room) s m #[(.ref et), (.ref et)] below meth c s₁ [] 0 0 := Stand.of_body Bd
  have e0 : s₁.heap = h0 := by rw [← hh, Bd.state]; rfl
  have N0 := Fr.nil n0
  refine own_enter (P := (Done s ({ frames := 0, cells := 0, slots := 0, locals := 0 } : Room).cells ({ frames := 0, cells := 0, slots := 0, locals := 0 } : Room).slots (Q12 Z et h0 n0))) (Ls := #[.val (.ref et), .val (.ref et), .unset]) (by first | (simp [entryFrame, mkF, argsToLocals, Value.category]; done) | rfl) ?_
  refine own_aloadN X0 hx 1 rfl (hb hby own_d12_0) rfl rfl ?_
  refine own_aloadN X0 hx 2 rfl (hb hby own_d12_1) rfl rfl ?_
  refine own_acmp X0 hx 5 (same := true) rfl rfl (hb hby own_d12_2) (decide_eq_true rfl) (by decide) (by decide) ?_
  refine own_iconst X0 hx 6 rfl (1 : Int32) (hb hby own_d12_5) (by decide) ?_
  refine own_retZ X0 hx hlk Bd.returns (by decide) (hb hby own_d12_6) (by decide) (by decide) e0 ?_
  exact ⟨rfl, N0, rfl⟩
theorem own_pd8 : parseMethodDescriptor "(IIII)Ljava/lang/String;" = some ⟨[.int, .int, .int, .int], some (.object "java/lang/String")⟩ := by decide +kernel
theorem own_pd9 : parseMethodDescriptor "(Ljava/lang/String;)Lcom/example/narrow_gate/narrowgate/model/Capture;" = some ⟨[(.object "java/lang/String")], some (.object "com/example/narrow_gate/narrowgate/model/Capture")⟩ := by decide +kernel
theorem own_pd10 : parseMethodDescriptor "()Z" = some ⟨[], some .boolean⟩ := by decide +kernel
theorem own_pd11 : parseMethodDescriptor "()Ljava/lang/String;" = some ⟨[], some (.object "java/lang/String")⟩ := by decide +kernel
theorem own_pd12 : parseMethodDescriptor "()I" = some ⟨[], some .int⟩ := by decide +kernel
theorem own_pd13 : parseMethodDescriptor "(Ljava/lang/Object;)Z" = some ⟨[(.object "java/lang/Object")], some .boolean⟩ := by decide +kernel
def Q0 (Z : State) (x0 : Int32) (x1 : Int32) (x2 : Int32) (x3 : Int32) (cs : Int32) (z_CAPTURED : Addr) (h0 : Heap) (n0 : Nat) (v : Option Value) (h : Heap) (L : List Loc) : Prop := v = some (.int 1) ∧ Fr n0 L
set_option maxRecDepth 65536 in
set_option maxHeartbeats 40000000 in
theorem rm0 (l : Launch) (Z : State) (a0 : Array Value) (hw : ∀ d ∈ tables_1, d.before a0 Z = true) (ws : List Jvm.Cond) (x0 : Int32) (x1 : Int32) (x2 : Int32) (x3 : Int32) (cs : Int32) (z_CAPTURED : Addr) (h0 : Heap) (n0 : Nat) (Z0 : n0 ≤ h0.size) (Sc : Sta Z h0 "java/lang/String" "COMPACT_STRINGS" "Z" (.int cs)) (hcs : ¬ (cs = (0 : Int32))) (hold : Old Z n0 h0) (hemp : Jvm.Lit.constHeld Z "java/lang/String" 7) (hcw : Jvm.Lit.compactW.before a0 Z = true) (S_z_CAPTURED : Sta Z h0 "com/example/narrow_gate/narrowgate/model/Capture" "CAPTURED" "Lcom/example/narrow_gate/narrowgate/model/Capture;" (.ref z_CAPTURED)) (E_z_CAPTURED : Exa Z h0 z_CAPTURED "com/example/narrow_gate/narrowgate/model/Capture") (O_declineReason_z_CAPTURED : Fld Z h0 z_CAPTURED "com/example/narrow_gate/narrowgate/model/Capture" "declineReason" "Ljava/lang/String;" .null) :
    MetFree l x (head1 (Jvm.Cond.code x code maxLocals ret :: ws) room_1) (fun a U => a = #[(.int x0), (.int x1), (.int x2), (.int x3)] ∧ Z.Warmed39 U.vm ∧ U.heap = h0 ∧ IB Z U.vm []) (fun _ _ _ _ _ => True) (fun _ U o U' => ∃ v L, o = .returned v ∧ Q0 Z x0 x1 x2 x3 cs z_CAPTURED h0 n0 v U'.heap L ∧ ReturnedEndW U o U' L 7 39) := by
  refine MetFree.of_bodySF (plainFor_of_name own_pn_com_example_narrow_gate_narrowgate_model_CaptureDeclinedPinLaw) hisR ?_
  intro p e s m args below meth c s₁ Bd hml0 hP hK
  obtain ⟨rfl, hZ, hh, hI⟩ := hP
  have hx := Bd.exec
  have hby := Bd.bytes
  have hml : c.maxLocals = 7 := hml0
  have hlk := Bd.notSynchronized
  have hown : s.vm.findClass "com/example/narrow_gate/narrowgate/model/CaptureDeclinedPinLaw" = some m.cls := findClass_of_methodNamed Bd.named
  have hnm := (name_of_methodNamed Bd.named Bd.method).1
  have X0 : Stand p l e room_1 (s.setVm s.vm) m #[(.int x0), (.int x1), (.int x2), (.int x3)] below meth c s₁ [] 0 0 := Stand.of_body Bd
  have e0 : s₁.heap = h0 := by rw [← hh, Bd.state]; rfl
  have N0 := Fr.nil n0
  have hS0 : s.Since s.vm 0 := (State.WarmedH.refl s).since 0
  have hk0 : 0 ≤ h0.size := Nat.zero_le _
  have K0 : Keep h0 h0 [] := Keep.refl _ _
  refine own_enter (P := (DoneW s 7 39 (Q0 Z x0 x1 x2 x3 cs z_CAPTURED h0 n0))) (Ls := #[.val (.int x0), .val (.int x1), .val (.int x2), .val (.int x3), .unset, .unset, .unset]) (by first | (simp [entryFrame, mkF, argsToLocals, Value.category, maxLocals]; done) | rfl) ?_
  refine own_iloadN X0 hx 1 rfl (hb hby at_0) rfl ?_
  refine own_iloadN X0 hx 2 rfl (hb hby at_1) rfl ?_
  refine own_iloadN X0 hx 3 rfl (hb hby at_2) rfl ?_
  refine own_iloadN X0 hx 4 rfl (hb hby at_3) rfl ?_
  obtain ⟨_, _, ⟨T1, L1, k1, n1⟩, -, X1, Sx1, gr1, ⟨Lc1, hQ1, l1, y1, z1⟩, st1⟩ := callSS X0 hx (y := (⟨"com/example/narrow_gate/narrowgate/model/CaptureDeclinedPinLaw", "draw", "(IIII)Ljava/lang/String;"⟩ : MethodName)) hown (mvT hZ (hw _ (List.mem_of_getElem? (i := 0) rfl))) (mvT hZ (hw _ (List.mem_of_getElem? (i := 1) rfl))) (mvT hZ (hw _ (List.mem_of_getElem? (i := 2) rfl))) (mvT hZ (hw _ (List.mem_of_getElem? (i := 3) rfl))) (by decide) (own_backSI (W := 0) (rm1 l Z a0 hw [] x0 x1 x2 x3 cs h0 n0 Z0 Sc hcs hold hemp hcw) hZ (hw _ (List.mem_of_getElem? (i := 3) rfl)) (hw _ (List.mem_of_getElem? (i := 2) rfl)) (by decide) (by decide)) (g := (mkF m 4 #[.val (.int x0), .val (.int x1), .val (.int x2), .val (.int x3), .unset, .unset, .unset] [(.int x3), (.int x2), (.int x1), (.int x0)])) rfl (by rw [hml]; rfl) (argsL := [(.int x0), (.int x1), (.int x2), (.int x3)]) (rest := []) (lenOf own_pd8 rfl) rfl (by show 2 * 0 + _ ≤ _; exact Nat.le_of_eq rfl) (hb hby at_4) (fun _ hv => ⟨rfl, e0, (by decide : 0 + 4 ≤ _), (by decide : 0 + 10 ≤ _), own_ibW hI hv⟩)
  dsimp only [Pt.U, Pt.locs, Pt.cells, Pt.slots] at X1 l1 y1 z1 st1 hQ1 Sx1 gr1
  subst l1 y1 z1
  obtain ⟨Y1, hS1, hZ1, ho1⟩ := rebS hS0 (Nat.le_trans hk0 (Nat.le_of_eq (congrArg Array.size (Eq.symm e0)))) X1 Sx1 gr1 hZ hown
  obtain ⟨db_1, dv_1, dk_1, dl_1, du_1, rfl, N1q, K1q, f1_0, f1_1, f1_2, f1_3, f1_4⟩ := hQ1
  have N1 := Fr.app N0 N1q
  have ne2 : z_CAPTURED ≠ db_1 := Nat.ne_of_lt (Nat.lt_of_lt_of_le E_z_CAPTURED.lt f1_0)
  have GG3 : n0 ≤ db_1 := Nat.le_trans Z0 f1_0
  have HG3 : h0.size ≤ db_1 := Nat.le_trans K0.1 f1_0
  have f4 := own_sta_keep Sc K1q all0
  have f5 := hold.keep K1q all0
  have f6 := own_sta_keep S_z_CAPTURED K1q all0
  have f7 := E_z_CAPTURED.keep K1q
  have f8 := O_declineReason_z_CAPTURED.keep K1q nin0
  have K1 := K0.trans K1q all0
  have Z1 := Nat.le_trans Z0 K1q.1
  refine Goes.tr st1 ?_
  show Goes p e below _ T1 (mkF m 7 #[.val (.int x0), .val (.int x1), .val (.int x2), .val (.int x3), .unset, .unset, .unset] [(.ref db_1)])
  refine own_astore Y1 hx 9 rfl #[.val (.int x0), .val (.int x1), .val (.int x2), .val (.int x3), .val (.ref db_1), .unset, .unset] (hb hby at_7) rfl rfl ?_
  refine own_aload Y1 hx 11 rfl (hb hby at_9) rfl rfl ?_
  obtain ⟨_, _, ⟨T9, L9, k9, n9⟩, -, X9, Sx9, gr9, ⟨Lc9, hQ9, l9, y9, z9⟩, st9⟩ := callSS Y1 hx (y := (⟨"com/example/narrow_gate/narrowgate/model/Capture", "declined", "(Ljava/lang/String;)Lcom/example/narrow_gate/narrowgate/model/Capture;"⟩ : MethodName)) ho1 (mvT hZ1 (hw _ (List.mem_of_getElem? (i := 26) rfl))) (mvT hZ1 (hw _ (List.mem_of_getElem? (i := 27) rfl))) (mvT hZ1 (hw _ (List.mem_of_getElem? (i := 28) rfl))) (mvT hZ1 (hw _ (List.mem_of_getElem? (i := 29) rfl))) (by decide) (backOfS (W := 0) (rm5 l Z a0 hw [] db_1 T1.heap n0 Z1 f1_1) hZ1 (hw _ (List.mem_of_getElem? (i := 29) rfl)) (hw _ (List.mem_of_getElem? (i := 28) rfl)) (by decide) (by decide)) (g := (mkF m 11 #[.val (.int x0), .val (.int x1), .val (.int x2), .val (.int x3), .val (.ref db_1), .unset, .unset] [(.ref db_1)])) rfl (by rw [hml]; rfl) (argsL := [(.ref db_1)]) (rest := []) (lenOf own_pd9 rfl) rfl (by show 2 * 0 + _ ≤ _; exact Nat.le_of_eq rfl) (hb hby at_11) (fun _ _ => ⟨rfl, rfl, (by decide : 4 + 3 ≤ _), (by decide : 10 + 29 ≤ _)⟩)
  dsimp only [Pt.U, Pt.locs, Pt.cells, Pt.slots] at X9 l9 y9 z9 st9 hQ9 Sx9 gr9
  subst l9 y9 z9
  obtain ⟨Y9, hS9, hZ9, ho9⟩ := rebS hS1 (Nat.le_trans (Nat.le_refl T1.heap.size) (Nat.le_of_eq (congrArg Array.size (Eq.symm rfl)))) X9 Sx9 gr9 hZ1 ho1
  obtain ⟨cb_9, rfl, N9q, K9q, f9_0, f9_1, f9_2⟩ := hQ9
  have N9 := Fr.app N1 N9q
  have ne10 : z_CAPTURED ≠ cb_9 := Nat.ne_of_lt (Nat.lt_of_lt_of_le f7.lt f9_0)
  have ne11 : db_1 ≠ cb_9 := Nat.ne_of_lt (Nat.lt_of_lt_of_le f1_1.lt f9_0)
  have ne12 : dv_1 ≠ cb_9 := Nat.ne_of_lt (Nat.lt_of_lt_of_le f1_4.lt f9_0)
  have GG13 : n0 ≤ cb_9 := Nat.le_trans Z1 f9_0
  have HG13 : h0.size ≤ cb_9 := Nat.le_trans K1.1 f9_0
  have f14 := own_sta_keep f4 K9q all0
  have f15 := f5.keep K9q all0
  have f16 := own_sta_keep f6 K9q all0
  have f17 := f7.keep K9q
  have f18 := f8.keep K9q nin0
  have f19 := f1_1.keep K9q
  have f20 := f1_2.keep K9q nin0
  have f21 := f1_3.keep K9q nin0
  have f22 := f1_4.keep K9q nin0
  have K9 := K1.trans K9q all0
  have Z9 := Nat.le_trans Z1 K9q.1
  refine Goes.tr st9 ?_
  show Goes p e below _ T9 (mkF m 14 #[.val (.int x0), .val (.int x1), .val (.int x2), .val (.int x3), .val (.ref db_1), .unset, .unset] [(.ref cb_9)])
  refine own_astore Y9 hx 16 rfl #[.val (.int x0), .val (.int x1), .val (.int x2), .val (.int x3), .val (.ref db_1), .val (.ref cb_9), .unset] (hb hby at_14) rfl rfl ?_
  refine own_aload Y9 hx 18 rfl (hb hby at_16) rfl rfl ?_
  refine own_ifnonnullY Y9 hx 23 (hb hby at_18) (by decide) (by decide) ?_
  refine own_aload Y9 hx 25 rfl (hb hby at_23) rfl rfl ?_
  obtain ⟨T23, X23, e23, st23⟩ := getS2 Y9 hx hZ9 ho9 (host := "") (Or.inl (hw _ (List.mem_of_getElem? (i := 44) rfl))) Via.refl rfl f16 (g := (mkF m 25 #[.val (.int x0), .val (.int x1), .val (.int x2), .val (.int x3), .val (.ref db_1), .val (.ref cb_9), .unset] [(.ref cb_9)])) rfl (hb hby at_25)
  refine Goes.go st23 ?_
  show Goes p e below _ T23 (mkF m 28 #[.val (.int x0), .val (.int x1), .val (.int x2), .val (.int x3), .val (.ref db_1), .val (.ref cb_9), .unset] [(.ref z_CAPTURED), (.ref cb_9)])
  refine own_acmp X23 hx 33 (same := false) rfl rfl (hb hby at_28) (decide_eq_false fun q => (Ne.symm ne10) (Value.ref.inj q)) (by decide) (by decide) ?_
  refine own_aload X23 hx 35 rfl (hb hby at_33) rfl rfl ?_
  obtain ⟨cq24, kq24, q24a, q24b, q24c⟩ := isOf hZ9 e23 f9_1
  obtain ⟨_, _, ⟨T24, L24, k24, n24⟩, -, X24, ⟨Lc24, hQ24, l24, y24, z24⟩, st24⟩ := X23.virtualBack hx (y := (⟨"com/example/narrow_gate/narrowgate/model/Capture", "isCaptured", "()Z"⟩ : MethodName)) (z := (⟨"com/example/narrow_gate/narrowgate/model/Capture", "isCaptured", "()Z"⟩ : MethodName)) ho9 (mvT hZ9 (hw _ (List.mem_of_getElem? (i := 46) rfl))) (mvT hZ9 (hw _ (List.mem_of_getElem? (i := 47) rfl))) (notFace_of_selects (args := #[]) (mvT hZ9 (hw _ (List.mem_of_getElem? (i := 49) rfl)))) (mvT hZ9 (hw _ (List.mem_of_getElem? (i := 49) rfl))) (mvT hZ9 (hw _ (List.mem_of_getElem? (i := 48) rfl))) (by decide) (backOf (W := 0) (rmis0 l Z a0 hw [] cb_9 db_1 T9.heap n0 Z9 f9_2) hZ9 (hw _ (List.mem_of_getElem? (i := 50) rfl)) (hw _ (List.mem_of_getElem? (i := 28) rfl)) (by decide) (by decide)) q24a q24c (g := (mkF m 35 #[.val (.int x0), .val (.int x1), .val (.int x2), .val (.int x3), .val (.ref db_1), .val (.ref cb_9), .unset] [(.ref cb_9)])) rfl (by rw [hml]; rfl) (Steps.refl _) (argsL := []) (rest := []) (lenOf own_pd10 rfl) rfl (by show 2 * 0 + _ ≤ _; exact Nat.le_of_eq rfl) (hb hby at_35) (fun _ _ => ⟨rfl, e23, (by decide : 7 + 0 ≤ _), (by decide : 39 + 0 ≤ _)⟩)
  dsimp only [Pt.U, Pt.locs, Pt.cells, Pt.slots] at X24 l24 y24 z24 st24 hQ24
  subst l24 y24 z24
  obtain ⟨rfl, N24q, eh24⟩ := hQ24
  have N24 := Fr.app N9 N24q
  refine Goes.tr st24 ?_
  show Goes p e below _ T24 (mkF m 38 #[.val (.int x0), .val (.int x1), .val (.int x2), .val (.int x3), .val (.ref db_1), .val (.ref cb_9), .unset] [(.int (0 : Int32))])
  refine own_ifY X24 hx 43 (hb hby at_38) ((if0 _ _).trans (teq ((by decide) : (0 : Int32) = (0 : Int32))).1) (by decide) (by decide) ?_
  refine own_aload X24 hx 45 rfl (hb hby at_43) rfl rfl ?_
  obtain ⟨cq25, kq25, q25a, q25b, q25c⟩ := isOf hZ9 eh24 f9_1
  obtain ⟨_, _, ⟨T25, L25, k25, n25⟩, -, X25, ⟨Lc25, hQ25, l25, y25, z25⟩, st25⟩ := X24.virtualBack hx (y := (⟨"com/example/narrow_gate/narrowgate/model/Capture", "getDeclineReason", "()Ljava/lang/String;"⟩ : MethodName)) (z := (⟨"com/example/narrow_gate/narrowgate/model/Capture", "getDeclineReason", "()Ljava/lang/String;"⟩ : MethodName)) ho9 (mvT hZ9 (hw _ (List.mem_of_getElem? (i := 51) rfl))) (mvT hZ9 (hw _ (List.mem_of_getElem? (i := 52) rfl))) (notFace_of_selects (args := #[]) (mvT hZ9 (hw _ (List.mem_of_getElem? (i := 54) rfl)))) (mvT hZ9 (hw _ (List.mem_of_getElem? (i := 54) rfl))) (mvT hZ9 (hw _ (List.mem_of_getElem? (i := 53) rfl))) (by decide) (backOf (W := 0) (rm9 l Z a0 hw [] cb_9 db_1 T9.heap n0 Z9 f9_2) hZ9 (hw _ (List.mem_of_getElem? (i := 55) rfl)) (hw _ (List.mem_of_getElem? (i := 28) rfl)) (by decide) (by decide)) q25a q25c (g := (mkF m 45 #[.val (.int x0), .val (.int x1), .val (.int x2), .val (.int x3), .val (.ref db_1), .val (.ref cb_9), .unset] [(.ref cb_9)])) rfl (by rw [hml]; rfl) (Steps.refl _) (argsL := []) (rest := []) (lenOf own_pd11 rfl) rfl (by show 2 * 0 + _ ≤ _; exact Nat.le_of_eq rfl) (hb hby at_45) (fun _ _ => ⟨rfl, eh24, (by decide : 7 + 0 ≤ _), (by decide : 39 + 0 ≤ _)⟩)
  dsimp only [Pt.U, Pt.locs, Pt.cells, Pt.slots] at X25 l25 y25 z25 st25 hQ25
  subst l25 y25 z25
  obtain ⟨rfl, N25q, eh25⟩ := hQ25
  have N25 := Fr.app N24 N25q
  refine Goes.tr st25 ?_
  show Goes p e below _ T25 (mkF m 48 #[.val (.int x0), .val (.int x1), .val (.int x2), .val (.int x3), .val (.ref db_1), .val (.ref cb_9), .unset] [(.ref db_1)])
  refine own_astore X25 hx 50 rfl #[.val (.int x0), .val (.int x1), .val (.int x2), .val (.int x3), .val (.ref db_1), .val (.ref cb_9), .val (.ref db_1)] (hb hby at_48) rfl rfl ?_
  refine own_aload X25 hx 52 rfl (hb hby at_50) rfl rfl ?_
  refine own_ifnonnullY X25 hx 57 (hb hby at_52) (by decide) (by decide) ?_
  refine own_aload X25 hx 59 rfl (hb hby at_57) rfl rfl ?_
  obtain ⟨cq26, kq26, q26a, q26b, q26c⟩ := isOf hZ9 eh25 f19
  obtain ⟨_, _, ⟨T26, L26, k26, n26⟩, -, X26, ⟨Lc26, hQ26, l26, y26, z26⟩, st26⟩ := X25.virtualBack hx (y := (⟨"java/lang/String", "length", "()I"⟩ : MethodName)) (z := (⟨"java/lang/String", "length", "()I"⟩ : MethodName)) ho9 (mvT hZ9 (hw _ (List.mem_of_getElem? (i := 56) rfl))) (mvT hZ9 (hw _ (List.mem_of_getElem? (i := 57) rfl))) (notFace_of_selects (args := #[]) (mvT hZ9 (hw _ (List.mem_of_getElem? (i := 59) rfl)))) (mvT hZ9 (hw _ (List.mem_of_getElem? (i := 59) rfl))) (mvT hZ9 (hw _ (List.mem_of_getElem? (i := 58) rfl))) (by decide) (backOf (W := 0) (rm10 l Z a0 hw [] db_1 cs dv_1 dk_1 dl_1 du_1 T9.heap n0 Z9 f14 hcs f19 f21 f20 f22) hZ9 (hw _ (List.mem_of_getElem? (i := 60) rfl)) (hw _ (List.mem_of_getElem? (i := 6) rfl)) (by decide) (by decide)) q26a q26c (g := (mkF m 59 #[.val (.int x0), .val (.int x1), .val (.int x2), .val (.int x3), .val (.ref db_1), .val (.ref cb_9), .val (.ref db_1)] [(.ref db_1)])) rfl (by rw [hml]; rfl) (Steps.refl _) (argsL := []) (rest := []) (lenOf own_pd12 rfl) rfl (by show 2 * 0 + _ ≤ _; exact Nat.le_of_eq rfl) (hb hby at_59) (fun _ _ => ⟨rfl, eh25, (by decide : 7 + 0 ≤ _), (by decide : 39 + 0 ≤ _)⟩)
  dsimp only [Pt.U, Pt.locs, Pt.cells, Pt.slots] at X26 l26 y26 z26 st26 hQ26
  subst l26 y26 z26
  obtain ⟨rfl, N26q, eh26⟩ := hQ26
  have N26 := Fr.app N25 N26q
  refine Goes.tr st26 ?_
  show Goes p e below _ T26 (mkF m 62 #[.val (.int x0), .val (.int x1), .val (.int x2), .val (.int x3), .val (.ref db_1), .val (.ref cb_9), .val (.ref db_1)] [(.int (dl_1 >>> ((0 : Int32) &&& 31)))])
  refine own_aload X26 hx 64 rfl (hb hby at_62) rfl rfl ?_
  obtain ⟨cq27, kq27, q27a, q27b, q27c⟩ := isOf hZ9 eh26 f19
  obtain ⟨_, _, ⟨T27, L27, k27, n27⟩, -, X27, ⟨Lc27, hQ27, l27, y27, z27⟩, st27⟩ := X26.virtualBack hx (y := (⟨"java/lang/String", "length", "()I"⟩ : MethodName)) (z := (⟨"java/lang/String", "length", "()I"⟩ : MethodName)) ho9 (mvT hZ9 (hw _ (List.mem_of_getElem? (i := 56) rfl))) (mvT hZ9 (hw _ (List.mem_of_getElem? (i := 57) rfl))) (notFace_of_selects (args := #[]) (mvT hZ9 (hw _ (List.mem_of_getElem? (i := 59) rfl)))) (mvT hZ9 (hw _ (List.mem_of_getElem? (i := 59) rfl))) (mvT hZ9 (hw _ (List.mem_of_getElem? (i := 58) rfl))) (by decide) (backOf (W := 1) (rm10 l Z a0 hw [] db_1 cs dv_1 dk_1 dl_1 du_1 T9.heap n0 Z9 f14 hcs f19 f21 f20 f22) hZ9 (hw _ (List.mem_of_getElem? (i := 60) rfl)) (hw _ (List.mem_of_getElem? (i := 6) rfl)) (by decide) (by decide)) q27a q27c (g := (mkF m 64 #[.val (.int x0), .val (.int x1), .val (.int x2), .val (.int x3), .val (.ref db_1), .val (.ref cb_9), .val (.ref db_1)] [(.ref db_1), (.int (dl_1 >>> ((0 : Int32) &&& 31)))])) rfl (by rw [hml]; rfl) (Steps.refl _) (argsL := []) (rest := [(.int (dl_1 >>> ((0 : Int32) &&& 31)))]) (lenOf own_pd12 rfl) rfl (by show 2 * 0 + _ ≤ _; exact Nat.le_of_eq rfl) (hb hby at_64) (fun _ _ => ⟨rfl, eh26, (by decide : 7 + 0 ≤ _), (by decide : 39 + 0 ≤ _)⟩)
  dsimp only [Pt.U, Pt.locs, Pt.cells, Pt.slots] at X27 l27 y27 z27 st27 hQ27
  subst l27 y27 z27
  obtain ⟨rfl, N27q, eh27⟩ := hQ27
  have N27 := Fr.app N26 N27q
  refine Goes.tr st27 ?_
  show Goes p e below _ T27 (mkF m 67 #[.val (.int x0), .val (.int x1), .val (.int x2), .val (.int x3), .val (.ref db_1), .val (.ref cb_9), .val (.ref db_1)] [(.int (dl_1 >>> ((0 : Int32) &&& 31))), (.int (dl_1 >>> ((0 : Int32) &&& 31)))])
  refine own_icmpY X27 hx 72 (hb hby at_67) (teq (rfl : (dl_1 >>> ((0 : Int32) &&& 31)) = (dl_1 >>> ((0 : Int32) &&& 31)))).1 (by decide) (by decide) ?_
  refine own_aload X27 hx 74 rfl (hb hby at_72) rfl rfl ?_
  refine own_aload X27 hx 76 rfl (hb hby at_74) rfl rfl ?_
  obtain ⟨cq28, kq28, q28a, q28b, q28c⟩ := isOf hZ9 eh27 f19
  obtain ⟨_, _, ⟨T28, L28, k28, n28⟩, -, X28, ⟨Lc28, hQ28, l28, y28, z28⟩, st28⟩ := X27.virtualBack hx (y := (⟨"java/lang/String", "equals", "(Ljava/lang/Object;)Z"⟩ : MethodName)) (z := (⟨"java/lang/String", "equals", "(Ljava/lang/Object;)Z"⟩ : MethodName)) ho9 (mvT hZ9 (hw _ (List.mem_of_getElem? (i := 67) rfl))) (mvT hZ9 (hw _ (List.mem_of_getElem? (i := 68) rfl))) (notFace_of_selects (args := #[]) (mvT hZ9 (hw _ (List.mem_of_getElem? (i := 70) rfl)))) (mvT hZ9 (hw _ (List.mem_of_getElem? (i := 70) rfl))) (mvT hZ9 (hw _ (List.mem_of_getElem? (i := 69) rfl))) (by decide) (backOf (W := 0) (rm12 l Z a0 hw [] db_1 T9.heap n0 Z9 ) hZ9 (hw _ (List.mem_of_getElem? (i := 71) rfl)) (hw _ (List.mem_of_getElem? (i := 6) rfl)) (by decide) (by decide)) q28a q28c (g := (mkF m 76 #[.val (.int x0), .val (.int x1), .val (.int x2), .val (.int x3), .val (.ref db_1), .val (.ref cb_9), .val (.ref db_1)] [(.ref db_1), (.ref db_1)])) rfl (by rw [hml]; rfl) (Steps.refl _) (argsL := [(.ref db_1)]) (rest := []) (lenOf own_pd13 rfl) rfl (by show 2 * 0 + _ ≤ _; exact Nat.le_of_eq rfl) (hb hby at_76) (fun _ _ => ⟨rfl, eh27, (by decide : 7 + 0 ≤ _), (by decide : 39 + 0 ≤ _)⟩)
  dsimp only [Pt.U, Pt.locs, Pt.cells, Pt.slots] at X28 l28 y28 z28 st28 hQ28
  subst l28 y28 z28
  obtain ⟨rfl, N28q, eh28⟩ := hQ28
  have N28 := Fr.app N27 N28q
  refine Goes.tr st28 ?_
  show Goes p e below _ T28 (mkF m 79 #[.val (.int x0), .val (.int x1), .val (.int x2), .val (.int x3), .val (.ref db_1), .val (.ref cb_9), .val (.ref db_1)] [(.int (1 : Int32))])
  refine own_ifY X28 hx 84 (hb hby at_79) ((if0 _ _).trans (feq ((by decide) : ¬ ((1 : Int32) = (0 : Int32)))).2) (by decide) (by decide) ?_
  obtain ⟨T29, X29, e29, st29⟩ := getS2 X28 hx hZ9 ho9 (host := "") (Or.inl (hw _ (List.mem_of_getElem? (i := 44) rfl))) Via.refl eh28 f16 (g := (mkF m 84 #[.val (.int x0), .val (.int x1), .val (.int x2), .val (.int x3), .val (.ref db_1), .val (.ref cb_9), .val (.ref db_1)] [])) rfl (hb hby at_84)
  refine Goes.go st29 ?_
  show Goes p e below _ T29 (mkF m 87 #[.val (.int x0), .val (.int x1), .val (.int x2), .val (.int x3), .val (.ref db_1), .val (.ref cb_9), .val (.ref db_1)] [(.ref z_CAPTURED)])
  obtain ⟨cq30, kq30, q30a, q30b, q30c⟩ := isOf hZ9 e29 f17
  obtain ⟨_, _, ⟨T30, L30, k30, n30⟩, -, X30, ⟨Lc30, hQ30, l30, y30, z30⟩, st30⟩ := X29.virtualBack hx (y := (⟨"com/example/narrow_gate/narrowgate/model/Capture", "isCaptured", "()Z"⟩ : MethodName)) (z := (⟨"com/example/narrow_gate/narrowgate/model/Capture", "isCaptured", "()Z"⟩ : MethodName)) ho9 (mvT hZ9 (hw _ (List.mem_of_getElem? (i := 46) rfl))) (mvT hZ9 (hw _ (List.mem_of_getElem? (i := 47) rfl))) (notFace_of_selects (args := #[]) (mvT hZ9 (hw _ (List.mem_of_getElem? (i := 49) rfl)))) (mvT hZ9 (hw _ (List.mem_of_getElem? (i := 49) rfl))) (mvT hZ9 (hw _ (List.mem_of_getElem? (i := 48) rfl))) (by decide) (backOf (W := 0) (rmis1 l Z a0 hw [] z_CAPTURED T9.heap n0 Z9 f18) hZ9 (hw _ (List.mem_of_getElem? (i := 50) rfl)) (hw _ (List.mem_of_getElem? (i := 28) rfl)) (by decide) (by decide)) q30a q30c (g := (mkF m 87 #[.val (.int x0), .val (.int x1), .val (.int x2), .val (.int x3), .val (.ref db_1), .val (.ref cb_9), .val (.ref db_1)] [(.ref z_CAPTURED)])) rfl (by rw [hml]; rfl) (Steps.refl _) (argsL := []) (rest := []) (lenOf own_pd10 rfl) rfl (by show 2 * 0 + _ ≤ _; exact Nat.le_of_eq rfl) (hb hby at_87) (fun _ _ => ⟨rfl, e29, (by decide : 7 + 0 ≤ _), (by decide : 39 + 0 ≤ _)⟩)
  dsimp only [Pt.U, Pt.locs, Pt.cells, Pt.slots] at X30 l30 y30 z30 st30 hQ30
  subst l30 y30 z30
  obtain ⟨rfl, N30q, eh30⟩ := hQ30
  have N30 := Fr.app N28 N30q
  refine Goes.tr st30 ?_
  show Goes p e below _ T30 (mkF m 90 #[.val (.int x0), .val (.int x1), .val (.int x2), .val (.int x3), .val (.ref db_1), .val (.ref cb_9), .val (.ref db_1)] [(.int (1 : Int32))])
  refine own_retWZ X30 hx hS9 hlk Bd.returns (by decide) (hb hby at_90) (by decide) (by decide) eh30 (Nat.le_refl T9.heap.size) ?_
  exact ⟨rfl, N30⟩
set_option maxRecDepth 65536 in
set_option maxHeartbeats 40000000 in
theorem comes_1 {Post : Tables → Env → Array Value → State → Outcome → State → Prop} (hpost : ∀ tb e args s v u, (limb_1_1.after args s (.returned v) u = true ∧ limb_1_2.after args s (.returned v) u = true ∧ True) → ReturnedEndW s (.returned v) u (Jvm.fieldLocs frame_1_writes args s ++ Jvm.arrayLocs frame_1_arrays args s ++ Jvm.staticLocs frame_1_statics s) 24 2176 → Post tb e args s (.returned v) u) :
    ArmFor flags0 classFile x code maxLocals ret World_1 tables_1 room_1 Calls_1 rest_1 Pre_1 Post := by
  intro l hfl _ _ p e ha hc hk s m args below hf hA hF happ hP
  obtain ⟨hcalls, hrest, hpre⟩ := hP
  obtain ⟨-, -, -, hnamed, -, -, -, hat⟩ := (Spec.applies_iff hf).mp happ
  obtain ⟨hg, hn⟩ := and_e (Cond.before_iff.mp (show (Jvm.Cond.and given_1 narrow_1).before args s = true from hpre))
  obtain ⟨gg1, gg2⟩ := and_e hg
  obtain ⟨gg3, gg4⟩ := and_e gg2
  obtain ⟨gg5, gg6⟩ := and_e gg4
  obtain ⟨gg7, gg8⟩ := and_e gg6
  obtain ⟨w0, w1, w2, w3, rfl⟩ : ∃ w0 w1 w2 w3 : Value, args = #[w0, w1, w2, w3] := by
    have hs : args.size = 4 := by simpa [Cond.value, given_1] using gg1
    obtain ⟨L⟩ := args
    match L, hs with
    | [w0, w1, w2, w3], _ => exact ⟨w0, w1, w2, w3, rfl⟩
  have hw := fun d (hd : d ∈ tables_1) => atoms_spec (ws := Jvm.Cond.code x code maxLocals ret :: tables_1) hat d (List.mem_cons_of_mem _ hd)
  have hfit : Fit s := fun {y c} hc i hi => by
    obtain ⟨ha, rfl⟩ := Array.getElem?_eq_some_iff.mp hc
    have q := List.all_eq_true.mp ((Array.all_eq_true_iff_forall_mem.mp hF) _ (Array.getElem_mem ha)) i (List.mem_range.mpr hi)
    simpa [Array.getElem?_eq_getElem hi] using q
  obtain ⟨i0, ei0⟩ := is_v gg3
  obtain rfl : w0 = (.int i0) := Option.some.inj ei0
  obtain ⟨i1, ei1⟩ := is_v gg5
  obtain rfl : w1 = (.int i1) := Option.some.inj ei1
  obtain ⟨i2, ei2⟩ := is_v gg7
  obtain rfl : w2 = (.int i2) := Option.some.inj ei2
  obtain ⟨i3, ei3⟩ := is_v gg8
  obtain rfl : w3 = (.int i3) := Option.some.inj ei3
  obtain ⟨hsets, hown0⟩ := atoms_of _ (rest_1_c_eq ▸ (show rest_1_c.before _ s = true from hrest))
  obtain ⟨cs, evc⟩ := is_v (Cond.before_iff.mp (hsets _ (List.mem_of_getElem? (i := 1) rfl)))
  have Sc := Sta.start evc (Or.inl (hsets _ (List.mem_of_getElem? (i := 0) rfl)))
  have hcs := own_nz evc (hsets _ (List.mem_of_getElem? (i := 2) rfl))
  obtain ⟨nn1, nn2⟩ := and_e hn
  obtain ⟨z_CAPTURED, ev_z_CAPTURED⟩ := exa_v nn1
  have S_z_CAPTURED := Sta.start ev_z_CAPTURED (Or.inr ⟨(hw _ (List.mem_of_getElem? (i := 28) rfl)), (hw _ (List.mem_of_getElem? (i := 45) rfl))⟩)
  have E_z_CAPTURED := Exa.start ev_z_CAPTURED nn1
  have O_declineReason_z_CAPTURED := Fld.start (own_fldv ev_z_CAPTURED null_at nn2)
  have hemp : Jvm.Lit.constHeld s "java/lang/String" 7 := hcalls.1 ("java/lang/String", 7) (by simp [consts_1])
  have hcw : Jvm.Lit.compactW.before _ s = true := (hsets _ (List.mem_of_getElem? (i := 2) rfl))
  obtain ⟨n, o, h1, h2, h3, _, L, rfl, ⟨rfl, N⟩, hq⟩ := rm0 l s _ hw tables_1 i0 i1 i2 i3 cs z_CAPTURED s.heap s.heap.size (Nat.le_refl _) Sc hcs (Old.start s) hemp hcw S_z_CAPTURED E_z_CAPTURED O_declineReason_z_CAPTURED p e ha hc hk s m _ below hf ((Spec.applies_iff_loose hf).mp happ).1 ⟨rfl, State.Warmed39.refl s, rfl, IB.start⟩ trivial
  refine ⟨n, _, h1, h2, h3, hpost _ _ _ _ _ _ ⟨Cond.after_iff.mpr rfl, Cond.after_iff.mpr (eq_i res_at (Term.int_eval (1)) rfl), trivial⟩ ⟨hq.1, hq.2.1, hq.2.2.1, (hq.2.2.2.sift fun y hy => Or.inr (N y hy)).mono (by decide) (by decide)⟩⟩
theorem main_1_1 : Claimed_1_1 := comes_1 fun _ _ _ _ _ _ h hF => ⟨h.1, hF⟩
theorem main_1_2 : Claimed_1_2 := comes_1 fun _ _ _ _ _ _ h hF => ⟨h.2.1, hF⟩
end Jvm.Pilot.@@N@@
namespace Jvm.Pilot.@@N@@
open Jvm Jvm.ClassFile Sem Op Lib Jvm.Free Jvm.Stand Jvm.Pilot.@@N@@.Jvm.D
/-! MADE BY PROGRAM (witnessworld.py) out of the Statement's table words and the real class files: 21 classes; the members and pool entries that the words name. The judged class is class 1, her method 2. -/
namespace start1
open Jvm.ClassFile
def u (s : String) : CpInfo := .utf8 (stringToUtf16 s)
/-- a pool by its gaps: so many unusable entries, then the entry; so many at the end -/
def gap : Nat → List CpInfo → List CpInfo
  | 0, r => r
  | n + 1, r => .unusable :: gap n r
def poolList (es : List (Nat × CpInfo)) (last : Nat) : List CpInfo := es.foldr (fun e r => gap e.1 (e.2 :: r)) (gap last [])
def pool (es : List (Nat × CpInfo)) (last : Nat) : Array CpInfo := ⟨poolList es last⟩
def fileOf (pool : Array CpInfo) (this : Nat) (attrs : Array Attribute := #[]) (ms : Array MethodInfo := #[]) (fl : Nat := 33) (sup : Nat := 0) (ifs : Array Nat := #[]) (fds : Array FieldInfo := #[]) : ClassFile where
  minorVersion := 0
  majorVersion := 65
  constantPool := pool
  accessFlags := fl
  thisClass := this
  superClass := sup
  interfaces := ifs
  fields := fds
  methods := ms
  attributes := attrs
def plain (name : String) (sup : Option ClassId) : Class where
  name := name
  kind := .ordinary
  loader := none
  accessFlags := 33
  super := sup
  interfaces := #[]
  cf := none
  fields := #[]
  methods := #[]
  instanceTypes := #[]
  staticTypes := #[]
  resolved := #[]
  callSites := []
  init := .initialized
  statics := none
  mirror := none

def pool0 : Array CpInfo := pool [(5, u "<init>"), (0, u "()V"), (1, .class_ 10), (1, u "java/lang/Object")] 113

def k0c0 : Code := { maxStack := 0, maxLocals := 1, code := object_method_1_code, exceptionTable := #[], attributes := #[] }
def k0m0 : Method := { name := "<init>", desc := "()V", sig := { parameters := [], returnType := none }, accessFlags := 1, code := some k0c0 }
/-- java/lang/Object -/
def k0 : Class := { plain "java/lang/Object" none with
  accessFlags := 33
  interfaces := #[]
  cf := some (fileOf pool0 8 #[] #[{ accessFlags := 1, nameIndex := 5, descriptorIndex := 6, attributes := #[] }] 33 0 #[] #[])
  fields := #[]
  methods := #[k0m0]
  instanceTypes := #[]
  staticTypes := #[]
  resolved := Array.replicate 124 none
  statics := none }

def pool1 : Array CpInfo := pool [(2, .class_ 4), (1, u "java/lang/Object"), (0, u "<init>"), (0, u "()V"), (0, .class_ 8), (0, u "java/lang/String"), (0, .methodref 7 10), (0, .nameAndType 5 11), (0, u "([C)V"), (0, .methodref 13 14), (0, .class_ 15), (0, .nameAndType 16 17), (0, u "com/example/narrow_gate/narrowgate/model/CaptureDeclinedPinLaw"), (0, u "draw"), (0, u "(IIII)Ljava/lang/String;"), (0, .methodref 19 20), (0, .class_ 21), (0, .nameAndType 22 23), (0, u "com/example/narrow_gate/narrowgate/model/Capture"), (0, u "declined"), (0, u "(Ljava/lang/String;)Lcom/example/narrow_gate/narrowgate/model/Capture;"), (0, .fieldref 19 25), (0, .nameAndType 26 27), (0, u "CAPTURED"), (0, u "Lcom/example/narrow_gate/narrowgate/model/Capture;"), (0, .methodref 19 29), (0, .nameAndType 30 31), (0, u "isCaptured"), (0, u "()Z"), (0, .methodref 19 33), (0, .nameAndType 34 35), (0, u "getDeclineReason"), (0, u "()Ljava/lang/String;"), (0, .methodref 7 37), (0, .nameAndType 38 39), (0, u "length"), (0, u "()I"), (0, .methodref 7 41), (0, .nameAndType 42 43), (0, u "equals"), (0, u "(Ljava/lang/Object;)Z"), (3, u "law"), (0, u "(IIII)Z")] 2

def k1m0 : Method := { name := "<init>", desc := "()V", sig := { parameters := [], returnType := none }, accessFlags := 1, code := none }
def k1c1 : Code := { maxStack := 6, maxLocals := 8, code := method_2_code, exceptionTable := #[], attributes := #[] }
def k1m1 : Method := { name := "draw", desc := "(IIII)Ljava/lang/String;", sig := { parameters := [.int, .int, .int, .int], returnType := some (.object "java/lang/String") }, accessFlags := 10, code := some k1c1 }
def k1c2 : Code := { maxStack := 4, maxLocals := 7, code := code, exceptionTable := #[], attributes := #[] }
def k1m2 : Method := { name := "law", desc := "(IIII)Z", sig := { parameters := [.int, .int, .int, .int], returnType := some .boolean }, accessFlags := 9, code := some k1c2 }
/-- com/example/narrow_gate/narrowgate/model/CaptureDeclinedPinLaw -/
def k1 : Class := { plain "com/example/narrow_gate/narrowgate/model/CaptureDeclinedPinLaw" (some 0) with
  accessFlags := 49
  interfaces := #[]
  cf := some (fileOf pool1 13 #[] #[{ accessFlags := 1, nameIndex := 5, descriptorIndex := 6, attributes := #[] }, { accessFlags := 10, nameIndex := 16, descriptorIndex := 17, attributes := #[] }, { accessFlags := 9, nameIndex := 47, descriptorIndex := 48, attributes := #[] }] 49 2 #[] #[])
  fields := #[]
  methods := #[k1m0, k1m1, k1m2]
  instanceTypes := #[]
  staticTypes := #[]
  resolved := Array.replicate 51 none
  statics := none }

def pool2 : Array CpInfo := pool [(1, .class_ 2), (0, u "java/io/Serializable"), (0, .class_ 4), (0, u "java/lang/Object")] 2

/-- java/io/Serializable -/
def k2 : Class := { plain "java/io/Serializable" (some 0) with
  accessFlags := 1537
  interfaces := #[]
  cf := some (fileOf pool2 1 #[] #[] 1537 3 #[] #[])
  fields := #[]
  methods := #[]
  instanceTypes := #[]
  staticTypes := #[]
  resolved := Array.replicate 7 none
  statics := none }

def pool3 : Array CpInfo := pool [(1, .class_ 2), (0, u "java/lang/Comparable"), (0, .class_ 4), (0, u "java/lang/Object")] 7

/-- java/lang/Comparable -/
def k3 : Class := { plain "java/lang/Comparable" (some 0) with
  accessFlags := 1537
  interfaces := #[]
  cf := some (fileOf pool3 1 #[] #[] 1537 3 #[] #[])
  fields := #[]
  methods := #[]
  instanceTypes := #[]
  staticTypes := #[]
  resolved := Array.replicate 12 none
  statics := none }

def pool4 : Array CpInfo := pool [(2, .class_ 4), (1, u "java/lang/CharSequence"), (42, .class_ 48), (0, u "java/lang/CharSequence$1CodePointIterator"), (10, .class_ 60), (0, u "java/lang/CharSequence$1CharIterator"), (5, .class_ 67), (0, u "java/lang/Object")] 63

/-- java/lang/CharSequence -/
def k4 : Class := { plain "java/lang/CharSequence" (some 0) with
  accessFlags := 1537
  interfaces := #[]
  cf := some (fileOf pool4 2 #[.nestMembers #[47, 59]] #[] 1537 66 #[] #[])
  fields := #[]
  methods := #[]
  instanceTypes := #[]
  staticTypes := #[]
  resolved := Array.replicate 131 none
  statics := none }

def pool5 : Array CpInfo := pool [(1, .class_ 2), (0, u "java/lang/constant/Constable"), (0, .class_ 4), (0, u "java/lang/Object")] 6

/-- java/lang/constant/Constable -/
def k5 : Class := { plain "java/lang/constant/Constable" (some 0) with
  accessFlags := 1537
  interfaces := #[]
  cf := some (fileOf pool5 1 #[] #[] 1537 3 #[] #[])
  fields := #[]
  methods := #[]
  instanceTypes := #[]
  staticTypes := #[]
  resolved := Array.replicate 11 none
  statics := none }

def pool6 : Array CpInfo := pool [(1, .class_ 2), (0, u "java/lang/constant/ConstantDesc"), (0, .class_ 4), (0, u "java/lang/Object")] 32

/-- java/lang/constant/ConstantDesc -/
def k6 : Class := { plain "java/lang/constant/ConstantDesc" (some 0) with
  accessFlags := 1537
  interfaces := #[]
  cf := some (fileOf pool6 1 #[] #[] 1537 3 #[] #[])
  fields := #[]
  methods := #[]
  instanceTypes := #[]
  staticTypes := #[]
  resolved := Array.replicate 37 none
  statics := none }

def pool7 : Array CpInfo := pool [(1, .methodref 2 3), (0, .class_ 4), (0, .nameAndType 5 6), (0, u "java/lang/Object"), (0, u "<init>"), (0, u "()V"), (0, .string 8), (0, u ""), (0, .fieldref 10 11), (0, .class_ 12), (0, .nameAndType 13 14), (0, u "java/lang/String"), (0, u "value"), (0, u "[B"), (0, .fieldref 10 16), (0, .nameAndType 17 18), (0, u "coder"), (0, u "B"), (2, u "hash"), (0, u "I"), (2, u "hashIsZero"), (0, u "Z"), (0, .methodref 10 28), (0, .nameAndType 5 29), (0, u "([CIILjava/lang/Void;)V"), (8, .fieldref 10 39), (0, .nameAndType 40 26), (0, u "COMPACT_STRINGS"), (1, .class_ 44), (1, u "java/lang/StringUTF16"), (0, u "compress"), (1, .methodref 42 48), (0, .nameAndType 49 50), (0, u "coderFromArrayLen"), (0, u "([BI)B"), (126, .methodref 42 178), (0, .nameAndType 45 179), (0, u "([CII)[B"), (154, u "()I"), (0, .methodref 10 336), (0, .nameAndType 17 337), (0, u "()B"), (169, u "length"), (35, u "equals"), (29, u "(Ljava/lang/Object;)Z"), (1, .class_ 576), (0, u "java/lang/CharSequence"), (22, u "CASE_INSENSITIVE_ORDER"), (0, u "Ljava/util/Comparator;"), (409, u "([C)V"), (90, u "serialPersistentFields"), (0, u "[Ljava/io/ObjectStreamField;"), (0, .class_ 1104), (0, u "java/lang/String$CaseInsensitiveComparator"), (1, .class_ 1107), (0, u "java/io/Serializable"), (0, .class_ 1109), (0, u "java/lang/Comparable"), (0, .class_ 1111), (0, u "java/lang/constant/Constable"), (0, .class_ 1113), (0, u "java/lang/constant/ConstantDesc"), (2, u "serialVersionUID"), (0, u "J"), (3, u "REPL"), (0, u "C"), (2, u "LATIN1"), (1, u "UTF16")] 323

def k7m0 : Method := { name := "<init>", desc := "()V", sig := { parameters := [], returnType := none }, accessFlags := 1, code := none }
def k7c1 : Code := { maxStack := 5, maxLocals := 2, code := jdk_42_method_3_code, exceptionTable := #[], attributes := #[] }
def k7m1 : Method := { name := "<init>", desc := "([C)V", sig := { parameters := [(.array .char)], returnType := none }, accessFlags := 1, code := some k7c1 }
def k7c2 : Code := { maxStack := 2, maxLocals := 1, code := jdk_42_method_54_code, exceptionTable := #[], attributes := #[] }
def k7m2 : Method := { name := "length", desc := "()I", sig := { parameters := [], returnType := some .int }, accessFlags := 1, code := some k7c2 }
def k7c3 : Code := { maxStack := 2, maxLocals := 3, code := jdk_42_method_66_code, exceptionTable := #[], attributes := #[] }
def k7m3 : Method := { name := "equals", desc := "(Ljava/lang/Object;)Z", sig := { parameters := [(.object "java/lang/Object")], returnType := some .boolean }, accessFlags := 1, code := some k7c3 }
def k7c4 : Code := { maxStack := 4, maxLocals := 6, code := jdk_42_method_149_code, exceptionTable := #[], attributes := #[] }
def k7m4 : Method := { name := "<init>", desc := "([CIILjava/lang/Void;)V", sig := { parameters := [(.array .char), .int, .int, (.object "java/lang/Void")], returnType := none }, accessFlags := 2, code := some k7c4 }
def k7c5 : Code := { maxStack := 1, maxLocals := 1, code := jdk_42_method_152_code, exceptionTable := #[], attributes := #[] }
def k7m5 : Method := { name := "coder", desc := "()B", sig := { parameters := [], returnType := some .byte }, accessFlags := 0, code := some k7c5 }
/-- java/lang/String -/
def k7 : Class := { plain "java/lang/String" (some 0) with
  accessFlags := 49
  interfaces := #[2, 3, 4, 5, 6]
  cf := some (fileOf pool7 10 #[.nestMembers #[1103]] #[{ accessFlags := 1, nameIndex := 5, descriptorIndex := 6, attributes := #[] }, { accessFlags := 1, nameIndex := 5, descriptorIndex := 1010, attributes := #[] }, { accessFlags := 1, nameIndex := 507, descriptorIndex := 334, attributes := #[] }, { accessFlags := 1, nameIndex := 543, descriptorIndex := 573, attributes := #[] }, { accessFlags := 2, nameIndex := 5, descriptorIndex := 29, attributes := #[] }, { accessFlags := 0, nameIndex := 17, descriptorIndex := 337, attributes := #[] }] 49 2 #[1106, 1108, 575, 1110, 1112] #[{ accessFlags := 18, nameIndex := 13, descriptorIndex := 14, attributes := #[] }, { accessFlags := 18, nameIndex := 17, descriptorIndex := 18, attributes := #[] }, { accessFlags := 2, nameIndex := 21, descriptorIndex := 22, attributes := #[] }, { accessFlags := 2, nameIndex := 25, descriptorIndex := 26, attributes := #[] }, { accessFlags := 26, nameIndex := 1116, descriptorIndex := 1117, attributes := #[] }, { accessFlags := 24, nameIndex := 40, descriptorIndex := 26, attributes := #[] }, { accessFlags := 26, nameIndex := 1101, descriptorIndex := 1102, attributes := #[] }, { accessFlags := 26, nameIndex := 1121, descriptorIndex := 1122, attributes := #[] }, { accessFlags := 25, nameIndex := 599, descriptorIndex := 600, attributes := #[] }, { accessFlags := 24, nameIndex := 1125, descriptorIndex := 18, attributes := #[] }, { accessFlags := 24, nameIndex := 1127, descriptorIndex := 18, attributes := #[] }])
  fields := #[{ name := "value", type := (.array .byte), accessFlags := 18, slot := 0, constantValue := 0 }, { name := "coder", type := .byte, accessFlags := 18, slot := 1, constantValue := 0 }, { name := "hash", type := .int, accessFlags := 2, slot := 2, constantValue := 0 }, { name := "hashIsZero", type := .boolean, accessFlags := 2, slot := 3, constantValue := 0 }, { name := "serialVersionUID", type := .long, accessFlags := 26, slot := 0, constantValue := 0 }, { name := "COMPACT_STRINGS", type := .boolean, accessFlags := 24, slot := 1, constantValue := 0 }, { name := "serialPersistentFields", type := (.array (.object "java/io/ObjectStreamField")), accessFlags := 26, slot := 2, constantValue := 0 }, { name := "REPL", type := .char, accessFlags := 26, slot := 3, constantValue := 0 }, { name := "CASE_INSENSITIVE_ORDER", type := (.object "java/util/Comparator"), accessFlags := 25, slot := 4, constantValue := 0 }, { name := "LATIN1", type := .byte, accessFlags := 24, slot := 5, constantValue := 0 }, { name := "UTF16", type := .byte, accessFlags := 24, slot := 6, constantValue := 0 }]
  methods := #[k7m0, k7m1, k7m2, k7m3, k7m4, k7m5]
  instanceTypes := #[(.array .byte), .byte, .int, .boolean]
  staticTypes := #[.long, .boolean, (.array (.object "java/io/ObjectStreamField")), .char, (.object "java/util/Comparator"), .byte, .byte]
  resolved := Array.replicate 1451 none
  statics := some 0 }

def pool8 : Array CpInfo := pool [(1, .methodref 2 3), (0, .class_ 4), (0, .nameAndType 5 6), (0, u "java/lang/Object"), (0, u "<init>"), (0, u "()V"), (0, .fieldref 8 9), (0, .class_ 10), (0, .nameAndType 11 12), (0, u "com/example/narrow_gate/narrowgate/model/Capture"), (0, u "declineReason"), (0, u "Ljava/lang/String;"), (0, .string 14), (0, u "reason"), (0, .methodref 16 17), (0, .class_ 18), (0, .nameAndType 19 20), (0, u "java/util/Objects"), (0, u "requireNonNull"), (0, u "(Ljava/lang/Object;Ljava/lang/String;)Ljava/lang/Object;"), (0, .class_ 22), (0, u "java/lang/String"), (0, .methodref 8 24), (0, .nameAndType 5 25), (0, u "(Ljava/lang/String;)V"), (7, u "CAPTURED"), (0, u "Lcom/example/narrow_gate/narrowgate/model/Capture;"), (2, u "declined"), (0, u "(Ljava/lang/String;)Lcom/example/narrow_gate/narrowgate/model/Capture;"), (0, u "isCaptured"), (0, u "()Z"), (1, u "getDeclineReason"), (0, u "()Ljava/lang/String;")] 3

def k8c0 : Code := { maxStack := 2, maxLocals := 2, code := prog_1_method_1_code, exceptionTable := #[], attributes := #[] }
def k8m0 : Method := { name := "<init>", desc := "(Ljava/lang/String;)V", sig := { parameters := [(.object "java/lang/String")], returnType := none }, accessFlags := 2, code := some k8c0 }
def k8c1 : Code := { maxStack := 4, maxLocals := 1, code := prog_1_method_2_code, exceptionTable := #[], attributes := #[] }
def k8m1 : Method := { name := "declined", desc := "(Ljava/lang/String;)Lcom/example/narrow_gate/narrowgate/model/Capture;", sig := { parameters := [(.object "java/lang/String")], returnType := some (.object "com/example/narrow_gate/narrowgate/model/Capture") }, accessFlags := 9, code := some k8c1 }
def k8c2 : Code := { maxStack := 1, maxLocals := 1, code := prog_1_method_3_code, exceptionTable := #[], attributes := #[] }
def k8m2 : Method := { name := "isCaptured", desc := "()Z", sig := { parameters := [], returnType := some .boolean }, accessFlags := 1, code := some k8c2 }
def k8c3 : Code := { maxStack := 3, maxLocals := 1, code := prog_1_method_4_code, exceptionTable := #[], attributes := #[] }
def k8m3 : Method := { name := "getDeclineReason", desc := "()Ljava/lang/String;", sig := { parameters := [], returnType := some (.object "java/lang/String") }, accessFlags := 1, code := some k8c3 }
/-- com/example/narrow_gate/narrowgate/model/Capture -/
def k8 : Class := { plain "com/example/narrow_gate/narrowgate/model/Capture" (some 0) with
  accessFlags := 49
  interfaces := #[]
  cf := some (fileOf pool8 8 #[] #[{ accessFlags := 2, nameIndex := 5, descriptorIndex := 25, attributes := #[] }, { accessFlags := 9, nameIndex := 37, descriptorIndex := 38, attributes := #[] }, { accessFlags := 1, nameIndex := 39, descriptorIndex := 40, attributes := #[] }, { accessFlags := 1, nameIndex := 42, descriptorIndex := 43, attributes := #[] }] 49 2 #[] #[{ accessFlags := 25, nameIndex := 33, descriptorIndex := 34, attributes := #[] }, { accessFlags := 18, nameIndex := 11, descriptorIndex := 12, attributes := #[] }])
  fields := #[{ name := "CAPTURED", type := (.object "com/example/narrow_gate/narrowgate/model/Capture"), accessFlags := 25, slot := 0, constantValue := 0 }, { name := "declineReason", type := (.object "java/lang/String"), accessFlags := 18, slot := 0, constantValue := 0 }]
  methods := #[k8m0, k8m1, k8m2, k8m3]
  instanceTypes := #[(.object "java/lang/String")]
  staticTypes := #[(.object "com/example/narrow_gate/narrowgate/model/Capture")]
  resolved := Array.replicate 47 none
  statics := some 1 }

def pool9 : Array CpInfo := pool [(2, .class_ 4), (1, u "java/lang/Object"), (0, u "<init>"), (0, u "()V"), (35, .class_ 44), (1, u "java/util/Objects"), (0, u "requireNonNull"), (48, u "(Ljava/lang/Object;Ljava/lang/String;)Ljava/lang/Object;")] 89

def k9m0 : Method := { name := "<init>", desc := "()V", sig := { parameters := [], returnType := none }, accessFlags := 2, code := none }
def k9c1 : Code := { maxStack := 3, maxLocals := 2, code := jdk_31_method_11_code, exceptionTable := #[], attributes := #[] }
def k9m1 : Method := { name := "requireNonNull", desc := "(Ljava/lang/Object;Ljava/lang/String;)Ljava/lang/Object;", sig := { parameters := [(.object "java/lang/Object"), (.object "java/lang/String")], returnType := some (.object "java/lang/Object") }, accessFlags := 9, code := some k9c1 }
/-- java/util/Objects -/
def k9 : Class := { plain "java/util/Objects" (some 0) with
  accessFlags := 49
  interfaces := #[]
  cf := some (fileOf pool9 42 #[] #[{ accessFlags := 2, nameIndex := 5, descriptorIndex := 6, attributes := #[] }, { accessFlags := 9, nameIndex := 45, descriptorIndex := 94, attributes := #[] }] 49 2 #[] #[])
  fields := #[]
  methods := #[k9m0, k9m1]
  instanceTypes := #[]
  staticTypes := #[]
  resolved := Array.replicate 184 none
  statics := none }

def pool10 : Array CpInfo := pool [(6, .class_ 8), (1, u "java/lang/Object"), (0, u "<init>"), (0, u "()V"), (1, .class_ 14), (1, u "java/lang/StringUTF16"), (31, u "$assertionsDisabled"), (0, u "Z"), (13, u "HI_BYTE_SHIFT"), (0, u "I"), (2, u "LO_BYTE_SHIFT"), (49, .methodref 12 116), (0, .nameAndType 117 118), (0, u "compress"), (0, u "([CI[BII)I"), (3, u "([CII)[B"), (138, u "coderFromArrayLen"), (0, u "([BI)B"), (106, .class_ 371), (1, u "java/lang/StringUTF16$LinesSpliterator"), (58, u "MAX_LENGTH"), (196, .class_ 628), (0, u "java/lang/StringUTF16$CodePointsSpliterator"), (0, .class_ 630), (0, u "java/lang/StringUTF16$CharsSpliterator")] 4

def k10m0 : Method := { name := "<init>", desc := "()V", sig := { parameters := [], returnType := none }, accessFlags := 0, code := none }
def k10c1 : Code := { maxStack := 2, maxLocals := 2, code := jdk_52_method_15_code, exceptionTable := #[], attributes := #[] }
def k10m1 : Method := { name := "coderFromArrayLen", desc := "([BI)B", sig := { parameters := [(.array .byte), .int], returnType := some .byte }, accessFlags := 8, code := some k10c1 }
def k10c2 : Code := { maxStack := 5, maxLocals := 6, code := jdk_52_method_16_code, exceptionTable := #[], attributes := #[] }
def k10m2 : Method := { name := "compress", desc := "([CII)[B", sig := { parameters := [(.array .char), .int, .int], returnType := some (.array .byte) }, accessFlags := 9, code := some k10c2 }
def k10c3 : Code := { maxStack := 3, maxLocals := 7, code := jdk_52_method_21_code, exceptionTable := #[], attributes := #[] }
def k10m3 : Method := { name := "compress", desc := "([CI[BII)I", sig := { parameters := [(.array .char), .int, (.array .byte), .int, .int], returnType := some .int }, accessFlags := 9, code := some k10c3 }
/-- java/lang/StringUTF16 -/
def k10 : Class := { plain "java/lang/StringUTF16" (some 0) with
  accessFlags := 48
  interfaces := #[]
  cf := some (fileOf pool10 12 #[.nestMembers #[627, 629, 369]] #[{ accessFlags := 0, nameIndex := 9, descriptorIndex := 10, attributes := #[] }, { accessFlags := 8, nameIndex := 261, descriptorIndex := 262, attributes := #[] }, { accessFlags := 9, nameIndex := 117, descriptorIndex := 122, attributes := #[] }, { accessFlags := 9, nameIndex := 117, descriptorIndex := 118, attributes := #[] }] 48 6 #[] #[{ accessFlags := 26, nameIndex := 61, descriptorIndex := 62, attributes := #[] }, { accessFlags := 26, nameIndex := 65, descriptorIndex := 62, attributes := #[] }, { accessFlags := 24, nameIndex := 430, descriptorIndex := 62, attributes := #[] }, { accessFlags := 4120, nameIndex := 46, descriptorIndex := 47, attributes := #[] }])
  fields := #[{ name := "HI_BYTE_SHIFT", type := .int, accessFlags := 26, slot := 0, constantValue := 0 }, { name := "LO_BYTE_SHIFT", type := .int, accessFlags := 26, slot := 1, constantValue := 0 }, { name := "MAX_LENGTH", type := .int, accessFlags := 24, slot := 2, constantValue := 0 }, { name := "$assertionsDisabled", type := .boolean, accessFlags := 4120, slot := 3, constantValue := 0 }]
  methods := #[k10m0, k10m1, k10m2, k10m3]
  instanceTypes := #[]
  staticTypes := #[.int, .int, .int, .boolean]
  resolved := Array.replicate 635 none
  statics := none }

def pool11 : Array CpInfo := pool [(4, .class_ 6), (1, u "java/lang/Object"), (0, u "<init>"), (0, u "()V"), (5, .class_ 16), (1, u "java/lang/StringLatin1"), (104, u "$assertionsDisabled"), (0, u "Z"), (98, .class_ 223), (1, u "java/lang/StringLatin1$LinesSpliterator"), (166, .class_ 391), (0, u "java/lang/StringLatin1$CharsSpliterator")] 3

def k11m0 : Method := { name := "<init>", desc := "()V", sig := { parameters := [], returnType := none }, accessFlags := 0, code := none }
/-- java/lang/StringLatin1 -/
def k11 : Class := { plain "java/lang/StringLatin1" (some 0) with
  accessFlags := 48
  interfaces := #[]
  cf := some (fileOf pool11 14 #[.nestMembers #[390, 221]] #[{ accessFlags := 0, nameIndex := 7, descriptorIndex := 8, attributes := #[] }] 48 4 #[] #[{ accessFlags := 4120, nameIndex := 121, descriptorIndex := 122, attributes := #[] }])
  fields := #[{ name := "$assertionsDisabled", type := .boolean, accessFlags := 4120, slot := 0, constantValue := 0 }]
  methods := #[k11m0]
  instanceTypes := #[]
  staticTypes := #[.boolean]
  resolved := Array.replicate 395 none
  statics := none }

def pool12 : Array CpInfo := pool [(2, .class_ 4), (1, u "java/lang/Object"), (0, u "<init>"), (0, u "()V"), (17, .class_ 26), (1, u "jdk/internal/util/Preconditions"), (28, .class_ 56), (0, u "jdk/internal/util/Preconditions$4"), (57, .class_ 115), (0, u "jdk/internal/util/Preconditions$1"), (7, u "SIOOBE_FORMATTER"), (0, u "Ljava/util/function/BiFunction;"), (0, .class_ 126), (0, u "jdk/internal/util/Preconditions$2"), (3, u "AIOOBE_FORMATTER"), (0, .class_ 132), (0, u "jdk/internal/util/Preconditions$3"), (3, u "IOOBE_FORMATTER")] 57

def k12m0 : Method := { name := "<init>", desc := "()V", sig := { parameters := [], returnType := none }, accessFlags := 1, code := none }
/-- jdk/internal/util/Preconditions -/
def k12 : Class := { plain "jdk/internal/util/Preconditions" (some 0) with
  accessFlags := 33
  interfaces := #[]
  cf := some (fileOf pool12 24 #[.nestMembers #[55, 131, 125, 114]] #[{ accessFlags := 1, nameIndex := 5, descriptorIndex := 6, attributes := #[] }] 33 2 #[] #[{ accessFlags := 25, nameIndex := 123, descriptorIndex := 124, attributes := #[] }, { accessFlags := 25, nameIndex := 130, descriptorIndex := 124, attributes := #[] }, { accessFlags := 25, nameIndex := 136, descriptorIndex := 124, attributes := #[] }])
  fields := #[{ name := "SIOOBE_FORMATTER", type := (.object "java/util/function/BiFunction"), accessFlags := 25, slot := 0, constantValue := 0 }, { name := "AIOOBE_FORMATTER", type := (.object "java/util/function/BiFunction"), accessFlags := 25, slot := 1, constantValue := 0 }, { name := "IOOBE_FORMATTER", type := (.object "java/util/function/BiFunction"), accessFlags := 25, slot := 2, constantValue := 0 }]
  methods := #[k12m0]
  instanceTypes := #[]
  staticTypes := #[(.object "java/util/function/BiFunction"), (.object "java/util/function/BiFunction"), (.object "java/util/function/BiFunction")]
  resolved := Array.replicate 194 none
  statics := some 2 }

def pool13 : Array CpInfo := pool [(9, u "<init>"), (6, .class_ 18), (1, u "java/lang/Object"), (0, u "()V"), (1, .class_ 23), (1, u "jdk/internal/util/ArraysSupport"), (0, u "LOG2_ARRAY_LONG_INDEX_SCALE"), (0, u "I"), (2, u "U"), (0, u "Ljdk/internal/misc/Unsafe;"), (8, u "BIG_ENDIAN"), (0, u "Z"), (8, u "LOG2_BYTE_BIT_SIZE"), (4, u "LOG2_ARRAY_INT_INDEX_SCALE"), (54, u "JLA"), (0, u "Ljdk/internal/access/JavaLangAccess;"), (11, u "LOG2_ARRAY_BOOLEAN_INDEX_SCALE"), (9, u "LOG2_ARRAY_BYTE_INDEX_SCALE"), (5, u "LOG2_ARRAY_CHAR_INDEX_SCALE"), (5, u "LOG2_ARRAY_SHORT_INDEX_SCALE"), (18, u "LOG2_ARRAY_FLOAT_INDEX_SCALE"), (24, u "LOG2_ARRAY_DOUBLE_INDEX_SCALE"), (89, u "T_BOOLEAN"), (2, u "T_CHAR"), (1, u "T_FLOAT"), (1, u "T_DOUBLE"), (1, u "T_BYTE"), (1, u "T_SHORT"), (1, u "T_INT"), (1, u "T_LONG"), (1, u "SOFT_MAX_ARRAY_LENGTH")] 83

def k13m0 : Method := { name := "<init>", desc := "()V", sig := { parameters := [], returnType := none }, accessFlags := 2, code := none }
/-- jdk/internal/util/ArraysSupport -/
def k13 : Class := { plain "jdk/internal/util/ArraysSupport" (some 0) with
  accessFlags := 33
  interfaces := #[]
  cf := some (fileOf pool13 21 #[] #[{ accessFlags := 2, nameIndex := 9, descriptorIndex := 19, attributes := #[] }] 33 16 #[] #[{ accessFlags := 24, nameIndex := 28, descriptorIndex := 29, attributes := #[] }, { accessFlags := 26, nameIndex := 38, descriptorIndex := 39, attributes := #[] }, { accessFlags := 25, nameIndex := 121, descriptorIndex := 25, attributes := #[] }, { accessFlags := 25, nameIndex := 131, descriptorIndex := 25, attributes := #[] }, { accessFlags := 25, nameIndex := 137, descriptorIndex := 25, attributes := #[] }, { accessFlags := 25, nameIndex := 143, descriptorIndex := 25, attributes := #[] }, { accessFlags := 25, nameIndex := 53, descriptorIndex := 25, attributes := #[] }, { accessFlags := 25, nameIndex := 24, descriptorIndex := 25, attributes := #[] }, { accessFlags := 25, nameIndex := 162, descriptorIndex := 25, attributes := #[] }, { accessFlags := 25, nameIndex := 187, descriptorIndex := 25, attributes := #[] }, { accessFlags := 26, nameIndex := 48, descriptorIndex := 25, attributes := #[] }, { accessFlags := 25, nameIndex := 277, descriptorIndex := 25, attributes := #[] }, { accessFlags := 25, nameIndex := 280, descriptorIndex := 25, attributes := #[] }, { accessFlags := 25, nameIndex := 282, descriptorIndex := 25, attributes := #[] }, { accessFlags := 25, nameIndex := 284, descriptorIndex := 25, attributes := #[] }, { accessFlags := 25, nameIndex := 286, descriptorIndex := 25, attributes := #[] }, { accessFlags := 25, nameIndex := 288, descriptorIndex := 25, attributes := #[] }, { accessFlags := 25, nameIndex := 290, descriptorIndex := 25, attributes := #[] }, { accessFlags := 25, nameIndex := 292, descriptorIndex := 25, attributes := #[] }, { accessFlags := 26, nameIndex := 108, descriptorIndex := 109, attributes := #[] }, { accessFlags := 25, nameIndex := 294, descriptorIndex := 25, attributes := #[] }])
  fields := #[{ name := "U", type := (.object "jdk/internal/misc/Unsafe"), accessFlags := 24, slot := 0, constantValue := 0 }, { name := "BIG_ENDIAN", type := .boolean, accessFlags := 26, slot := 1, constantValue := 0 }, { name := "LOG2_ARRAY_BOOLEAN_INDEX_SCALE", type := .int, accessFlags := 25, slot := 2, constantValue := 0 }, { name := "LOG2_ARRAY_BYTE_INDEX_SCALE", type := .int, accessFlags := 25, slot := 3, constantValue := 0 }, { name := "LOG2_ARRAY_CHAR_INDEX_SCALE", type := .int, accessFlags := 25, slot := 4, constantValue := 0 }, { name := "LOG2_ARRAY_SHORT_INDEX_SCALE", type := .int, accessFlags := 25, slot := 5, constantValue := 0 }, { name := "LOG2_ARRAY_INT_INDEX_SCALE", type := .int, accessFlags := 25, slot := 6, constantValue := 0 }, { name := "LOG2_ARRAY_LONG_INDEX_SCALE", type := .int, accessFlags := 25, slot := 7, constantValue := 0 }, { name := "LOG2_ARRAY_FLOAT_INDEX_SCALE", type := .int, accessFlags := 25, slot := 8, constantValue := 0 }, { name := "LOG2_ARRAY_DOUBLE_INDEX_SCALE", type := .int, accessFlags := 25, slot := 9, constantValue := 0 }, { name := "LOG2_BYTE_BIT_SIZE", type := .int, accessFlags := 26, slot := 10, constantValue := 0 }, { name := "T_BOOLEAN", type := .int, accessFlags := 25, slot := 11, constantValue := 0 }, { name := "T_CHAR", type := .int, accessFlags := 25, slot := 12, constantValue := 0 }, { name := "T_FLOAT", type := .int, accessFlags := 25, slot := 13, constantValue := 0 }, { name := "T_DOUBLE", type := .int, accessFlags := 25, slot := 14, constantValue := 0 }, { name := "T_BYTE", type := .int, accessFlags := 25, slot := 15, constantValue := 0 }, { name := "T_SHORT", type := .int, accessFlags := 25, slot := 16, constantValue := 0 }, { name := "T_INT", type := .int, accessFlags := 25, slot := 17, constantValue := 0 }, { name := "T_LONG", type := .int, accessFlags := 25, slot := 18, constantValue := 0 }, { name := "JLA", type := (.object "jdk/internal/access/JavaLangAccess"), accessFlags := 26, slot := 19, constantValue := 0 }, { name := "SOFT_MAX_ARRAY_LENGTH", type := .int, accessFlags := 25, slot := 20, constantValue := 0 }]
  methods := #[k13m0]
  instanceTypes := #[]
  staticTypes := #[(.object "jdk/internal/misc/Unsafe"), .boolean, .int, .int, .int, .int, .int, .int, .int, .int, .int, .int, .int, .int, .int, .int, .int, .int, .int, (.object "jdk/internal/access/JavaLangAccess"), .int]
  resolved := Array.replicate 378 none
  statics := none }

def pool14 : Array CpInfo := pool [(1, u "java/lang/Cloneable"), (0, .class_ 1), (0, u "java/lang/Object"), (0, .class_ 3)] 3

/-- java/lang/Cloneable -/
def k14 : Class := { plain "java/lang/Cloneable" (some 0) with
  accessFlags := 1537
  interfaces := #[]
  cf := some (fileOf pool14 2 #[] #[] 1537 4 #[] #[])
  fields := #[]
  methods := #[]
  instanceTypes := #[]
  staticTypes := #[]
  resolved := Array.replicate 8 none
  statics := none }

/-- the primitive byte -/
def k15 : Class := { plain "byte" none with kind := .primitive 'B', accessFlags := 0x411 }
/-- [B -/
def k16 : Class := { plain "[B" (some 0) with kind := .array 15 .byte, interfaces := #[14, 2], accessFlags := 1041 }

/-- the primitive char -/
def k17 : Class := { plain "char" none with kind := .primitive 'C', accessFlags := 0x411 }
/-- [C -/
def k18 : Class := { plain "[C" (some 0) with kind := .array 17 .char, interfaces := #[14, 2], accessFlags := 1041 }

/-- the primitive int -/
def k19 : Class := { plain "int" none with kind := .primitive 'I', accessFlags := 0x411 }
/-- [I -/
def k20 : Class := { plain "[I" (some 0) with kind := .array 19 .int, interfaces := #[14, 2], accessFlags := 1041 }

def heap : Heap := #[{ cls := 7, slots := #[.long 0, .int 1, .null, .int 0, .null, .int 0, .int 0], vm := .statics 7 },
  { cls := 8, slots := #[.ref 3], vm := .statics 8 },
  { cls := 12, slots := #[.null, .null, .null], vm := .statics 12 },
  { cls := 8, slots := #[.null], vm := .none }]
def classes : Array Class := #[k0, k1, k2, k3, k4, k5, k6, k7, k8, k9, k10, k11, k12, k13, k14, k15, k16, k17, k18, k19, k20]
def interned : List (Array UInt16 × Addr) := []
def slotsUsed : Nat := 12
def theMethod : MethodId := ⟨1, 2⟩
def args0 : Array Value := #[.int 65, .int 66, .int 67, .int 68]
def aboutOver (below : List Frame) : State where
  vm := { classes := classes, interned := interned.toArray }
  heap := heap
  slotsUsed := slotsUsed
  threads := #[{ frames := .invoking theMethod args0 :: below }]
def below0 : List Frame := [.native { method := ⟨0, 0⟩, args := #[] }]
def about1 : State := aboutOver below0
def p0 : Program := .bare "" "" ""
def e0 : Env := launch0.env 0 0 0
theorem w_frames : about1.frames = Frame.invoking theMethod args0 :: below0 := rfl
set_option maxRecDepth 65536 in
theorem w_args : argsFit about1.vm theMethod args0 = true := by decide +kernel
set_option maxRecDepth 65536 in
theorem w_heap : heapFits about1 = true := by decide +kernel
set_option maxRecDepth 65536 in
theorem w_runnable : about1.curStatus? = some .runnable := by decide +kernel
set_option maxRecDepth 65536 in
theorem w_alone : about1.alone = true := by decide +kernel
set_option maxRecDepth 65536 in
theorem w_named : about1.methodNamed? x = some theMethod := by decide +kernel
set_option maxRecDepth 65536 in
theorem w_hears : about1.hears theMethod below0 = true := by decide +kernel
set_option maxRecDepth 65536 in
theorem w_ripe : about1.ripe theMethod args0 below0 = true := by decide +kernel
theorem w_running : about1.status = .running := rfl
set_option maxRecDepth 65536 in
theorem w_room : about1.hasRoom e0.platform room_1 = true :=
  launch0.hasRoom_least _ room_1 (by decide +kernel) (by decide +kernel) (by decide +kernel) (by decide +kernel) (by decide +kernel) (by decide +kernel)
theorem allAtoms_all (ts : List Jvm.Cond) (a : Array Jvm.Value) (st : Jvm.State) : (allAtoms ts).before a st = ts.all (fun c => c.before a st) := by
  induction ts with
  | nil => rfl
  | cons c t ih =>
    show (Jvm.Cond.and c (allAtoms t)).before a st = _
    rw [Jvm.Cond.before_and, ih, List.all_cons]
def words1 : List Jvm.Cond := Jvm.Cond.code x code maxLocals ret :: tables_1
/-- a 'code' word, met by the world's own term for the bytes: nothing is compared byte by byte -/
theorem code_word {y : MethodName} {bytes : ByteArray} {mx : Nat} {rt : Option FieldType} {a : Array Value} {s : State} {m : MethodId} {meth : Method} {c : Code} (h1 : s.methodNamed? y = some m) (h2 : s.vm.method? m = some meth) (h3 : meth.code = some c) (h4 : c.code = bytes)
    (h5 : (c.maxLocals == mx && c.exceptionTable.isEmpty && decide (c.maxStack ≤ mostOperands) && decide (meth.sig.returnType = rt) && !meth.locks && decide (parseMethodDescriptor y.desc = some meth.sig)) = true) : (Jvm.Cond.code y bytes mx rt).before a s = true := by
  simp only [Bool.and_eq_true, beq_iff_eq, Bool.not_eq_true', decide_eq_true_eq] at h5
  obtain ⟨⟨⟨⟨⟨g1, g2⟩, g3⟩, g4⟩, g5⟩, g6⟩ := h5
  simp [Cond.before, Cond.holds, Cond.value, h1, h2, h3, h4, g1, g2, g3, g4, g5, g6]
def isCode : Jvm.Cond → Bool
  | .code _ _ _ _ => true
  | _ => false
theorem all_split {L : List Jvm.Cond} {P : Jvm.Cond → Bool} (h1 : L.all (fun c => isCode c || P c) = true) (h2 : ∀ c ∈ L.filter isCode, P c = true) : L.all P = true := by
  refine List.all_eq_true.mpr fun c hc => ?_
  have h := List.all_eq_true.mp h1 c hc
  rcases Bool.eq_false_or_eq_true (isCode c) with hi | hi
  · exact h2 c (List.mem_filter.mpr ⟨hc, hi⟩)
  · simpa [hi] using h
set_option maxRecDepth 65536 in
theorem w_c0 : (Jvm.Cond.code x code maxLocals ret).before args0 about1 = true := code_word (m := ⟨1, 2⟩) (meth := k1m2) (c := k1c2) (by decide +kernel) rfl rfl rfl (by decide +kernel)
set_option maxRecDepth 65536 in
theorem w_c1 : (Jvm.Cond.code ({ cls := "com/example/narrow_gate/narrowgate/model/CaptureDeclinedPinLaw", name := "draw", desc := "(IIII)Ljava/lang/String;" } : Jvm.MethodName) method_2_code (8 : Nat) (Option.some (Jvm.ClassFile.FieldType.object "java/lang/String"))).before args0 about1 = true := code_word (m := ⟨1, 1⟩) (meth := k1m1) (c := k1c1) (by decide +kernel) rfl rfl rfl (by decide +kernel)
set_option maxRecDepth 65536 in
theorem w_c2 : (Jvm.Cond.code ({ cls := "java/lang/String", name := "<init>", desc := "([C)V" } : Jvm.MethodName) jdk_42_method_3_code (2 : Nat) (Option.none : Option Jvm.ClassFile.FieldType)).before args0 about1 = true := code_word (m := ⟨7, 1⟩) (meth := k7m1) (c := k7c1) (by decide +kernel) rfl rfl rfl (by decide +kernel)
set_option maxRecDepth 65536 in
theorem w_c3 : (Jvm.Cond.code ({ cls := "java/lang/String", name := "<init>", desc := "([CIILjava/lang/Void;)V" } : Jvm.MethodName) jdk_42_method_149_code (6 : Nat) (Option.none : Option Jvm.ClassFile.FieldType)).before args0 about1 = true := code_word (m := ⟨7, 4⟩) (meth := k7m4) (c := k7c4) (by decide +kernel) rfl rfl rfl (by decide +kernel)
set_option maxRecDepth 65536 in
theorem w_c4 : (Jvm.Cond.code ({ cls := "java/lang/Object", name := "<init>", desc := "()V" } : Jvm.MethodName) object_method_1_code (1 : Nat) (Option.none : Option Jvm.ClassFile.FieldType)).before args0 about1 = true := code_word (m := ⟨0, 0⟩) (meth := k0m0) (c := k0c0) (by decide +kernel) rfl rfl rfl (by decide +kernel)
set_option maxRecDepth 65536 in
theorem w_c5 : (Jvm.Cond.code ({ cls := "com/example/narrow_gate/narrowgate/model/Capture", name := "declined", desc := "(Ljava/lang/String;)Lcom/example/narrow_gate/narrowgate/model/Capture;" } : Jvm.MethodName) prog_1_method_2_code (1 : Nat) (Option.some (Jvm.ClassFile.FieldType.object "com/example/narrow_gate/narrowgate/model/Capture"))).before args0 about1 = true := code_word (m := ⟨8, 1⟩) (meth := k8m1) (c := k8c1) (by decide +kernel) rfl rfl rfl (by decide +kernel)
set_option maxRecDepth 65536 in
theorem w_c6 : (Jvm.Cond.code ({ cls := "java/util/Objects", name := "requireNonNull", desc := "(Ljava/lang/Object;Ljava/lang/String;)Ljava/lang/Object;" } : Jvm.MethodName) jdk_31_method_11_code (2 : Nat) (Option.some (Jvm.ClassFile.FieldType.object "java/lang/Object"))).before args0 about1 = true := code_word (m := ⟨9, 1⟩) (meth := k9m1) (c := k9c1) (by decide +kernel) rfl rfl rfl (by decide +kernel)
set_option maxRecDepth 65536 in
theorem w_c7 : (Jvm.Cond.code ({ cls := "com/example/narrow_gate/narrowgate/model/Capture", name := "<init>", desc := "(Ljava/lang/String;)V" } : Jvm.MethodName) prog_1_method_1_code (2 : Nat) (Option.none : Option Jvm.ClassFile.FieldType)).before args0 about1 = true := code_word (m := ⟨8, 0⟩) (meth := k8m0) (c := k8c0) (by decide +kernel) rfl rfl rfl (by decide +kernel)
set_option maxRecDepth 65536 in
theorem w_c8 : (Jvm.Cond.code ({ cls := "com/example/narrow_gate/narrowgate/model/Capture", name := "isCaptured", desc := "()Z" } : Jvm.MethodName) prog_1_method_3_code (1 : Nat) (Option.some Jvm.ClassFile.FieldType.boolean)).before args0 about1 = true := code_word (m := ⟨8, 2⟩) (meth := k8m2) (c := k8c2) (by decide +kernel) rfl rfl rfl (by decide +kernel)
set_option maxRecDepth 65536 in
theorem w_c9 : (Jvm.Cond.code ({ cls := "com/example/narrow_gate/narrowgate/model/Capture", name := "getDeclineReason", desc := "()Ljava/lang/String;" } : Jvm.MethodName) prog_1_method_4_code (1 : Nat) (Option.some (Jvm.ClassFile.FieldType.object "java/lang/String"))).before args0 about1 = true := code_word (m := ⟨8, 3⟩) (meth := k8m3) (c := k8c3) (by decide +kernel) rfl rfl rfl (by decide +kernel)
set_option maxRecDepth 65536 in
theorem w_c10 : (Jvm.Cond.code ({ cls := "java/lang/String", name := "length", desc := "()I" } : Jvm.MethodName) jdk_42_method_54_code (1 : Nat) (Option.some Jvm.ClassFile.FieldType.int)).before args0 about1 = true := code_word (m := ⟨7, 2⟩) (meth := k7m2) (c := k7c2) (by decide +kernel) rfl rfl rfl (by decide +kernel)
set_option maxRecDepth 65536 in
theorem w_c11 : (Jvm.Cond.code ({ cls := "java/lang/String", name := "coder", desc := "()B" } : Jvm.MethodName) jdk_42_method_152_code (1 : Nat) (Option.some Jvm.ClassFile.FieldType.byte)).before args0 about1 = true := code_word (m := ⟨7, 5⟩) (meth := k7m5) (c := k7c5) (by decide +kernel) rfl rfl rfl (by decide +kernel)
set_option maxRecDepth 65536 in
theorem w_c12 : (Jvm.Cond.code ({ cls := "java/lang/String", name := "equals", desc := "(Ljava/lang/Object;)Z" } : Jvm.MethodName) jdk_42_method_66_code (3 : Nat) (Option.some Jvm.ClassFile.FieldType.boolean)).before args0 about1 = true := code_word (m := ⟨7, 3⟩) (meth := k7m3) (c := k7c3) (by decide +kernel) rfl rfl rfl (by decide +kernel)
set_option maxRecDepth 65536 in
theorem w_c13 : (Jvm.Cond.code ({ cls := "java/lang/StringUTF16", name := "compress", desc := "([CII)[B" } : Jvm.MethodName) jdk_52_method_16_code (6 : Nat) (Option.some (Jvm.ClassFile.FieldType.array Jvm.ClassFile.FieldType.byte))).before args0 about1 = true := code_word (m := ⟨10, 2⟩) (meth := k10m2) (c := k10c2) (by decide +kernel) rfl rfl rfl (by decide +kernel)
set_option maxRecDepth 65536 in
theorem w_c14 : (Jvm.Cond.code ({ cls := "java/lang/StringUTF16", name := "compress", desc := "([CI[BII)I" } : Jvm.MethodName) jdk_52_method_21_code (7 : Nat) (Option.some Jvm.ClassFile.FieldType.int)).before args0 about1 = true := code_word (m := ⟨10, 3⟩) (meth := k10m3) (c := k10c3) (by decide +kernel) rfl rfl rfl (by decide +kernel)
set_option maxRecDepth 65536 in
theorem w_c15 : (Jvm.Cond.code ({ cls := "java/lang/StringUTF16", name := "coderFromArrayLen", desc := "([BI)B" } : Jvm.MethodName) jdk_52_method_15_code (2 : Nat) (Option.some Jvm.ClassFile.FieldType.byte)).before args0 about1 = true := code_word (m := ⟨10, 1⟩) (meth := k10m1) (c := k10c1) (by decide +kernel) rfl rfl rfl (by decide +kernel)
def codes1 : List Jvm.Cond := [Jvm.Cond.code x code maxLocals ret, Jvm.Cond.code ({ cls := "com/example/narrow_gate/narrowgate/model/CaptureDeclinedPinLaw", name := "draw", desc := "(IIII)Ljava/lang/String;" } : Jvm.MethodName) method_2_code (8 : Nat) (Option.some (Jvm.ClassFile.FieldType.object "java/lang/String")), Jvm.Cond.code ({ cls := "java/lang/String", name := "<init>", desc := "([C)V" } : Jvm.MethodName) jdk_42_method_3_code (2 : Nat) (Option.none : Option Jvm.ClassFile.FieldType), Jvm.Cond.code ({ cls := "java/lang/String", name := "<init>", desc := "([CIILjava/lang/Void;)V" } : Jvm.MethodName) jdk_42_method_149_code (6 : Nat) (Option.none : Option Jvm.ClassFile.FieldType), Jvm.Cond.code ({ cls := "java/lang/Object", name := "<init>", desc := "()V" } : Jvm.MethodName) object_method_1_code (1 : Nat) (Option.none : Option Jvm.ClassFile.FieldType), Jvm.Cond.code ({ cls := "com/example/narrow_gate/narrowgate/model/Capture", name := "declined", desc := "(Ljava/lang/String;)Lcom/example/narrow_gate/narrowgate/model/Capture;" } : Jvm.MethodName) prog_1_method_2_code (1 : Nat) (Option.some (Jvm.ClassFile.FieldType.object "com/example/narrow_gate/narrowgate/model/Capture")), Jvm.Cond.code ({ cls := "java/util/Objects", name := "requireNonNull", desc := "(Ljava/lang/Object;Ljava/lang/String;)Ljava/lang/Object;" } : Jvm.MethodName) jdk_31_method_11_code (2 : Nat) (Option.some (Jvm.ClassFile.FieldType.object "java/lang/Object")), Jvm.Cond.code ({ cls := "com/example/narrow_gate/narrowgate/model/Capture", name := "<init>", desc := "(Ljava/lang/String;)V" } : Jvm.MethodName) prog_1_method_1_code (2 : Nat) (Option.none : Option Jvm.ClassFile.FieldType), Jvm.Cond.code ({ cls := "com/example/narrow_gate/narrowgate/model/Capture", name := "isCaptured", desc := "()Z" } : Jvm.MethodName) prog_1_method_3_code (1 : Nat) (Option.some Jvm.ClassFile.FieldType.boolean), Jvm.Cond.code ({ cls := "com/example/narrow_gate/narrowgate/model/Capture", name := "getDeclineReason", desc := "()Ljava/lang/String;" } : Jvm.MethodName) prog_1_method_4_code (1 : Nat) (Option.some (Jvm.ClassFile.FieldType.object "java/lang/String")), Jvm.Cond.code ({ cls := "java/lang/String", name := "length", desc := "()I" } : Jvm.MethodName) jdk_42_method_54_code (1 : Nat) (Option.some Jvm.ClassFile.FieldType.int), Jvm.Cond.code ({ cls := "java/lang/String", name := "coder", desc := "()B" } : Jvm.MethodName) jdk_42_method_152_code (1 : Nat) (Option.some Jvm.ClassFile.FieldType.byte), Jvm.Cond.code ({ cls := "java/lang/String", name := "equals", desc := "(Ljava/lang/Object;)Z" } : Jvm.MethodName) jdk_42_method_66_code (3 : Nat) (Option.some Jvm.ClassFile.FieldType.boolean), Jvm.Cond.code ({ cls := "java/lang/StringUTF16", name := "compress", desc := "([CII)[B" } : Jvm.MethodName) jdk_52_method_16_code (6 : Nat) (Option.some (Jvm.ClassFile.FieldType.array Jvm.ClassFile.FieldType.byte)), Jvm.Cond.code ({ cls := "java/lang/StringUTF16", name := "compress", desc := "([CI[BII)I" } : Jvm.MethodName) jdk_52_method_21_code (7 : Nat) (Option.some Jvm.ClassFile.FieldType.int), Jvm.Cond.code ({ cls := "java/lang/StringUTF16", name := "coderFromArrayLen", desc := "([BI)B" } : Jvm.MethodName) jdk_52_method_15_code (2 : Nat) (Option.some Jvm.ClassFile.FieldType.byte)]
set_option maxRecDepth 65536 in
theorem codes_eq : words1.filter isCode = codes1 := rfl
theorem w_codes : ∀ c ∈ words1.filter isCode, c.before args0 about1 = true := by
  rw [codes_eq]
  intro c hc
  simp only [codes1, List.mem_cons, List.not_mem_nil, or_false] at hc
  rcases hc with rfl | rfl | rfl | rfl | rfl | rfl | rfl | rfl | rfl | rfl | rfl | rfl | rfl | rfl | rfl | rfl
  · exact w_c0
  · exact w_c1
  · exact w_c2
  · exact w_c3
  · exact w_c4
  · exact w_c5
  · exact w_c6
  · exact w_c7
  · exact w_c8
  · exact w_c9
  · exact w_c10
  · exact w_c11
  · exact w_c12
  · exact w_c13
  · exact w_c14
  · exact w_c15
set_option maxRecDepth 65536 in
theorem w_t1 : (words1.take 24).all (fun c => isCode c || c.before args0 about1) = true := by decide +kernel
set_option maxRecDepth 65536 in
theorem w_t2 : ((words1.drop 24).take 24).all (fun c => isCode c || c.before args0 about1) = true := by decide +kernel
set_option maxRecDepth 65536 in
theorem w_t3 : (((words1.drop 24).drop 24).take 24).all (fun c => isCode c || c.before args0 about1) = true := by decide +kernel
set_option maxRecDepth 65536 in
theorem w_t4 : (((words1.drop 24).drop 24).drop 24).all (fun c => isCode c || c.before args0 about1) = true := by decide +kernel
theorem w_tables : (allAtoms (Jvm.Cond.code x code maxLocals ret :: tables_1)).before args0 about1 = true := by
  rw [allAtoms_all]
  show words1.all (fun c => c.before args0 about1) = true
  refine all_split ?_ w_codes
  rw [← List.take_append_drop 24 words1, List.all_append, w_t1, ← List.take_append_drop 24 (words1.drop 24), List.all_append, w_t2, ← List.take_append_drop 24 ((words1.drop 24).drop 24), List.all_append, w_t3, w_t4]
  rfl
set_option maxRecDepth 65536 in
theorem w_rest : rest_1_c.before args0 about1 = true := by decide +kernel
set_option maxRecDepth 65536 in
theorem w_case : (Jvm.Cond.and given_1 narrow_1).before args0 about1 = true := by decide +kernel
set_option maxRecDepth 65536 in
theorem w_consts : constsHeld consts_1 about1 := Jvm.Lit.constsHeldB_iff.mp (by decide +kernel)
theorem w_applies : (headSpec (Jvm.Cond.code x code maxLocals ret :: tables_1) room_1).applies x e0.platform about1 = true :=
  (Spec.applies_iff w_frames).mpr ⟨w_running, w_runnable, w_alone, w_named, w_hears, w_ripe, w_room, w_tables⟩
theorem atStart : AtStart classFile x code maxLocals ret World_1 tables_1 room_1 Calls_1 rest_1 Pre_1 launch0 p0 e0 about1 theMethod args0 below0 :=
  ⟨lists_1, trivial, launch0.admits_env _ _ _, launch0.least_env, fairChoices_fair.cas, fairChoices_fair.clock, w_frames, w_args, w_heap, w_applies, ⟨w_consts, trivial⟩, w_rest, w_case⟩
end start1
theorem witness_1 : WitnessClaimed_1 := ⟨start1.p0, start1.e0, start1.about1, start1.theMethod, start1.args0, start1.below0, start1.atStart⟩
end Jvm.Pilot.@@N@@
