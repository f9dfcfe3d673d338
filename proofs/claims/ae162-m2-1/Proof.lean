import JvmDerived
import JvmDerived.Pilot.@@N@@Statement
import JvmDerived.Pilot.@@N@@Code
@@BLOCK:TracedD.lean.txt@@
set_option linter.unusedVariables false
set_option linter.unusedSimpArgs false
namespace Jvm.Pilot.@@N@@
open Jvm Jvm.ClassFile Sem Op Lib Jvm.Free Jvm.Stand Jvm.LawKit Jvm.RoadKit Bundle Jvm.Pilot.@@N@@.Jvm.D
section Own
variable {p : Program} {l : Launch} {e : Env} {R : Room} {s : State} {m : MethodId} {args : Array Value} {below : List Frame} {meth : Method} {c : Code} {T : State} {locs : List Loc} {cells slots : Nat} {C S : Nat} {Q : Option Value → Heap → List Loc → Prop} {P : Outcome → State → Prop}
/-- from the state T with the frame g on top the run comes to the method's end, and P holds there -/
def Goes (p : Program) (e : Env) (below : List Frame) (P : Outcome → State → Prop) (T : State) (g : JFrame) : Prop :=
  ∃ s₂ o, Steps p.tables e below (T.setTop g) s₂ ∧ s₂.status = .running ∧ Ended s₂ below o ∧ P o s₂
/-- it returned, Q holds, the frame's bounds are kept -/
def Done (s : State) (C S : Nat) (Q : Option Value → Heap → List Loc → Prop) (o : Outcome) (U : State) : Prop := ∃ v L, o = .returned v ∧ Q v U.heap L ∧ FrameEnd s o U L C S
/-- .. where a String's constant may have been linked -/
def DoneW (s : State) (C S : Nat) (Q : Option Value → Heap → List Loc → Prop) (o : Outcome) (U : State) : Prop := ∃ v L, o = .returned v ∧ Q v U.heap L ∧ ReturnedEndW s o U L C S
theorem Goes.go {T' : State} {g g' : JFrame} (st : ∀ t, Steps p.tables e below (T'.setTop g') t → Steps p.tables e below (T.setTop g) t) (h : Goes p e below P T' g') : Goes p e below P T g := by
  obtain ⟨s₂, o, h1, h2⟩ := h; exact ⟨s₂, o, st _ h1, h2⟩
theorem Goes.tr {T' : State} {g g' : JFrame} (st : Steps p.tables e below (T.setTop g) (T'.setTop g')) (h : Goes p e below P T' g') : Goes p e below P T g := Goes.go (fun _ k => st.trans k) h
/-- the end of a walk that has linked Strings' constants -/
theorem own_wend {vm0 : Vm} {k0 : Nat} {fs : List Frame} {v : Option Value} (hS : s.Since vm0 k0) (hk : k0 ≤ T.heap.size) (hW : (s.setVm vm0).WarmedH (T.setFrames fs).vm) (hsame : (s.setVm vm0).sameButNew ({ T.setFrames fs with vm := (s.setVm vm0).vm } : State) locs cells slots) (hC : cells ≤ C) (hS' : slots ≤ S) : ReturnedEndW s (.returned v) (T.setFrames fs) locs C S := by
  have h2 := hS.trans (hW.since (T.setFrames fs).heap.size) hk
  exact ⟨⟨v, rfl⟩, h2.1, h2.2, (hsame.setVm s.vm).mono hC hS'⟩
/-- a value comes back -/
theorem own_ret (X : Stand p l e R s m args below meth c T locs cells slots) (hx : p.tables.exec = Jvm.exec) (hlk : meth.locks = false) {t : FieldType} (hret : meth.sig.returnType = some t) {i : Instr} {w : Value} (hn : narrow t w = w)
    (hi : (i = .ireturn ∧ (t = .int ∨ t = .boolean ∨ t = .byte ∨ t = .char ∨ t = .short) ∧ ∃ z, w = .int z) ∨ (i = .lreturn ∧ t = .long ∧ ∃ z, w = .long z) ∨ (i = .dreturn ∧ t = .double ∧ ∃ z, w = .double z) ∨ (i = .freturn ∧ t = .float ∧ ∃ z, w = .float z) ∨ (i = .areturn ∧ t.isReference = true ∧ w.isRef = true))
    {pc : Nat} {Ls : Array Slot} {rest : List Value} (hd : decode c.code pc = .ok (i, 1)) (hC : cells ≤ C) (hS : slots ≤ S) {h : Heap} (eT : T.heap = h) (hQ : Q (some w) h locs) : Goes p e below (Done s C S Q) T (mkF m pc Ls (w :: rest)) := by
  obtain ⟨fs, hr, hrun, hended, hW, hsame⟩ := X.leave (v := some w) (fun h => by rw [hret] at h; cases h)
  subst eT
  exact ⟨_, _, retOut X hx hret hn hi hd hr, hrun, hended, _, _, rfl, hQ, ⟨_, rfl⟩, hW, hsame.mono hC hS⟩
theorem own_retI (X : Stand p l e R s m args below meth c T locs cells slots) (hx : p.tables.exec = Jvm.exec) (hlk : meth.locks = false) (hret : meth.sig.returnType = some .int) {z : Int32}
    {pc : Nat} {Ls : Array Slot} {rest : List Value} (hd : decode c.code pc = .ok (.ireturn, 1)) (hC : cells ≤ C) (hS : slots ≤ S) {h : Heap} (eT : T.heap = h) (hQ : Q (some (.int z)) h locs) : Goes p e below (Done s C S Q) T (mkF m pc Ls (.int z :: rest)) :=
  own_ret X hx hlk hret rfl (Or.inl ⟨rfl, Or.inl rfl, z, rfl⟩) hd hC hS eT hQ
theorem own_retZ (X : Stand p l e R s m args below meth c T locs cells slots) (hx : p.tables.exec = Jvm.exec) (hlk : meth.locks = false) (hret : meth.sig.returnType = some .boolean) {z : Int32} (hn : narrow .boolean (.int z) = .int z)
    {pc : Nat} {Ls : Array Slot} {rest : List Value} (hd : decode c.code pc = .ok (.ireturn, 1)) (hC : cells ≤ C) (hS : slots ≤ S) {h : Heap} (eT : T.heap = h) (hQ : Q (some (.int z)) h locs) : Goes p e below (Done s C S Q) T (mkF m pc Ls (.int z :: rest)) :=
  own_ret X hx hlk hret hn (Or.inl ⟨rfl, Or.inr (Or.inl rfl), z, rfl⟩) hd hC hS eT hQ
theorem own_retJ (X : Stand p l e R s m args below meth c T locs cells slots) (hx : p.tables.exec = Jvm.exec) (hlk : meth.locks = false) (hret : meth.sig.returnType = some .long) {z : Int64}
    {pc : Nat} {Ls : Array Slot} {rest : List Value} (hd : decode c.code pc = .ok (.lreturn, 1)) (hC : cells ≤ C) (hS : slots ≤ S) {h : Heap} (eT : T.heap = h) (hQ : Q (some (.long z)) h locs) : Goes p e below (Done s C S Q) T (mkF m pc Ls (.long z :: rest)) :=
  own_ret X hx hlk hret rfl (Or.inr (Or.inl ⟨rfl, rfl, z, rfl⟩)) hd hC hS eT hQ
theorem own_narR {t : FieldType} {w : Value} (hw : w.isRef = true) : narrow t w = w := by
  rcases ref_cases hw with rfl | ⟨a, rfl⟩ <;> cases t <;> rfl
theorem own_retR (X : Stand p l e R s m args below meth c T locs cells slots) (hx : p.tables.exec = Jvm.exec) (hlk : meth.locks = false) {t : FieldType} (hret : meth.sig.returnType = some t) (ht : t.isReference = true) {w : Value} (hw : w.isRef = true)
    {pc : Nat} {Ls : Array Slot} {rest : List Value} (hd : decode c.code pc = .ok (.areturn, 1)) (hC : cells ≤ C) (hS : slots ≤ S) {h : Heap} (eT : T.heap = h) (hQ : Q (some w) h locs) : Goes p e below (Done s C S Q) T (mkF m pc Ls (w :: rest)) :=
  own_ret X hx hlk hret (own_narR hw) (Or.inr (Or.inr (Or.inr (Or.inr ⟨rfl, ht, hw⟩)))) hd hC hS eT hQ
theorem own_retV (X : Stand p l e R s m args below meth c T locs cells slots) (hx : p.tables.exec = Jvm.exec) (hlk : meth.locks = false) (hret : meth.sig.returnType = none)
    {pc : Nat} {Ls : Array Slot} (hd : decode c.code pc = .ok (.return_, 1)) (hC : cells ≤ C) (hS : slots ≤ S) {h : Heap} (eT : T.heap = h) (hQ : Q none h locs) : Goes p e below (Done s C S Q) T (mkF m pc Ls []) := by
  obtain ⟨fs, hr, hrun, hended, hW, hsame⟩ := X.leave (v := none) (fun _ => rfl)
  subst eT
  exact ⟨_, _, X.returnOut hx hret hd hr, hrun, hended, _, _, rfl, hQ, ⟨_, rfl⟩, hW, hsame.mono hC hS⟩
theorem own_retW {vm0 : Vm} {k0 : Nat} (X : Stand p l e R (s.setVm vm0) m args below meth c T locs cells slots) (hx : p.tables.exec = Jvm.exec) (hS : s.Since vm0 k0) (hlk : meth.locks = false) {t : FieldType} (hret : meth.sig.returnType = some t) {i : Instr} {w : Value} (hn : narrow t w = w)
    (hi : (i = .ireturn ∧ (t = .int ∨ t = .boolean ∨ t = .byte ∨ t = .char ∨ t = .short) ∧ ∃ z, w = .int z) ∨ (i = .lreturn ∧ t = .long ∧ ∃ z, w = .long z) ∨ (i = .dreturn ∧ t = .double ∧ ∃ z, w = .double z) ∨ (i = .freturn ∧ t = .float ∧ ∃ z, w = .float z) ∨ (i = .areturn ∧ t.isReference = true ∧ w.isRef = true))
    {pc : Nat} {Ls : Array Slot} {rest : List Value} (hd : decode c.code pc = .ok (i, 1)) (hC : cells ≤ C) (hS' : slots ≤ S) {h : Heap} (eT : T.heap = h) (hk : k0 ≤ h.size) (hQ : Q (some w) h locs) : Goes p e below (DoneW s C S Q) T (mkF m pc Ls (w :: rest)) := by
  obtain ⟨fs, hr, hrun, hended, hW, hsame⟩ := X.leave (v := some w) (fun h => by rw [hret] at h; cases h)
  subst eT
  exact ⟨_, _, retOut X hx hret hn hi hd hr, hrun, hended, _, _, rfl, hQ, own_wend hS hk hW hsame hC hS'⟩
theorem own_retWI {vm0 : Vm} {k0 : Nat} (X : Stand p l e R (s.setVm vm0) m args below meth c T locs cells slots) (hx : p.tables.exec = Jvm.exec) (hS : s.Since vm0 k0) (hlk : meth.locks = false) (hret : meth.sig.returnType = some .int) {z : Int32}
    {pc : Nat} {Ls : Array Slot} {rest : List Value} (hd : decode c.code pc = .ok (.ireturn, 1)) (hC : cells ≤ C) (hS' : slots ≤ S) {h : Heap} (eT : T.heap = h) (hk : k0 ≤ h.size) (hQ : Q (some (.int z)) h locs) : Goes p e below (DoneW s C S Q) T (mkF m pc Ls (.int z :: rest)) :=
  own_retW X hx hS hlk hret rfl (Or.inl ⟨rfl, Or.inl rfl, z, rfl⟩) hd hC hS' eT hk hQ
theorem own_retWZ {vm0 : Vm} {k0 : Nat} (X : Stand p l e R (s.setVm vm0) m args below meth c T locs cells slots) (hx : p.tables.exec = Jvm.exec) (hS : s.Since vm0 k0) (hlk : meth.locks = false) (hret : meth.sig.returnType = some .boolean) {z : Int32} (hn : narrow .boolean (.int z) = .int z)
    {pc : Nat} {Ls : Array Slot} {rest : List Value} (hd : decode c.code pc = .ok (.ireturn, 1)) (hC : cells ≤ C) (hS' : slots ≤ S) {h : Heap} (eT : T.heap = h) (hk : k0 ≤ h.size) (hQ : Q (some (.int z)) h locs) : Goes p e below (DoneW s C S Q) T (mkF m pc Ls (.int z :: rest)) :=
  own_retW X hx hS hlk hret hn (Or.inl ⟨rfl, Or.inr (Or.inl rfl), z, rfl⟩) hd hC hS' eT hk hQ
theorem own_retWR {vm0 : Vm} {k0 : Nat} (X : Stand p l e R (s.setVm vm0) m args below meth c T locs cells slots) (hx : p.tables.exec = Jvm.exec) (hS : s.Since vm0 k0) (hlk : meth.locks = false) {t : FieldType} (hret : meth.sig.returnType = some t) (ht : t.isReference = true) {w : Value} (hw : w.isRef = true)
    {pc : Nat} {Ls : Array Slot} {rest : List Value} (hd : decode c.code pc = .ok (.areturn, 1)) (hC : cells ≤ C) (hS' : slots ≤ S) {h : Heap} (eT : T.heap = h) (hk : k0 ≤ h.size) (hQ : Q (some w) h locs) : Goes p e below (DoneW s C S Q) T (mkF m pc Ls (w :: rest)) :=
  own_retW X hx hS hlk hret (own_narR hw) (Or.inr (Or.inr (Or.inr (Or.inr ⟨rfl, ht, hw⟩)))) hd hC hS' eT hk hQ
theorem own_retWV {vm0 : Vm} {k0 : Nat} (X : Stand p l e R (s.setVm vm0) m args below meth c T locs cells slots) (hx : p.tables.exec = Jvm.exec) (hS : s.Since vm0 k0) (hlk : meth.locks = false) (hret : meth.sig.returnType = none)
    {pc : Nat} {Ls : Array Slot} (hd : decode c.code pc = .ok (.return_, 1)) (hC : cells ≤ C) (hS' : slots ≤ S) {h : Heap} (eT : T.heap = h) (hk : k0 ≤ h.size) (hQ : Q none h locs) : Goes p e below (DoneW s C S Q) T (mkF m pc Ls []) := by
  obtain ⟨fs, hr, hrun, hended, hW, hsame⟩ := X.leave (v := none) (fun _ => rfl)
  subst eT
  exact ⟨_, _, X.returnOut hx hret hd hr, hrun, hended, _, _, rfl, hQ, own_wend hS hk hW hsame hC hS'⟩
/-- the entry -/
theorem own_enter {s₁ : State} {maxL : Nat} {as' : Array Value} {Ls : Array Slot} (hE : entryFrame m as' maxL = mkF m 0 Ls []) (h : Goes p e below P s₁ (mkF m 0 Ls [])) :
    ∃ s₂ o, Steps p.tables e below (s₁.setTop (entryFrame m as' maxL)) s₂ ∧ s₂.status = .running ∧ Ended s₂ below o ∧ P o s₂ := by
  rw [hE]; exact h
section Steps1
variable {pc : Nat} {Ls : Array Slot} {rest : List Value}
theorem own_iadd (X : Stand p l e R s m args below meth c T locs cells slots) (hx : p.tables.exec = Jvm.exec) (pc' : Nat) (hp : pc + 1 = pc') {x y z : Int32} (hd : decode c.code pc = .ok (.iadd, 1)) (hz : x + y = z) (h : Goes p e below P T (mkF m pc' Ls (.int z :: rest))) : Goes p e below P T (mkF m pc Ls (.int y :: .int x :: rest)) := by
  subst hp; subst hz; exact Goes.go (fun _ k => XS.iadd X.here hx rfl hd rfl k) h
theorem own_isub (X : Stand p l e R s m args below meth c T locs cells slots) (hx : p.tables.exec = Jvm.exec) (pc' : Nat) (hp : pc + 1 = pc') {x y z : Int32} (hd : decode c.code pc = .ok (.isub, 1)) (hz : x - y = z) (h : Goes p e below P T (mkF m pc' Ls (.int z :: rest))) : Goes p e below P T (mkF m pc Ls (.int y :: .int x :: rest)) := by
  subst hp; subst hz; exact Goes.go (fun _ k => XS.isub X.here hx rfl hd rfl k) h
theorem own_imul (X : Stand p l e R s m args below meth c T locs cells slots) (hx : p.tables.exec = Jvm.exec) (pc' : Nat) (hp : pc + 1 = pc') {x y z : Int32} (hd : decode c.code pc = .ok (.imul, 1)) (hz : x * y = z) (h : Goes p e below P T (mkF m pc' Ls (.int z :: rest))) : Goes p e below P T (mkF m pc Ls (.int y :: .int x :: rest)) := by
  subst hp; subst hz; exact Goes.go (fun _ k => XS.imul X.here hx rfl hd rfl k) h
theorem own_iand (X : Stand p l e R s m args below meth c T locs cells slots) (hx : p.tables.exec = Jvm.exec) (pc' : Nat) (hp : pc + 1 = pc') {x y z : Int32} (hd : decode c.code pc = .ok (.iand, 1)) (hz : x &&& y = z) (h : Goes p e below P T (mkF m pc' Ls (.int z :: rest))) : Goes p e below P T (mkF m pc Ls (.int y :: .int x :: rest)) := by
  subst hp; subst hz; exact Goes.go (fun _ k => XS.iand X.here hx rfl hd rfl k) h
theorem own_ior (X : Stand p l e R s m args below meth c T locs cells slots) (hx : p.tables.exec = Jvm.exec) (pc' : Nat) (hp : pc + 1 = pc') {x y z : Int32} (hd : decode c.code pc = .ok (.ior, 1)) (hz : x ||| y = z) (h : Goes p e below P T (mkF m pc' Ls (.int z :: rest))) : Goes p e below P T (mkF m pc Ls (.int y :: .int x :: rest)) := by
  subst hp; subst hz; exact Goes.go (fun _ k => XS.ior X.here hx rfl hd rfl k) h
theorem own_ixor (X : Stand p l e R s m args below meth c T locs cells slots) (hx : p.tables.exec = Jvm.exec) (pc' : Nat) (hp : pc + 1 = pc') {x y z : Int32} (hd : decode c.code pc = .ok (.ixor, 1)) (hz : x ^^^ y = z) (h : Goes p e below P T (mkF m pc' Ls (.int z :: rest))) : Goes p e below P T (mkF m pc Ls (.int y :: .int x :: rest)) := by
  subst hp; subst hz; exact Goes.go (fun _ k => XS.ixor X.here hx rfl hd rfl k) h
theorem own_idiv (X : Stand p l e R s m args below meth c T locs cells slots) (hx : p.tables.exec = Jvm.exec) (pc' : Nat) (hp : pc + 1 = pc') {x y z : Int32} (hd : decode c.code pc = .ok (.idiv, 1)) (hy : y ≠ 0) (hz : x / y = z) (h : Goes p e below P T (mkF m pc' Ls (.int z :: rest))) : Goes p e below P T (mkF m pc Ls (.int y :: .int x :: rest)) := by
  subst hp; subst hz; exact Goes.go (fun _ k => XS.idiv X.here hx rfl hd rfl hy k) h
theorem own_ishl (X : Stand p l e R s m args below meth c T locs cells slots) (hx : p.tables.exec = Jvm.exec) (pc' : Nat) (hp : pc + 1 = pc') {x z : Int32} {y : Int32} (hd : decode c.code pc = .ok (.ishl, 1)) (hz : (x <<< (y &&& 31)) = z) (h : Goes p e below P T (mkF m pc' Ls (.int z :: rest))) : Goes p e below P T (mkF m pc Ls (.int y :: .int x :: rest)) := by
  subst hp; subst hz; exact Goes.go (fun _ k => XS.ishl X.here hx rfl hd rfl k) h
theorem own_ishr (X : Stand p l e R s m args below meth c T locs cells slots) (hx : p.tables.exec = Jvm.exec) (pc' : Nat) (hp : pc + 1 = pc') {x z : Int32} {y : Int32} (hd : decode c.code pc = .ok (.ishr, 1)) (hz : (x >>> (y &&& 31)) = z) (h : Goes p e below P T (mkF m pc' Ls (.int z :: rest))) : Goes p e below P T (mkF m pc Ls (.int y :: .int x :: rest)) := by
  subst hp; subst hz; exact Goes.go (fun _ k => XS.ishr X.here hx rfl hd rfl k) h
theorem own_iushr (X : Stand p l e R s m args below meth c T locs cells slots) (hx : p.tables.exec = Jvm.exec) (pc' : Nat) (hp : pc + 1 = pc') {x z : Int32} {y : Int32} (hd : decode c.code pc = .ok (.iushr, 1)) (hz : ((x.toUInt32 >>> (y &&& 31).toUInt32).toInt32) = z) (h : Goes p e below P T (mkF m pc' Ls (.int z :: rest))) : Goes p e below P T (mkF m pc Ls (.int y :: .int x :: rest)) := by
  subst hp; subst hz; exact Goes.go (fun _ k => XS.iushr X.here hx rfl hd rfl k) h
theorem own_ladd (X : Stand p l e R s m args below meth c T locs cells slots) (hx : p.tables.exec = Jvm.exec) (pc' : Nat) (hp : pc + 1 = pc') {x y z : Int64} (hd : decode c.code pc = .ok (.ladd, 1)) (hz : x + y = z) (h : Goes p e below P T (mkF m pc' Ls (.long z :: rest))) : Goes p e below P T (mkF m pc Ls (.long y :: .long x :: rest)) := by
  subst hp; subst hz; exact Goes.go (fun _ k => XS.ladd X.here hx rfl hd rfl k) h
theorem own_lsub (X : Stand p l e R s m args below meth c T locs cells slots) (hx : p.tables.exec = Jvm.exec) (pc' : Nat) (hp : pc + 1 = pc') {x y z : Int64} (hd : decode c.code pc = .ok (.lsub, 1)) (hz : x - y = z) (h : Goes p e below P T (mkF m pc' Ls (.long z :: rest))) : Goes p e below P T (mkF m pc Ls (.long y :: .long x :: rest)) := by
  subst hp; subst hz; exact Goes.go (fun _ k => XS.lsub X.here hx rfl hd rfl k) h
theorem own_lmul (X : Stand p l e R s m args below meth c T locs cells slots) (hx : p.tables.exec = Jvm.exec) (pc' : Nat) (hp : pc + 1 = pc') {x y z : Int64} (hd : decode c.code pc = .ok (.lmul, 1)) (hz : x * y = z) (h : Goes p e below P T (mkF m pc' Ls (.long z :: rest))) : Goes p e below P T (mkF m pc Ls (.long y :: .long x :: rest)) := by
  subst hp; subst hz; exact Goes.go (fun _ k => XS.lmul X.here hx rfl hd rfl k) h
theorem own_land (X : Stand p l e R s m args below meth c T locs cells slots) (hx : p.tables.exec = Jvm.exec) (pc' : Nat) (hp : pc + 1 = pc') {x y z : Int64} (hd : decode c.code pc = .ok (.land, 1)) (hz : x &&& y = z) (h : Goes p e below P T (mkF m pc' Ls (.long z :: rest))) : Goes p e below P T (mkF m pc Ls (.long y :: .long x :: rest)) := by
  subst hp; subst hz; exact Goes.go (fun _ k => XS.land X.here hx rfl hd rfl k) h
theorem own_lor (X : Stand p l e R s m args below meth c T locs cells slots) (hx : p.tables.exec = Jvm.exec) (pc' : Nat) (hp : pc + 1 = pc') {x y z : Int64} (hd : decode c.code pc = .ok (.lor, 1)) (hz : x ||| y = z) (h : Goes p e below P T (mkF m pc' Ls (.long z :: rest))) : Goes p e below P T (mkF m pc Ls (.long y :: .long x :: rest)) := by
  subst hp; subst hz; exact Goes.go (fun _ k => XS.lor X.here hx rfl hd rfl k) h
theorem own_lxor (X : Stand p l e R s m args below meth c T locs cells slots) (hx : p.tables.exec = Jvm.exec) (pc' : Nat) (hp : pc + 1 = pc') {x y z : Int64} (hd : decode c.code pc = .ok (.lxor, 1)) (hz : x ^^^ y = z) (h : Goes p e below P T (mkF m pc' Ls (.long z :: rest))) : Goes p e below P T (mkF m pc Ls (.long y :: .long x :: rest)) := by
  subst hp; subst hz; exact Goes.go (fun _ k => XS.lxor X.here hx rfl hd rfl k) h
theorem own_ldiv (X : Stand p l e R s m args below meth c T locs cells slots) (hx : p.tables.exec = Jvm.exec) (pc' : Nat) (hp : pc + 1 = pc') {x y z : Int64} (hd : decode c.code pc = .ok (.ldiv, 1)) (hy : y ≠ 0) (hz : x / y = z) (h : Goes p e below P T (mkF m pc' Ls (.long z :: rest))) : Goes p e below P T (mkF m pc Ls (.long y :: .long x :: rest)) := by
  subst hp; subst hz; exact Goes.go (fun _ k => XS.ldiv X.here hx rfl hd rfl hy k) h
theorem own_lshl (X : Stand p l e R s m args below meth c T locs cells slots) (hx : p.tables.exec = Jvm.exec) (pc' : Nat) (hp : pc + 1 = pc') {x z : Int64} {y : Int32} (hd : decode c.code pc = .ok (.lshl, 1)) (hz : (x <<< (y &&& 0x3f).toInt64) = z) (h : Goes p e below P T (mkF m pc' Ls (.long z :: rest))) : Goes p e below P T (mkF m pc Ls (.int y :: .long x :: rest)) := by
  subst hp; subst hz; exact Goes.go (fun _ k => XS.lshl X.here hx rfl hd rfl k) h
theorem own_lshr (X : Stand p l e R s m args below meth c T locs cells slots) (hx : p.tables.exec = Jvm.exec) (pc' : Nat) (hp : pc + 1 = pc') {x z : Int64} {y : Int32} (hd : decode c.code pc = .ok (.lshr, 1)) (hz : (x >>> (y &&& 0x3f).toInt64) = z) (h : Goes p e below P T (mkF m pc' Ls (.long z :: rest))) : Goes p e below P T (mkF m pc Ls (.int y :: .long x :: rest)) := by
  subst hp; subst hz; exact Goes.go (fun _ k => XS.lshr X.here hx rfl hd rfl k) h
theorem own_lushr (X : Stand p l e R s m args below meth c T locs cells slots) (hx : p.tables.exec = Jvm.exec) (pc' : Nat) (hp : pc + 1 = pc') {x z : Int64} {y : Int32} (hd : decode c.code pc = .ok (.lushr, 1)) (hz : ((x.toUInt64 >>> (y &&& 0x3f).toInt64.toUInt64).toInt64) = z) (h : Goes p e below P T (mkF m pc' Ls (.long z :: rest))) : Goes p e below P T (mkF m pc Ls (.int y :: .long x :: rest)) := by
  subst hp; subst hz; exact Goes.go (fun _ k => XS.lushr X.here hx rfl hd rfl k) h
theorem own_irem (X : Stand p l e R s m args below meth c T locs cells slots) (hx : p.tables.exec = Jvm.exec) (pc' : Nat) (hp : pc + 1 = pc') {x y z : Int32} (hd : decode c.code pc = .ok (.irem, 1)) (hy : y ≠ 0) (hz : x % y = z) (h : Goes p e below P T (mkF m pc' Ls (.int z :: rest))) : Goes p e below P T (mkF m pc Ls (.int y :: .int x :: rest)) := by
  subst hp; subst hz; exact Goes.go (fun _ k => iremM X hx rfl hd rfl hy k) h
theorem own_lrem (X : Stand p l e R s m args below meth c T locs cells slots) (hx : p.tables.exec = Jvm.exec) (pc' : Nat) (hp : pc + 1 = pc') {x y z : Int64} (hd : decode c.code pc = .ok (.lrem, 1)) (hy : y ≠ 0) (hz : x % y = z) (h : Goes p e below P T (mkF m pc' Ls (.long z :: rest))) : Goes p e below P T (mkF m pc Ls (.long y :: .long x :: rest)) := by
  subst hp; subst hz; exact Goes.go (fun _ k => XS.lrem X.here hx rfl hd rfl hy (by rw [lrem_mod]; exact k)) h
theorem own_ineg (X : Stand p l e R s m args below meth c T locs cells slots) (hx : p.tables.exec = Jvm.exec) (pc' : Nat) (hp : pc + 1 = pc') {x : Int32} {z : Int32} (hd : decode c.code pc = .ok (.ineg, 1)) (hz : -x = z) (h : Goes p e below P T (mkF m pc' Ls (.int z :: rest))) : Goes p e below P T (mkF m pc Ls (.int x :: rest)) := by
  subst hp; subst hz; exact Goes.go (fun _ k => XS.ineg X.here hx rfl hd rfl k) h
theorem own_lneg (X : Stand p l e R s m args below meth c T locs cells slots) (hx : p.tables.exec = Jvm.exec) (pc' : Nat) (hp : pc + 1 = pc') {x : Int64} {z : Int64} (hd : decode c.code pc = .ok (.lneg, 1)) (hz : -x = z) (h : Goes p e below P T (mkF m pc' Ls (.long z :: rest))) : Goes p e below P T (mkF m pc Ls (.long x :: rest)) := by
  subst hp; subst hz; exact Goes.go (fun _ k => XS.lneg X.here hx rfl hd rfl k) h
theorem own_i2l (X : Stand p l e R s m args below meth c T locs cells slots) (hx : p.tables.exec = Jvm.exec) (pc' : Nat) (hp : pc + 1 = pc') {x : Int32} {z : Int64} (hd : decode c.code pc = .ok (.i2l, 1)) (hz : x.toInt64 = z) (h : Goes p e below P T (mkF m pc' Ls (.long z :: rest))) : Goes p e below P T (mkF m pc Ls (.int x :: rest)) := by
  subst hp; subst hz; exact Goes.go (fun _ k => XS.i2l X.here hx rfl hd rfl k) h
theorem own_l2i (X : Stand p l e R s m args below meth c T locs cells slots) (hx : p.tables.exec = Jvm.exec) (pc' : Nat) (hp : pc + 1 = pc') {x : Int64} {z : Int32} (hd : decode c.code pc = .ok (.l2i, 1)) (hz : x.toInt32 = z) (h : Goes p e below P T (mkF m pc' Ls (.int z :: rest))) : Goes p e below P T (mkF m pc Ls (.long x :: rest)) := by
  subst hp; subst hz; exact Goes.go (fun _ k => XS.l2i X.here hx rfl hd rfl k) h
theorem own_i2b (X : Stand p l e R s m args below meth c T locs cells slots) (hx : p.tables.exec = Jvm.exec) (pc' : Nat) (hp : pc + 1 = pc') {x : Int32} {z : Int32} (hd : decode c.code pc = .ok (.i2b, 1)) (hz : x.toInt8.toInt32 = z) (h : Goes p e below P T (mkF m pc' Ls (.int z :: rest))) : Goes p e below P T (mkF m pc Ls (.int x :: rest)) := by
  subst hp; subst hz; exact Goes.go (fun _ k => XS.i2b X.here hx rfl hd rfl k) h
theorem own_i2s (X : Stand p l e R s m args below meth c T locs cells slots) (hx : p.tables.exec = Jvm.exec) (pc' : Nat) (hp : pc + 1 = pc') {x : Int32} {z : Int32} (hd : decode c.code pc = .ok (.i2s, 1)) (hz : x.toInt16.toInt32 = z) (h : Goes p e below P T (mkF m pc' Ls (.int z :: rest))) : Goes p e below P T (mkF m pc Ls (.int x :: rest)) := by
  subst hp; subst hz; exact Goes.go (fun _ k => XS.i2s X.here hx rfl hd rfl k) h
theorem own_i2c (X : Stand p l e R s m args below meth c T locs cells slots) (hx : p.tables.exec = Jvm.exec) (pc' : Nat) (hp : pc + 1 = pc') {x : Int32} {z : Int32} (hd : decode c.code pc = .ok (.i2c, 1)) (hz : x.toUInt32.toUInt16.toUInt32.toInt32 = z) (h : Goes p e below P T (mkF m pc' Ls (.int z :: rest))) : Goes p e below P T (mkF m pc Ls (.int x :: rest)) := by
  subst hp; subst hz; exact Goes.go (fun _ k => XS.i2c X.here hx rfl hd rfl k) h
theorem own_lcmp (X : Stand p l e R s m args below meth c T locs cells slots) (hx : p.tables.exec = Jvm.exec) (pc' : Nat) (hp : pc + 1 = pc') {x y : Int64} (hd : decode c.code pc = .ok (.lcmp, 1))  (h : Goes p e below P T (mkF m pc' Ls (.int (lcmpW x y) :: rest))) : Goes p e below P T (mkF m pc Ls (.long y :: .long x :: rest)) := by
  subst hp; exact Goes.go (fun _ k => XS.lcmp X.here hx rfl hd rfl k) h
theorem own_iload (X : Stand p l e R s m args below meth c T locs cells slots) (hx : p.tables.exec = Jvm.exec) (pc' : Nat) (hp : pc + 2 = pc') {k : Nat} {v : Int32} (hd : decode c.code pc = .ok (.iload k, 2)) (hl : Ls[k]? = some (.val (.int v))) (h : Goes p e below P T (mkF m pc' Ls ((.int v) :: rest))) : Goes p e below P T (mkF m pc Ls rest) := by
  subst hp; exact Goes.go (fun _ k => XS.iload X.here hx rfl hd hl k) h
theorem own_iloadN (X : Stand p l e R s m args below meth c T locs cells slots) (hx : p.tables.exec = Jvm.exec) (pc' : Nat) (hp : pc + 1 = pc') {k : Fin 4} {v : Int32} (hd : decode c.code pc = .ok (.iload_n k, 1)) (hl : Ls[k.val]? = some (.val (.int v))) (h : Goes p e below P T (mkF m pc' Ls ((.int v) :: rest))) : Goes p e below P T (mkF m pc Ls rest) := by
  subst hp; exact Goes.go (fun _ k => XS.iloadN X.here hx rfl hd hl k) h
theorem own_istore (X : Stand p l e R s m args below meth c T locs cells slots) (hx : p.tables.exec = Jvm.exec) (pc' : Nat) (hp : pc + 2 = pc') {k : Nat} {v : Int32} (Ls' : Array Slot) (hd : decode c.code pc = .ok (.istore k, 2)) (hl : storeLocals Ls k (.int v) = some Ls') (h : Goes p e below P T (mkF m pc' Ls' rest)) : Goes p e below P T (mkF m pc Ls ((.int v) :: rest)) := by
  subst hp; exact Goes.go (fun _ k => XS.istore X.here hx rfl hd rfl hl k) h
theorem own_istoreN (X : Stand p l e R s m args below meth c T locs cells slots) (hx : p.tables.exec = Jvm.exec) (pc' : Nat) (hp : pc + 1 = pc') {k : Fin 4} {v : Int32} (Ls' : Array Slot) (hd : decode c.code pc = .ok (.istore_n k, 1)) (hl : storeLocals Ls k.val (.int v) = some Ls') (h : Goes p e below P T (mkF m pc' Ls' rest)) : Goes p e below P T (mkF m pc Ls ((.int v) :: rest)) := by
  subst hp; exact Goes.go (fun _ k => XS.istoreN X.here hx rfl hd rfl hl k) h
theorem own_lload (X : Stand p l e R s m args below meth c T locs cells slots) (hx : p.tables.exec = Jvm.exec) (pc' : Nat) (hp : pc + 2 = pc') {k : Nat} {v : Int64} (hd : decode c.code pc = .ok (.lload k, 2)) (hl : Ls[k]? = some (.val (.long v))) (h : Goes p e below P T (mkF m pc' Ls ((.long v) :: rest))) : Goes p e below P T (mkF m pc Ls rest) := by
  subst hp; exact Goes.go (fun _ k => XS.lload X.here hx rfl hd hl k) h
theorem own_lloadN (X : Stand p l e R s m args below meth c T locs cells slots) (hx : p.tables.exec = Jvm.exec) (pc' : Nat) (hp : pc + 1 = pc') {k : Fin 4} {v : Int64} (hd : decode c.code pc = .ok (.lload_n k, 1)) (hl : Ls[k.val]? = some (.val (.long v))) (h : Goes p e below P T (mkF m pc' Ls ((.long v) :: rest))) : Goes p e below P T (mkF m pc Ls rest) := by
  subst hp; exact Goes.go (fun _ k => XS.lloadN X.here hx rfl hd hl k) h
theorem own_lstore (X : Stand p l e R s m args below meth c T locs cells slots) (hx : p.tables.exec = Jvm.exec) (pc' : Nat) (hp : pc + 2 = pc') {k : Nat} {v : Int64} (Ls' : Array Slot) (hd : decode c.code pc = .ok (.lstore k, 2)) (hl : storeLocals Ls k (.long v) = some Ls') (h : Goes p e below P T (mkF m pc' Ls' rest)) : Goes p e below P T (mkF m pc Ls ((.long v) :: rest)) := by
  subst hp; exact Goes.go (fun _ k => XS.lstore X.here hx rfl hd rfl hl k) h
theorem own_lstoreN (X : Stand p l e R s m args below meth c T locs cells slots) (hx : p.tables.exec = Jvm.exec) (pc' : Nat) (hp : pc + 1 = pc') {k : Fin 4} {v : Int64} (Ls' : Array Slot) (hd : decode c.code pc = .ok (.lstore_n k, 1)) (hl : storeLocals Ls k.val (.long v) = some Ls') (h : Goes p e below P T (mkF m pc' Ls' rest)) : Goes p e below P T (mkF m pc Ls ((.long v) :: rest)) := by
  subst hp; exact Goes.go (fun _ k => XS.lstoreN X.here hx rfl hd rfl hl k) h
theorem own_aload (X : Stand p l e R s m args below meth c T locs cells slots) (hx : p.tables.exec = Jvm.exec) (pc' : Nat) (hp : pc + 2 = pc') {k : Nat} {v : Value} (hd : decode c.code pc = .ok (.aload k, 2)) (hl : Ls[k]? = some (.val v)) (hv : v.isRef = true) (h : Goes p e below P T (mkF m pc' Ls (v :: rest))) : Goes p e below P T (mkF m pc Ls rest) := by
  subst hp; exact Goes.go (fun _ k => XS.aload X.here hx rfl hd hl hv k) h
theorem own_aloadN (X : Stand p l e R s m args below meth c T locs cells slots) (hx : p.tables.exec = Jvm.exec) (pc' : Nat) (hp : pc + 1 = pc') {k : Fin 4} {v : Value} (hd : decode c.code pc = .ok (.aload_n k, 1)) (hl : Ls[k.val]? = some (.val v)) (hv : v.isRef = true) (h : Goes p e below P T (mkF m pc' Ls (v :: rest))) : Goes p e below P T (mkF m pc Ls rest) := by
  subst hp; exact Goes.go (fun _ k => XS.aloadN X.here hx rfl hd hl hv k) h
theorem own_astore (X : Stand p l e R s m args below meth c T locs cells slots) (hx : p.tables.exec = Jvm.exec) (pc' : Nat) (hp : pc + 2 = pc') {k : Nat} {v : Value} (Ls' : Array Slot) (hd : decode c.code pc = .ok (.astore k, 2)) (hl : storeLocals Ls k v = some Ls') (hv : v.isRef = true) (h : Goes p e below P T (mkF m pc' Ls' rest)) : Goes p e below P T (mkF m pc Ls (v :: rest)) := by
  subst hp; exact Goes.go (fun _ k => XS.astore X.here hx rfl hd rfl hv hl k) h
theorem own_astoreN (X : Stand p l e R s m args below meth c T locs cells slots) (hx : p.tables.exec = Jvm.exec) (pc' : Nat) (hp : pc + 1 = pc') {k : Fin 4} {v : Value} (Ls' : Array Slot) (hd : decode c.code pc = .ok (.astore_n k, 1)) (hl : storeLocals Ls k.val v = some Ls') (hv : v.isRef = true) (h : Goes p e below P T (mkF m pc' Ls' rest)) : Goes p e below P T (mkF m pc Ls (v :: rest)) := by
  subst hp; exact Goes.go (fun _ k => XS.astoreN X.here hx rfl hd rfl hv hl k) h
theorem own_iconst (X : Stand p l e R s m args below meth c T locs cells slots) (hx : p.tables.exec = Jvm.exec) (pc' : Nat) (hp : pc + 1 = pc') {i : Int} (v : Int32) (hd : decode c.code pc = .ok (.iconst i, 1)) (hv : Int32.ofInt i = v) (h : Goes p e below P T (mkF m pc' Ls (.int v :: rest))) : Goes p e below P T (mkF m pc Ls rest) := by
  subst hp; subst hv; exact Goes.go (fun _ k => XS.iconst X.here hx rfl hd k) h
theorem own_bipush (X : Stand p l e R s m args below meth c T locs cells slots) (hx : p.tables.exec = Jvm.exec) (pc' : Nat) (hp : pc + 2 = pc') {i : Int} (v : Int32) (hd : decode c.code pc = .ok (.bipush i, 2)) (hv : (Int8.ofInt i).toInt32 = v) (h : Goes p e below P T (mkF m pc' Ls (.int v :: rest))) : Goes p e below P T (mkF m pc Ls rest) := by
  subst hp; subst hv; exact Goes.go (fun _ k => XS.bipush X.here hx rfl hd k) h
theorem own_sipush (X : Stand p l e R s m args below meth c T locs cells slots) (hx : p.tables.exec = Jvm.exec) (pc' : Nat) (hp : pc + 3 = pc') {i : Int} (v : Int32) (hd : decode c.code pc = .ok (.sipush i, 3)) (hv : (Int16.ofInt i).toInt32 = v) (h : Goes p e below P T (mkF m pc' Ls (.int v :: rest))) : Goes p e below P T (mkF m pc Ls rest) := by
  subst hp; subst hv; exact Goes.go (fun _ k => XS.sipush X.here hx rfl hd k) h
theorem own_lconst (X : Stand p l e R s m args below meth c T locs cells slots) (hx : p.tables.exec = Jvm.exec) (pc' : Nat) (hp : pc + 1 = pc') {i : Fin 2} (v : Int64) (hd : decode c.code pc = .ok (.lconst i, 1)) (hv : Int64.ofNat i = v) (h : Goes p e below P T (mkF m pc' Ls (.long v :: rest))) : Goes p e below P T (mkF m pc Ls rest) := by
  subst hp; subst hv; exact Goes.go (fun _ k => XS.lconst X.here hx rfl hd k) h
theorem own_aconst_null (X : Stand p l e R s m args below meth c T locs cells slots) (hx : p.tables.exec = Jvm.exec) (pc' : Nat) (hp : pc + 1 = pc')  (hd : decode c.code pc = .ok (.aconst_null, 1))  (h : Goes p e below P T (mkF m pc' Ls (.null :: rest))) : Goes p e below P T (mkF m pc Ls rest) := by
  subst hp; exact Goes.go (fun _ k => XS.aconstNull X.here hx rfl hd k) h
theorem own_dup (X : Stand p l e R s m args below meth c T locs cells slots) (hx : p.tables.exec = Jvm.exec) (pc' : Nat) (hp : pc + 1 = pc') {v : Value} (hd : decode c.code pc = .ok (.dup, 1)) (hc : v.category = 1) (h : Goes p e below P T (mkF m pc' Ls (v :: v :: rest))) : Goes p e below P T (mkF m pc Ls (v :: rest)) := by
  subst hp; exact Goes.go (fun _ k => XS.dup X.here hx rfl hd rfl hc k) h
theorem own_pop (X : Stand p l e R s m args below meth c T locs cells slots) (hx : p.tables.exec = Jvm.exec) (pc' : Nat) (hp : pc + 1 = pc') {v : Value} (hd : decode c.code pc = .ok (.pop, 1)) (hc : v.category = 1) (h : Goes p e below P T (mkF m pc' Ls rest)) : Goes p e below P T (mkF m pc Ls (v :: rest)) := by
  subst hp; exact Goes.go (fun _ k => XS.pop X.here hx rfl hd rfl hc k) h
theorem own_dup_x1 (X : Stand p l e R s m args below meth c T locs cells slots) (hx : p.tables.exec = Jvm.exec) (pc' : Nat) (hp : pc + 1 = pc') {v w : Value} (hd : decode c.code pc = .ok (.dup_x1, 1)) (hc : v.category = 1) (hc' : w.category = 1) (h : Goes p e below P T (mkF m pc' Ls (v :: w :: v :: rest))) : Goes p e below P T (mkF m pc Ls (v :: w :: rest)) := by
  subst hp; exact Goes.go (fun _ k => XS.dupX1 X.here hx rfl hd rfl hc hc' k) h
theorem own_dup2L (X : Stand p l e R s m args below meth c T locs cells slots) (hx : p.tables.exec = Jvm.exec) (pc' : Nat) (hp : pc + 1 = pc') {v : Int64} (hd : decode c.code pc = .ok (.dup2, 1))  (h : Goes p e below P T (mkF m pc' Ls (.long v :: .long v :: rest))) : Goes p e below P T (mkF m pc Ls (.long v :: rest)) := by
  subst hp; exact Goes.go (fun _ k => Jvm.Free.XT.dup2L X.here hx rfl hd rfl k) h
theorem own_dup2 (X : Stand p l e R s m args below meth c T locs cells slots) (hx : p.tables.exec = Jvm.exec) (pc' : Nat) (hp : pc + 1 = pc') {v w : Value} (hd : decode c.code pc = .ok (.dup2, 1)) (hc : v.category = 1) (hc' : w.category = 1) (h : Goes p e below P T (mkF m pc' Ls (v :: w :: v :: w :: rest))) : Goes p e below P T (mkF m pc Ls (v :: w :: rest)) := by
  subst hp; exact Goes.go (fun _ k => Jvm.Free.XT.dup2 X.here hx rfl hd rfl hc hc' k) h
theorem own_iinc (X : Stand p l e R s m args below meth c T locs cells slots) (hx : p.tables.exec = Jvm.exec) (pc' : Nat) (hp : pc + 3 = pc') {k : Nat} {cst : Int} {x z : Int32} (Ls' : Array Slot) (hd : decode c.code pc = .ok (.iinc k cst, 3)) (hl : Ls[k]? = some (.val (.int x))) (hz : x + Int32.ofInt cst = z) (hl' : storeLocals Ls k (.int z) = some Ls') (h : Goes p e below P T (mkF m pc' Ls' rest)) : Goes p e below P T (mkF m pc Ls rest) := by
  subst hp; subst hz; exact Goes.go (fun _ k => XS.iinc X.here hx rfl hd hl hl' k) h
theorem own_goto (X : Stand p l e R s m args below meth c T locs cells slots) (hx : p.tables.exec = Jvm.exec) (pc' : Nat) {o : Int} (hd : decode c.code pc = .ok (.goto o, 3)) (ho : 0 ≤ (pc : Int) + o) (hp : ((pc : Int) + o).toNat = pc') (h : Goes p e below P T (mkF m pc' Ls rest)) : Goes p e below P T (mkF m pc Ls rest) :=
  Goes.go (fun _ k => XS.goto X.here hx rfl rfl hd ho hp k) h
theorem own_ifY (X : Stand p l e R s m args below meth c T locs cells slots) (hx : p.tables.exec = Jvm.exec) (pc' : Nat) {o : Int} {cd : ClassFile.Cond} {x : Int32} (hd : decode c.code pc = .ok (.ifCond cd o, 3)) (hc : ifCond.holds cd x = true) (ho : 0 ≤ (pc : Int) + o) (hp : ((pc : Int) + o).toNat = pc') (h : Goes p e below P T (mkF m pc' Ls rest)) : Goes p e below P T (mkF m pc Ls (.int x :: rest)) :=
  Goes.go (fun _ k => XS.ifYes X.here hx rfl rfl hd rfl hc ho hp k) h
theorem own_ifN (X : Stand p l e R s m args below meth c T locs cells slots) (hx : p.tables.exec = Jvm.exec) (pc' : Nat) {o : Int} {cd : ClassFile.Cond} {x : Int32} (hd : decode c.code pc = .ok (.ifCond cd o, 3)) (hc : ifCond.holds cd x = false) (hp : pc + 3 = pc') (h : Goes p e below P T (mkF m pc' Ls rest)) : Goes p e below P T (mkF m pc Ls (.int x :: rest)) := by
  subst hp; exact Goes.go (fun _ k => XS.ifNo X.here hx rfl hd rfl hc k) h
theorem own_icmpY (X : Stand p l e R s m args below meth c T locs cells slots) (hx : p.tables.exec = Jvm.exec) (pc' : Nat) {o : Int} {cd : ClassFile.Cond} {x y : Int32} (hd : decode c.code pc = .ok (.if_icmp cd o, 3)) (hc : if_icmp.holds cd x y = true) (ho : 0 ≤ (pc : Int) + o) (hp : ((pc : Int) + o).toNat = pc') (h : Goes p e below P T (mkF m pc' Ls rest)) : Goes p e below P T (mkF m pc Ls (.int y :: .int x :: rest)) :=
  Goes.go (fun _ k => XS.icmpYes X.here hx rfl rfl hd rfl hc ho hp k) h
theorem own_icmpN (X : Stand p l e R s m args below meth c T locs cells slots) (hx : p.tables.exec = Jvm.exec) (pc' : Nat) {o : Int} {cd : ClassFile.Cond} {x y : Int32} (hd : decode c.code pc = .ok (.if_icmp cd o, 3)) (hc : if_icmp.holds cd x y = false) (hp : pc + 3 = pc') (h : Goes p e below P T (mkF m pc' Ls rest)) : Goes p e below P T (mkF m pc Ls (.int y :: .int x :: rest)) := by
  subst hp; exact Goes.go (fun _ k => XS.icmpNo X.here hx rfl hd rfl hc k) h
theorem own_acmp (X : Stand p l e R s m args below meth c T locs cells slots) (hx : p.tables.exec = Jvm.exec) (pc' : Nat) {o : Int} {cd : ACond} {x y : Value} {same : Bool} (h1 : x.isRef = true) (h2 : y.isRef = true) (hd : decode c.code pc = .ok (.if_acmp cd o, 3)) (hq : decide (x = y) = same) (ho : 0 ≤ (pc : Int) + o) (hp : pc' = if acV cd same = true then ((pc : Int) + o).toNat else pc + 3) (h : Goes p e below P T (mkF m pc' Ls rest)) : Goes p e below P T (mkF m pc Ls (y :: x :: rest)) :=
  Goes.go (fun _ k => Jvm.RoadKit.acmp (g := mkF m pc Ls (y :: x :: rest)) X hx rfl h1 h2 rfl hd rfl hq ho hp k) h
theorem own_ifnullY (X : Stand p l e R s m args below meth c T locs cells slots) (hx : p.tables.exec = Jvm.exec) (pc' : Nat) {o : Int} (hd : decode c.code pc = .ok (.ifnull o, 3)) (ho : 0 ≤ (pc : Int) + o) (hp : ((pc : Int) + o).toNat = pc') (h : Goes p e below P T (mkF m pc' Ls rest)) : Goes p e below P T (mkF m pc Ls (.null :: rest)) :=
  Goes.go (fun _ k => XS.ifnullYes X.here hx rfl rfl hd rfl ho hp k) h
theorem own_ifnullN (X : Stand p l e R s m args below meth c T locs cells slots) (hx : p.tables.exec = Jvm.exec) (pc' : Nat) {o : Int} {b : Addr} (hd : decode c.code pc = .ok (.ifnull o, 3)) (hp : pc + 3 = pc') (h : Goes p e below P T (mkF m pc' Ls rest)) : Goes p e below P T (mkF m pc Ls (.ref b :: rest)) := by
  subst hp; exact Goes.go (fun _ k => XS.ifnullNo X.here hx rfl hd rfl k) h
theorem own_ifnonnullY (X : Stand p l e R s m args below meth c T locs cells slots) (hx : p.tables.exec = Jvm.exec) (pc' : Nat) {o : Int} {b : Addr} (hd : decode c.code pc = .ok (.ifnonnull o, 3)) (ho : 0 ≤ (pc : Int) + o) (hp : ((pc : Int) + o).toNat = pc') (h : Goes p e below P T (mkF m pc' Ls rest)) : Goes p e below P T (mkF m pc Ls (.ref b :: rest)) :=
  Goes.go (fun _ k => XS.ifnonnullYes X.here hx rfl rfl hd rfl ho hp k) h
theorem own_ifnonnullN (X : Stand p l e R s m args below meth c T locs cells slots) (hx : p.tables.exec = Jvm.exec) (pc' : Nat) {o : Int} (hd : decode c.code pc = .ok (.ifnonnull o, 3)) (hp : pc + 3 = pc') (h : Goes p e below P T (mkF m pc' Ls rest)) : Goes p e below P T (mkF m pc Ls (.null :: rest)) := by
  subst hp; exact Goes.go (fun _ k => XS.ifnonnullNo X.here hx rfl hd rfl k) h
end Steps1
/-- the branches on a long comparison -/
theorem Ltlt {x y : Int64} (h : x < y) : ifCond.holds .lt (lcmpW x y) = true ∧ ifCond.holds .ge (lcmpW x y) = false ∧ ifCond.holds .gt (lcmpW y x) = true ∧ ifCond.holds .le (lcmpW y x) = false :=
  ⟨(if0 _ _).trans (tlt ((lw_lt x y).mpr h)).1, (if0 _ _).trans (tlt ((lw_lt x y).mpr h)).2.1, (if0 _ _).trans (tlt ((lw_gt y x).mpr h)).2.2.1, (if0 _ _).trans (tlt ((lw_gt y x).mpr h)).2.2.2⟩
theorem Lflt {x y : Int64} (h : ¬ x < y) : ifCond.holds .lt (lcmpW x y) = false ∧ ifCond.holds .ge (lcmpW x y) = true ∧ ifCond.holds .gt (lcmpW y x) = false ∧ ifCond.holds .le (lcmpW y x) = true :=
  ⟨(if0 _ _).trans (flt fun q => h ((lw_lt x y).mp q)).1, (if0 _ _).trans (flt fun q => h ((lw_lt x y).mp q)).2.1, (if0 _ _).trans (flt fun q => h ((lw_gt y x).mp q)).2.2.1, (if0 _ _).trans (flt fun q => h ((lw_gt y x).mp q)).2.2.2⟩
theorem Lteq {x y : Int64} (h : x = y) : ifCond.holds .eq (lcmpW x y) = true ∧ ifCond.holds .ne (lcmpW x y) = false :=
  ⟨(if0 _ _).trans (teq ((lw_eq x y).mpr h)).1, (if0 _ _).trans (teq ((lw_eq x y).mpr h)).2⟩
theorem Lfeq {x y : Int64} (h : ¬ x = y) : ifCond.holds .eq (lcmpW x y) = false ∧ ifCond.holds .ne (lcmpW x y) = true :=
  ⟨(if0 _ _).trans (feq fun q => h ((lw_eq x y).mp q)).1, (if0 _ _).trans (feq fun q => h ((lw_eq x y).mp q)).2⟩
theorem Ztlt {x y : Int32} (h : x < y) : if_icmp.holds .lt x y = true ∧ if_icmp.holds .ge x y = false ∧ if_icmp.holds .gt y x = true ∧ if_icmp.holds .le y x = false := tlt h
/-- the pieces of a memory fact -/
theorem own_lt_ne {a b n : Nat} (h : a < n) (g : b = n) : a ≠ b := by omega
end Own
theorem own_eqv {args : Array Value} {s : State} {t u : Term} {v : Value} (hu : u.eval args s none [] s = some v) (h : (Jvm.Cond.eq t u).value args s none s [] = some true) : t.eval args s none [] s = some v := by
  cases ht : t.eval args s none [] s with
  | none => simp [Cond.value, ht] at h
  | some x =>
    simp only [Cond.value, ht, hu] at h
    cases x <;> cases v <;> simp_all
theorem own_fldv {args : Array Value} {s : State} {t u : Term} {a : Addr} {C n d : String} {v : Value} (ev : t.eval args s none [] s = some (.ref a)) (hu : u.eval args s none [] s = some v) (h : (Jvm.Cond.eq (Term.field t C n d) u).value args s none s [] = some true) : s.fieldOf? a C n d = some v :=
  (fld_at ev).symm.trans (own_eqv hu h)
theorem own_sta_keep {Z : State} {h h' : Heap} {C n d : String} {v : Value} {ws : List Addr} (F : Sta Z h C n d v) (K : Keep h h' ws) (q : ∀ x ∈ ws, ∀ cell : Cell, h[x]? = some cell → cell.vm.isStatics = false) : Sta Z h' C n d v := by
  obtain ⟨cf, i, k, f, st, cell, h1, h2, h3, h4, h5, h6, h7⟩ := F
  refine ⟨cf, i, k, f, st, cell, h1, h2, h3, h4, K.2.1 _ _ h5 (fun hm => ?_), h6, h7⟩
  have q1 := q _ hm cell h5
  rw [h6] at q1; cases q1
theorem own_eplain {Z : State} {h : Heap} {a : Addr} {C : String} (F : Exa Z h a C) : ∀ cell : Cell, h[a]? = some cell → cell.vm.isStatics = false := fun cell hc => by
  obtain ⟨c, k, h1, -, -, h4, -⟩ := F; cases h1.symm.trans hc; exact h4
theorem own_rplain {Z : State} {h : Heap} {a : Addr} {c : Cell} {ty : FieldType} (F : Arr Z h a c ty) : ∀ cell : Cell, h[a]? = some cell → cell.vm.isStatics = false := fun cell hc => by
  cases F.1.symm.trans hc; exact F.plain
theorem own_aplain {Z : State} {h : Heap} {a : Addr} {k : ClassId} {ty : FieldType} {n : Int32} {vs : List Value} {dv : Value} (F : Arv Z h a k ty n vs dv) : ∀ cell : Cell, h[a]? = some cell → cell.vm.isStatics = false := by
  obtain ⟨c, A, -⟩ := F; exact own_rplain A
theorem own_selP {s : State} {args : Array Value} {y : MethodName} {n : Nat} (wi : (Jvm.Cond.instantiable y.cls n).before args s = true) (wp : (Jvm.Cond.privateMethod y).before args s = true) (wn : (Jvm.Cond.instanceMethod y).before args s = true) (hy : y.cls ≠ "java/lang/invoke/MethodHandle" ∧ y.cls ≠ "java/lang/invoke/VarHandle") : (Jvm.Cond.selects y.cls y y).before args s = true := by
  obtain ⟨c, k, hc, hk, -, hniab, -, -⟩ := Cond.instantiable_spec wi
  exact Jvm.Stand.selects_self_of_private hc hk (Bool.or_eq_false_iff.mp hniab).1 (Cond.privateMethod_at wp) wn hy
theorem own_fitsR {t : FieldType} {w : Value} (hw : w.isRef = true) (ht : t.isReference = true) : fits t w = true := by
  rcases ref_cases hw with rfl | ⟨a, rfl⟩ <;> cases t <;> first | rfl | (simp [FieldType.isReference] at ht)
theorem own_wS {Z : State} {a0 : Array Value} (hw : ∀ d ∈ tables_1, d.before a0 Z = true) : ∀ a ∈ Bundle.stringAtoms, a.before a0 Z = true := fun a ha => by
  rcases List.mem_cons.mp ha with rfl | ha
  · exact (hw _ (List.mem_of_getElem? (i := 76) rfl))
  rcases List.mem_cons.mp ha with rfl | ha
  · exact (hw _ (List.mem_of_getElem? (i := 77) rfl))
  rcases List.mem_cons.mp ha with rfl | ha
  · exact (hw _ (List.mem_of_getElem? (i := 78) rfl))
  rcases List.mem_cons.mp ha with rfl | ha
  · exact (hw _ (List.mem_of_getElem? (i := 79) rfl))
  rcases List.mem_cons.mp ha with rfl | ha
  · exact (hw _ (List.mem_of_getElem? (i := 80) rfl))
  rcases List.mem_cons.mp ha with rfl | ha
  · exact (hw _ (List.mem_of_getElem? (i := 81) rfl))
  rcases List.mem_cons.mp ha with rfl | ha
  · exact (hw _ (List.mem_of_getElem? (i := 82) rfl))
  exact absurd ha (List.not_mem_nil)
/-- a static callee throws (it may have interned its message), and the first row of the caller's own table catches -/
theorem own_setTop {B : State} (h : B.topJava?.isSome) (g : JFrame) : B.setTop g = B.setFrames (.java g :: B.frames.tail) := by
  obtain ⟨f, hf⟩ := Option.isSome_iff_exists.mp h
  obtain ⟨r, hr⟩ := State.topJava?_eq_some.mp hf
  exact (State.setTop_of_frames g hr).trans (by simp [hr])
theorem own_push {B : State} (h : B.topJava?.isSome) (g : JFrame) (f : Frame) : (B.setTop g).pushFrame f = B.setFrames (f :: .java g :: B.frames.tail) := by
  rw [State.pushFrame, State.frames_setTop' g h, own_setTop h g, State.setFrames_setFrames]
/-- a free callee's run, from the call to its end -/
theorem own_free {p : Program} {l : Launch} {e : Env} {R : Room} {s : State} {m : MethodId} {args : Array Value} {below : List Frame} {meth : Method} {c : Code} {U : State} {Ls : List Loc} {c0 s0 : Nat} (X : Stand p l e R s m args below meth c U Ls c0 s0) {g : JFrame} (hg : g.method = m) (hsize : g.locals.size = c.maxLocals) {i : Instr} {len : Nat} (hd : decode c.code g.pc = .ok (i, len)) {y : MethodName} {mk : MethodId}
    (hn : U.methodNamed? y = some mk) {my : Method} {cy : Code} (h1 : U.vm.method? mk = some my) (h2 : my.code = some cy) (hz : (Cond.initialized y.cls).before #[] U = true) {S : Spec} {P : Array Value → State → Prop}
    {K : Program → Env → List Frame → State → Array Value → Prop} {Q : Array Value → State → Outcome → State → Prop} (hM : MetFree l y S P K Q) (hf : S.room.frames + 1 ≤ R.frames)
    (hl : 2 * g.monitorRoom + (g.stack.map fun v => v.category).sum + (cy.maxLocals + 11) + S.room.locals ≤ R.locals) (hc : c0 + S.room.cells ≤ R.cells) (hs : s0 + S.room.slots ≤ R.slots) {a : Array Value} (hpre : S.pre.before a U = true)
    (hP : P a (U.calling g mk a)) (hK : K p e (U.setTop g).frames (U.calling g mk a) a) :
    ∃ o t, Steps p.tables e below (doInvoke e (U.setTop g) [] mk a).1 t ∧ Ended t (.java g :: U.frames.tail) o ∧ Q a (U.calling g mk a) o t := by
  have at' : At U g.method c below := hg.symm ▸ X.here
  obtain ⟨ky, y1, -⟩ := className_of_methodNamed hn
  obtain ⟨mid, hm⟩ := at'.above
  have fr := State.frames_setTop' g at'.top
  obtain ⟨o, t, run, -, fin, hq⟩ := Steps.callFree hM p X.admits X.cas X.clock (acts := []) (mid := .java g :: mid) (below := below) (fr.trans (by rw [hm]; rfl))
    (Spec.appliesLoose_calling at' hd hn y1 (Cond.initialized_spec (findClass_of_methodNamed hn) y1 hz) (X.room_calling hsize h1 h2 hf hl hc hs) hpre) hP hK
  exact ⟨o, t, run, fr ▸ fin, hq⟩
/-- where the caller stands behind a callee that may intern -/
theorem own_wide {p : Program} {l : Launch} {e : Env} {R : Room} {s : State} {m : MethodId} {args : Array Value} {below : List Frame} {meth : Method} {c : Code} {U : State} {Ls : List Loc} {c0 s0 : Nat} (X : Stand p l e R s m args below meth c U Ls c0 s0) {g : JFrame} {mk : MethodId} {a : Array Value} {t : State} {L : List Loc} {k n : Nat}
    (hW : (U.calling g mk a).Warmed39 t.vm) (hB : (U.calling g mk a).Booked t.vm t.heap.size) (hs : (U.calling g mk a).sameButNew ({ t with vm := (U.calling g mk a).vm } : State) L k n) :
    ∃ B : State, B.heap = t.heap ∧ B.vm = t.vm ∧ t = B.setFrames t.frames ∧ B.frames = U.frames ∧ Stand p l e R (s.setVm B.vm) m args below meth c B (Ls ++ L) (c0 + k) (s0 + n) ∧ s.Since B.vm B.heap.size ∧ U.sameButNew (B.setVm U.vm) L k n := by
  have z : U.sameButNew ({ t with vm := U.vm } : State) L k n := by
    rw [State.calling_eq X.here.top] at hs
    exact hs.of_setFrames
  have f : U.setFrames U.frames = U := congrArg (fun q : State => q.setVm U.vm) (Sym.setFrames_own X.same)
  have z' : U.sameButNew ((({ U with heap := t.heap, slotsUsed := t.slotsUsed } : State).setVm t.vm).setVm U.vm) L k n := ⟨congrArg (fun q : State => ({ q with heap := t.heap, slotsUsed := t.slotsUsed } : State)) f.symm, z.2⟩
  obtain ⟨X', hS⟩ := X.movedW ((X.here.setHeapUsed t.heap t.slotsUsed).setVm hW.alike) X.tail rfl rfl hW hB z'
  exact ⟨({ U with heap := t.heap, slotsUsed := t.slotsUsed } : State).setVm t.vm, rfl, rfl, congrArg (fun q : State => q.setVm t.vm) z.1, rfl, X', hS, z'⟩
theorem own_catchS {p : Program} {l : Launch} {e : Env} {R : Room} {s Z : State} {m : MethodId} {args a0 : Array Value} {below : List Frame} {meth : Method} {c : Code} {T : State} {locs : List Loc} {cells slots : Nat} {h : Heap}
    (X : Stand p l e R s m args below meth c T locs cells slots) (hx : p.tables.exec = Jvm.exec) {own cls : String} {index : Nat} {y : MethodName} {bytes : ByteArray} {maxL : Nat} {ret : Option FieldType} {rm : Room} {as' : Array Value}
    (hown : s.vm.findClass own = some m.cls) (hlink : (Cond.methodLink own index y).before args s = true) (hstat : (Cond.static y).before args s = true) (hinit : (Cond.initialized y.cls).before args s = true) (hcode : (Cond.code y bytes maxL ret).before args s = true)
    (hy : y.cls ≠ "java/lang/invoke/MethodHandle" ∧ y.cls ≠ "java/lang/invoke/VarHandle") (hZ : Z.Warmed39 s.vm)
    (hM : MetFree l y (head1 [Cond.code y bytes maxL ret] rm) (fun a U => a = as' ∧ Z.Warmed39 U.vm ∧ U.heap = h) (fun _ _ bl st _ => st.vm.MethodsKnown ∧ st.vm.FramesKnown bl) (fun _ U o U' => ThrewNewW cls U [] rm.cells rm.slots o U'))
    (wc : (Cond.code y bytes maxL ret).before a0 Z = true) (wz : (Cond.initialized y.cls).before a0 Z = true) (eT : T.heap = h) (hTK : s.vm.MethodsKnown) (hBelow : s.vm.FramesKnown below)
    {g : JFrame} (hg : g.method = m) (hsize : g.locals.size = c.maxLocals) {argsL rest : List Value} (hlen : ∀ sig, parseMethodDescriptor y.desc = some sig → argsL.length = sig.parameters.length) (hstack : g.stack = argsL.reverse ++ rest) {W : Nat} (hWd : 2 * g.monitorRoom + (rest.map fun v => v.category).sum ≤ W)
    (hf : rm.frames + 1 ≤ R.frames) (hl : W + (maxL + 11) + rm.locals ≤ R.locals) (hc : cells + rm.cells ≤ R.cells) (hs : slots + rm.slots ≤ R.slots) (hdg : decode c.code g.pc = .ok (.invokestatic index, 3)) (has : argsL.toArray = as')
    {x : ExceptionTableEntry} {rst : List ExceptionTableEntry} (hsplit : c.exceptionTable.toList = x :: rst) (hcov : covers x g.pc = true) (h0 : x.catchType ≠ 0) (hcl : (Cond.classLink own x.catchType cls).before args s = true) :
    ∃ (a : Addr) (B : State), Stand p l e R (s.setVm B.vm) m args below meth c B locs (cells + rm.cells) (slots + rm.slots) ∧ s.Since B.vm B.heap.size ∧ h.size ≤ B.heap.size ∧ Keep h B.heap [] ∧
      Steps p.tables e below (T.setTop g) (B.setTop { g with pc := x.handlerPc, stack := [.ref a] }) := by
  obtain ⟨mk, w1⟩ := Cond.code_named hcode
  obtain ⟨my, _, w2, -, -, -, -, -, -, w3⟩ := Cond.code_spec w1 hcode
  obtain ⟨ky, w4, -⟩ := className_of_methodNamed w1
  subst has
  obtain ⟨vm₁, X₁, go⟩ := X.invokestatic hx hown hlink w1 w2 (Cond.static_spec w1 w2 hstat) w4 (Cond.initialized_spec (findClass_of_methodNamed w1) w4 hinit) hy hg (hlen _ w3) hstack hdg
  have hn := X₁.named w1
  have hU : Z.Warmed39 (T.setVm vm₁).vm := wtrans hZ X₁.warmed
  obtain ⟨_, cy, v1, v2, -, v3, -, -, -, -⟩ := Cond.code_spec hn (mv hU wc (args := #[]))
  obtain ⟨o, t, run, fin, thr⟩ := own_free X₁ (g := { g with stack := rest }) hg hsize hdg hn v1 v2 (mv hU wz) hM hf (by rw [v3]; exact Nat.le_trans (Nat.add_le_add_right (Nat.add_le_add_right hWd _) _) hl) hc hs
    (by show (Cond.and _ .tt).before _ _ = true; rw [Cond.before_and, mv hU wc]; rfl) ⟨rfl, hU, eT⟩ (known_frames X₁ hg hTK hBelow)
  obtain ⟨v, ce, k, rfl, r1, r2, r3, r4, r5, hW, hB, hsm⟩ := thr
  obtain ⟨B, b1, b2, b3, b4, X', hS, kept⟩ := own_wide X₁ hW hB hsm
  have tf : t.frames = .throwing v :: .java { g with stack := rest } :: (T.setVm vm₁).frames.tail := fin
  have te : t = (B.setTop { g with stack := rest }).pushFrame (.throwing v) := b3.trans (by rw [tf, own_push X'.here.top, b4])
  have come : Steps p.tables e below (T.setTop g) ((B.setTop { g with stack := rest }).pushFrame (.throwing v)) := te ▸ (go _ fun acts => by rw [doInvoke_state]; exact run)
  obtain ⟨hrow, hk0⟩ := X'.catches_of_link (own := own) (name := cls) (x := x) (thrown := ce.cls) ((hS.1.alike.findClass _ _).trans hown) h0 (Cond.rides hS.1 rfl hcl) (b2 ▸ r4) (b2 ▸ r5)
  obtain ⟨vm', X₃, st₃⟩ := X'.thenCaughtThrough v (g := { g with stack := rest }) hg come (cell := ce) (b1 ▸ r1) (by rw [r2]; rfl) hk0 [] x rst hsplit (fun y hy => by cases hy) hcov hrow
  have X₄ := X₃.retabled X₃.warmed.wide
  rw [List.append_nil] at X₄
  have hold : ∀ (x : Addr) (c0 : Cell), h[x]? = some c0 → B.heap[x]? = some c0 := fun x c0 q => kept.kept_nil (show T.heap[x]? = some c0 from eT ▸ q)
  have hsz : h.size ≤ B.heap.size := eT ▸ kept.2.1
  exact ⟨v, _, X₄, hS.trans (X₃.warmed.since _) (Nat.le_refl _), hsz, ⟨hsz, fun x c0 q _ => hold x c0 q, fun x c0 q => ⟨c0, hold x c0 q, rfl, rfl, rfl⟩⟩, st₃⟩
/-- 'backOfSKL' for a callee with a table of its own -/
theorem own_backSW {p : Program} {l : Launch} {e : Env} {R : Room} {s Z : State} {args a0 : Array Value} {below : List Frame} {h : Heap} {y : MethodName} {bytes : ByteArray} {maxL : Nat} {ret : Option FieldType} {hs : List (Nat × Nat × Nat × Nat)} {rm : Room} {len W : Nat} {as' : Array Value} {Q : Option Value → Heap → List Loc → Prop}
    (hM : MetFree l y (head1 [Cond.codeWith y bytes maxL ret hs] rm) (fun a U => a = as' ∧ Z.Warmed39 U.vm ∧ U.heap = h) (fun _ _ bl s _ => s.vm.MethodsKnown ∧ s.vm.FramesKnown bl) (fun _ U o U' => ∃ v L, o = .returned v ∧ Q v U'.heap L ∧ ReturnedEndW U o U' L rm.cells rm.slots))
    (hZ : Z.Warmed39 s.vm) (wc : (Cond.codeWith y bytes maxL ret hs).before a0 Z = true) (wz : (Cond.initialized y.cls).before a0 Z = true) (hf : rm.frames + 1 ≤ R.frames) (hl : W + (maxL + 11) + rm.locals ≤ R.locals) (hTK : s.vm.MethodsKnown) (hBelow : s.vm.FramesKnown below) :
    BackS l R p e below s args y len W (fun A a => a = as' ∧ A.U.heap = h ∧ A.cells + rm.cells ≤ R.cells ∧ A.slots + rm.slots ≤ R.slots)
      (fun A _ v B => ∃ L, Q v B.U.heap L ∧ B.locs = A.locs ++ L ∧ B.cells = A.cells + rm.cells ∧ B.slots = A.slots + rm.slots) := by
  intro m meth c A g ig mk a X hg hsize hdg hW hn hp
  obtain ⟨U, Ls, c0, s0⟩ := A
  obtain ⟨rfl, eU, hc, hsl⟩ := hp
  have hU : Z.Warmed39 U.vm := wtrans hZ X.warmed
  obtain ⟨_, _, cy, v0, v1, v2, -, v3, -, -, -, -⟩ := Cond.codeWith_spec (mv hU wc (args := #[]))
  cases hn.symm.trans v0
  obtain ⟨o, t, run, fin, v, L, rfl, hQ, -, w1, w2, w3⟩ := own_free X hg hsize hdg hn v1 v2 (mv hU wz) hM hf (by rw [v3]; exact Nat.le_trans (Nat.add_le_add_right (Nat.add_le_add_right hW _) _) hl) hc hsl
    (by show (Cond.and _ .tt).before _ _ = true; rw [Cond.before_and, mv hU wc]; rfl) ⟨rfl, hU, eU⟩ (known_frames X hg hTK hBelow)
  obtain ⟨B, b1, b2, b3, b4, X', hS, kept⟩ := own_wide X w1 w2 w3
  obtain ⟨c₂, i₂, n₂, d1, d2, d3⟩ := fin
  have cB : t.code? g.method = some c := by
    have q := X'.here.code
    rw [State.code?_eq, b2, ← hg] at q
    rw [State.code?_eq]; exact q
  cases d1.symm.trans cB
  cases hdg.symm.trans d2
  have te : t = B.setTop { g with pc := g.pc + len, stack := v.toList ++ g.stack } := b3.trans (by rw [d3, own_setTop X'.here.top, b4])
  exact ⟨v, ⟨B, Ls ++ L, c0 + rm.cells, s0 + rm.slots⟩, X', hS, kept.2.1, ⟨L, b1.symm ▸ hQ, rfl, rfl, rfl⟩, te ▸ run⟩
section Bun
open LibCode.Throwable
theorem own_thObj {args : Array Value} {s : State} {b : ByteArray} (w1 : (Cond.instanceMethod oInit).before args s = true) (w2 : (Cond.code oInit b 1 none).before args s = true) :
    ∃ (m : MethodId) (k : Class) (x : Method) (c : Code), s.methodNamed? oInit = some m ∧ s.vm.classes[m.cls]? = some k ∧ k.name = "java/lang/Object" ∧ s.vm.method? m = some x ∧ x.name = "<init>" ∧ x.isStatic = false ∧ x.isAbstract = false ∧
      lookupSpecial s.vm m.cls "<init>" x.desc = .method m ∧ x.sig.parameters.length = 0 ∧ x.code = some c ∧ c.code = b ∧ x.locks = false := by
  obtain ⟨m, x, n1, n2, n3, n4⟩ := Cond.instanceMethod_spec w1
  obtain ⟨x', c, d1, d2, d3, -, -, d6, -, d8⟩ := Cond.code_spec n1 w2
  cases n2.symm.trans d1
  obtain ⟨k, k1, k2⟩ := Vm.findClass_spec (findClass_of_methodNamed n1)
  have nd := name_of_methodNamed n1 n2
  have sg : x.sig = ⟨[], none⟩ := Option.some.inj (d8.symm.trans (by decide +kernel))
  exact ⟨m, k, x, c, n1, k1, k2, n2, nd.1, n3, n4, nd.2 ▸ lookupSpecial_of_named n1 n2 n3, by rw [sg]; rfl, d2, d3, d6⟩
theorem own_thPool {args : Array Value} {s : State} {x : MethodName} {index c : Nat} {k : Class} {m : MethodId} {cf : ClassFile} (fc : s.vm.findClass tN = some c) (fk : s.vm.classes[c]? = some k) (q : k.cf = some cf) (hn : s.methodNamed? x = some m)
    (hl : (Cond.methodLink tN index x).before args s = true) {pl : Platform} (hpl : pl.magicAccessors = ({} : Platform).magicAccessors) :
    ∃ ci nt, s.vm.MethodLinks pl c index ci m ∧ s.rightAt c index (.method m) = true ∧ (cf.constantPool[index]? = some (.methodref ci nt) ∨ cf.constantPool[index]? = some (.interfaceMethodref ci nt)) := by
  obtain ⟨ci, nt, cf', h1, h2, h3, h4⟩ := Cond.linkedMethod fc fk hn hl pl hpl
  cases q.symm.trans h3
  exact ⟨ci, nt, h1, h2, h4⟩
theorem own_links {args : Array Value} {s : State} {pl : Platform} (howns : pl.frameOwnsMonitors = true) (hfin : pl.finalization = false) (hpl : pl.magicAccessors = ({} : Platform).magicAccessors) {rc : String}
    (w : ∀ d ∈ throwableAtoms, d ≠ .lays tN tN "suppressedExceptions" listD → d.before args s = true) (v1 : (Cond.lays rc tN "suppressedExceptions" listD).before args s = true) (v2 : (Cond.lays rc tN "stackTrace" steD).before args s = true) :
    ∃ T : ThrowableC, T.Links pl s ∧ s.vm.findClass tN = some T.cT ∧ s.methodNamed? tFill = some T.fill ∧ s.methodNamed? tFill0 = some T.fill0 ∧ s.fieldFound? tN "stackTrace" steD = some (T.cT, T.kT, T.i17, T.fStack) ∧ T.fStack.name = "stackTrace" ∧ T.fStack.type = (.array (.object "java/lang/StackTraceElement")) ∧
      s.fieldFound? tN "UNASSIGNED_STACK" steD = some (T.cT, T.kT, T.i13, T.fUnassigned) ∧ ∃ i, s.fieldFound? tN "detailMessage" "Ljava/lang/String;" = some (T.cT, T.kT, i, T.fMsg) := by
  obtain ⟨c, k, _, _, _, _, fc, ff, -⟩ := Cond.laysStatic_spec (w _ (List.mem_of_getElem? (i := 20) rfl) (by simp))
  have fk := (State.fieldFound?_spec ff).1
  obtain ⟨k0, z1, kn⟩ := Vm.findClass_spec fc
  cases fk.symm.trans z1
  obtain ⟨_, k1, _, -, z2, -, -, -, -, ki⟩ := Cond.superclass_spec fc (w _ (List.mem_of_getElem? (i := 1) rfl) (by simp))
  cases fk.symm.trans z2
  obtain ⟨j13, i13, f13, b13, _, l13, r13, a13, s13, -, -, y13, -, -, -, -, x13⟩ := Cond.ownStatic (t := (.array (.object "java/lang/StackTraceElement"))) fc fk (by decide +kernel) (w _ (List.mem_of_getElem? (i := 19) rfl) (by simp)) (w _ (List.mem_of_getElem? (i := 20) rfl) (by simp)) pl hpl
  obtain ⟨j20, i20, f20, b20, _, l20, r20, a20, s20, -, -, y20, -, -, -, -, x20⟩ := Cond.ownStatic (t := (.object "java/util/List")) fc fk (by decide +kernel) (w _ (List.mem_of_getElem? (i := 21) rfl) (by simp)) (w _ (List.mem_of_getElem? (i := 22) rfl) (by simp)) pl hpl
  obtain ⟨j7, i7, f7, l7, r7, a7, s7, n7, m7, t7, x7⟩ := Cond.ownField (t := (.object tN)) fc fk (by decide +kernel) (w _ (List.mem_of_getElem? (i := 13) rfl) (by simp)) (w _ (List.mem_of_getElem? (i := 14) rfl) (by simp)) pl hpl
  obtain ⟨j17, i17, f17, l17, r17, a17, s17, n17, m17, t17, x17⟩ := Cond.ownField (t := (.array (.object "java/lang/StackTraceElement"))) fc fk (by decide +kernel) (w _ (List.mem_of_getElem? (i := 15) rfl) (by simp)) (w _ (List.mem_of_getElem? (i := 16) rfl) (by simp)) pl hpl
  obtain ⟨j24, i24, f24, l24, r24, a24, s24, n24, m24, t24, x24⟩ := Cond.ownField (t := (.object "java/util/List")) fc fk (by decide +kernel) (w _ (List.mem_of_getElem? (i := 17) rfl) (by simp)) v1 pl hpl
  obtain ⟨_, _, cM, kM, iM, fM, -, -, xM, sM, nM, -⟩ := Cond.lays_spec (w _ (List.mem_of_getElem? (i := 23) rfl) (by simp))
  cases fc.symm.trans (Cond.lays_declared (w _ (List.mem_of_getElem? (i := 23) rfl) (by simp)) xM)
  cases fk.symm.trans (State.fieldFound?_spec xM).1
  obtain ⟨iF, mF, p1, p2, p3, p4, p5, -, -⟩ := Cond.ownMethod (x := tFill) fc fk (w _ (List.mem_of_getElem? (i := 2) rfl) (by simp))
  obtain ⟨_, cF, u1, u2, u3, u4, u5, u6, -, u8⟩ := Cond.codeSync_spec p1 (w _ (List.mem_of_getElem? (i := 3) rfl) (by simp))
  cases p2.symm.trans u1
  obtain ⟨iN, mN, g1, g2, g3, g4, g5, g6, g7⟩ := Cond.ownMethod (x := tFill0) fc fk (w _ (List.mem_of_getElem? (i := 4) rfl) (by simp))
  obtain ⟨_, _, e1, e2, e3, e4, e5, e6⟩ := Cond.native_spec (w _ (List.mem_of_getElem? (i := 5) rfl) (by simp))
  cases g1.symm.trans e1
  cases g2.symm.trans e2
  obtain ⟨mO, kO, xO, cO, o1, o2, o3, o4, o5, o6, o7, o8, o9, o10, o11, o12⟩ := own_thObj (w _ (List.mem_of_getElem? (i := 8) rfl) (by simp)) (w _ (List.mem_of_getElem? (i := 9) rfl) (by simp))
  obtain ⟨j1, n1, cf, b1, b2, q, b4⟩ := Cond.linkedMethod fc fk o1 (w _ (List.mem_of_getElem? (i := 10) rfl) (by simp)) pl hpl
  obtain ⟨j27, n27, l27, r27, z27⟩ := own_thPool fc fk q p1 (w _ (List.mem_of_getElem? (i := 11) rfl) (by simp)) hpl
  obtain ⟨j202, n202, l202, r202, z202⟩ := own_thPool fc fk q g1 (w _ (List.mem_of_getElem? (i := 12) rfl) (by simp)) hpl
  have sF : mF.sig = ⟨[], some (.object tN)⟩ := Option.some.inj (u8.symm.trans (by decide +kernel))
  have sN : mN.sig = ⟨[.int], some (.object tN)⟩ := Option.some.inj (e6.symm.trans (by decide +kernel))
  refine ⟨{ cT := c, kT := k, cO := c, aS := b13, fillIdx := iF, fill0Idx := iN, initSIdx := iF, obj := mO, kObj := kO, methFill := mF, methFill0 := mN, methInitS := mF, methObj := xO, codeFill := cF, codeInitS := cF, codeObj := cO, fBack := f17, fDepth := f17, fStack := f17, fCause := f7, fSupp := f24, fMsg := fM, fUnassigned := f13, fSentinel := f20, cfT := cf, ci1 := j1, n1 := n1, ci27 := j27, n27 := n27, ci202 := j202, n202 := n202, ci7 := j7, i7 := i7, ci13 := j13, i13 := i13, ci17 := j17, i17 := i17, ci20 := j20, i20 := i20, ci24 := j24, i24 := i24 }, ?_, fc, p1, g1, x17, m17, t17, x13, iM, xM⟩
  exact { owns := howns, noFinalization := hfin, cls := fk, name := kn, boot := Vm.findClass_boot fc fk, notInterface := ki, initialized := Cond.initialized_spec fc fk (w _ (List.mem_of_getElem? (i := 0) rfl) (by simp)), statics := y13, fillAt := p3, fillCode := u2, fillBytes := u3, fillLocals := u4, fillLocks := u6, fillStatic := p4, fillAbstract := p5, fillReturns := u5, fillParams := by rw [sF], fill0At := g3, fill0Name := g6, fill0Desc := g7, fill0Params := by rw [sN], fill0Static := g4, fill0Native := e3, fill0Code := e4, fill0Locks := e5, fill0Abstract := g5, stackInstance := s17, stackNotFinal := n17, unassignedStatic := s13, objClass := o2, objClassName := o3, objMethod := o4, objName := o5, objStatic := o6, objAbstract := o7, objFound := o8, objParams := o9, objCode := o10, objBytes := o11, objLocks := o12, causeInstance := s7, causeNotFinal := n7, sentinelStatic := s20, suppInstance := s24, suppNotFinal := n24, msgInstance := sM, msgNotFinal := nM, stackApartSupp := Cond.lays_apart v2 v1 x17 x24 (by rw [m17, m24]; decide), file := q, mlink1 := b1, mright1 := b2, pool1 := b4, mlink27 := l27, mright27 := r27, pool27 := z27, mlink202 := l202, mright202 := r202, pool202 := z202, link7 := l7, right7 := r7, at7 := a7, link13 := l13, right13 := r13, at13 := a13, link17 := l17, right17 := r17, at17 := a17, link20 := l20, right20 := r20, at20 := a20, link24 := l24, right24 := r24, at24 := a24 }
end Bun
section Fil
open Jvm.Free.Exc
def own_B (rc : String) : List Jvm.Cond := [.declares tFill, .selects rc tFill0 tFill0, .selects rc tFill tFill, .lays rc tN "cause" thD, .lays rc tN "stackTrace" steD, .lays rc tN "suppressedExceptions" listD, .lays rc tN "detailMessage" msgD,
  .fieldLink tN 198 tN "backtrace" obD, .lays tN tN "backtrace" obD, .lays rc tN "backtrace" obD, .arrayOver (.object "java/lang/Object"), .soleField tN "backtrace", .soleField tN "depth", .lays rc tN "depth" "I", .instantiable rc 6]
/-- which method is run where a class of the receiver's name selects it itself -/
theorem own_selOf {l : Launch} {e : Env} {s : State} {args : Array Value} {rc : String} {x : MethodName} {c : ClassId} {m : MethodId} (ad : l.admits e) (w : (Cond.selects rc x x).before args s = true) (fr : s.vm.findClass rc = some c) (hn : s.methodNamed? x = some m) (hf : s.methodFound? x.cls x.name x.desc = some m) :
    selectMethod e.platform s.vm c m = .method m := by
  obtain ⟨_, _, _, q1, q2, q3, q4, -⟩ := Cond.selects_spec w
  cases q1.symm.trans fr; cases q3.symm.trans hn; cases q2.symm.trans hf
  exact (Launch.admits_selectMethod ad _ _ _).trans q4
/-- a field of Throwable's own that a class lays -/
theorem own_laid {s : State} {args : Array Value} {rc n d : String} {t : FieldType} {c : ClassId} {k : Class} (fc : s.vm.findClass tN = some c) (fk : s.vm.classes[c]? = some k) (ht : parseFieldDescriptor d = some t) (w : (Cond.lays rc tN n d).before args s = true) :
    ∃ i f, s.fieldFound? tN n d = some (c, k, i, f) ∧ k.fields[i]? = some f ∧ f.isStatic = false ∧ f.name = n ∧ f.type = t := by
  obtain ⟨_, _, _, _, i, f, -, -, x, st, -⟩ := Cond.lays_spec w
  cases fc.symm.trans (Cond.lays_declared w x)
  cases fk.symm.trans (State.fieldFound?_spec x).1
  exact ⟨i, f, x, (State.fieldFound?_spec x).2, st, State.fieldFound?_type x ht⟩
set_option maxHeartbeats 4000000 in
/-- fillInStackTrace() on the object that is being made, in Throwable's constructor -/
theorem own_fill {p : Program} {l : Launch} {e : Env} {R : Room} {s Z : State} {m : MethodId} {args : Array Value} {below : List Frame} {meth : Method} {c : Code} {T : State} {locs : List Loc} {h : Heap}
    (X : Stand p l e R s m args below meth c T locs 0 0) (hx : p.tables.exec = Jvm.exec) (htr : e.platform.stackTraces = true) (hZ : Z.Warmed39 s.vm) {rc : String}
    (W1 : ∀ d ∈ throwableAtoms, d ≠ .lays tN tN "suppressedExceptions" listD → d.before args s = true) (W2 : ∀ d ∈ own_B rc, d.before args s = true) (hown : s.vm.findClass tN = some m.cls) (hTK : s.vm.MethodsKnown) (hBelow : s.vm.FramesKnown below) (eT : T.heap = h)
    {a : Addr} (hloc : ∀ x ∈ locs, x.base = a) (E : Exa Z h a rc) (U : Unt h a) {us : Value} (hu : us.isRef = true) (FS : Fld Z h a tN "stackTrace" steD us) (FB : Fld Z h a tN "backtrace" obD .null) (FM : Fld Z h a tN "detailMessage" msgD .null) (SU : Sta Z h tN "UNASSIGNED_STACK" steD us)
    {g : JFrame} (hg : g.method = m) (hsize : g.locals.size = c.maxLocals) (hs : g.stack = [.ref a]) (hmr : g.monitorRoom = 0) (hd : decode c.code g.pc = .ok (.invokevirtual 27, 3)) (hf : 3 ≤ R.frames) (hlo : 42 ≤ R.locals) (hce : 1 ≤ R.cells) (hsl : 2752 ≤ R.slots) :
    ∃ (T' : State) (L : List Loc), Stand p l e R s m args below meth c T' L 1 2752 ∧ (∀ x ∈ L, x.base = a) ∧ Keep h T'.heap [a] ∧ Unt T'.heap a ∧ Fld Z T'.heap a tN "detailMessage" msgD .null ∧
      Steps p.tables e below (T.setTop g) (T'.setTop { g with pc := g.pc + 3, stack := [.ref a] }) := by
  have pf : e.platform.frameOwnsMonitors = true ∧ e.platform.finalization = false ∧ e.platform.magicAccessors = ({} : Platform).magicAccessors := by rw [X.admits.platform]; exact ⟨rfl, rfl, rfl⟩
  obtain ⟨TC, L, y1, y2, y3, y4, y5, y6, y7, y8⟩ := own_links (args := args) pf.1 pf.2.1 pf.2.2 W1 (W2 _ (List.mem_of_getElem? (i := 5) rfl)) (W2 _ (List.mem_of_getElem? (i := 4) rfl))
  obtain ⟨cell, kZ, e1, e2, e3, e4, e5⟩ := E
  obtain ⟨cU, u1, u2, u3⟩ := U
  cases e1.symm.trans u1
  have hfound : s.vm.findClass rc = some cell.cls := by rw [hZ.alike.findClass]; exact e2
  obtain ⟨cX, kX, i1, i2, i3, -⟩ := Cond.instantiable_spec (W2 (.instantiable rc 6) (by simp [own_B]))
  cases hfound.symm.trans i1
  obtain ⟨kX', hkX', hek⟩ := hZ.alike.2.2 _ _ e3
  cases i2.symm.trans hkX'
  have hsz : cell.slots.size = kX.instanceTypes.size := by
    have q := e5 (by rw [hek] at i3; exact i3)
    rw [q, hek]
  have hsel0 := own_selOf X.admits (W2 _ (List.mem_of_getElem? (i := 1) rfl)) hfound y3 (State.methodFound?_of_named y3 (by decide))
  have fld : ∀ {n d : String} {v : Value} {cf : ClassId} {k : Class} {i : Nat} {f : Field}, Fld Z h a tN n d v → s.fieldFound? tN n d = some (cf, k, i, f) → cell.slots[f.slot]? = some v := fun {n d v cf k i f} F q => by
    obtain ⟨c1, cf1, k1, i1', f1, h1, h2, -, -, -, -, h7⟩ := F
    cases e1.symm.trans h1
    obtain ⟨k2, q2, -⟩ := State.fieldFound?_setVm (s := Z) hZ.alike h2
    cases q.symm.trans q2
    exact h7
  obtain ⟨cfU, iU, kU, fU, aU, cellS, s1, s2, -, s4, s5, s6, s7⟩ := SU
  obtain ⟨kU', sq1, sq2⟩ := State.fieldFound?_setVm (s := Z) hZ.alike s1
  cases y7.symm.trans sq1
  have hsU : TC.kT.statics = some aU := by rw [sq2]; exact s4
  cases Option.some.inj (hsU.symm.trans L.statics)
  have hneS : TC.aS ≠ a := fun q => by
    rw [q, e1] at s5
    rw [← Option.some.inj s5, u2] at s6
    cases s6
  have hknS : cellS.vm ≠ .unknown := fun q => by rw [q] at s6; cases s6
  obtain ⟨j198, i198, fB, k1, k2, k3, sB, -, nB, tB, xB⟩ := Cond.ownField (t := .object "java/lang/Object") y1 L.cls (by decide +kernel) (W2 _ (List.mem_of_getElem? (i := 7) rfl)) (W2 _ (List.mem_of_getElem? (i := 8) rfl)) e.platform pf.2.2
  obtain ⟨iD, fD, xD, aD, sD, nD, tD⟩ := own_laid (t := .int) y1 L.cls (by decide +kernel) (W2 _ (List.mem_of_getElem? (i := 13) rfl))
  obtain ⟨iM, xM⟩ := y8
  have nM : TC.fMsg.name = "detailMessage" := (State.fieldFound?_type xM (t := .object "java/lang/String") (by decide +kernel)).1
  obtain ⟨comp, cO, kO, -, -, hkO, hkindO, hO⟩ := Cond.arrayOver_spec (W2 _ (List.mem_of_getElem? (i := 10) rfl))
  have ty : ∀ {n d : String} {i : Nat} {f : Field}, (Cond.lays rc tN n d).before args s = true → s.fieldFound? tN n d = some (TC.cT, TC.kT, i, f) → kX.instanceTypes[f.slot]? = some f.type := fun w x => (Cond.laysAt hfound i2 x w).1
  have off : ∀ {n d : String} {i : Nat} {f : Field}, (Cond.lays rc tN n d).before args s = true → s.fieldFound? tN n d = some (TC.cT, TC.kT, i, f) → f.name ≠ "detailMessage" → TC.fMsg.slot ≠ f.slot := fun w x q => Cond.lays_apart (W2 _ (List.mem_of_getElem? (i := 6) rfl)) w xM x (by rw [nM]; exact Ne.symm q)
  have tk : ∀ {f : Field} {v : Value}, kX.instanceTypes[f.slot]? = some f.type → fits f.type v = true → Jvm.Takes s cell f v := fun {f v} h1 h2 => by
    obtain ⟨q1, q2⟩ := Takes.of_laid (v := v) i2 i3 h1 h2
    exact ⟨by rw [hsz]; simpa using q1, by rw [u2]; exact q2⟩
  have fS' : fits TC.fStack.type us = true := by rw [y6]; exact fits_refV_array _ ⟨us, hu⟩
  have hSE := W2 (.selects rc tFill tFill) (by simp [own_B])
  have hcellT : T.heap[a]? = some cell := by rw [eT]; exact e1
  have hcellST : T.heap[TC.aS]? = some cellS := by rw [eT]; exact s5
  subst hg
  obtain ⟨v6, vm6, ⟨T6, L6, c6, n6⟩, hW6, X6, ⟨hv6, C6, n, hn, hD6, q1, q2, q3, q4, hL6, hc6, hn6'⟩, come27⟩ := X.virtualBack hx (own := tN) (C := rc) (index := 27) (y := tFill) (z := tFill) hown (W1 (.methodLink tN 27 tFill) (by simp [throwableAtoms]) (by simp)) (W2 (.declares tFill) (by simp [own_B])) (notFace_of_selects hSE) hSE (W1 (.instanceMethod tFill) (by simp [throwableAtoms]) (by simp)) (by decide)
    (fillPaysAny (l := l) (W := 0) hx htr TC L y2 (u0 := ⟨us, hu⟩) (self := a) (cell := cell) (cellS := cellS) (fun _ => by rw [u2]; simp) (by rw [u2]; simp) (by rw [u3]) (by rw [u3]) (fld FS y4) hsel0 hneS hknS s7 (tk (ty (W2 _ (List.mem_of_getElem? (i := 4) rfl)) y4) fS')
      ⟨{ ci198 := j198, i198 := i198, fBack := fB }, ⟨k1, k2, k3, sB⟩, fld FB xB⟩ hTK hBelow y1 hO hkO hkindO (Cond.soleField_find y1 L.cls (W2 _ (List.mem_of_getElem? (i := 11) rfl)) k3 nB sB) (Cond.soleField_find y1 L.cls (W2 _ (List.mem_of_getElem? (i := 12) rfl)) aD nD sD)
      (fun x => tk (ty (W2 _ (List.mem_of_getElem? (i := 9) rfl)) xB) (by rw [tB]; rfl)) (fun x => tk (ty (W2 _ (List.mem_of_getElem? (i := 13) rfl)) xD) (by rw [tD]; rfl)) (by omega) (by omega))
    (b := a) (cB := cell.cls) hfound ⟨cell, hcellT, rfl, by rw [u2]; rfl⟩ (g := g) rfl hsize (Steps.refl _) (argsL := []) (rest := [])
    (fun sig h => by rw [show parseMethodDescriptor tFill.desc = some ⟨[], some (.object tN)⟩ from by decide +kernel] at h; rw [← Option.some.inj h]; rfl) hs (by rw [hmr]; show 2 * 0 + 0 ≤ 0; decide) hd
    (fun vmx hWx => ⟨rfl, by show 0 + 1 ≤ R.cells; omega, by show 0 + 2752 ≤ R.slots; omega, hcellT, hcellST⟩)
  dsimp only [Pt.U, Pt.locs, Pt.cells, Pt.slots] at X6 hD6 hL6 hc6 hn6' come27
  subst hv6 hL6 hc6 hn6'
  have hL6 : ∀ x ∈ locs ++ [⟨a, fB.slot⟩, ⟨a, fD.slot⟩, ⟨a, TC.fStack.slot⟩], x.base = a := fun x hx => by
    rcases List.mem_append.mp hx with q | q
    · exact hloc x q
    · simp only [List.mem_cons, List.not_mem_nil, or_false] at q
      rcases q with rfl | rfl | rfl <;> rfl
  have z1 : s.heap.size ≤ T.heap.size := X.same.2.1
  have z2 : T.heap.size ≤ s.heap.size + 0 := X.same.2.2.1
  have z3 : s.heap.size ≤ T6.heap.size := X6.same.2.1
  have same : ∀ {T' : State} {L' : List Loc} {c' n' : Nat}, Stand p l e R s g.method args below meth c T' L' c' n' → (∀ x ∈ L', x.base = a) → ∀ (x : Addr) (c0 : Cell), x ≠ a → s.heap[x]? = some c0 → T'.heap[x]? = some c0 := fun {T' L' c' n'} X' hL' x c0 hne q => by
    obtain ⟨c1, w1, w2, -, w4⟩ := X'.same.2.2.2.2.2 x c0 q
    have w5 : c1.slots = c0.slots := Array.ext_getElem? fun i => w4 i fun hm => hne (hL' _ hm)
    have w6 : T'.heap[x]? = some c1 := w1
    rw [w6, w2, w5]
  have mon : ∀ {T' : State} {L' : List Loc} {c' n' : Nat} {c1 ca : Cell}, Stand p l e R s g.method args below meth c T' L' c' n' → s.heap[a]? = some ca → T'.heap[a]? = some c1 → c1.monitor = ca.monitor := fun {T' L' c' n' c1 ca} X' q q' => by
    obtain ⟨c2, w1, w2, -, -⟩ := X'.same.2.2.2.2.2 a ca q
    have w6 : T'.heap[a]? = some c2 := w1
    cases q'.symm.trans w6
    rw [w2]
  have there : ∀ x, x < h.size → ∃ c0, s.heap[x]? = some c0 := fun x hx => by
    have : x < s.heap.size := by rw [← eT] at hx; omega
    exact ⟨_, Array.getElem?_eq_getElem this⟩
  have alt : a < h.size := (Array.getElem?_eq_some_iff.mp e1).1
  obtain ⟨ca, hca⟩ := there a alt
  have hmon : C6.monitor = {} := by rw [mon X6 hca hD6, ← mon X hca hcellT, u3]
  have keepO : ∀ (x : Addr) (c0 : Cell), h[x]? = some c0 → x ≠ a → T6.heap[x]? = some c0 := fun x c0 q hne => by
    obtain ⟨c1, w⟩ := there x (Array.getElem?_eq_some_iff.mp q).1
    have w2 := same X hloc x c1 hne w
    rw [eT] at w2
    cases q.symm.trans w2
    exact same X6 hL6 x _ hne w
  refine ⟨T6, _, X6.more (by omega) (by omega), hL6, ⟨by rw [← eT]; omega, fun x c0 q hn => keepO x c0 q fun z => hn (by rw [z]; exact List.mem_singleton.mpr rfl), fun x c0 q => ?_⟩, ⟨C6, hD6, q2.trans u2, hmon⟩, ?_, come27⟩
  · by_cases z : x = a
    · subst z
      cases e1.symm.trans q
      exact ⟨C6, hD6, q1, q2, q3⟩
    · exact ⟨c0, keepO x c0 q z, rfl, rfl, rfl⟩
  · have q5 := fld FM xM
    obtain ⟨c1, cf1, k1, i1', f1, h1, h2, h3, h4, h5, h6, -⟩ := FM
    cases e1.symm.trans h1
    obtain ⟨k2, q6, -⟩ := State.fieldFound?_setVm (s := Z) hZ.alike h2
    cases xM.symm.trans q6
    exact ⟨C6, _, _, _, _, hD6, h2, h3, by rw [q2]; exact h4, by rw [q2]; exact h5, by rw [q1]; exact h6, (q4 _ (off (W2 _ (List.mem_of_getElem? (i := 9) rfl)) xB (by rw [nB]; decide)) (off (W2 _ (List.mem_of_getElem? (i := 13) rfl)) xD (by rw [nD]; decide)) (off (W2 _ (List.mem_of_getElem? (i := 4) rfl)) y4 (by rw [y5]; decide))).trans q5⟩
end Fil
theorem own_thS {Z : State} {h : Heap} (E : Ext Z.heap h) : ThS Z h := fun _ _ _ _ _ _ _ q _ => E.2 _ _ q
theorem own_sub1 : (throwableAtoms.all fun d => (tables_1.contains d && xOk d) || decide (d = .lays tN tN "suppressedExceptions" listD)) = true := by decide +kernel
theorem own_sub2' : ((own_B "java/lang/ArithmeticException").all fun d => tables_1.contains d && xOk d) = true := by decide +kernel
theorem own_W1 {Z s : State} {a0 args : Array Value} (hw : ∀ d ∈ tables_1, d.before a0 Z = true) (hZ : Z.Warmed39 s.vm) (E : Ext Z.heap s.heap) : ∀ d ∈ throwableAtoms, d ≠ .lays tN tN "suppressedExceptions" listD → d.before args s = true := fun d hd hne => by
  rcases Bool.or_eq_true_iff.mp (List.all_eq_true.mp own_sub1 d hd) with q | q
  · obtain ⟨q1, q2⟩ := Bool.and_eq_true_iff.mp q
    exact mvX (own_thS E) hZ q2 (hw d (by simpa using q1))
  · exact absurd (of_decide_eq_true q) hne
theorem own_W2 {Z s : State} {a0 args : Array Value} (hw : ∀ d ∈ tables_1, d.before a0 Z = true) (hZ : Z.Warmed39 s.vm) (E : Ext Z.heap s.heap) : ∀ d ∈ own_B "java/lang/ArithmeticException", d.before args s = true := fun d hd => by
  obtain ⟨q1, q2⟩ := Bool.and_eq_true_iff.mp (List.all_eq_true.mp own_sub2' d hd)
  exact mvX (own_thS E) hZ q2 (hw d (by simpa using q1))
theorem own_kext {h0 h : Heap} {Z : State} (E : Ext Z.heap h0) (K : Keep h0 h []) : Ext Z.heap h := ⟨Nat.le_trans E.1 K.1, fun a c q => K.2.1 _ _ (E.2 _ _ q) (by simp)⟩
theorem own_fresh {s : State} {n0 : Nat} {h0 : Heap} {L : List Loc} (hh : s.heap = h0) (hn : h0.size ≤ n0) (N : Fr n0 L) : ∀ x ∈ L, x ∈ ([] : List Loc) ∨ s.heap.size ≤ x.base := fun x hx => Or.inr (by rw [hh]; exact Nat.le_trans hn (N x hx))
def own_fits (a g : Int64) : Prop := a.toInt + g.toInt ≤ 9223372036854775807 ∧ 0 ≤ g.toInt ∧ g.toInt < 9223372036854775807
theorem own_gap {x g : Int64} (h : g = (x &&& (9223372036854775807 : Int64)) % (9223372036854775807 : Int64)) : 0 ≤ g.toInt ∧ g.toInt < 9223372036854775807 := by
  have hm : (x &&& (9223372036854775807 : Int64)).toInt = x.toInt % (2 ^ 63 : Nat) := c_maskL x (9223372036854775807 : Int64) 63 (by decide) (by decide)
  have e : (9223372036854775807 : Int64).toInt = 9223372036854775807 := by decide
  have hv : 0 ≤ (x &&& (9223372036854775807 : Int64)).toInt := by rw [hm]; exact Int.emod_nonneg _ (by decide)
  have hr : ((x &&& (9223372036854775807 : Int64)) % (9223372036854775807 : Int64)).toInt = (x &&& (9223372036854775807 : Int64)).toInt % 9223372036854775807 := by rw [Int64.toInt_mod, Int.tmod_eq_emod_of_nonneg hv, e]
  rw [← h] at hr; omega
theorem own_fitA {a g : Int64} (hg : 0 ≤ g.toInt ∧ g.toInt < 9223372036854775807) (h : ¬ ((9223372036854775807 : Int64) - g) < a) : own_fits a g := by
  have e : (9223372036854775807 : Int64).toInt = 9223372036854775807 := by decide
  have m := c_lsub (9223372036854775807 : Int64) g
  have r := rng64 ((9223372036854775807 : Int64) - g)
  rw [Int64.lt_iff_toInt_lt] at h
  exact ⟨by omega, hg.1, hg.2⟩
theorem own_fitB {a g : Int64} (hg : 0 ≤ g.toInt ∧ g.toInt < 9223372036854775807) (h : ((9223372036854775807 : Int64) - g) < a) : own_fits (a - g) g := by
  have e : (9223372036854775807 : Int64).toInt = 9223372036854775807 := by decide
  have m := c_lsub (9223372036854775807 : Int64) g
  have m2 := c_lsub a g
  have r := rng64 ((9223372036854775807 : Int64) - g)
  have r2 := rng64 (a - g)
  have r3 := rng64 a
  rw [Int64.lt_iff_toInt_lt] at h
  exact ⟨by omega, hg.1, hg.2⟩
theorem own_rt {a g : Int64} (h : own_fits a g) : ((a + g) - a).toInt = g.toInt := by
  obtain ⟨h1, h2, h3⟩ := h
  have m := c_ladd a g
  have m2 := c_lsub (a + g) a
  have r := rng64 (a + g)
  have r2 := rng64 ((a + g) - a)
  have r3 := rng64 a
  omega
theorem own_rtM {a g : Int64} (h : own_fits a g) : ((a + g) - a) < (9223372036854775807 : Int64) := by
  have e : (9223372036854775807 : Int64).toInt = 9223372036854775807 := by decide
  rw [Int64.lt_iff_toInt_lt, own_rt h, e]; exact h.2.2
theorem own_cmp {a g b k : Int64} (h1 : own_fits a g) (h2 : own_fits b k) : ((b + k) - b) < ((a + g) - a) ↔ k < g := by
  rw [Int64.lt_iff_toInt_lt, Int64.lt_iff_toInt_lt, own_rt h1, own_rt h2]
theorem own_par (x : Int) : x % 2 = 0 ∨ x % 2 = 1 := by omega
theorem own_bit (x y : Int64) : ((x &&& y) &&& (1 : Int64)).toInt = (x.toInt % 2) * (y.toInt % 2) := by
  have e1 : ((x &&& y) &&& (1 : Int64)).toInt = (x &&& y).toInt % (2 ^ 1 : Nat) := c_maskL (x &&& y) (1 : Int64) 1 (by decide) (by decide)
  have ex : (x &&& (1 : Int64)).toInt = x.toInt % (2 ^ 1 : Nat) := c_maskL x (1 : Int64) 1 (by decide) (by decide)
  have ey : (y &&& (1 : Int64)).toInt = y.toInt % (2 ^ 1 : Nat) := c_maskL y (1 : Int64) 1 (by decide) (by decide)
  have hz : (x &&& y) &&& (1 : Int64) = (x &&& (1 : Int64)) &&& (y &&& (1 : Int64)) := by
    apply Int64.toBitVec_inj.mp
    simp only [Int64.toBitVec_and]
    ext i hi
    simp only [BitVec.getElem_and]
    cases x.toBitVec[i] <;> cases y.toBitVec[i] <;> cases (1 : Int64).toBitVec[i] <;> rfl
  have e2 : ((2 ^ 1 : Nat) : Int) = 2 := by decide
  rw [e2] at ex ey
  have px : x &&& (1 : Int64) = 0 ∨ x &&& (1 : Int64) = 1 := by
    rcases own_par x.toInt with q | q
    · left; rw [← Int64.toInt_inj, ex, q]; decide
    · right; rw [← Int64.toInt_inj, ex, q]; decide
  have py : y &&& (1 : Int64) = 0 ∨ y &&& (1 : Int64) = 1 := by
    rcases own_par y.toInt with q | q
    · left; rw [← Int64.toInt_inj, ey, q]; decide
    · right; rw [← Int64.toInt_inj, ey, q]; decide
  rw [hz, ← ex, ← ey]
  rcases px with q | q <;> rcases py with w | w <;> rw [q, w] <;> decide
theorem own_mid {ma g : Int64} (h : own_fits ma g) : (((ma >>> ((1 : Int32) &&& 0x3f).toInt64) + ((ma + g) >>> ((1 : Int32) &&& 0x3f).toInt64)) + ((ma &&& (ma + g)) &&& (1 : Int64))) = (ma + (((ma + g) - ma) / (2 : Int64))) := by
  obtain ⟨h1, h2, h3⟩ := id h
  have s1 := c_lshr ma (1 : Int32) 1 (by decide)
  have s2 := c_lshr (ma + g) (1 : Int32) 1 (by decide)
  have e2 : ((2 ^ 1 : Nat) : Int) = 2 := by decide
  rw [e2] at s1 s2
  have b := own_bit ma (ma + g)
  have m := c_ladd ma g
  have r := rng64 (ma + g)
  have r3 := rng64 ma
  have hb : (ma + g).toInt = ma.toInt + g.toInt := by omega
  have hr := own_rt h
  have hd := (c_ldiv ((ma + g) - ma) (2 : Int64) 2 (by decide) (by decide)).1 (by omega)
  rw [hr] at hd
  have a1 := c_ladd (ma >>> ((1 : Int32) &&& 0x3f).toInt64) ((ma + g) >>> ((1 : Int32) &&& 0x3f).toInt64)
  have a2 := c_ladd ((ma >>> ((1 : Int32) &&& 0x3f).toInt64) + ((ma + g) >>> ((1 : Int32) &&& 0x3f).toInt64)) ((ma &&& (ma + g)) &&& (1 : Int64))
  have a3 := c_ladd ma (((ma + g) - ma) / (2 : Int64))
  have q1 := rng64 ((ma >>> ((1 : Int32) &&& 0x3f).toInt64) + ((ma + g) >>> ((1 : Int32) &&& 0x3f).toInt64))
  have q2 := rng64 (((ma >>> ((1 : Int32) &&& 0x3f).toInt64) + ((ma + g) >>> ((1 : Int32) &&& 0x3f).toInt64)) + ((ma &&& (ma + g)) &&& (1 : Int64)))
  have q3 := rng64 (ma + (((ma + g) - ma) / (2 : Int64)))
  rw [hb] at b s2
  rw [← Int64.toInt_inj]
  rcases own_par ma.toInt with u | u <;> rcases own_par (ma.toInt + g.toInt) with w | w <;> rw [u, w] at b <;> omega
theorem own_d5_0 : decode jdk_29_method_27_code 0 = .ok (.lload_n 0, 1) := by decide +kernel
theorem own_d5_1 : decode jdk_29_method_27_code 1 = .ok (.lload_n 2, 1) := by decide +kernel
theorem own_d5_2 : decode jdk_29_method_27_code 2 = .ok (.lsub, 1) := by decide +kernel
theorem own_d5_3 : decode jdk_29_method_27_code 3 = .ok (.lstore 4, 2) := by decide +kernel
theorem own_d5_5 : decode jdk_29_method_27_code 5 = .ok (.lload_n 0, 1) := by decide +kernel
theorem own_d5_6 : decode jdk_29_method_27_code 6 = .ok (.lload_n 2, 1) := by decide +kernel
theorem own_d5_7 : decode jdk_29_method_27_code 7 = .ok (.lxor, 1) := by decide +kernel
theorem own_d5_8 : decode jdk_29_method_27_code 8 = .ok (.lload_n 0, 1) := by decide +kernel
theorem own_d5_9 : decode jdk_29_method_27_code 9 = .ok (.lload 4, 2) := by decide +kernel
theorem own_d5_11 : decode jdk_29_method_27_code 11 = .ok (.lxor, 1) := by decide +kernel
theorem own_d5_12 : decode jdk_29_method_27_code 12 = .ok (.land, 1) := by decide +kernel
theorem own_d5_13 : decode jdk_29_method_27_code 13 = .ok (.lconst 0, 1) := by decide +kernel
theorem own_d5_14 : decode jdk_29_method_27_code 14 = .ok (.lcmp, 1) := by decide +kernel
theorem own_d5_15 : decode jdk_29_method_27_code 15 = .ok (.ifCond .ge 13, 3) := by decide +kernel
theorem own_d5_28 : decode jdk_29_method_27_code 28 = .ok (.lload 4, 2) := by decide +kernel
theorem own_d5_30 : decode jdk_29_method_27_code 30 = .ok (.lreturn, 1) := by decide +kernel
def QsubR (Z : State) (mx : Int64) (my : Int64) (h0 : Heap) (n0 : Nat) (v : Option Value) (h : Heap) (L : List Loc) : Prop := v = some (.long (mx - my)) ∧ Fr n0 L ∧ h = h0
set_option maxRecDepth 65536 in
set_option maxHeartbeats 40000000 in
theorem rmsubR (l : Launch) (Z : State) (a0 : Array Value) (hw : ∀ d ∈ tables_1, d.before a0 Z = true) (ws : List Jvm.Cond) (mx : Int64) (my : Int64) (h0 : Heap) (n0 : Nat) (Z0 : n0 ≤ h0.size) (hno : ¬ (((mx ^^^ my) &&& (mx ^^^ (mx - my))) < (0 : Int64))) :
    MetFree l (⟨"java/lang/Math", "subtractExact", "(JJ)J"⟩ : MethodName) (head1 (Jvm.Cond.code (⟨"java/lang/Math", "subtractExact", "(JJ)J"⟩ : MethodName) jdk_29_method_27_code 6 (some .long) :: ws) ({ frames := 0, cells := 0, slots := 0, locals := 0 } : Room)) (fun a U => a = #[(.long mx), (.long my)] ∧ Z.Warmed39 U.vm ∧ U.heap = h0) (fun _ _ _ _ _ => True) (fun _ U o U' => ∃ v L, o = .returned v ∧ QsubR Z mx my h0 n0 v U'.heap L ∧ FrameEnd U o U' L ({ frames := 0, cells := 0, slots := 0, locals := 0 } : Room).cells ({ frames := 0, cells := 0, slots := 0, locals := 0 } : Room).slots) := by
  refine MetFree.of_bodySF (Jvm.Free.JP.mathPlain rfl (by decide +kernel)) hisR ?_
  intro p e s m args below meth c s₁ Bd hml0 hP hK
  obtain ⟨rfl, hZ, hh⟩ := hP
  have hx := Bd.exec
  have hby := Bd.bytes
  have hml : c.maxLocals = 6 := hml0
  have hlk := Bd.notSynchronized
  have hown : s.vm.findClass "java/lang/Math" = some m.cls := findClass_of_methodNamed Bd.named
  have hnm := (name_of_methodNamed Bd.named Bd.method).1
  have X0 : Stand p l e ({ frames := 0, cells := 0, slots := 0, locals := 0 } : Room) s m #[(.long mx), (.long my)] below meth c s₁ [] 0 0 := Stand.of_body Bd
  have e0 : s₁.heap = h0 := by rw [← hh, Bd.state]; rfl
  have N0 := Fr.nil n0
  refine own_enter (P := (Done s ({ frames := 0, cells := 0, slots := 0, locals := 0 } : Room).cells ({ frames := 0, cells := 0, slots := 0, locals := 0 } : Room).slots (QsubR Z mx my h0 n0))) (Ls := #[.val (.long mx), .second, .val (.long my), .second, .unset, .unset]) (by first | (simp [entryFrame, mkF, argsToLocals, Value.category]; done) | rfl) ?_
  refine own_lloadN X0 hx 1 rfl (hb hby own_d5_0) rfl ?_
  refine own_lloadN X0 hx 2 rfl (hb hby own_d5_1) rfl ?_
  refine own_lsub X0 hx 3 rfl (hb hby own_d5_2) rfl ?_
  refine own_lstore X0 hx 5 rfl #[.val (.long mx), .second, .val (.long my), .second, .val (.long (mx - my)), .second] (hb hby own_d5_3) rfl ?_
  refine own_lloadN X0 hx 6 rfl (hb hby own_d5_5) rfl ?_
  refine own_lloadN X0 hx 7 rfl (hb hby own_d5_6) rfl ?_
  refine own_lxor X0 hx 8 rfl (hb hby own_d5_7) rfl ?_
  refine own_lloadN X0 hx 9 rfl (hb hby own_d5_8) rfl ?_
  refine own_lload X0 hx 11 rfl (hb hby own_d5_9) rfl ?_
  refine own_lxor X0 hx 12 rfl (hb hby own_d5_11) rfl ?_
  refine own_land X0 hx 13 rfl (hb hby own_d5_12) rfl ?_
  refine own_lconst X0 hx 14 rfl (0 : Int64) (hb hby own_d5_13) (by decide) ?_
  refine own_lcmp X0 hx 15 rfl (hb hby own_d5_14) ?_
  refine own_ifY X0 hx 28 (hb hby own_d5_15) (Lflt (hno : ¬ (((mx ^^^ my) &&& (mx ^^^ (mx - my))) < (0 : Int64)))).2.1 (by decide) (by decide) ?_
  refine own_lload X0 hx 30 rfl (hb hby own_d5_28) rfl ?_
  refine own_retJ X0 hx hlk Bd.returns (hb hby own_d5_30) (by decide) (by decide) e0 ?_
  exact ⟨rfl, N0, rfl⟩
theorem own_d16_0 : decode jdk_78_method_2_code 0 = .ok (.aload_n 0, 1) := by decide +kernel
theorem own_d16_1 : decode jdk_78_method_2_code 1 = .ok (.invokespecial 1, 3) := by decide +kernel
theorem own_d16_4 : decode jdk_78_method_2_code 4 = .ok (.aload_n 0, 1) := by decide +kernel
theorem own_d16_5 : decode jdk_78_method_2_code 5 = .ok (.aload_n 0, 1) := by decide +kernel
theorem own_d16_6 : decode jdk_78_method_2_code 6 = .ok (.putfield 7, 3) := by decide +kernel
theorem own_d16_9 : decode jdk_78_method_2_code 9 = .ok (.aload_n 0, 1) := by decide +kernel
theorem own_d16_10 : decode jdk_78_method_2_code 10 = .ok (.getstatic 13, 3) := by decide +kernel
theorem own_d16_13 : decode jdk_78_method_2_code 13 = .ok (.putfield 17, 3) := by decide +kernel
theorem own_d16_16 : decode jdk_78_method_2_code 16 = .ok (.aload_n 0, 1) := by decide +kernel
theorem own_d16_17 : decode jdk_78_method_2_code 17 = .ok (.getstatic 20, 3) := by decide +kernel
theorem own_d16_20 : decode jdk_78_method_2_code 20 = .ok (.putfield 24, 3) := by decide +kernel
theorem own_d16_23 : decode jdk_78_method_2_code 23 = .ok (.aload_n 0, 1) := by decide +kernel
theorem own_d16_24 : decode jdk_78_method_2_code 24 = .ok (.invokevirtual 27, 3) := by decide +kernel
theorem own_d16_27 : decode jdk_78_method_2_code 27 = .ok (.pop, 1) := by decide +kernel
theorem own_d16_28 : decode jdk_78_method_2_code 28 = .ok (.aload_n 0, 1) := by decide +kernel
theorem own_d16_29 : decode jdk_78_method_2_code 29 = .ok (.aload_n 1, 1) := by decide +kernel
theorem own_d16_30 : decode jdk_78_method_2_code 30 = .ok (.putfield 31, 3) := by decide +kernel
theorem own_d16_33 : decode jdk_78_method_2_code 33 = .ok (.return_, 1) := by decide +kernel
theorem own_pn_java_lang_Throwable : plainName "java/lang/Throwable" = true := by first | (simp [plainName, overriddenIn]; done) | decide +kernel
def Q16 (Z : State) (xo : Addr) (xm : Addr) (us : Value) (ss : Value) (h0 : Heap) (n0 : Nat) (v : Option Value) (h : Heap) (L : List Loc) : Prop := v = none ∧ Fr n0 L ∧ Keep h0 h [xo] ∧ Unt h xo
set_option maxRecDepth 65536 in
set_option maxHeartbeats 40000000 in
theorem rm16 (l : Launch) (Z : State) (a0 : Array Value) (hw : ∀ d ∈ tables_1, d.before a0 Z = true) (ws : List Jvm.Cond) (xo : Addr) (xm : Addr) (us : Value) (ss : Value) (h0 : Heap) (n0 : Nat) (Z0 : n0 ≤ h0.size) (Ex : Exa Z h0 xo "java/lang/ArithmeticException") (gx : n0 ≤ xo) (Ux : Unt h0 xo) (Fcau : Fld Z h0 xo "java/lang/Throwable" "cause" "Ljava/lang/Throwable;" .null) (Fsta : Fld Z h0 xo "java/lang/Throwable" "stackTrace" "[Ljava/lang/StackTraceElement;" .null) (Fsup : Fld Z h0 xo "java/lang/Throwable" "suppressedExceptions" "Ljava/util/List;" .null) (Fbac : Fld Z h0 xo "java/lang/Throwable" "backtrace" "Ljava/lang/Object;" .null) (Fdet : Fld Z h0 xo "java/lang/Throwable" "detailMessage" "Ljava/lang/String;" .null) (hE0 : Ext Z.heap h0) (Fus : Sta Z h0 "java/lang/Throwable" "UNASSIGNED_STACK" "[Ljava/lang/StackTraceElement;" us) (hus : us.isRef = true) (Fss : Sta Z h0 "java/lang/Throwable" "SUPPRESSED_SENTINEL" "Ljava/util/List;" ss) (hss : ss.isRef = true) (hfl : l.flags = flags0) :
    MetFree l (⟨"java/lang/Throwable", "<init>", "(Ljava/lang/String;)V"⟩ : MethodName) (head1 (Jvm.Cond.code (⟨"java/lang/Throwable", "<init>", "(Ljava/lang/String;)V"⟩ : MethodName) jdk_78_method_2_code 2 none :: ws) ({ frames := 3, cells := 1, slots := 2752, locals := 42 } : Room)) (fun a U => a = #[(.ref xo), (.ref xm)] ∧ Z.Warmed39 U.vm ∧ U.heap = h0) (fun _ _ bl st _ => st.vm.MethodsKnown ∧ st.vm.FramesKnown bl) (fun _ U o U' => ∃ v L, o = .returned v ∧ Q16 Z xo xm us ss h0 n0 v U'.heap L ∧ FrameEnd U o U' L ({ frames := 3, cells := 1, slots := 2752, locals := 42 } : Room).cells ({ frames := 3, cells := 1, slots := 2752, locals := 42 } : Room).slots) := by
  refine MetFree.of_bodySF (plainFor_of_name own_pn_java_lang_Throwable) hisR ?_
  intro p e s m args below meth c s₁ Bd hml0 hP hK
  obtain ⟨hTK, hBl⟩ := hK
  obtain ⟨rfl, hZ, hh⟩ := hP
  have hx := Bd.exec
  have hby := Bd.bytes
  have hml : c.maxLocals = 2 := hml0
  have hlk := Bd.notSynchronized
  have hown : s.vm.findClass "java/lang/Throwable" = some m.cls := findClass_of_methodNamed Bd.named
  have hnm := (name_of_methodNamed Bd.named Bd.method).1
  have X0 : Stand p l e ({ frames := 3, cells := 1, slots := 2752, locals := 42 } : Room) s m #[(.ref xo), (.ref xm)] below meth c s₁ [] 0 0 := Stand.of_body Bd
  have e0 : s₁.heap = h0 := by rw [← hh, Bd.state]; rfl
  have N0 := Fr.nil n0
  have K0 : Keep h0 h0 [xo] := Keep.refl _ _
  refine own_enter (P := (Done s ({ frames := 3, cells := 1, slots := 2752, locals := 42 } : Room).cells ({ frames := 3, cells := 1, slots := 2752, locals := 42 } : Room).slots (Q16 Z xo xm us ss h0 n0))) (Ls := #[.val (.ref xo), .val (.ref xm)]) (by first | (simp [entryFrame, mkF, argsToLocals, Value.category]; done) | rfl) ?_
  refine own_aloadN X0 hx 1 rfl (hb hby own_d16_0) rfl rfl ?_
  obtain ⟨T1, X1, e1, st1⟩ := initO X0 hx hZ hown (hw _ (List.mem_of_getElem? (i := 105) rfl)) (hw _ (List.mem_of_getElem? (i := 9) rfl)) (hw _ (List.mem_of_getElem? (i := 10) rfl)) e0 (g := (mkF m 1 #[.val (.ref xo), .val (.ref xm)] [(.ref xo)])) rfl (by rw [hml]; rfl) rfl (hb hby own_d16_1) (by decide) (W := 0) (by show 2 * 0 + _ ≤ _; exact Nat.le_of_eq rfl) (by decide)
  refine Goes.go st1 ?_
  show Goes p e below _ T1 (mkF m 4 #[.val (.ref xo), .val (.ref xm)] [])
  refine own_aloadN X1 hx 5 rfl (hb hby own_d16_4) rfl rfl ?_
  refine own_aloadN X1 hx 6 rfl (hb hby own_d16_5) rfl rfl ?_
  obtain ⟨T2, h2, X2, e2, W2, st2⟩ := putF X1 hx hZ hown (host := "") (Or.inl (hw _ (List.mem_of_getElem? (i := 106) rfl))) Via.refl e1 Fcau Ex (Or.inl (hw _ (List.mem_of_getElem? (i := 107) rfl))) (hw _ (List.mem_of_getElem? (i := 73) rfl)) (ty := (.object "java/lang/Throwable")) (by decide) rfl rfl (g := (mkF m 6 #[.val (.ref xo), .val (.ref xm)] [(.ref xo), (.ref xo)])) rfl rfl (hb hby own_d16_6)
  have N2 := Fr.snoc X2 N0 gx
  have f3 := Ex.wr W2
  have f4 := Ux.wr W2
  have f5 := Fcau.same W2
  have f6 := Fsta.other W2 (Or.inr (slot_ne (Or.inl (hw _ (List.mem_of_getElem? (i := 110) rfl))) (Or.inl (hw _ (List.mem_of_getElem? (i := 107) rfl))) (by decide) (t := (.array (.object "java/lang/StackTraceElement"))) (t' := (.object "java/lang/Throwable")) (by decide) (by decide)))
  have f7 := Fsup.other W2 (Or.inr (slot_ne (Or.inl (hw _ (List.mem_of_getElem? (i := 113) rfl))) (Or.inl (hw _ (List.mem_of_getElem? (i := 107) rfl))) (by decide) (t := (.object "java/util/List")) (t' := (.object "java/lang/Throwable")) (by decide) (by decide)))
  have f8 := Fbac.other W2 (Or.inr (slot_ne (Or.inl (hw _ (List.mem_of_getElem? (i := 138) rfl))) (Or.inl (hw _ (List.mem_of_getElem? (i := 107) rfl))) (by decide) (t := (.object "java/lang/Object")) (t' := (.object "java/lang/Throwable")) (by decide) (by decide)))
  have f9 := Fdet.other W2 (Or.inr (slot_ne (Or.inl (hw _ (List.mem_of_getElem? (i := 137) rfl))) (Or.inl (hw _ (List.mem_of_getElem? (i := 107) rfl))) (by decide) (t := (.object "java/lang/String")) (t' := (.object "java/lang/Throwable")) (by decide) (by decide)))
  have f10 := Fus.wr W2
  have f11 := Fss.wr W2
  have K2 := K0.wr W2 (Or.inl (List.mem_of_getElem? (i := 0) rfl))
  have Z2 := Nat.le_trans Z0 (Nat.le_of_eq W2.size.symm)
  refine Goes.go st2 ?_
  show Goes p e below _ T2 (mkF m 9 #[.val (.ref xo), .val (.ref xm)] [])
  refine own_aloadN X2 hx 10 rfl (hb hby own_d16_9) rfl rfl ?_
  obtain ⟨T12, X12, e12, st12⟩ := getS2 X2 hx hZ hown (host := "") (Or.inl (hw _ (List.mem_of_getElem? (i := 108) rfl))) Via.refl e2 f10 (g := (mkF m 10 #[.val (.ref xo), .val (.ref xm)] [(.ref xo)])) rfl (hb hby own_d16_10)
  refine Goes.go st12 ?_
  show Goes p e below _ T12 (mkF m 13 #[.val (.ref xo), .val (.ref xm)] [us, (.ref xo)])
  obtain ⟨T13, h13, X13, e13, W13, st13⟩ := putF X12 hx hZ hown (host := "") (Or.inl (hw _ (List.mem_of_getElem? (i := 109) rfl))) Via.refl e12 f6 f3 (Or.inl (hw _ (List.mem_of_getElem? (i := 110) rfl))) (hw _ (List.mem_of_getElem? (i := 73) rfl)) (ty := (.array (.object "java/lang/StackTraceElement"))) (by decide) (own_narR hus) (own_fitsR hus rfl) (g := (mkF m 13 #[.val (.ref xo), .val (.ref xm)] [us, (.ref xo)])) rfl rfl (hb hby own_d16_13)
  have N13 := Fr.snoc X13 N2 gx
  have f14 := f3.wr W13
  have f15 := f4.wr W13
  have f16 := f5.other W13 (Or.inr (slot_ne (Or.inl (hw _ (List.mem_of_getElem? (i := 107) rfl))) (Or.inl (hw _ (List.mem_of_getElem? (i := 110) rfl))) (by decide) (t := (.object "java/lang/Throwable")) (t' := (.array (.object "java/lang/StackTraceElement"))) (by decide) (by decide)))
  have f17 := f6.same W13
  have f18 := f7.other W13 (Or.inr (slot_ne (Or.inl (hw _ (List.mem_of_getElem? (i := 113) rfl))) (Or.inl (hw _ (List.mem_of_getElem? (i := 110) rfl))) (by decide) (t := (.object "java/util/List")) (t' := (.array (.object "java/lang/StackTraceElement"))) (by decide) (by decide)))
  have f19 := f8.other W13 (Or.inr (slot_ne (Or.inl (hw _ (List.mem_of_getElem? (i := 138) rfl))) (Or.inl (hw _ (List.mem_of_getElem? (i := 110) rfl))) (by decide) (t := (.object "java/lang/Object")) (t' := (.array (.object "java/lang/StackTraceElement"))) (by decide) (by decide)))
  have f20 := f9.other W13 (Or.inr (slot_ne (Or.inl (hw _ (List.mem_of_getElem? (i := 137) rfl))) (Or.inl (hw _ (List.mem_of_getElem? (i := 110) rfl))) (by decide) (t := (.object "java/lang/String")) (t' := (.array (.object "java/lang/StackTraceElement"))) (by decide) (by decide)))
  have f21 := f10.wr W13
  have f22 := f11.wr W13
  have K13 := K2.wr W13 (Or.inl (List.mem_of_getElem? (i := 0) rfl))
  have Z13 := Nat.le_trans Z2 (Nat.le_of_eq W13.size.symm)
  refine Goes.go st13 ?_
  show Goes p e below _ T13 (mkF m 16 #[.val (.ref xo), .val (.ref xm)] [])
  refine own_aloadN X13 hx 17 rfl (hb hby own_d16_16) rfl rfl ?_
  obtain ⟨T23, X23, e23, st23⟩ := getS2 X13 hx hZ hown (host := "") (Or.inl (hw _ (List.mem_of_getElem? (i := 111) rfl))) Via.refl e13 f22 (g := (mkF m 17 #[.val (.ref xo), .val (.ref xm)] [(.ref xo)])) rfl (hb hby own_d16_17)
  refine Goes.go st23 ?_
  show Goes p e below _ T23 (mkF m 20 #[.val (.ref xo), .val (.ref xm)] [ss, (.ref xo)])
  obtain ⟨T24, h24, X24, e24, W24, st24⟩ := putF X23 hx hZ hown (host := "") (Or.inl (hw _ (List.mem_of_getElem? (i := 112) rfl))) Via.refl e23 f18 f14 (Or.inl (hw _ (List.mem_of_getElem? (i := 113) rfl))) (hw _ (List.mem_of_getElem? (i := 73) rfl)) (ty := (.object "java/util/List")) (by decide) (own_narR hss) (own_fitsR hss rfl) (g := (mkF m 20 #[.val (.ref xo), .val (.ref xm)] [ss, (.ref xo)])) rfl rfl (hb hby own_d16_20)
  have N24 := Fr.snoc X24 N13 gx
  have f25 := f14.wr W24
  have f26 := f15.wr W24
  have f27 := f16.other W24 (Or.inr (slot_ne (Or.inl (hw _ (List.mem_of_getElem? (i := 107) rfl))) (Or.inl (hw _ (List.mem_of_getElem? (i := 113) rfl))) (by decide) (t := (.object "java/lang/Throwable")) (t' := (.object "java/util/List")) (by decide) (by decide)))
  have f28 := f17.other W24 (Or.inr (slot_ne (Or.inl (hw _ (List.mem_of_getElem? (i := 110) rfl))) (Or.inl (hw _ (List.mem_of_getElem? (i := 113) rfl))) (by decide) (t := (.array (.object "java/lang/StackTraceElement"))) (t' := (.object "java/util/List")) (by decide) (by decide)))
  have f29 := f18.same W24
  have f30 := f19.other W24 (Or.inr (slot_ne (Or.inl (hw _ (List.mem_of_getElem? (i := 138) rfl))) (Or.inl (hw _ (List.mem_of_getElem? (i := 113) rfl))) (by decide) (t := (.object "java/lang/Object")) (t' := (.object "java/util/List")) (by decide) (by decide)))
  have f31 := f20.other W24 (Or.inr (slot_ne (Or.inl (hw _ (List.mem_of_getElem? (i := 137) rfl))) (Or.inl (hw _ (List.mem_of_getElem? (i := 113) rfl))) (by decide) (t := (.object "java/lang/String")) (t' := (.object "java/util/List")) (by decide) (by decide)))
  have f32 := f21.wr W24
  have f33 := f22.wr W24
  have K24 := K13.wr W24 (Or.inl (List.mem_of_getElem? (i := 0) rfl))
  have Z24 := Nat.le_trans Z13 (Nat.le_of_eq W24.size.symm)
  refine Goes.go st24 ?_
  show Goes p e below _ T24 (mkF m 23 #[.val (.ref xo), .val (.ref xm)] [])
  refine own_aloadN X24 hx 24 rfl (hb hby own_d16_23) rfl rfl ?_
  have hE : Ext Z.heap s.heap := by rw [hh]; exact hE0
  obtain ⟨T34, L34, X34, hL34, Kq34, U34, FM34, st34⟩ := own_fill X24 hx (Launch.traces_on hfl Bd.admits) hZ (rc := "java/lang/ArithmeticException") (own_W1 hw hZ hE) (own_W2 hw hZ hE) hown hTK hBl e24 (a := xo) (by intro y hy; simp only [List.mem_append, List.mem_cons, List.not_mem_nil, or_false, false_or, or_assoc] at hy; rcases hy with rfl | rfl | rfl <;> rfl) f25 f26 hus f28 f30 f31 f32 (g := (mkF m 24 #[.val (.ref xo), .val (.ref xm)] [(.ref xo)])) rfl (by rw [hml]; rfl) rfl rfl (hb hby own_d16_24) (by decide) (by decide) (by decide) (by decide)
  have f35 := f25.keep Kq34
  have f36 := own_sta_keep f32 Kq34 (allS (own_eplain f25) all0)
  have f37 := own_sta_keep f33 Kq34 (allS (own_eplain f25) all0)
  have K34 := K24.trans Kq34 (allS (Or.inl (List.mem_of_getElem? (i := 0) rfl)) all0)
  have Z34 := Nat.le_trans Z24 Kq34.1
  have N34 : Fr n0 L34 := fun y hy => by rw [hL34 y hy]; exact gx
  refine Goes.tr st34 ?_
  show Goes p e below _ T34 (mkF m 27 #[.val (.ref xo), .val (.ref xm)] [(.ref xo)])
  refine own_pop X34 hx 28 rfl (hb hby own_d16_27) rfl ?_
  refine own_aloadN X34 hx 29 rfl (hb hby own_d16_28) rfl rfl ?_
  refine own_aloadN X34 hx 30 rfl (hb hby own_d16_29) rfl rfl ?_
  obtain ⟨T38, h38, X38, e38, W38, st38⟩ := putF X34 hx hZ hown (host := "") (Or.inl (hw _ (List.mem_of_getElem? (i := 140) rfl))) Via.refl rfl FM34 f35 (Or.inl (hw _ (List.mem_of_getElem? (i := 137) rfl))) (hw _ (List.mem_of_getElem? (i := 73) rfl)) (ty := (.object "java/lang/String")) (by decide) rfl rfl (g := (mkF m 30 #[.val (.ref xo), .val (.ref xm)] [(.ref xm), (.ref xo)])) rfl rfl (hb hby own_d16_30)
  have N38 := Fr.snoc X38 N34 gx
  have f39 := f35.wr W38
  have f40 := f36.wr W38
  have f41 := f37.wr W38
  have f42 := U34.wr W38
  have f43 := FM34.same W38
  have K38 := K34.wr W38 (Or.inl (List.mem_of_getElem? (i := 0) rfl))
  have Z38 := Nat.le_trans Z34 (Nat.le_of_eq W38.size.symm)
  refine Goes.go st38 ?_
  show Goes p e below _ T38 (mkF m 33 #[.val (.ref xo), .val (.ref xm)] [])
  refine own_retV X38 hx hlk Bd.returns (hb hby own_d16_33) (by decide) (by decide) e38 ?_
  exact ⟨rfl, N38, K38, f42⟩
theorem own_pd0 : parseMethodDescriptor "(Ljava/lang/String;)V" = some ⟨[(.object "java/lang/String")], none⟩ := by decide +kernel
theorem own_d15_0 : decode jdk_59_method_2_code 0 = .ok (.aload_n 0, 1) := by decide +kernel
theorem own_d15_1 : decode jdk_59_method_2_code 1 = .ok (.aload_n 1, 1) := by decide +kernel
theorem own_d15_2 : decode jdk_59_method_2_code 2 = .ok (.invokespecial 7, 3) := by decide +kernel
theorem own_d15_5 : decode jdk_59_method_2_code 5 = .ok (.return_, 1) := by decide +kernel
theorem own_pn_java_lang_Exception : plainName "java/lang/Exception" = true := by first | (simp [plainName, overriddenIn]; done) | decide +kernel
def Q15 (Z : State) (xo : Addr) (xm : Addr) (us : Value) (ss : Value) (h0 : Heap) (n0 : Nat) (v : Option Value) (h : Heap) (L : List Loc) : Prop := v = none ∧ Fr n0 L ∧ Keep h0 h [xo] ∧ Unt h xo
set_option maxRecDepth 65536 in
set_option maxHeartbeats 40000000 in
theorem rm15 (l : Launch) (Z : State) (a0 : Array Value) (hw : ∀ d ∈ tables_1, d.before a0 Z = true) (ws : List Jvm.Cond) (xo : Addr) (xm : Addr) (us : Value) (ss : Value) (h0 : Heap) (n0 : Nat) (Z0 : n0 ≤ h0.size) (Ex : Exa Z h0 xo "java/lang/ArithmeticException") (gx : n0 ≤ xo) (Ux : Unt h0 xo) (Fcau : Fld Z h0 xo "java/lang/Throwable" "cause" "Ljava/lang/Throwable;" .null) (Fsta : Fld Z h0 xo "java/lang/Throwable" "stackTrace" "[Ljava/lang/StackTraceElement;" .null) (Fsup : Fld Z h0 xo "java/lang/Throwable" "suppressedExceptions" "Ljava/util/List;" .null) (Fbac : Fld Z h0 xo "java/lang/Throwable" "backtrace" "Ljava/lang/Object;" .null) (Fdet : Fld Z h0 xo "java/lang/Throwable" "detailMessage" "Ljava/lang/String;" .null) (hE0 : Ext Z.heap h0) (Fus : Sta Z h0 "java/lang/Throwable" "UNASSIGNED_STACK" "[Ljava/lang/StackTraceElement;" us) (hus : us.isRef = true) (Fss : Sta Z h0 "java/lang/Throwable" "SUPPRESSED_SENTINEL" "Ljava/util/List;" ss) (hss : ss.isRef = true) (hfl : l.flags = flags0) :
    MetFree l (⟨"java/lang/Exception", "<init>", "(Ljava/lang/String;)V"⟩ : MethodName) (head1 (Jvm.Cond.code (⟨"java/lang/Exception", "<init>", "(Ljava/lang/String;)V"⟩ : MethodName) jdk_59_method_2_code 2 none :: ws) ({ frames := 4, cells := 1, slots := 2752, locals := 55 } : Room)) (fun a U => a = #[(.ref xo), (.ref xm)] ∧ Z.Warmed39 U.vm ∧ U.heap = h0) (fun _ _ bl st _ => st.vm.MethodsKnown ∧ st.vm.FramesKnown bl) (fun _ U o U' => ∃ v L, o = .returned v ∧ Q15 Z xo xm us ss h0 n0 v U'.heap L ∧ FrameEnd U o U' L ({ frames := 4, cells := 1, slots := 2752, locals := 55 } : Room).cells ({ frames := 4, cells := 1, slots := 2752, locals := 55 } : Room).slots) := by
  refine MetFree.of_bodySF (plainFor_of_name own_pn_java_lang_Exception) hisR ?_
  intro p e s m args below meth c s₁ Bd hml0 hP hK
  obtain ⟨hTK, hBl⟩ := hK
  obtain ⟨rfl, hZ, hh⟩ := hP
  have hx := Bd.exec
  have hby := Bd.bytes
  have hml : c.maxLocals = 2 := hml0
  have hlk := Bd.notSynchronized
  have hown : s.vm.findClass "java/lang/Exception" = some m.cls := findClass_of_methodNamed Bd.named
  have hnm := (name_of_methodNamed Bd.named Bd.method).1
  have X0 : Stand p l e ({ frames := 4, cells := 1, slots := 2752, locals := 55 } : Room) s m #[(.ref xo), (.ref xm)] below meth c s₁ [] 0 0 := Stand.of_body Bd
  have e0 : s₁.heap = h0 := by rw [← hh, Bd.state]; rfl
  have N0 := Fr.nil n0
  have K0 : Keep h0 h0 [xo] := Keep.refl _ _
  refine own_enter (P := (Done s ({ frames := 4, cells := 1, slots := 2752, locals := 55 } : Room).cells ({ frames := 4, cells := 1, slots := 2752, locals := 55 } : Room).slots (Q15 Z xo xm us ss h0 n0))) (Ls := #[.val (.ref xo), .val (.ref xm)]) (by first | (simp [entryFrame, mkF, argsToLocals, Value.category]; done) | rfl) ?_
  refine own_aloadN X0 hx 1 rfl (hb hby own_d15_0) rfl rfl ?_
  refine own_aloadN X0 hx 2 rfl (hb hby own_d15_1) rfl rfl ?_
  obtain ⟨_, _, ⟨T1, L1, k1, n1⟩, -, X1, ⟨Lc1, hQ1, l1, y1, z1⟩, st1⟩ := X0.specialBack hx (y := (⟨"java/lang/Throwable", "<init>", "(Ljava/lang/String;)V"⟩ : MethodName)) rfl hown (mvT hZ (hw _ (List.mem_of_getElem? (i := 99) rfl))) (mvT hZ (hw _ (List.mem_of_getElem? (i := 100) rfl))) (mvT hZ (hw _ (List.mem_of_getElem? (i := 104) rfl))) (by decide) (backOfKL (W := 0) (rm16 l Z a0 hw [] xo xm us ss h0 n0 Z0 Ex gx Ux Fcau Fsta Fsup Fbac Fdet hE0 Fus hus Fss hss hfl) hZ (hw _ (List.mem_of_getElem? (i := 104) rfl)) (hw _ (List.mem_of_getElem? (i := 103) rfl)) (by decide) (by decide) hTK hBl) (g := (mkF m 2 #[.val (.ref xo), .val (.ref xm)] [(.ref xm), (.ref xo)])) rfl (by rw [hml]; rfl) (Steps.refl _) (a := xo) (argsL := [(.ref xm)]) (rest := []) (lenOf own_pd0 rfl) rfl (by show 2 * 0 + _ ≤ _; exact Nat.le_of_eq rfl) (hb hby own_d15_2) (fun _ _ => ⟨rfl, e0, (by decide : 0 + 1 ≤ _), (by decide : 0 + 2752 ≤ _)⟩)
  dsimp only [Pt.U, Pt.locs, Pt.cells, Pt.slots] at X1 l1 y1 z1 st1 hQ1
  subst l1 y1 z1
  obtain ⟨rfl, N1q, K1q, f1_0⟩ := hQ1
  have N1 := Fr.app N0 N1q
  have f2 := Ex.keep K1q
  have f3 := own_sta_keep Fus K1q (allS (own_eplain Ex) all0)
  have f4 := own_sta_keep Fss K1q (allS (own_eplain Ex) all0)
  have K1 := K0.trans K1q (allS (Or.inl (List.mem_of_getElem? (i := 0) rfl)) all0)
  have Z1 := Nat.le_trans Z0 K1q.1
  refine Goes.tr st1 ?_
  show Goes p e below _ T1 (mkF m 5 #[.val (.ref xo), .val (.ref xm)] [])
  refine own_retV X1 hx hlk Bd.returns (hb hby own_d15_5) (by decide) (by decide) rfl ?_
  exact ⟨rfl, N1, K1, f1_0⟩
theorem own_d14_0 : decode jdk_58_method_2_code 0 = .ok (.aload_n 0, 1) := by decide +kernel
theorem own_d14_1 : decode jdk_58_method_2_code 1 = .ok (.aload_n 1, 1) := by decide +kernel
theorem own_d14_2 : decode jdk_58_method_2_code 2 = .ok (.invokespecial 7, 3) := by decide +kernel
theorem own_d14_5 : decode jdk_58_method_2_code 5 = .ok (.return_, 1) := by decide +kernel
theorem own_pn_java_lang_RuntimeException : plainName "java/lang/RuntimeException" = true := by first | (simp [plainName, overriddenIn]; done) | decide +kernel
def Q14 (Z : State) (xo : Addr) (xm : Addr) (us : Value) (ss : Value) (h0 : Heap) (n0 : Nat) (v : Option Value) (h : Heap) (L : List Loc) : Prop := v = none ∧ Fr n0 L ∧ Keep h0 h [xo] ∧ Unt h xo
set_option maxRecDepth 65536 in
set_option maxHeartbeats 40000000 in
theorem rm14 (l : Launch) (Z : State) (a0 : Array Value) (hw : ∀ d ∈ tables_1, d.before a0 Z = true) (ws : List Jvm.Cond) (xo : Addr) (xm : Addr) (us : Value) (ss : Value) (h0 : Heap) (n0 : Nat) (Z0 : n0 ≤ h0.size) (Ex : Exa Z h0 xo "java/lang/ArithmeticException") (gx : n0 ≤ xo) (Ux : Unt h0 xo) (Fcau : Fld Z h0 xo "java/lang/Throwable" "cause" "Ljava/lang/Throwable;" .null) (Fsta : Fld Z h0 xo "java/lang/Throwable" "stackTrace" "[Ljava/lang/StackTraceElement;" .null) (Fsup : Fld Z h0 xo "java/lang/Throwable" "suppressedExceptions" "Ljava/util/List;" .null) (Fbac : Fld Z h0 xo "java/lang/Throwable" "backtrace" "Ljava/lang/Object;" .null) (Fdet : Fld Z h0 xo "java/lang/Throwable" "detailMessage" "Ljava/lang/String;" .null) (hE0 : Ext Z.heap h0) (Fus : Sta Z h0 "java/lang/Throwable" "UNASSIGNED_STACK" "[Ljava/lang/StackTraceElement;" us) (hus : us.isRef = true) (Fss : Sta Z h0 "java/lang/Throwable" "SUPPRESSED_SENTINEL" "Ljava/util/List;" ss) (hss : ss.isRef = true) (hfl : l.flags = flags0) :
    MetFree l (⟨"java/lang/RuntimeException", "<init>", "(Ljava/lang/String;)V"⟩ : MethodName) (head1 (Jvm.Cond.code (⟨"java/lang/RuntimeException", "<init>", "(Ljava/lang/String;)V"⟩ : MethodName) jdk_58_method_2_code 2 none :: ws) ({ frames := 5, cells := 1, slots := 2752, locals := 68 } : Room)) (fun a U => a = #[(.ref xo), (.ref xm)] ∧ Z.Warmed39 U.vm ∧ U.heap = h0) (fun _ _ bl st _ => st.vm.MethodsKnown ∧ st.vm.FramesKnown bl) (fun _ U o U' => ∃ v L, o = .returned v ∧ Q14 Z xo xm us ss h0 n0 v U'.heap L ∧ FrameEnd U o U' L ({ frames := 5, cells := 1, slots := 2752, locals := 68 } : Room).cells ({ frames := 5, cells := 1, slots := 2752, locals := 68 } : Room).slots) := by
  refine MetFree.of_bodySF (plainFor_of_name own_pn_java_lang_RuntimeException) hisR ?_
  intro p e s m args below meth c s₁ Bd hml0 hP hK
  obtain ⟨hTK, hBl⟩ := hK
  obtain ⟨rfl, hZ, hh⟩ := hP
  have hx := Bd.exec
  have hby := Bd.bytes
  have hml : c.maxLocals = 2 := hml0
  have hlk := Bd.notSynchronized
  have hown : s.vm.findClass "java/lang/RuntimeException" = some m.cls := findClass_of_methodNamed Bd.named
  have hnm := (name_of_methodNamed Bd.named Bd.method).1
  have X0 : Stand p l e ({ frames := 5, cells := 1, slots := 2752, locals := 68 } : Room) s m #[(.ref xo), (.ref xm)] below meth c s₁ [] 0 0 := Stand.of_body Bd
  have e0 : s₁.heap = h0 := by rw [← hh, Bd.state]; rfl
  have N0 := Fr.nil n0
  have K0 : Keep h0 h0 [xo] := Keep.refl _ _
  refine own_enter (P := (Done s ({ frames := 5, cells := 1, slots := 2752, locals := 68 } : Room).cells ({ frames := 5, cells := 1, slots := 2752, locals := 68 } : Room).slots (Q14 Z xo xm us ss h0 n0))) (Ls := #[.val (.ref xo), .val (.ref xm)]) (by first | (simp [entryFrame, mkF, argsToLocals, Value.category]; done) | rfl) ?_
  refine own_aloadN X0 hx 1 rfl (hb hby own_d14_0) rfl rfl ?_
  refine own_aloadN X0 hx 2 rfl (hb hby own_d14_1) rfl rfl ?_
  obtain ⟨_, _, ⟨T1, L1, k1, n1⟩, -, X1, ⟨Lc1, hQ1, l1, y1, z1⟩, st1⟩ := X0.specialBack hx (y := (⟨"java/lang/Exception", "<init>", "(Ljava/lang/String;)V"⟩ : MethodName)) rfl hown (mvT hZ (hw _ (List.mem_of_getElem? (i := 93) rfl))) (mvT hZ (hw _ (List.mem_of_getElem? (i := 94) rfl))) (mvT hZ (hw _ (List.mem_of_getElem? (i := 98) rfl))) (by decide) (backOfKL (W := 0) (rm15 l Z a0 hw [] xo xm us ss h0 n0 Z0 Ex gx Ux Fcau Fsta Fsup Fbac Fdet hE0 Fus hus Fss hss hfl) hZ (hw _ (List.mem_of_getElem? (i := 98) rfl)) (hw _ (List.mem_of_getElem? (i := 97) rfl)) (by decide) (by decide) hTK hBl) (g := (mkF m 2 #[.val (.ref xo), .val (.ref xm)] [(.ref xm), (.ref xo)])) rfl (by rw [hml]; rfl) (Steps.refl _) (a := xo) (argsL := [(.ref xm)]) (rest := []) (lenOf own_pd0 rfl) rfl (by show 2 * 0 + _ ≤ _; exact Nat.le_of_eq rfl) (hb hby own_d14_2) (fun _ _ => ⟨rfl, e0, (by decide : 0 + 1 ≤ _), (by decide : 0 + 2752 ≤ _)⟩)
  dsimp only [Pt.U, Pt.locs, Pt.cells, Pt.slots] at X1 l1 y1 z1 st1 hQ1
  subst l1 y1 z1
  obtain ⟨rfl, N1q, K1q, f1_0⟩ := hQ1
  have N1 := Fr.app N0 N1q
  have f2 := Ex.keep K1q
  have f3 := own_sta_keep Fus K1q (allS (own_eplain Ex) all0)
  have f4 := own_sta_keep Fss K1q (allS (own_eplain Ex) all0)
  have K1 := K0.trans K1q (allS (Or.inl (List.mem_of_getElem? (i := 0) rfl)) all0)
  have Z1 := Nat.le_trans Z0 K1q.1
  refine Goes.tr st1 ?_
  show Goes p e below _ T1 (mkF m 5 #[.val (.ref xo), .val (.ref xm)] [])
  refine own_retV X1 hx hlk Bd.returns (hb hby own_d14_5) (by decide) (by decide) rfl ?_
  exact ⟨rfl, N1, K1, f1_0⟩
theorem own_d13_0 : decode jdk_84_method_2_code 0 = .ok (.aload_n 0, 1) := by decide +kernel
theorem own_d13_1 : decode jdk_84_method_2_code 1 = .ok (.aload_n 1, 1) := by decide +kernel
theorem own_d13_2 : decode jdk_84_method_2_code 2 = .ok (.invokespecial 7, 3) := by decide +kernel
theorem own_d13_5 : decode jdk_84_method_2_code 5 = .ok (.return_, 1) := by decide +kernel
theorem own_pn_java_lang_ArithmeticException : plainName "java/lang/ArithmeticException" = true := by first | (simp [plainName, overriddenIn]; done) | decide +kernel
def Q13 (Z : State) (xo : Addr) (xm : Addr) (us : Value) (ss : Value) (h0 : Heap) (n0 : Nat) (v : Option Value) (h : Heap) (L : List Loc) : Prop := v = none ∧ Fr n0 L ∧ Keep h0 h [xo] ∧ Unt h xo
set_option maxRecDepth 65536 in
set_option maxHeartbeats 40000000 in
theorem rm13 (l : Launch) (Z : State) (a0 : Array Value) (hw : ∀ d ∈ tables_1, d.before a0 Z = true) (ws : List Jvm.Cond) (xo : Addr) (xm : Addr) (us : Value) (ss : Value) (h0 : Heap) (n0 : Nat) (Z0 : n0 ≤ h0.size) (Ex : Exa Z h0 xo "java/lang/ArithmeticException") (gx : n0 ≤ xo) (Ux : Unt h0 xo) (Fcau : Fld Z h0 xo "java/lang/Throwable" "cause" "Ljava/lang/Throwable;" .null) (Fsta : Fld Z h0 xo "java/lang/Throwable" "stackTrace" "[Ljava/lang/StackTraceElement;" .null) (Fsup : Fld Z h0 xo "java/lang/Throwable" "suppressedExceptions" "Ljava/util/List;" .null) (Fbac : Fld Z h0 xo "java/lang/Throwable" "backtrace" "Ljava/lang/Object;" .null) (Fdet : Fld Z h0 xo "java/lang/Throwable" "detailMessage" "Ljava/lang/String;" .null) (hE0 : Ext Z.heap h0) (Fus : Sta Z h0 "java/lang/Throwable" "UNASSIGNED_STACK" "[Ljava/lang/StackTraceElement;" us) (hus : us.isRef = true) (Fss : Sta Z h0 "java/lang/Throwable" "SUPPRESSED_SENTINEL" "Ljava/util/List;" ss) (hss : ss.isRef = true) (hfl : l.flags = flags0) :
    MetFree l (⟨"java/lang/ArithmeticException", "<init>", "(Ljava/lang/String;)V"⟩ : MethodName) (head1 (Jvm.Cond.code (⟨"java/lang/ArithmeticException", "<init>", "(Ljava/lang/String;)V"⟩ : MethodName) jdk_84_method_2_code 2 none :: ws) ({ frames := 6, cells := 1, slots := 2752, locals := 81 } : Room)) (fun a U => a = #[(.ref xo), (.ref xm)] ∧ Z.Warmed39 U.vm ∧ U.heap = h0) (fun _ _ bl st _ => st.vm.MethodsKnown ∧ st.vm.FramesKnown bl) (fun _ U o U' => ∃ v L, o = .returned v ∧ Q13 Z xo xm us ss h0 n0 v U'.heap L ∧ FrameEnd U o U' L ({ frames := 6, cells := 1, slots := 2752, locals := 81 } : Room).cells ({ frames := 6, cells := 1, slots := 2752, locals := 81 } : Room).slots) := by
  refine MetFree.of_bodySF (plainFor_of_name own_pn_java_lang_ArithmeticException) hisR ?_
  intro p e s m args below meth c s₁ Bd hml0 hP hK
  obtain ⟨hTK, hBl⟩ := hK
  obtain ⟨rfl, hZ, hh⟩ := hP
  have hx := Bd.exec
  have hby := Bd.bytes
  have hml : c.maxLocals = 2 := hml0
  have hlk := Bd.notSynchronized
  have hown : s.vm.findClass "java/lang/ArithmeticException" = some m.cls := findClass_of_methodNamed Bd.named
  have hnm := (name_of_methodNamed Bd.named Bd.method).1
  have X0 : Stand p l e ({ frames := 6, cells := 1, slots := 2752, locals := 81 } : Room) s m #[(.ref xo), (.ref xm)] below meth c s₁ [] 0 0 := Stand.of_body Bd
  have e0 : s₁.heap = h0 := by rw [← hh, Bd.state]; rfl
  have N0 := Fr.nil n0
  have K0 : Keep h0 h0 [xo] := Keep.refl _ _
  refine own_enter (P := (Done s ({ frames := 6, cells := 1, slots := 2752, locals := 81 } : Room).cells ({ frames := 6, cells := 1, slots := 2752, locals := 81 } : Room).slots (Q13 Z xo xm us ss h0 n0))) (Ls := #[.val (.ref xo), .val (.ref xm)]) (by first | (simp [entryFrame, mkF, argsToLocals, Value.category]; done) | rfl) ?_
  refine own_aloadN X0 hx 1 rfl (hb hby own_d13_0) rfl rfl ?_
  refine own_aloadN X0 hx 2 rfl (hb hby own_d13_1) rfl rfl ?_
  obtain ⟨_, _, ⟨T1, L1, k1, n1⟩, -, X1, ⟨Lc1, hQ1, l1, y1, z1⟩, st1⟩ := X0.specialBack hx (y := (⟨"java/lang/RuntimeException", "<init>", "(Ljava/lang/String;)V"⟩ : MethodName)) rfl hown (mvT hZ (hw _ (List.mem_of_getElem? (i := 87) rfl))) (mvT hZ (hw _ (List.mem_of_getElem? (i := 88) rfl))) (mvT hZ (hw _ (List.mem_of_getElem? (i := 92) rfl))) (by decide) (backOfKL (W := 0) (rm14 l Z a0 hw [] xo xm us ss h0 n0 Z0 Ex gx Ux Fcau Fsta Fsup Fbac Fdet hE0 Fus hus Fss hss hfl) hZ (hw _ (List.mem_of_getElem? (i := 92) rfl)) (hw _ (List.mem_of_getElem? (i := 91) rfl)) (by decide) (by decide) hTK hBl) (g := (mkF m 2 #[.val (.ref xo), .val (.ref xm)] [(.ref xm), (.ref xo)])) rfl (by rw [hml]; rfl) (Steps.refl _) (a := xo) (argsL := [(.ref xm)]) (rest := []) (lenOf own_pd0 rfl) rfl (by show 2 * 0 + _ ≤ _; exact Nat.le_of_eq rfl) (hb hby own_d13_2) (fun _ _ => ⟨rfl, e0, (by decide : 0 + 1 ≤ _), (by decide : 0 + 2752 ≤ _)⟩)
  dsimp only [Pt.U, Pt.locs, Pt.cells, Pt.slots] at X1 l1 y1 z1 st1 hQ1
  subst l1 y1 z1
  obtain ⟨rfl, N1q, K1q, f1_0⟩ := hQ1
  have N1 := Fr.app N0 N1q
  have f2 := Ex.keep K1q
  have f3 := own_sta_keep Fus K1q (allS (own_eplain Ex) all0)
  have f4 := own_sta_keep Fss K1q (allS (own_eplain Ex) all0)
  have K1 := K0.trans K1q (allS (Or.inl (List.mem_of_getElem? (i := 0) rfl)) all0)
  have Z1 := Nat.le_trans Z0 K1q.1
  refine Goes.tr st1 ?_
  show Goes p e below _ T1 (mkF m 5 #[.val (.ref xo), .val (.ref xm)] [])
  refine own_retV X1 hx hlk Bd.returns (hb hby own_d13_5) (by decide) (by decide) rfl ?_
  exact ⟨rfl, N1, K1, f1_0⟩
theorem own_d5_18 : decode jdk_29_method_27_code 18 = .ok (.new 109, 3) := by decide +kernel
theorem own_d5_21 : decode jdk_29_method_27_code 21 = .ok (.dup, 1) := by decide +kernel
theorem own_d5_22 : decode jdk_29_method_27_code 22 = .ok (.ldc 116, 2) := by decide +kernel
theorem own_d5_24 : decode jdk_29_method_27_code 24 = .ok (.invokespecial 113, 3) := by decide +kernel
theorem own_d5_27 : decode jdk_29_method_27_code 27 = .ok (.athrow, 1) := by decide +kernel
def QsubT (Z : State) (mx : Int64) (my : Int64) (us : Value) (ss : Value) (h0 : Heap) (n0 : Nat) (v : Option Value) (h : Heap) (L : List Loc) : Prop := v = none ∧ Fr n0 L ∧ Keep h0 h []
set_option maxRecDepth 65536 in
set_option maxHeartbeats 40000000 in
theorem rmsubT (l : Launch) (Z : State) (a0 : Array Value) (hw : ∀ d ∈ tables_1, d.before a0 Z = true) (ws : List Jvm.Cond) (mx : Int64) (my : Int64) (us : Value) (ss : Value) (h0 : Heap) (n0 : Nat) (Z0 : n0 ≤ h0.size) (hov : ((mx ^^^ my) &&& (mx ^^^ (mx - my))) < (0 : Int64)) (hn0 : h0.size ≤ n0) (hE0 : Ext Z.heap h0) (Fus : Sta Z h0 "java/lang/Throwable" "UNASSIGNED_STACK" "[Ljava/lang/StackTraceElement;" us) (hus : us.isRef = true) (Fss : Sta Z h0 "java/lang/Throwable" "SUPPRESSED_SENTINEL" "Ljava/util/List;" ss) (hss : ss.isRef = true) (hfl : l.flags = flags0) :
    MetFree l (⟨"java/lang/Math", "subtractExact", "(JJ)J"⟩ : MethodName) (head1 (Jvm.Cond.code (⟨"java/lang/Math", "subtractExact", "(JJ)J"⟩ : MethodName) jdk_29_method_27_code 6 (some .long) :: ws) ({ frames := 7, cells := 4, slots := 2814, locals := 95 } : Room)) (fun a U => a = #[(.long mx), (.long my)] ∧ Z.Warmed39 U.vm ∧ U.heap = h0) (fun _ _ bl st _ => st.vm.MethodsKnown ∧ st.vm.FramesKnown bl) (fun _ U o U' => ThrewNewW "java/lang/ArithmeticException" U [] ({ frames := 7, cells := 4, slots := 2814, locals := 95 } : Room).cells ({ frames := 7, cells := 4, slots := 2814, locals := 95 } : Room).slots o U') := by
  refine MetFree.of_bodySF (Jvm.Free.JP.mathPlain rfl (by decide +kernel)) hisR ?_
  intro p e s m args below meth c s₁ Bd hml0 hP hK
  obtain ⟨hTK, hBl⟩ := hK
  obtain ⟨rfl, hZ, hh⟩ := hP
  have hx := Bd.exec
  have hby := Bd.bytes
  have hml : c.maxLocals = 6 := hml0
  have hlk := Bd.notSynchronized
  have hown : s.vm.findClass "java/lang/Math" = some m.cls := findClass_of_methodNamed Bd.named
  have hnm := (name_of_methodNamed Bd.named Bd.method).1
  have X0 : Stand p l e ({ frames := 7, cells := 4, slots := 2814, locals := 95 } : Room) (s.setVm s.vm) m #[(.long mx), (.long my)] below meth c s₁ [] 0 0 := Stand.of_body Bd
  have e0 : s₁.heap = h0 := by rw [← hh, Bd.state]; rfl
  have N0 := Fr.nil n0
  have hS0 : s.Since s.vm 0 := (State.WarmedH.refl s).since 0
  have hk0 : 0 ≤ h0.size := Nat.zero_le _
  have K0 : Keep h0 h0 [] := Keep.refl _ _
  refine own_enter (P := (fun o U => ThrewNewW "java/lang/ArithmeticException" s [] ({ frames := 7, cells := 4, slots := 2814, locals := 95 } : Room).cells ({ frames := 7, cells := 4, slots := 2814, locals := 95 } : Room).slots o U)) (Ls := #[.val (.long mx), .second, .val (.long my), .second, .unset, .unset]) (by first | (simp [entryFrame, mkF, argsToLocals, Value.category]; done) | rfl) ?_
  refine own_lloadN X0 hx 1 rfl (hb hby own_d5_0) rfl ?_
  refine own_lloadN X0 hx 2 rfl (hb hby own_d5_1) rfl ?_
  refine own_lsub X0 hx 3 rfl (hb hby own_d5_2) rfl ?_
  refine own_lstore X0 hx 5 rfl #[.val (.long mx), .second, .val (.long my), .second, .val (.long (mx - my)), .second] (hb hby own_d5_3) rfl ?_
  refine own_lloadN X0 hx 6 rfl (hb hby own_d5_5) rfl ?_
  refine own_lloadN X0 hx 7 rfl (hb hby own_d5_6) rfl ?_
  refine own_lxor X0 hx 8 rfl (hb hby own_d5_7) rfl ?_
  refine own_lloadN X0 hx 9 rfl (hb hby own_d5_8) rfl ?_
  refine own_lload X0 hx 11 rfl (hb hby own_d5_9) rfl ?_
  refine own_lxor X0 hx 12 rfl (hb hby own_d5_11) rfl ?_
  refine own_land X0 hx 13 rfl (hb hby own_d5_12) rfl ?_
  refine own_lconst X0 hx 14 rfl (0 : Int64) (hb hby own_d5_13) (by decide) ?_
  refine own_lcmp X0 hx 15 rfl (hb hby own_d5_14) ?_
  refine own_ifN X0 hx 18 (hb hby own_d5_15) (Ltlt (hov : ((mx ^^^ my) &&& (mx ^^^ (mx - my))) < (0 : Int64))).2.1 rfl ?_
  obtain ⟨T1, h1, X1, e1, E1, A1, D1, Un1, st1⟩ := newO X0 hx hZ hown (hw _ (List.mem_of_getElem? (i := 72) rfl)) (hw _ (List.mem_of_getElem? (i := 73) rfl)) (hw _ (List.mem_of_getElem? (i := 74) rfl)) e0 (g := (mkF m 18 #[.val (.long mx), .second, .val (.long my), .second, .val (.long (mx - my)), .second] [])) rfl (hb hby own_d5_18) (by decide) (by decide)
  obtain ⟨b1, g1⟩ : ∃ z, z = h0.size := ⟨_, rfl⟩
  rw [← g1] at A1 D1 Un1 st1
  have G1 : n0 ≤ b1 := Nat.le_trans Z0 (Nat.le_of_eq g1.symm)
  have H1 : h0.size ≤ b1 := Nat.le_trans K0.1 (Nat.le_of_eq g1.symm)
  have f2 := Fus.ext E1
  have f3 := Fss.ext E1
  have K1 := K0.ext E1
  have Z1 := Nat.le_trans Z0 E1.1
  have hk1 := Nat.le_trans hk0 E1.1
  have Ut1 : Unt h1 b1 := Un1
  have f4 : Fld Z h1 b1 "java/lang/Throwable" "cause" "Ljava/lang/Throwable;" .null := D1 (Or.inl (hw _ (List.mem_of_getElem? (i := 107) rfl))) (ty := (.object "java/lang/Throwable")) (by decide)
  have f5 : Fld Z h1 b1 "java/lang/Throwable" "stackTrace" "[Ljava/lang/StackTraceElement;" .null := D1 (Or.inl (hw _ (List.mem_of_getElem? (i := 110) rfl))) (ty := (.array (.object "java/lang/StackTraceElement"))) (by decide)
  have f6 : Fld Z h1 b1 "java/lang/Throwable" "suppressedExceptions" "Ljava/util/List;" .null := D1 (Or.inl (hw _ (List.mem_of_getElem? (i := 113) rfl))) (ty := (.object "java/util/List")) (by decide)
  have f7 : Fld Z h1 b1 "java/lang/Throwable" "detailMessage" "Ljava/lang/String;" .null := D1 (Or.inl (hw _ (List.mem_of_getElem? (i := 137) rfl))) (ty := (.object "java/lang/String")) (by decide)
  have f8 : Fld Z h1 b1 "java/lang/Throwable" "backtrace" "Ljava/lang/Object;" .null := D1 (Or.inl (hw _ (List.mem_of_getElem? (i := 138) rfl))) (ty := (.object "java/lang/Object")) (by decide)
  have f9 : Fld Z h1 b1 "java/lang/Throwable" "depth" "I" (.int (0 : Int32)) := D1 (Or.inl (hw _ (List.mem_of_getElem? (i := 139) rfl))) (ty := .int) (by decide)
  refine Goes.go st1 ?_
  show Goes p e below _ T1 (mkF m 21 #[.val (.long mx), .second, .val (.long my), .second, .val (.long (mx - my)), .second] [(.ref b1)])
  refine own_dup X1 hx 22 rfl (hb hby own_d5_21) rfl ?_
  obtain ⟨sa10, T10, h10, k110, X10, e10, E10, hS10, hk10, hZ10, ho10, st10⟩ := ldcS X1 hx hZ hown (hw _ (List.mem_of_getElem? (i := 75) rfl)) (own_wS hw) e1 hS0 hk1 (g := (mkF m 22 #[.val (.long mx), .second, .val (.long my), .second, .val (.long (mx - my)), .second] [(.ref b1), (.ref b1)])) rfl (hb hby own_d5_22) (n := 52) (by decide) (by decide) (by decide) (by decide)
  have f11 := f2.ext E10
  have f12 := f3.ext E10
  have f13 := A1.ext E10
  have f14 := Ut1.ext E10
  have f15 := f4.ext E10
  have f16 := f5.ext E10
  have f17 := f6.ext E10
  have f18 := f7.ext E10
  have f19 := f8.ext E10
  have f20 := f9.ext E10
  have K10 := K1.ext E10
  have Z10 := Nat.le_trans Z1 E10.1
  refine Goes.go st10 ?_
  show Goes p e below _ T10 (mkF m 24 #[.val (.long mx), .second, .val (.long my), .second, .val (.long (mx - my)), .second] [(.ref sa10), (.ref b1), (.ref b1)])
  obtain ⟨_, _, ⟨T21, L21, k21, n21⟩, -, X21, ⟨Lc21, hQ21, l21, y21, z21⟩, st21⟩ := X10.specialBack hx (y := (⟨"java/lang/ArithmeticException", "<init>", "(Ljava/lang/String;)V"⟩ : MethodName)) rfl ho10 (mvT hZ10 (hw _ (List.mem_of_getElem? (i := 83) rfl))) (mvT hZ10 (hw _ (List.mem_of_getElem? (i := 84) rfl))) (mvT hZ10 (hw _ (List.mem_of_getElem? (i := 86) rfl))) (by decide) (backOfKL (W := 1) (rm13 l Z a0 hw [] b1 sa10 us ss h10 n0 Z10 f13 G1 f14 f15 f16 f17 f19 f18 (own_kext hE0 K10) f11 hus f12 hss hfl) hZ10 (hw _ (List.mem_of_getElem? (i := 86) rfl)) (hw _ (List.mem_of_getElem? (i := 74) rfl)) (by decide) (by decide) (Vm.MethodsKnown.alikeC hS10.1.alike hTK) (Vm.FramesKnown.alikeC hS10.1.alike hBl)) (g := (mkF m 24 #[.val (.long mx), .second, .val (.long my), .second, .val (.long (mx - my)), .second] [(.ref sa10), (.ref b1), (.ref b1)])) rfl (by rw [hml]; rfl) (Steps.refl _) (a := b1) (argsL := [(.ref sa10)]) (rest := [(.ref b1)]) (lenOf own_pd0 rfl) rfl (by show 2 * 0 + _ ≤ _; exact Nat.le_of_eq rfl) (hb hby own_d5_24) (fun _ _ => ⟨rfl, e10, (by decide : 3 + 1 ≤ _), (by decide : 62 + 2752 ≤ _)⟩)
  dsimp only [Pt.U, Pt.locs, Pt.cells, Pt.slots] at X21 l21 y21 z21 st21 hQ21
  subst l21 y21 z21
  obtain ⟨rfl, N21q, K21q, f21_0⟩ := hQ21
  have N21 := Fr.app N0 N21q
  have f22 := own_sta_keep f11 K21q (allS (own_eplain f13) all0)
  have f23 := own_sta_keep f12 K21q (allS (own_eplain f13) all0)
  have f24 := f13.keep K21q
  have K21 := K10.trans K21q (allS (Or.inr H1) all0)
  have Z21 := Nat.le_trans Z10 K21q.1
  have hk21 := Nat.le_trans hk10 K21q.1
  refine Goes.tr st21 ?_
  show Goes p e below _ T21 (mkF m 27 #[.val (.long mx), .second, .val (.long my), .second, .val (.long (mx - my)), .second] [(.ref b1)])
  obtain ⟨U, o, st, h1, h2, h3⟩ := throwIt X21 hx hZ10 rfl (hw _ (List.mem_of_getElem? (i := 85) rfl)) f24 f21_0 (g := (mkF m 27 #[.val (.long mx), .second, .val (.long my), .second, .val (.long (mx - my)), .second] [(.ref b1)])) rfl rfl rfl (by rw [no_rows Bd X0.code]; intro y hy; cases hy) (rest := []) rfl (hb hby own_d5_27) hlk
  have hle : T21.heap.size ≤ U.heap.size := by rw [← (rfl : T21.heap = T21.heap)]; exact st.heap_le
  exact ⟨U, o, st, h1, h2, threw_monoW (h3.since hS10 (Nat.le_trans hk21 hle)) (by decide) (by decide) (own_fresh hh hn0 N21)⟩
theorem own_d7_0 : decode jdk_2650_method_3_code 0 = .ok (.aload_n 0, 1) := by decide +kernel
theorem own_d7_1 : decode jdk_2650_method_3_code 1 = .ok (.invokespecial 1, 3) := by decide +kernel
theorem own_d7_4 : decode jdk_2650_method_3_code 4 = .ok (.aload_n 0, 1) := by decide +kernel
theorem own_d7_5 : decode jdk_2650_method_3_code 5 = .ok (.iconst 1, 1) := by decide +kernel
theorem own_d7_6 : decode jdk_2650_method_3_code 6 = .ok (.putfield 7, 3) := by decide +kernel
theorem own_d7_9 : decode jdk_2650_method_3_code 9 = .ok (.aload_n 0, 1) := by decide +kernel
theorem own_d7_10 : decode jdk_2650_method_3_code 10 = .ok (.lload_n 1, 1) := by decide +kernel
theorem own_d7_11 : decode jdk_2650_method_3_code 11 = .ok (.putfield 13, 3) := by decide +kernel
theorem own_d7_14 : decode jdk_2650_method_3_code 14 = .ok (.return_, 1) := by decide +kernel
theorem own_pn_java_util_OptionalLong : plainName "java/util/OptionalLong" = true := by first | (simp [plainName, overriddenIn]; done) | decide +kernel
def Q7 (Z : State) (ob : Addr) (ov : Int64) (h0 : Heap) (n0 : Nat) (v : Option Value) (h : Heap) (L : List Loc) : Prop := v = none ∧ Fr n0 L ∧ Keep h0 h [ob] ∧ Fld Z h ob "java/util/OptionalLong" "isPresent" "Z" (.int (1 : Int32)) ∧ Fld Z h ob "java/util/OptionalLong" "value" "J" (.long ov)
set_option maxRecDepth 65536 in
set_option maxHeartbeats 40000000 in
theorem rm7 (l : Launch) (Z : State) (a0 : Array Value) (hw : ∀ d ∈ tables_1, d.before a0 Z = true) (ws : List Jvm.Cond) (ob : Addr) (ov : Int64) (h0 : Heap) (n0 : Nat) (Z0 : n0 ≤ h0.size) (EO : Exa Z h0 ob "java/util/OptionalLong") (go : n0 ≤ ob) (Fi : Fld Z h0 ob "java/util/OptionalLong" "isPresent" "Z" (.int (0 : Int32))) (Fv : Fld Z h0 ob "java/util/OptionalLong" "value" "J" (.long (0 : Int64))) :
    MetFree l (⟨"java/util/OptionalLong", "<init>", "(J)V"⟩ : MethodName) (head1 (Jvm.Cond.code (⟨"java/util/OptionalLong", "<init>", "(J)V"⟩ : MethodName) jdk_2650_method_3_code 3 none :: ws) ({ frames := 1, cells := 0, slots := 0, locals := 12 } : Room)) (fun a U => a = #[(.ref ob), (.long ov)] ∧ Z.Warmed39 U.vm ∧ U.heap = h0) (fun _ _ _ _ _ => True) (fun _ U o U' => ∃ v L, o = .returned v ∧ Q7 Z ob ov h0 n0 v U'.heap L ∧ FrameEnd U o U' L ({ frames := 1, cells := 0, slots := 0, locals := 12 } : Room).cells ({ frames := 1, cells := 0, slots := 0, locals := 12 } : Room).slots) := by
  refine MetFree.of_bodySF (plainFor_of_name own_pn_java_util_OptionalLong) hisR ?_
  intro p e s m args below meth c s₁ Bd hml0 hP hK
  obtain ⟨rfl, hZ, hh⟩ := hP
  have hx := Bd.exec
  have hby := Bd.bytes
  have hml : c.maxLocals = 3 := hml0
  have hlk := Bd.notSynchronized
  have hown : s.vm.findClass "java/util/OptionalLong" = some m.cls := findClass_of_methodNamed Bd.named
  have hnm := (name_of_methodNamed Bd.named Bd.method).1
  have X0 : Stand p l e ({ frames := 1, cells := 0, slots := 0, locals := 12 } : Room) s m #[(.ref ob), (.long ov)] below meth c s₁ [] 0 0 := Stand.of_body Bd
  have e0 : s₁.heap = h0 := by rw [← hh, Bd.state]; rfl
  have N0 := Fr.nil n0
  have K0 : Keep h0 h0 [ob] := Keep.refl _ _
  refine own_enter (P := (Done s ({ frames := 1, cells := 0, slots := 0, locals := 12 } : Room).cells ({ frames := 1, cells := 0, slots := 0, locals := 12 } : Room).slots (Q7 Z ob ov h0 n0))) (Ls := #[.val (.ref ob), .val (.long ov), .second]) (by first | (simp [entryFrame, mkF, argsToLocals, Value.category]; done) | rfl) ?_
  refine own_aloadN X0 hx 1 rfl (hb hby own_d7_0) rfl rfl ?_
  obtain ⟨T1, X1, e1, st1⟩ := initO X0 hx hZ hown (hw _ (List.mem_of_getElem? (i := 45) rfl)) (hw _ (List.mem_of_getElem? (i := 9) rfl)) (hw _ (List.mem_of_getElem? (i := 10) rfl)) e0 (g := (mkF m 1 #[.val (.ref ob), .val (.long ov), .second] [(.ref ob)])) rfl (by rw [hml]; rfl) rfl (hb hby own_d7_1) (by decide) (W := 0) (by show 2 * 0 + _ ≤ _; exact Nat.le_of_eq rfl) (by decide)
  refine Goes.go st1 ?_
  show Goes p e below _ T1 (mkF m 4 #[.val (.ref ob), .val (.long ov), .second] [])
  refine own_aloadN X1 hx 5 rfl (hb hby own_d7_4) rfl rfl ?_
  refine own_iconst X1 hx 6 rfl (1 : Int32) (hb hby own_d7_5) (by decide) ?_
  obtain ⟨T2, h2, X2, e2, W2, st2⟩ := putFN X1 hx hZ hown (hw _ (List.mem_of_getElem? (i := 46) rfl)) Via.refl e1 Fi EO (Or.inr ⟨(hw _ (List.mem_of_getElem? (i := 47) rfl)), rfl, hnm⟩) (hw _ (List.mem_of_getElem? (i := 40) rfl)) (ty := .boolean) (v' := (.int (1 : Int32))) (by decide) rfl (by decide) (g := (mkF m 6 #[.val (.ref ob), .val (.long ov), .second] [(.int (1 : Int32)), (.ref ob)])) rfl rfl (hb hby own_d7_6)
  have N2 := Fr.snoc X2 N0 go
  have f3 := EO.wr W2
  have f4 := Fi.same W2
  have f5 := Fv.other W2 (Or.inr (slot_ne (Or.inr (hw _ (List.mem_of_getElem? (i := 49) rfl))) (Or.inr (hw _ (List.mem_of_getElem? (i := 47) rfl))) (by decide) (t := .long) (t' := .boolean) (by decide) (by decide)))
  have K2 := K0.wr W2 (Or.inl (List.mem_of_getElem? (i := 0) rfl))
  have Z2 := Nat.le_trans Z0 (Nat.le_of_eq W2.size.symm)
  refine Goes.go st2 ?_
  show Goes p e below _ T2 (mkF m 9 #[.val (.ref ob), .val (.long ov), .second] [])
  refine own_aloadN X2 hx 10 rfl (hb hby own_d7_9) rfl rfl ?_
  refine own_lloadN X2 hx 11 rfl (hb hby own_d7_10) rfl ?_
  obtain ⟨T6, h6, X6, e6, W6, st6⟩ := putF X2 hx hZ hown (host := "") (Or.inl (hw _ (List.mem_of_getElem? (i := 48) rfl))) Via.refl e2 f5 f3 (Or.inr ⟨(hw _ (List.mem_of_getElem? (i := 49) rfl)), rfl, hnm⟩) (hw _ (List.mem_of_getElem? (i := 40) rfl)) (ty := .long) (by decide) rfl rfl (g := (mkF m 11 #[.val (.ref ob), .val (.long ov), .second] [(.long ov), (.ref ob)])) rfl rfl (hb hby own_d7_11)
  have N6 := Fr.snoc X6 N2 go
  have f7 := f3.wr W6
  have f8 := f4.other W6 (Or.inr (slot_ne (Or.inr (hw _ (List.mem_of_getElem? (i := 47) rfl))) (Or.inr (hw _ (List.mem_of_getElem? (i := 49) rfl))) (by decide) (t := .boolean) (t' := .long) (by decide) (by decide)))
  have f9 := f5.same W6
  have K6 := K2.wr W6 (Or.inl (List.mem_of_getElem? (i := 0) rfl))
  have Z6 := Nat.le_trans Z2 (Nat.le_of_eq W6.size.symm)
  refine Goes.go st6 ?_
  show Goes p e below _ T6 (mkF m 14 #[.val (.ref ob), .val (.long ov), .second] [])
  refine own_retV X6 hx hlk Bd.returns (hb hby own_d7_14) (by decide) (by decide) e6 ?_
  exact ⟨rfl, N6, K6, f8, f9⟩
theorem own_pd1 : parseMethodDescriptor "(J)V" = some ⟨[.long], none⟩ := by decide +kernel
theorem own_d6_0 : decode jdk_2650_method_4_code 0 = .ok (.new 8, 3) := by decide +kernel
theorem own_d6_3 : decode jdk_2650_method_4_code 3 = .ok (.dup, 1) := by decide +kernel
theorem own_d6_4 : decode jdk_2650_method_4_code 4 = .ok (.lload_n 0, 1) := by decide +kernel
theorem own_d6_5 : decode jdk_2650_method_4_code 5 = .ok (.invokespecial 21, 3) := by decide +kernel
theorem own_d6_8 : decode jdk_2650_method_4_code 8 = .ok (.areturn, 1) := by decide +kernel
def Q6 (Z : State) (ov : Int64) (h0 : Heap) (n0 : Nat) (v : Option Value) (h : Heap) (L : List Loc) : Prop := ∃ ob : Addr, v = some (.ref ob) ∧ Fr n0 L ∧ Keep h0 h [] ∧ h0.size ≤ ob ∧ Exa Z h ob "java/util/OptionalLong" ∧ Fld Z h ob "java/util/OptionalLong" "isPresent" "Z" (.int (1 : Int32)) ∧ Fld Z h ob "java/util/OptionalLong" "value" "J" (.long ov)
set_option maxRecDepth 65536 in
set_option maxHeartbeats 40000000 in
theorem rm6 (l : Launch) (Z : State) (a0 : Array Value) (hw : ∀ d ∈ tables_1, d.before a0 Z = true) (ws : List Jvm.Cond) (ov : Int64) (h0 : Heap) (n0 : Nat) (Z0 : n0 ≤ h0.size)  :
    MetFree l (⟨"java/util/OptionalLong", "of", "(J)Ljava/util/OptionalLong;"⟩ : MethodName) (head1 (Jvm.Cond.code (⟨"java/util/OptionalLong", "of", "(J)Ljava/util/OptionalLong;"⟩ : MethodName) jdk_2650_method_4_code 2 (some (.object "java/util/OptionalLong")) :: ws) ({ frames := 2, cells := 1, slots := 2, locals := 27 } : Room)) (fun a U => a = #[(.long ov)] ∧ Z.Warmed39 U.vm ∧ U.heap = h0) (fun _ _ _ _ _ => True) (fun _ U o U' => ∃ v L, o = .returned v ∧ Q6 Z ov h0 n0 v U'.heap L ∧ FrameEnd U o U' L ({ frames := 2, cells := 1, slots := 2, locals := 27 } : Room).cells ({ frames := 2, cells := 1, slots := 2, locals := 27 } : Room).slots) := by
  refine MetFree.of_bodySF (plainFor_of_name own_pn_java_util_OptionalLong) hisR ?_
  intro p e s m args below meth c s₁ Bd hml0 hP hK
  obtain ⟨rfl, hZ, hh⟩ := hP
  have hx := Bd.exec
  have hby := Bd.bytes
  have hml : c.maxLocals = 2 := hml0
  have hlk := Bd.notSynchronized
  have hown : s.vm.findClass "java/util/OptionalLong" = some m.cls := findClass_of_methodNamed Bd.named
  have hnm := (name_of_methodNamed Bd.named Bd.method).1
  have X0 : Stand p l e ({ frames := 2, cells := 1, slots := 2, locals := 27 } : Room) s m #[(.long ov)] below meth c s₁ [] 0 0 := Stand.of_body Bd
  have e0 : s₁.heap = h0 := by rw [← hh, Bd.state]; rfl
  have N0 := Fr.nil n0
  have K0 : Keep h0 h0 [] := Keep.refl _ _
  refine own_enter (P := (Done s ({ frames := 2, cells := 1, slots := 2, locals := 27 } : Room).cells ({ frames := 2, cells := 1, slots := 2, locals := 27 } : Room).slots (Q6 Z ov h0 n0))) (Ls := #[.val (.long ov), .second]) (by first | (simp [entryFrame, mkF, argsToLocals, Value.category]; done) | rfl) ?_
  obtain ⟨T1, h1, X1, e1, E1, A1, D1, Un1, st1⟩ := newO X0 hx hZ hown (hw _ (List.mem_of_getElem? (i := 39) rfl)) (hw _ (List.mem_of_getElem? (i := 40) rfl)) (hw _ (List.mem_of_getElem? (i := 37) rfl)) e0 (g := (mkF m 0 #[.val (.long ov), .second] [])) rfl (hb hby own_d6_0) (by decide) (by decide)
  obtain ⟨b1, g1⟩ : ∃ z, z = h0.size := ⟨_, rfl⟩
  rw [← g1] at A1 D1 Un1 st1
  have G1 : n0 ≤ b1 := Nat.le_trans Z0 (Nat.le_of_eq g1.symm)
  have H1 : h0.size ≤ b1 := Nat.le_trans K0.1 (Nat.le_of_eq g1.symm)
  have K1 := K0.ext E1
  have Z1 := Nat.le_trans Z0 E1.1
  have f2 : Fld Z h1 b1 "java/util/OptionalLong" "isPresent" "Z" (.int (0 : Int32)) := D1 (Or.inr (hw _ (List.mem_of_getElem? (i := 47) rfl))) (ty := .boolean) (by decide)
  have f3 : Fld Z h1 b1 "java/util/OptionalLong" "value" "J" (.long (0 : Int64)) := D1 (Or.inr (hw _ (List.mem_of_getElem? (i := 49) rfl))) (ty := .long) (by decide)
  refine Goes.go st1 ?_
  show Goes p e below _ T1 (mkF m 3 #[.val (.long ov), .second] [(.ref b1)])
  refine own_dup X1 hx 4 rfl (hb hby own_d6_3) rfl ?_
  refine own_lloadN X1 hx 5 rfl (hb hby own_d6_4) rfl ?_
  obtain ⟨_, _, ⟨T4, L4, k4, n4⟩, -, X4, ⟨Lc4, hQ4, l4, y4, z4⟩, st4⟩ := X1.specialBack hx (y := (⟨"java/util/OptionalLong", "<init>", "(J)V"⟩ : MethodName)) rfl hown (mvT hZ (hw _ (List.mem_of_getElem? (i := 41) rfl))) (mvT hZ (hw _ (List.mem_of_getElem? (i := 42) rfl))) (mvT hZ (hw _ (List.mem_of_getElem? (i := 44) rfl))) (by decide) (backOf (W := 1) (rm7 l Z a0 hw [] b1 ov h1 n0 Z1 A1 G1 f2 f3) hZ (hw _ (List.mem_of_getElem? (i := 44) rfl)) (hw _ (List.mem_of_getElem? (i := 37) rfl)) (by decide) (by decide)) (g := (mkF m 5 #[.val (.long ov), .second] [(.long ov), (.ref b1), (.ref b1)])) rfl (by rw [hml]; rfl) (Steps.refl _) (a := b1) (argsL := [(.long ov)]) (rest := [(.ref b1)]) (lenOf own_pd1 rfl) rfl (by show 2 * 0 + _ ≤ _; exact Nat.le_of_eq rfl) (hb hby own_d6_5) (fun _ _ => ⟨rfl, e1, (by decide : 1 + 0 ≤ _), (by decide : 2 + 0 ≤ _)⟩)
  dsimp only [Pt.U, Pt.locs, Pt.cells, Pt.slots] at X4 l4 y4 z4 st4 hQ4
  subst l4 y4 z4
  obtain ⟨rfl, N4q, K4q, f4_0, f4_1⟩ := hQ4
  have N4 := Fr.app N0 N4q
  have f5 := A1.keep K4q
  have K4 := K1.trans K4q (allS (Or.inr H1) all0)
  have Z4 := Nat.le_trans Z1 K4q.1
  refine Goes.tr st4 ?_
  show Goes p e below _ T4 (mkF m 8 #[.val (.long ov), .second] [(.ref b1)])
  refine own_retR X4 hx hlk Bd.returns rfl rfl (hb hby own_d6_8) (by decide) (by decide) rfl ?_
  exact ⟨b1, rfl, N4, K4, H1, f5, f4_0, f4_1⟩
theorem own_d19_0 : decode jdk_2650_method_2_code 0 = .ok (.getstatic 17, 3) := by decide +kernel
theorem own_d19_3 : decode jdk_2650_method_2_code 3 = .ok (.areturn, 1) := by decide +kernel
def Q19 (Z : State) (ez : Addr) (h0 : Heap) (n0 : Nat) (v : Option Value) (h : Heap) (L : List Loc) : Prop := v = some (.ref ez) ∧ Fr n0 L ∧ h = h0
set_option maxRecDepth 65536 in
set_option maxHeartbeats 40000000 in
theorem rm19 (l : Launch) (Z : State) (a0 : Array Value) (hw : ∀ d ∈ tables_1, d.before a0 Z = true) (ws : List Jvm.Cond) (ez : Addr) (h0 : Heap) (n0 : Nat) (Z0 : n0 ≤ h0.size) (Se : Sta Z h0 "java/util/OptionalLong" "EMPTY" "Ljava/util/OptionalLong;" (.ref ez)) :
    MetFree l (⟨"java/util/OptionalLong", "empty", "()Ljava/util/OptionalLong;"⟩ : MethodName) (head1 (Jvm.Cond.code (⟨"java/util/OptionalLong", "empty", "()Ljava/util/OptionalLong;"⟩ : MethodName) jdk_2650_method_2_code 0 (some (.object "java/util/OptionalLong")) :: ws) ({ frames := 0, cells := 0, slots := 0, locals := 0 } : Room)) (fun a U => a = #[] ∧ Z.Warmed39 U.vm ∧ U.heap = h0) (fun _ _ _ _ _ => True) (fun _ U o U' => ∃ v L, o = .returned v ∧ Q19 Z ez h0 n0 v U'.heap L ∧ FrameEnd U o U' L ({ frames := 0, cells := 0, slots := 0, locals := 0 } : Room).cells ({ frames := 0, cells := 0, slots := 0, locals := 0 } : Room).slots) := by
  refine MetFree.of_bodySF (plainFor_of_name own_pn_java_util_OptionalLong) hisR ?_
  intro p e s m args below meth c s₁ Bd hml0 hP hK
  obtain ⟨rfl, hZ, hh⟩ := hP
  have hx := Bd.exec
  have hby := Bd.bytes
  have hml : c.maxLocals = 0 := hml0
  have hlk := Bd.notSynchronized
  have hown : s.vm.findClass "java/util/OptionalLong" = some m.cls := findClass_of_methodNamed Bd.named
  have hnm := (name_of_methodNamed Bd.named Bd.method).1
  have X0 : Stand p l e ({ frames := 0, cells := 0, slots := 0, locals := 0 } : Room) s m #[] below meth c s₁ [] 0 0 := Stand.of_body Bd
  have e0 : s₁.heap = h0 := by rw [← hh, Bd.state]; rfl
  have N0 := Fr.nil n0
  refine own_enter (P := (Done s ({ frames := 0, cells := 0, slots := 0, locals := 0 } : Room).cells ({ frames := 0, cells := 0, slots := 0, locals := 0 } : Room).slots (Q19 Z ez h0 n0))) (Ls := #[]) (by first | (simp [entryFrame, mkF, argsToLocals, Value.category]; done) | rfl) ?_
  obtain ⟨T1, X1, e1, st1⟩ := getS2 X0 hx hZ hown (host := "") (Or.inl (hw _ (List.mem_of_getElem? (i := 145) rfl))) Via.refl e0 Se (g := (mkF m 0 #[] [])) rfl (hb hby own_d19_0)
  refine Goes.go st1 ?_
  show Goes p e below _ T1 (mkF m 3 #[] [(.ref ez)])
  refine own_retR X1 hx hlk Bd.returns rfl rfl (hb hby own_d19_3) (by decide) (by decide) e1 ?_
  exact ⟨rfl, N0, rfl⟩
theorem own_d10_0 : decode jdk_2650_method_6_code 0 = .ok (.aload_n 0, 1) := by decide +kernel
theorem own_d10_1 : decode jdk_2650_method_6_code 1 = .ok (.getfield 7, 3) := by decide +kernel
theorem own_d10_4 : decode jdk_2650_method_6_code 4 = .ok (.ireturn, 1) := by decide +kernel
def Qisp1 (Z : State) (ob : Addr) (h0 : Heap) (n0 : Nat) (v : Option Value) (h : Heap) (L : List Loc) : Prop := v = some (.int (1 : Int32)) ∧ Fr n0 L ∧ h = h0
set_option maxRecDepth 65536 in
set_option maxHeartbeats 40000000 in
theorem rmisp1 (l : Launch) (Z : State) (a0 : Array Value) (hw : ∀ d ∈ tables_1, d.before a0 Z = true) (ws : List Jvm.Cond) (ob : Addr) (h0 : Heap) (n0 : Nat) (Z0 : n0 ≤ h0.size) (Fi : Fld Z h0 ob "java/util/OptionalLong" "isPresent" "Z" (.int (1 : Int32))) :
    MetFree l (⟨"java/util/OptionalLong", "isPresent", "()Z"⟩ : MethodName) (head1 (Jvm.Cond.code (⟨"java/util/OptionalLong", "isPresent", "()Z"⟩ : MethodName) jdk_2650_method_6_code 1 (some .boolean) :: ws) ({ frames := 0, cells := 0, slots := 0, locals := 0 } : Room)) (fun a U => a = #[(.ref ob)] ∧ Z.Warmed39 U.vm ∧ U.heap = h0) (fun _ _ _ _ _ => True) (fun _ U o U' => ∃ v L, o = .returned v ∧ Qisp1 Z ob h0 n0 v U'.heap L ∧ FrameEnd U o U' L ({ frames := 0, cells := 0, slots := 0, locals := 0 } : Room).cells ({ frames := 0, cells := 0, slots := 0, locals := 0 } : Room).slots) := by
  refine MetFree.of_bodySF (plainFor_of_name own_pn_java_util_OptionalLong) hisR ?_
  intro p e s m args below meth c s₁ Bd hml0 hP hK
  obtain ⟨rfl, hZ, hh⟩ := hP
  have hx := Bd.exec
  have hby := Bd.bytes
  have hml : c.maxLocals = 1 := hml0
  have hlk := Bd.notSynchronized
  have hown : s.vm.findClass "java/util/OptionalLong" = some m.cls := findClass_of_methodNamed Bd.named
  have hnm := (name_of_methodNamed Bd.named Bd.method).1
  have X0 : Stand p l e ({ frames := 0, cells := 0, slots := 0, locals := 0 } : Room) s m #[(.ref ob)] below meth c s₁ [] 0 0 := Stand.of_body Bd
  have e0 : s₁.heap = h0 := by rw [← hh, Bd.state]; rfl
  have N0 := Fr.nil n0
  refine own_enter (P := (Done s ({ frames := 0, cells := 0, slots := 0, locals := 0 } : Room).cells ({ frames := 0, cells := 0, slots := 0, locals := 0 } : Room).slots (Qisp1 Z ob h0 n0))) (Ls := #[.val (.ref ob)]) (by first | (simp [entryFrame, mkF, argsToLocals, Value.category]; done) | rfl) ?_
  refine own_aloadN X0 hx 1 rfl (hb hby own_d10_0) rfl rfl ?_
  obtain ⟨T1, X1, e1, st1⟩ := getF X0 hx hZ hown (host := "") (Or.inl (hw _ (List.mem_of_getElem? (i := 46) rfl))) Via.refl e0 Fi (g := (mkF m 1 #[.val (.ref ob)] [(.ref ob)])) rfl rfl (hb hby own_d10_1)
  refine Goes.go st1 ?_
  show Goes p e below _ T1 (mkF m 4 #[.val (.ref ob)] [(.int (1 : Int32))])
  refine own_retZ X1 hx hlk Bd.returns (by decide) (hb hby own_d10_4) (by decide) (by decide) e1 ?_
  exact ⟨rfl, N0, rfl⟩
def Qisp0 (Z : State) (ob : Addr) (h0 : Heap) (n0 : Nat) (v : Option Value) (h : Heap) (L : List Loc) : Prop := v = some (.int (0 : Int32)) ∧ Fr n0 L ∧ h = h0
set_option maxRecDepth 65536 in
set_option maxHeartbeats 40000000 in
theorem rmisp0 (l : Launch) (Z : State) (a0 : Array Value) (hw : ∀ d ∈ tables_1, d.before a0 Z = true) (ws : List Jvm.Cond) (ob : Addr) (h0 : Heap) (n0 : Nat) (Z0 : n0 ≤ h0.size) (Fi : Fld Z h0 ob "java/util/OptionalLong" "isPresent" "Z" (.int (0 : Int32))) :
    MetFree l (⟨"java/util/OptionalLong", "isPresent", "()Z"⟩ : MethodName) (head1 (Jvm.Cond.code (⟨"java/util/OptionalLong", "isPresent", "()Z"⟩ : MethodName) jdk_2650_method_6_code 1 (some .boolean) :: ws) ({ frames := 0, cells := 0, slots := 0, locals := 0 } : Room)) (fun a U => a = #[(.ref ob)] ∧ Z.Warmed39 U.vm ∧ U.heap = h0) (fun _ _ _ _ _ => True) (fun _ U o U' => ∃ v L, o = .returned v ∧ Qisp0 Z ob h0 n0 v U'.heap L ∧ FrameEnd U o U' L ({ frames := 0, cells := 0, slots := 0, locals := 0 } : Room).cells ({ frames := 0, cells := 0, slots := 0, locals := 0 } : Room).slots) := by
  refine MetFree.of_bodySF (plainFor_of_name own_pn_java_util_OptionalLong) hisR ?_
  intro p e s m args below meth c s₁ Bd hml0 hP hK
  obtain ⟨rfl, hZ, hh⟩ := hP
  have hx := Bd.exec
  have hby := Bd.bytes
  have hml : c.maxLocals = 1 := hml0
  have hlk := Bd.notSynchronized
  have hown : s.vm.findClass "java/util/OptionalLong" = some m.cls := findClass_of_methodNamed Bd.named
  have hnm := (name_of_methodNamed Bd.named Bd.method).1
  have X0 : Stand p l e ({ frames := 0, cells := 0, slots := 0, locals := 0 } : Room) s m #[(.ref ob)] below meth c s₁ [] 0 0 := Stand.of_body Bd
  have e0 : s₁.heap = h0 := by rw [← hh, Bd.state]; rfl
  have N0 := Fr.nil n0
  refine own_enter (P := (Done s ({ frames := 0, cells := 0, slots := 0, locals := 0 } : Room).cells ({ frames := 0, cells := 0, slots := 0, locals := 0 } : Room).slots (Qisp0 Z ob h0 n0))) (Ls := #[.val (.ref ob)]) (by first | (simp [entryFrame, mkF, argsToLocals, Value.category]; done) | rfl) ?_
  refine own_aloadN X0 hx 1 rfl (hb hby own_d10_0) rfl rfl ?_
  obtain ⟨T1, X1, e1, st1⟩ := getF X0 hx hZ hown (host := "") (Or.inl (hw _ (List.mem_of_getElem? (i := 46) rfl))) Via.refl e0 Fi (g := (mkF m 1 #[.val (.ref ob)] [(.ref ob)])) rfl rfl (hb hby own_d10_1)
  refine Goes.go st1 ?_
  show Goes p e below _ T1 (mkF m 4 #[.val (.ref ob)] [(.int (0 : Int32))])
  refine own_retZ X1 hx hlk Bd.returns (by decide) (hb hby own_d10_4) (by decide) (by decide) e1 ?_
  exact ⟨rfl, N0, rfl⟩
theorem own_d11_0 : decode jdk_2650_method_5_code 0 = .ok (.aload_n 0, 1) := by decide +kernel
theorem own_d11_1 : decode jdk_2650_method_5_code 1 = .ok (.getfield 7, 3) := by decide +kernel
theorem own_d11_4 : decode jdk_2650_method_5_code 4 = .ok (.ifCond .ne 13, 3) := by decide +kernel
theorem own_d11_17 : decode jdk_2650_method_5_code 17 = .ok (.aload_n 0, 1) := by decide +kernel
theorem own_d11_18 : decode jdk_2650_method_5_code 18 = .ok (.getfield 13, 3) := by decide +kernel
theorem own_d11_21 : decode jdk_2650_method_5_code 21 = .ok (.lreturn, 1) := by decide +kernel
def Q11 (Z : State) (ob : Addr) (ov : Int64) (h0 : Heap) (n0 : Nat) (v : Option Value) (h : Heap) (L : List Loc) : Prop := v = some (.long ov) ∧ Fr n0 L ∧ h = h0
set_option maxRecDepth 65536 in
set_option maxHeartbeats 40000000 in
theorem rm11 (l : Launch) (Z : State) (a0 : Array Value) (hw : ∀ d ∈ tables_1, d.before a0 Z = true) (ws : List Jvm.Cond) (ob : Addr) (ov : Int64) (h0 : Heap) (n0 : Nat) (Z0 : n0 ≤ h0.size) (Fi : Fld Z h0 ob "java/util/OptionalLong" "isPresent" "Z" (.int (1 : Int32))) (Fv : Fld Z h0 ob "java/util/OptionalLong" "value" "J" (.long ov)) :
    MetFree l (⟨"java/util/OptionalLong", "getAsLong", "()J"⟩ : MethodName) (head1 (Jvm.Cond.code (⟨"java/util/OptionalLong", "getAsLong", "()J"⟩ : MethodName) jdk_2650_method_5_code 1 (some .long) :: ws) ({ frames := 0, cells := 0, slots := 0, locals := 0 } : Room)) (fun a U => a = #[(.ref ob)] ∧ Z.Warmed39 U.vm ∧ U.heap = h0) (fun _ _ _ _ _ => True) (fun _ U o U' => ∃ v L, o = .returned v ∧ Q11 Z ob ov h0 n0 v U'.heap L ∧ FrameEnd U o U' L ({ frames := 0, cells := 0, slots := 0, locals := 0 } : Room).cells ({ frames := 0, cells := 0, slots := 0, locals := 0 } : Room).slots) := by
  refine MetFree.of_bodySF (plainFor_of_name own_pn_java_util_OptionalLong) hisR ?_
  intro p e s m args below meth c s₁ Bd hml0 hP hK
  obtain ⟨rfl, hZ, hh⟩ := hP
  have hx := Bd.exec
  have hby := Bd.bytes
  have hml : c.maxLocals = 1 := hml0
  have hlk := Bd.notSynchronized
  have hown : s.vm.findClass "java/util/OptionalLong" = some m.cls := findClass_of_methodNamed Bd.named
  have hnm := (name_of_methodNamed Bd.named Bd.method).1
  have X0 : Stand p l e ({ frames := 0, cells := 0, slots := 0, locals := 0 } : Room) s m #[(.ref ob)] below meth c s₁ [] 0 0 := Stand.of_body Bd
  have e0 : s₁.heap = h0 := by rw [← hh, Bd.state]; rfl
  have N0 := Fr.nil n0
  refine own_enter (P := (Done s ({ frames := 0, cells := 0, slots := 0, locals := 0 } : Room).cells ({ frames := 0, cells := 0, slots := 0, locals := 0 } : Room).slots (Q11 Z ob ov h0 n0))) (Ls := #[.val (.ref ob)]) (by first | (simp [entryFrame, mkF, argsToLocals, Value.category]; done) | rfl) ?_
  refine own_aloadN X0 hx 1 rfl (hb hby own_d11_0) rfl rfl ?_
  obtain ⟨T1, X1, e1, st1⟩ := getF X0 hx hZ hown (host := "") (Or.inl (hw _ (List.mem_of_getElem? (i := 46) rfl))) Via.refl e0 Fi (g := (mkF m 1 #[.val (.ref ob)] [(.ref ob)])) rfl rfl (hb hby own_d11_1)
  refine Goes.go st1 ?_
  show Goes p e below _ T1 (mkF m 4 #[.val (.ref ob)] [(.int (1 : Int32))])
  refine own_ifY X1 hx 17 (hb hby own_d11_4) ((if0 _ _).trans (feq ((by decide) : ¬ ((1 : Int32) = (0 : Int32)))).2) (by decide) (by decide) ?_
  refine own_aloadN X1 hx 18 rfl (hb hby own_d11_17) rfl rfl ?_
  obtain ⟨T2, X2, e2, st2⟩ := getF X1 hx hZ hown (host := "") (Or.inl (hw _ (List.mem_of_getElem? (i := 48) rfl))) Via.refl e1 Fv (g := (mkF m 18 #[.val (.ref ob)] [(.ref ob)])) rfl rfl (hb hby own_d11_18)
  refine Goes.go st2 ?_
  show Goes p e below _ T2 (mkF m 21 #[.val (.ref ob)] [(.long ov)])
  refine own_retJ X2 hx hlk Bd.returns (hb hby own_d11_21) (by decide) (by decide) e2 ?_
  exact ⟨rfl, N0, rfl⟩
theorem own_d1_0 : decode prog_28_method_1_code 0 = .ok (.aload_n 0, 1) := by decide +kernel
theorem own_d1_1 : decode prog_28_method_1_code 1 = .ok (.invokespecial 1, 3) := by decide +kernel
theorem own_d1_4 : decode prog_28_method_1_code 4 = .ok (.aload_n 0, 1) := by decide +kernel
theorem own_d1_5 : decode prog_28_method_1_code 5 = .ok (.ldc2_w 9, 3) := by decide +kernel
theorem own_d1_8 : decode prog_28_method_1_code 8 = .ok (.putfield 11, 3) := by decide +kernel
theorem own_d1_11 : decode prog_28_method_1_code 11 = .ok (.return_, 1) := by decide +kernel
theorem own_pn_com_example_tallywire_tallywire_logs_CalibrationCycle : plainName "com/example/tallywire/tallywire/logs/CalibrationCycle" = true := by first | (simp [plainName, overriddenIn]; done) | decide +kernel
def Q1 (Z : State) (cc : Addr) (h0 : Heap) (n0 : Nat) (v : Option Value) (h : Heap) (L : List Loc) : Prop := v = none ∧ Fr n0 L ∧ Keep h0 h [cc] ∧ Fld Z h cc "com/example/tallywire/tallywire/logs/CalibrationCycle" "bestRoundTrip" "J" (.long (9223372036854775807 : Int64)) ∧ Fld Z h cc "com/example/tallywire/tallywire/logs/CalibrationCycle" "exchanges" "I" (.int (0 : Int32)) ∧ Fld Z h cc "com/example/tallywire/tallywire/logs/CalibrationCycle" "bestMidpoint" "J" (.long (0 : Int64)) ∧ Fld Z h cc "com/example/tallywire/tallywire/logs/CalibrationCycle" "bestReply" "J" (.long (0 : Int64))
set_option maxRecDepth 65536 in
set_option maxHeartbeats 40000000 in
theorem rm1 (l : Launch) (Z : State) (a0 : Array Value) (hw : ∀ d ∈ tables_1, d.before a0 Z = true) (ws : List Jvm.Cond) (cc : Addr) (h0 : Heap) (n0 : Nat) (Z0 : n0 ≤ h0.size) (EC : Exa Z h0 cc "com/example/tallywire/tallywire/logs/CalibrationCycle") (gc : n0 ≤ cc) (Fb : Fld Z h0 cc "com/example/tallywire/tallywire/logs/CalibrationCycle" "bestRoundTrip" "J" (.long (0 : Int64))) (Fn : Fld Z h0 cc "com/example/tallywire/tallywire/logs/CalibrationCycle" "exchanges" "I" (.int (0 : Int32))) (Fm : Fld Z h0 cc "com/example/tallywire/tallywire/logs/CalibrationCycle" "bestMidpoint" "J" (.long (0 : Int64))) (Fp : Fld Z h0 cc "com/example/tallywire/tallywire/logs/CalibrationCycle" "bestReply" "J" (.long (0 : Int64))) :
    MetFree l (⟨"com/example/tallywire/tallywire/logs/CalibrationCycle", "<init>", "()V"⟩ : MethodName) (head1 (Jvm.Cond.code (⟨"com/example/tallywire/tallywire/logs/CalibrationCycle", "<init>", "()V"⟩ : MethodName) prog_28_method_1_code 1 none :: ws) ({ frames := 1, cells := 0, slots := 0, locals := 12 } : Room)) (fun a U => a = #[(.ref cc)] ∧ Z.Warmed39 U.vm ∧ U.heap = h0) (fun _ _ _ _ _ => True) (fun _ U o U' => ∃ v L, o = .returned v ∧ Q1 Z cc h0 n0 v U'.heap L ∧ FrameEnd U o U' L ({ frames := 1, cells := 0, slots := 0, locals := 12 } : Room).cells ({ frames := 1, cells := 0, slots := 0, locals := 12 } : Room).slots) := by
  refine MetFree.of_bodySF (plainFor_of_name own_pn_com_example_tallywire_tallywire_logs_CalibrationCycle) hisR ?_
  intro p e s m args below meth c s₁ Bd hml0 hP hK
  obtain ⟨rfl, hZ, hh⟩ := hP
  have hx := Bd.exec
  have hby := Bd.bytes
  have hml : c.maxLocals = 1 := hml0
  have hlk := Bd.notSynchronized
  have hown : s.vm.findClass "com/example/tallywire/tallywire/logs/CalibrationCycle" = some m.cls := findClass_of_methodNamed Bd.named
  have hnm := (name_of_methodNamed Bd.named Bd.method).1
  have X0 : Stand p l e ({ frames := 1, cells := 0, slots := 0, locals := 12 } : Room) s m #[(.ref cc)] below meth c s₁ [] 0 0 := Stand.of_body Bd
  have e0 : s₁.heap = h0 := by rw [← hh, Bd.state]; rfl
  have N0 := Fr.nil n0
  have K0 : Keep h0 h0 [cc] := Keep.refl _ _
  refine own_enter (P := (Done s ({ frames := 1, cells := 0, slots := 0, locals := 12 } : Room).cells ({ frames := 1, cells := 0, slots := 0, locals := 12 } : Room).slots (Q1 Z cc h0 n0))) (Ls := #[.val (.ref cc)]) (by first | (simp [entryFrame, mkF, argsToLocals, Value.category]; done) | rfl) ?_
  refine own_aloadN X0 hx 1 rfl (hb hby own_d1_0) rfl rfl ?_
  obtain ⟨T1, X1, e1, st1⟩ := initO X0 hx hZ hown (hw _ (List.mem_of_getElem? (i := 8) rfl)) (hw _ (List.mem_of_getElem? (i := 9) rfl)) (hw _ (List.mem_of_getElem? (i := 10) rfl)) e0 (g := (mkF m 1 #[.val (.ref cc)] [(.ref cc)])) rfl (by rw [hml]; rfl) rfl (hb hby own_d1_1) (by decide) (W := 0) (by show 2 * 0 + _ ≤ _; exact Nat.le_of_eq rfl) (by decide)
  refine Goes.go st1 ?_
  show Goes p e below _ T1 (mkF m 4 #[.val (.ref cc)] [])
  refine own_aloadN X1 hx 5 rfl (hb hby own_d1_4) rfl rfl ?_
  refine Goes.go (X1.ldc2Long hx hown (mvT hZ (hw _ (List.mem_of_getElem? (i := 11) rfl))) (g := (mkF m 5 #[.val (.ref cc)] [(.ref cc)])) rfl (hb hby own_d1_5)) ?_
  show Goes p e below _ T1 (mkF m 8 #[.val (.ref cc)] [(.long (9223372036854775807 : Int64)), (.ref cc)])
  obtain ⟨T2, h2, X2, e2, W2, st2⟩ := putF X1 hx hZ hown (host := "") (Or.inl (hw _ (List.mem_of_getElem? (i := 12) rfl))) Via.refl e1 Fb EC (Or.inl (hw _ (List.mem_of_getElem? (i := 13) rfl))) (hw _ (List.mem_of_getElem? (i := 3) rfl)) (ty := .long) (by decide) rfl rfl (g := (mkF m 8 #[.val (.ref cc)] [(.long (9223372036854775807 : Int64)), (.ref cc)])) rfl rfl (hb hby own_d1_8)
  have N2 := Fr.snoc X2 N0 gc
  have f3 := EC.wr W2
  have f4 := Fb.same W2
  have f5 := Fn.other W2 (Or.inr (slot_ne (Or.inl (hw _ (List.mem_of_getElem? (i := 20) rfl))) (Or.inl (hw _ (List.mem_of_getElem? (i := 13) rfl))) (by decide) (t := .int) (t' := .long) (by decide) (by decide)))
  have f6 := Fm.other W2 (Or.inr (slot_ne (Or.inl (hw _ (List.mem_of_getElem? (i := 23) rfl))) (Or.inl (hw _ (List.mem_of_getElem? (i := 13) rfl))) (by decide) (t := .long) (t' := .long) (by decide) (by decide)))
  have f7 := Fp.other W2 (Or.inr (slot_ne (Or.inl (hw _ (List.mem_of_getElem? (i := 25) rfl))) (Or.inl (hw _ (List.mem_of_getElem? (i := 13) rfl))) (by decide) (t := .long) (t' := .long) (by decide) (by decide)))
  have K2 := K0.wr W2 (Or.inl (List.mem_of_getElem? (i := 0) rfl))
  have Z2 := Nat.le_trans Z0 (Nat.le_of_eq W2.size.symm)
  refine Goes.go st2 ?_
  show Goes p e below _ T2 (mkF m 11 #[.val (.ref cc)] [])
  refine own_retV X2 hx hlk Bd.returns (hb hby own_d1_11) (by decide) (by decide) e2 ?_
  exact ⟨rfl, N2, K2, f4, f5, f6, f7⟩
theorem own_d3_0 : decode prog_28_method_2_code 0 = .ok (.aload_n 0, 1) := by decide +kernel
theorem own_d3_1 : decode prog_28_method_2_code 1 = .ok (.dup, 1) := by decide +kernel
theorem own_d3_2 : decode prog_28_method_2_code 2 = .ok (.getfield 17, 3) := by decide +kernel
theorem own_d3_5 : decode prog_28_method_2_code 5 = .ok (.iconst 1, 1) := by decide +kernel
theorem own_d3_6 : decode prog_28_method_2_code 6 = .ok (.iadd, 1) := by decide +kernel
theorem own_d3_7 : decode prog_28_method_2_code 7 = .ok (.putfield 17, 3) := by decide +kernel
theorem own_d3_10 : decode prog_28_method_2_code 10 = .ok (.lload 5, 2) := by decide +kernel
theorem own_d3_12 : decode prog_28_method_2_code 12 = .ok (.lload_n 1, 1) := by decide +kernel
theorem own_d3_13 : decode prog_28_method_2_code 13 = .ok (.lsub, 1) := by decide +kernel
theorem own_d3_14 : decode prog_28_method_2_code 14 = .ok (.lstore 7, 2) := by decide +kernel
theorem own_d3_16 : decode prog_28_method_2_code 16 = .ok (.lload 7, 2) := by decide +kernel
theorem own_d3_18 : decode prog_28_method_2_code 18 = .ok (.aload_n 0, 1) := by decide +kernel
theorem own_d3_19 : decode prog_28_method_2_code 19 = .ok (.getfield 11, 3) := by decide +kernel
theorem own_d3_22 : decode prog_28_method_2_code 22 = .ok (.lcmp, 1) := by decide +kernel
theorem own_d3_23 : decode prog_28_method_2_code 23 = .ok (.ifCond .ge 26, 3) := by decide +kernel
theorem own_d3_26 : decode prog_28_method_2_code 26 = .ok (.aload_n 0, 1) := by decide +kernel
theorem own_d3_27 : decode prog_28_method_2_code 27 = .ok (.lload 7, 2) := by decide +kernel
theorem own_d3_29 : decode prog_28_method_2_code 29 = .ok (.putfield 11, 3) := by decide +kernel
theorem own_d3_32 : decode prog_28_method_2_code 32 = .ok (.aload_n 0, 1) := by decide +kernel
theorem own_d3_33 : decode prog_28_method_2_code 33 = .ok (.lload_n 1, 1) := by decide +kernel
theorem own_d3_34 : decode prog_28_method_2_code 34 = .ok (.lload 7, 2) := by decide +kernel
theorem own_d3_36 : decode prog_28_method_2_code 36 = .ok (.ldc2_w 21, 3) := by decide +kernel
theorem own_d3_39 : decode prog_28_method_2_code 39 = .ok (.ldiv, 1) := by decide +kernel
theorem own_d3_40 : decode prog_28_method_2_code 40 = .ok (.ladd, 1) := by decide +kernel
theorem own_d3_41 : decode prog_28_method_2_code 41 = .ok (.putfield 23, 3) := by decide +kernel
theorem own_d3_44 : decode prog_28_method_2_code 44 = .ok (.aload_n 0, 1) := by decide +kernel
theorem own_d3_45 : decode prog_28_method_2_code 45 = .ok (.lload_n 3, 1) := by decide +kernel
theorem own_d3_46 : decode prog_28_method_2_code 46 = .ok (.putfield 26, 3) := by decide +kernel
theorem own_d3_49 : decode prog_28_method_2_code 49 = .ok (.return_, 1) := by decide +kernel
def QaddT (Z : State) (cc : Addr) (sv : Int64) (rp : Int64) (rv : Int64) (cn : Int32) (cb : Int64) (cm : Int64) (cr : Int64) (h0 : Heap) (n0 : Nat) (v : Option Value) (h : Heap) (L : List Loc) : Prop := v = none ∧ Fr n0 L ∧ Keep h0 h [cc] ∧ Fld Z h cc "com/example/tallywire/tallywire/logs/CalibrationCycle" "bestRoundTrip" "J" (.long (rv - sv)) ∧ Fld Z h cc "com/example/tallywire/tallywire/logs/CalibrationCycle" "exchanges" "I" (.int (cn + (1 : Int32))) ∧ Fld Z h cc "com/example/tallywire/tallywire/logs/CalibrationCycle" "bestMidpoint" "J" (.long (sv + ((rv - sv) / (2 : Int64)))) ∧ Fld Z h cc "com/example/tallywire/tallywire/logs/CalibrationCycle" "bestReply" "J" (.long rp)
set_option maxRecDepth 65536 in
set_option maxHeartbeats 40000000 in
theorem rmaddT (l : Launch) (Z : State) (a0 : Array Value) (hw : ∀ d ∈ tables_1, d.before a0 Z = true) (ws : List Jvm.Cond) (cc : Addr) (sv : Int64) (rp : Int64) (rv : Int64) (cn : Int32) (cb : Int64) (cm : Int64) (cr : Int64) (h0 : Heap) (n0 : Nat) (Z0 : n0 ≤ h0.size) (EC : Exa Z h0 cc "com/example/tallywire/tallywire/logs/CalibrationCycle") (gc : n0 ≤ cc) (Fb : Fld Z h0 cc "com/example/tallywire/tallywire/logs/CalibrationCycle" "bestRoundTrip" "J" (.long cb)) (Fn : Fld Z h0 cc "com/example/tallywire/tallywire/logs/CalibrationCycle" "exchanges" "I" (.int cn)) (Fm : Fld Z h0 cc "com/example/tallywire/tallywire/logs/CalibrationCycle" "bestMidpoint" "J" (.long cm)) (Fp : Fld Z h0 cc "com/example/tallywire/tallywire/logs/CalibrationCycle" "bestReply" "J" (.long cr)) (hlt : (rv - sv) < cb) :
    MetFree l (⟨"com/example/tallywire/tallywire/logs/CalibrationCycle", "add", "(JJJ)V"⟩ : MethodName) (head1 (Jvm.Cond.code (⟨"com/example/tallywire/tallywire/logs/CalibrationCycle", "add", "(JJJ)V"⟩ : MethodName) prog_28_method_2_code 9 none :: ws) ({ frames := 0, cells := 0, slots := 0, locals := 0 } : Room)) (fun a U => a = #[(.ref cc), (.long sv), (.long rp), (.long rv)] ∧ Z.Warmed39 U.vm ∧ U.heap = h0) (fun _ _ _ _ _ => True) (fun _ U o U' => ∃ v L, o = .returned v ∧ QaddT Z cc sv rp rv cn cb cm cr h0 n0 v U'.heap L ∧ FrameEnd U o U' L ({ frames := 0, cells := 0, slots := 0, locals := 0 } : Room).cells ({ frames := 0, cells := 0, slots := 0, locals := 0 } : Room).slots) := by
  refine MetFree.of_bodySF (plainFor_of_name own_pn_com_example_tallywire_tallywire_logs_CalibrationCycle) hisR ?_
  intro p e s m args below meth c s₁ Bd hml0 hP hK
  obtain ⟨rfl, hZ, hh⟩ := hP
  have hx := Bd.exec
  have hby := Bd.bytes
  have hml : c.maxLocals = 9 := hml0
  have hlk := Bd.notSynchronized
  have hown : s.vm.findClass "com/example/tallywire/tallywire/logs/CalibrationCycle" = some m.cls := findClass_of_methodNamed Bd.named
  have hnm := (name_of_methodNamed Bd.named Bd.method).1
  have X0 : Stand p l e ({ frames := 0, cells := 0, slots := 0, locals := 0 } : Room) s m #[(.ref cc), (.long sv), (.long rp), (.long rv)] below meth c s₁ [] 0 0 := Stand.of_body Bd
  have e0 : s₁.heap = h0 := by rw [← hh, Bd.state]; rfl
  have N0 := Fr.nil n0
  have K0 : Keep h0 h0 [cc] := Keep.refl _ _
  refine own_enter (P := (Done s ({ frames := 0, cells := 0, slots := 0, locals := 0 } : Room).cells ({ frames := 0, cells := 0, slots := 0, locals := 0 } : Room).slots (QaddT Z cc sv rp rv cn cb cm cr h0 n0))) (Ls := #[.val (.ref cc), .val (.long sv), .second, .val (.long rp), .second, .val (.long rv), .second, .unset, .unset]) (by first | (simp [entryFrame, mkF, argsToLocals, Value.category]; done) | rfl) ?_
  refine own_aloadN X0 hx 1 rfl (hb hby own_d3_0) rfl rfl ?_
  refine own_dup X0 hx 2 rfl (hb hby own_d3_1) rfl ?_
  obtain ⟨T1, X1, e1, st1⟩ := getF X0 hx hZ hown (host := "") (Or.inl (hw _ (List.mem_of_getElem? (i := 19) rfl))) Via.refl e0 Fn (g := (mkF m 2 #[.val (.ref cc), .val (.long sv), .second, .val (.long rp), .second, .val (.long rv), .second, .unset, .unset] [(.ref cc), (.ref cc)])) rfl rfl (hb hby own_d3_2)
  refine Goes.go st1 ?_
  show Goes p e below _ T1 (mkF m 5 #[.val (.ref cc), .val (.long sv), .second, .val (.long rp), .second, .val (.long rv), .second, .unset, .unset] [(.int cn), (.ref cc)])
  refine own_iconst X1 hx 6 rfl (1 : Int32) (hb hby own_d3_5) (by decide) ?_
  refine own_iadd X1 hx 7 rfl (hb hby own_d3_6) rfl ?_
  obtain ⟨T2, h2, X2, e2, W2, st2⟩ := putF X1 hx hZ hown (host := "") (Or.inl (hw _ (List.mem_of_getElem? (i := 19) rfl))) Via.refl e1 Fn EC (Or.inl (hw _ (List.mem_of_getElem? (i := 20) rfl))) (hw _ (List.mem_of_getElem? (i := 3) rfl)) (ty := .int) (by decide) rfl rfl (g := (mkF m 7 #[.val (.ref cc), .val (.long sv), .second, .val (.long rp), .second, .val (.long rv), .second, .unset, .unset] [(.int (cn + (1 : Int32))), (.ref cc)])) rfl rfl (hb hby own_d3_7)
  have N2 := Fr.snoc X2 N0 gc
  have f3 := EC.wr W2
  have f4 := Fb.other W2 (Or.inr (slot_ne (Or.inl (hw _ (List.mem_of_getElem? (i := 13) rfl))) (Or.inl (hw _ (List.mem_of_getElem? (i := 20) rfl))) (by decide) (t := .long) (t' := .int) (by decide) (by decide)))
  have f5 := Fn.same W2
  have f6 := Fm.other W2 (Or.inr (slot_ne (Or.inl (hw _ (List.mem_of_getElem? (i := 23) rfl))) (Or.inl (hw _ (List.mem_of_getElem? (i := 20) rfl))) (by decide) (t := .long) (t' := .int) (by decide) (by decide)))
  have f7 := Fp.other W2 (Or.inr (slot_ne (Or.inl (hw _ (List.mem_of_getElem? (i := 25) rfl))) (Or.inl (hw _ (List.mem_of_getElem? (i := 20) rfl))) (by decide) (t := .long) (t' := .int) (by decide) (by decide)))
  have K2 := K0.wr W2 (Or.inl (List.mem_of_getElem? (i := 0) rfl))
  have Z2 := Nat.le_trans Z0 (Nat.le_of_eq W2.size.symm)
  refine Goes.go st2 ?_
  show Goes p e below _ T2 (mkF m 10 #[.val (.ref cc), .val (.long sv), .second, .val (.long rp), .second, .val (.long rv), .second, .unset, .unset] [])
  refine own_lload X2 hx 12 rfl (hb hby own_d3_10) rfl ?_
  refine own_lloadN X2 hx 13 rfl (hb hby own_d3_12) rfl ?_
  refine own_lsub X2 hx 14 rfl (hb hby own_d3_13) rfl ?_
  refine own_lstore X2 hx 16 rfl #[.val (.ref cc), .val (.long sv), .second, .val (.long rp), .second, .val (.long rv), .second, .val (.long (rv - sv)), .second] (hb hby own_d3_14) rfl ?_
  refine own_lload X2 hx 18 rfl (hb hby own_d3_16) rfl ?_
  refine own_aloadN X2 hx 19 rfl (hb hby own_d3_18) rfl rfl ?_
  obtain ⟨T8, X8, e8, st8⟩ := getF X2 hx hZ hown (host := "") (Or.inl (hw _ (List.mem_of_getElem? (i := 12) rfl))) Via.refl e2 f4 (g := (mkF m 19 #[.val (.ref cc), .val (.long sv), .second, .val (.long rp), .second, .val (.long rv), .second, .val (.long (rv - sv)), .second] [(.ref cc), (.long (rv - sv))])) rfl rfl (hb hby own_d3_19)
  refine Goes.go st8 ?_
  show Goes p e below _ T8 (mkF m 22 #[.val (.ref cc), .val (.long sv), .second, .val (.long rp), .second, .val (.long rv), .second, .val (.long (rv - sv)), .second] [(.long cb), (.long (rv - sv))])
  refine own_lcmp X8 hx 23 rfl (hb hby own_d3_22) ?_
  refine own_ifN X8 hx 26 (hb hby own_d3_23) (Ltlt (hlt : (rv - sv) < cb)).2.1 rfl ?_
  refine own_aloadN X8 hx 27 rfl (hb hby own_d3_26) rfl rfl ?_
  refine own_lload X8 hx 29 rfl (hb hby own_d3_27) rfl ?_
  obtain ⟨T9, h9, X9, e9, W9, st9⟩ := putF X8 hx hZ hown (host := "") (Or.inl (hw _ (List.mem_of_getElem? (i := 12) rfl))) Via.refl e8 f4 f3 (Or.inl (hw _ (List.mem_of_getElem? (i := 13) rfl))) (hw _ (List.mem_of_getElem? (i := 3) rfl)) (ty := .long) (by decide) rfl rfl (g := (mkF m 29 #[.val (.ref cc), .val (.long sv), .second, .val (.long rp), .second, .val (.long rv), .second, .val (.long (rv - sv)), .second] [(.long (rv - sv)), (.ref cc)])) rfl rfl (hb hby own_d3_29)
  have N9 := Fr.snoc X9 N2 gc
  have f10 := f3.wr W9
  have f11 := f4.same W9
  have f12 := f5.other W9 (Or.inr (slot_ne (Or.inl (hw _ (List.mem_of_getElem? (i := 20) rfl))) (Or.inl (hw _ (List.mem_of_getElem? (i := 13) rfl))) (by decide) (t := .int) (t' := .long) (by decide) (by decide)))
  have f13 := f6.other W9 (Or.inr (slot_ne (Or.inl (hw _ (List.mem_of_getElem? (i := 23) rfl))) (Or.inl (hw _ (List.mem_of_getElem? (i := 13) rfl))) (by decide) (t := .long) (t' := .long) (by decide) (by decide)))
  have f14 := f7.other W9 (Or.inr (slot_ne (Or.inl (hw _ (List.mem_of_getElem? (i := 25) rfl))) (Or.inl (hw _ (List.mem_of_getElem? (i := 13) rfl))) (by decide) (t := .long) (t' := .long) (by decide) (by decide)))
  have K9 := K2.wr W9 (Or.inl (List.mem_of_getElem? (i := 0) rfl))
  have Z9 := Nat.le_trans Z2 (Nat.le_of_eq W9.size.symm)
  refine Goes.go st9 ?_
  show Goes p e below _ T9 (mkF m 32 #[.val (.ref cc), .val (.long sv), .second, .val (.long rp), .second, .val (.long rv), .second, .val (.long (rv - sv)), .second] [])
  refine own_aloadN X9 hx 33 rfl (hb hby own_d3_32) rfl rfl ?_
  refine own_lloadN X9 hx 34 rfl (hb hby own_d3_33) rfl ?_
  refine own_lload X9 hx 36 rfl (hb hby own_d3_34) rfl ?_
  refine Goes.go (X9.ldc2Long hx hown (mvT hZ (hw _ (List.mem_of_getElem? (i := 21) rfl))) (g := (mkF m 36 #[.val (.ref cc), .val (.long sv), .second, .val (.long rp), .second, .val (.long rv), .second, .val (.long (rv - sv)), .second] [(.long (rv - sv)), (.long sv), (.ref cc)])) rfl (hb hby own_d3_36)) ?_
  show Goes p e below _ T9 (mkF m 39 #[.val (.ref cc), .val (.long sv), .second, .val (.long rp), .second, .val (.long rv), .second, .val (.long (rv - sv)), .second] [(.long (2 : Int64)), (.long (rv - sv)), (.long sv), (.ref cc)])
  refine own_ldiv X9 hx 40 rfl (hb hby own_d3_39) (by decide) rfl ?_
  refine own_ladd X9 hx 41 rfl (hb hby own_d3_40) rfl ?_
  obtain ⟨T15, h15, X15, e15, W15, st15⟩ := putF X9 hx hZ hown (host := "") (Or.inl (hw _ (List.mem_of_getElem? (i := 22) rfl))) Via.refl e9 f13 f10 (Or.inl (hw _ (List.mem_of_getElem? (i := 23) rfl))) (hw _ (List.mem_of_getElem? (i := 3) rfl)) (ty := .long) (by decide) rfl rfl (g := (mkF m 41 #[.val (.ref cc), .val (.long sv), .second, .val (.long rp), .second, .val (.long rv), .second, .val (.long (rv - sv)), .second] [(.long (sv + ((rv - sv) / (2 : Int64)))), (.ref cc)])) rfl rfl (hb hby own_d3_41)
  have N15 := Fr.snoc X15 N9 gc
  have f16 := f10.wr W15
  have f17 := f11.other W15 (Or.inr (slot_ne (Or.inl (hw _ (List.mem_of_getElem? (i := 13) rfl))) (Or.inl (hw _ (List.mem_of_getElem? (i := 23) rfl))) (by decide) (t := .long) (t' := .long) (by decide) (by decide)))
  have f18 := f12.other W15 (Or.inr (slot_ne (Or.inl (hw _ (List.mem_of_getElem? (i := 20) rfl))) (Or.inl (hw _ (List.mem_of_getElem? (i := 23) rfl))) (by decide) (t := .int) (t' := .long) (by decide) (by decide)))
  have f19 := f13.same W15
  have f20 := f14.other W15 (Or.inr (slot_ne (Or.inl (hw _ (List.mem_of_getElem? (i := 25) rfl))) (Or.inl (hw _ (List.mem_of_getElem? (i := 23) rfl))) (by decide) (t := .long) (t' := .long) (by decide) (by decide)))
  have K15 := K9.wr W15 (Or.inl (List.mem_of_getElem? (i := 0) rfl))
  have Z15 := Nat.le_trans Z9 (Nat.le_of_eq W15.size.symm)
  refine Goes.go st15 ?_
  show Goes p e below _ T15 (mkF m 44 #[.val (.ref cc), .val (.long sv), .second, .val (.long rp), .second, .val (.long rv), .second, .val (.long (rv - sv)), .second] [])
  refine own_aloadN X15 hx 45 rfl (hb hby own_d3_44) rfl rfl ?_
  refine own_lloadN X15 hx 46 rfl (hb hby own_d3_45) rfl ?_
  obtain ⟨T21, h21, X21, e21, W21, st21⟩ := putF X15 hx hZ hown (host := "") (Or.inl (hw _ (List.mem_of_getElem? (i := 24) rfl))) Via.refl e15 f20 f16 (Or.inl (hw _ (List.mem_of_getElem? (i := 25) rfl))) (hw _ (List.mem_of_getElem? (i := 3) rfl)) (ty := .long) (by decide) rfl rfl (g := (mkF m 46 #[.val (.ref cc), .val (.long sv), .second, .val (.long rp), .second, .val (.long rv), .second, .val (.long (rv - sv)), .second] [(.long rp), (.ref cc)])) rfl rfl (hb hby own_d3_46)
  have N21 := Fr.snoc X21 N15 gc
  have f22 := f16.wr W21
  have f23 := f17.other W21 (Or.inr (slot_ne (Or.inl (hw _ (List.mem_of_getElem? (i := 13) rfl))) (Or.inl (hw _ (List.mem_of_getElem? (i := 25) rfl))) (by decide) (t := .long) (t' := .long) (by decide) (by decide)))
  have f24 := f18.other W21 (Or.inr (slot_ne (Or.inl (hw _ (List.mem_of_getElem? (i := 20) rfl))) (Or.inl (hw _ (List.mem_of_getElem? (i := 25) rfl))) (by decide) (t := .int) (t' := .long) (by decide) (by decide)))
  have f25 := f19.other W21 (Or.inr (slot_ne (Or.inl (hw _ (List.mem_of_getElem? (i := 23) rfl))) (Or.inl (hw _ (List.mem_of_getElem? (i := 25) rfl))) (by decide) (t := .long) (t' := .long) (by decide) (by decide)))
  have f26 := f20.same W21
  have K21 := K15.wr W21 (Or.inl (List.mem_of_getElem? (i := 0) rfl))
  have Z21 := Nat.le_trans Z15 (Nat.le_of_eq W21.size.symm)
  refine Goes.go st21 ?_
  show Goes p e below _ T21 (mkF m 49 #[.val (.ref cc), .val (.long sv), .second, .val (.long rp), .second, .val (.long rv), .second, .val (.long (rv - sv)), .second] [])
  refine own_retV X21 hx hlk Bd.returns (hb hby own_d3_49) (by decide) (by decide) e21 ?_
  exact ⟨rfl, N21, K21, f23, f24, f25, f26⟩
def QaddF (Z : State) (cc : Addr) (sv : Int64) (rp : Int64) (rv : Int64) (cn : Int32) (cb : Int64) (cm : Int64) (cr : Int64) (h0 : Heap) (n0 : Nat) (v : Option Value) (h : Heap) (L : List Loc) : Prop := v = none ∧ Fr n0 L ∧ Keep h0 h [cc] ∧ Fld Z h cc "com/example/tallywire/tallywire/logs/CalibrationCycle" "bestRoundTrip" "J" (.long cb) ∧ Fld Z h cc "com/example/tallywire/tallywire/logs/CalibrationCycle" "exchanges" "I" (.int (cn + (1 : Int32))) ∧ Fld Z h cc "com/example/tallywire/tallywire/logs/CalibrationCycle" "bestMidpoint" "J" (.long cm) ∧ Fld Z h cc "com/example/tallywire/tallywire/logs/CalibrationCycle" "bestReply" "J" (.long cr)
set_option maxRecDepth 65536 in
set_option maxHeartbeats 40000000 in
theorem rmaddF (l : Launch) (Z : State) (a0 : Array Value) (hw : ∀ d ∈ tables_1, d.before a0 Z = true) (ws : List Jvm.Cond) (cc : Addr) (sv : Int64) (rp : Int64) (rv : Int64) (cn : Int32) (cb : Int64) (cm : Int64) (cr : Int64) (h0 : Heap) (n0 : Nat) (Z0 : n0 ≤ h0.size) (EC : Exa Z h0 cc "com/example/tallywire/tallywire/logs/CalibrationCycle") (gc : n0 ≤ cc) (Fb : Fld Z h0 cc "com/example/tallywire/tallywire/logs/CalibrationCycle" "bestRoundTrip" "J" (.long cb)) (Fn : Fld Z h0 cc "com/example/tallywire/tallywire/logs/CalibrationCycle" "exchanges" "I" (.int cn)) (Fm : Fld Z h0 cc "com/example/tallywire/tallywire/logs/CalibrationCycle" "bestMidpoint" "J" (.long cm)) (Fp : Fld Z h0 cc "com/example/tallywire/tallywire/logs/CalibrationCycle" "bestReply" "J" (.long cr)) (hlt : ¬ ((rv - sv) < cb)) :
    MetFree l (⟨"com/example/tallywire/tallywire/logs/CalibrationCycle", "add", "(JJJ)V"⟩ : MethodName) (head1 (Jvm.Cond.code (⟨"com/example/tallywire/tallywire/logs/CalibrationCycle", "add", "(JJJ)V"⟩ : MethodName) prog_28_method_2_code 9 none :: ws) ({ frames := 0, cells := 0, slots := 0, locals := 0 } : Room)) (fun a U => a = #[(.ref cc), (.long sv), (.long rp), (.long rv)] ∧ Z.Warmed39 U.vm ∧ U.heap = h0) (fun _ _ _ _ _ => True) (fun _ U o U' => ∃ v L, o = .returned v ∧ QaddF Z cc sv rp rv cn cb cm cr h0 n0 v U'.heap L ∧ FrameEnd U o U' L ({ frames := 0, cells := 0, slots := 0, locals := 0 } : Room).cells ({ frames := 0, cells := 0, slots := 0, locals := 0 } : Room).slots) := by
  refine MetFree.of_bodySF (plainFor_of_name own_pn_com_example_tallywire_tallywire_logs_CalibrationCycle) hisR ?_
  intro p e s m args below meth c s₁ Bd hml0 hP hK
  obtain ⟨rfl, hZ, hh⟩ := hP
  have hx := Bd.exec
  have hby := Bd.bytes
  have hml : c.maxLocals = 9 := hml0
  have hlk := Bd.notSynchronized
  have hown : s.vm.findClass "com/example/tallywire/tallywire/logs/CalibrationCycle" = some m.cls := findClass_of_methodNamed Bd.named
  have hnm := (name_of_methodNamed Bd.named Bd.method).1
  have X0 : Stand p l e ({ frames := 0, cells := 0, slots := 0, locals := 0 } : Room) s m #[(.ref cc), (.long sv), (.long rp), (.long rv)] below meth c s₁ [] 0 0 := Stand.of_body Bd
  have e0 : s₁.heap = h0 := by rw [← hh, Bd.state]; rfl
  have N0 := Fr.nil n0
  have K0 : Keep h0 h0 [cc] := Keep.refl _ _
  refine own_enter (P := (Done s ({ frames := 0, cells := 0, slots := 0, locals := 0 } : Room).cells ({ frames := 0, cells := 0, slots := 0, locals := 0 } : Room).slots (QaddF Z cc sv rp rv cn cb cm cr h0 n0))) (Ls := #[.val (.ref cc), .val (.long sv), .second, .val (.long rp), .second, .val (.long rv), .second, .unset, .unset]) (by first | (simp [entryFrame, mkF, argsToLocals, Value.category]; done) | rfl) ?_
  refine own_aloadN X0 hx 1 rfl (hb hby own_d3_0) rfl rfl ?_
  refine own_dup X0 hx 2 rfl (hb hby own_d3_1) rfl ?_
  obtain ⟨T1, X1, e1, st1⟩ := getF X0 hx hZ hown (host := "") (Or.inl (hw _ (List.mem_of_getElem? (i := 19) rfl))) Via.refl e0 Fn (g := (mkF m 2 #[.val (.ref cc), .val (.long sv), .second, .val (.long rp), .second, .val (.long rv), .second, .unset, .unset] [(.ref cc), (.ref cc)])) rfl rfl (hb hby own_d3_2)
  refine Goes.go st1 ?_
  show Goes p e below _ T1 (mkF m 5 #[.val (.ref cc), .val (.long sv), .second, .val (.long rp), .second, .val (.long rv), .second, .unset, .unset] [(.int cn), (.ref cc)])
  refine own_iconst X1 hx 6 rfl (1 : Int32) (hb hby own_d3_5) (by decide) ?_
  refine own_iadd X1 hx 7 rfl (hb hby own_d3_6) rfl ?_
  obtain ⟨T2, h2, X2, e2, W2, st2⟩ := putF X1 hx hZ hown (host := "") (Or.inl (hw _ (List.mem_of_getElem? (i := 19) rfl))) Via.refl e1 Fn EC (Or.inl (hw _ (List.mem_of_getElem? (i := 20) rfl))) (hw _ (List.mem_of_getElem? (i := 3) rfl)) (ty := .int) (by decide) rfl rfl (g := (mkF m 7 #[.val (.ref cc), .val (.long sv), .second, .val (.long rp), .second, .val (.long rv), .second, .unset, .unset] [(.int (cn + (1 : Int32))), (.ref cc)])) rfl rfl (hb hby own_d3_7)
  have N2 := Fr.snoc X2 N0 gc
  have f3 := EC.wr W2
  have f4 := Fb.other W2 (Or.inr (slot_ne (Or.inl (hw _ (List.mem_of_getElem? (i := 13) rfl))) (Or.inl (hw _ (List.mem_of_getElem? (i := 20) rfl))) (by decide) (t := .long) (t' := .int) (by decide) (by decide)))
  have f5 := Fn.same W2
  have f6 := Fm.other W2 (Or.inr (slot_ne (Or.inl (hw _ (List.mem_of_getElem? (i := 23) rfl))) (Or.inl (hw _ (List.mem_of_getElem? (i := 20) rfl))) (by decide) (t := .long) (t' := .int) (by decide) (by decide)))
  have f7 := Fp.other W2 (Or.inr (slot_ne (Or.inl (hw _ (List.mem_of_getElem? (i := 25) rfl))) (Or.inl (hw _ (List.mem_of_getElem? (i := 20) rfl))) (by decide) (t := .long) (t' := .int) (by decide) (by decide)))
  have K2 := K0.wr W2 (Or.inl (List.mem_of_getElem? (i := 0) rfl))
  have Z2 := Nat.le_trans Z0 (Nat.le_of_eq W2.size.symm)
  refine Goes.go st2 ?_
  show Goes p e below _ T2 (mkF m 10 #[.val (.ref cc), .val (.long sv), .second, .val (.long rp), .second, .val (.long rv), .second, .unset, .unset] [])
  refine own_lload X2 hx 12 rfl (hb hby own_d3_10) rfl ?_
  refine own_lloadN X2 hx 13 rfl (hb hby own_d3_12) rfl ?_
  refine own_lsub X2 hx 14 rfl (hb hby own_d3_13) rfl ?_
  refine own_lstore X2 hx 16 rfl #[.val (.ref cc), .val (.long sv), .second, .val (.long rp), .second, .val (.long rv), .second, .val (.long (rv - sv)), .second] (hb hby own_d3_14) rfl ?_
  refine own_lload X2 hx 18 rfl (hb hby own_d3_16) rfl ?_
  refine own_aloadN X2 hx 19 rfl (hb hby own_d3_18) rfl rfl ?_
  obtain ⟨T8, X8, e8, st8⟩ := getF X2 hx hZ hown (host := "") (Or.inl (hw _ (List.mem_of_getElem? (i := 12) rfl))) Via.refl e2 f4 (g := (mkF m 19 #[.val (.ref cc), .val (.long sv), .second, .val (.long rp), .second, .val (.long rv), .second, .val (.long (rv - sv)), .second] [(.ref cc), (.long (rv - sv))])) rfl rfl (hb hby own_d3_19)
  refine Goes.go st8 ?_
  show Goes p e below _ T8 (mkF m 22 #[.val (.ref cc), .val (.long sv), .second, .val (.long rp), .second, .val (.long rv), .second, .val (.long (rv - sv)), .second] [(.long cb), (.long (rv - sv))])
  refine own_lcmp X8 hx 23 rfl (hb hby own_d3_22) ?_
  refine own_ifY X8 hx 49 (hb hby own_d3_23) (Lflt (hlt : ¬ ((rv - sv) < cb))).2.1 (by decide) (by decide) ?_
  refine own_retV X8 hx hlk Bd.returns (hb hby own_d3_49) (by decide) (by decide) e8 ?_
  exact ⟨rfl, N2, K2, f4, f5, f6, f7⟩
theorem own_pd2 : parseMethodDescriptor "(JJ)J" = some ⟨[.long, .long], some .long⟩ := by decide +kernel
theorem own_pd3 : parseMethodDescriptor "(J)Ljava/util/OptionalLong;" = some ⟨[.long], some (.object "java/util/OptionalLong")⟩ := by decide +kernel
theorem own_d4_0 : decode prog_28_method_4_code 0 = .ok (.aload_n 0, 1) := by decide +kernel
theorem own_d4_1 : decode prog_28_method_4_code 1 = .ok (.getfield 26, 3) := by decide +kernel
theorem own_d4_4 : decode prog_28_method_4_code 4 = .ok (.aload_n 0, 1) := by decide +kernel
theorem own_d4_5 : decode prog_28_method_4_code 5 = .ok (.getfield 23, 3) := by decide +kernel
theorem own_d4_8 : decode prog_28_method_4_code 8 = .ok (.invokestatic 29, 3) := by decide +kernel
theorem own_d4_11 : decode prog_28_method_4_code 11 = .ok (.invokestatic 35, 3) := by decide +kernel
theorem own_d4_14 : decode prog_28_method_4_code 14 = .ok (.areturn, 1) := by decide +kernel
def QoffO (Z : State) (cc : Addr) (cm : Int64) (cr : Int64) (h0 : Heap) (n0 : Nat) (v : Option Value) (h : Heap) (L : List Loc) : Prop := ∃ ob : Addr, v = some (.ref ob) ∧ Fr n0 L ∧ Keep h0 h [] ∧ h0.size ≤ ob ∧ Exa Z h ob "java/util/OptionalLong" ∧ Fld Z h ob "java/util/OptionalLong" "isPresent" "Z" (.int (1 : Int32)) ∧ Fld Z h ob "java/util/OptionalLong" "value" "J" (.long (cr - cm))
set_option maxRecDepth 65536 in
set_option maxHeartbeats 40000000 in
theorem rmoffO (l : Launch) (Z : State) (a0 : Array Value) (hw : ∀ d ∈ tables_1, d.before a0 Z = true) (ws : List Jvm.Cond) (cc : Addr) (cm : Int64) (cr : Int64) (h0 : Heap) (n0 : Nat) (Z0 : n0 ≤ h0.size) (Fm : Fld Z h0 cc "com/example/tallywire/tallywire/logs/CalibrationCycle" "bestMidpoint" "J" (.long cm)) (Fp : Fld Z h0 cc "com/example/tallywire/tallywire/logs/CalibrationCycle" "bestReply" "J" (.long cr)) (hno : ¬ (((cr ^^^ cm) &&& (cr ^^^ (cr - cm))) < (0 : Int64))) :
    MetFree l (⟨"com/example/tallywire/tallywire/logs/CalibrationCycle", "offset", "()Ljava/util/OptionalLong;"⟩ : MethodName) (head1 (Jvm.Cond.codeWith (⟨"com/example/tallywire/tallywire/logs/CalibrationCycle", "offset", "()Ljava/util/OptionalLong;"⟩ : MethodName) prog_28_method_4_code 2 (some (.object "java/util/OptionalLong")) [((0 : Nat), (14 : Nat), (15 : Nat), (41 : Nat))] :: ws) ({ frames := 3, cells := 1, slots := 2, locals := 40 } : Room)) (fun a U => a = #[(.ref cc)] ∧ Z.Warmed39 U.vm ∧ U.heap = h0) (fun _ _ bl st _ => st.vm.MethodsKnown ∧ st.vm.FramesKnown bl) (fun _ U o U' => ∃ v L, o = .returned v ∧ QoffO Z cc cm cr h0 n0 v U'.heap L ∧ ReturnedEndW U o U' L ({ frames := 3, cells := 1, slots := 2, locals := 40 } : Room).cells ({ frames := 3, cells := 1, slots := 2, locals := 40 } : Room).slots) := by
  refine Jvm.Free.Fmt.of_bodyTbl (code := prog_28_method_4_code) (maxLocals := 2) (ret := (some (.object "java/util/OptionalLong"))) (handlers := [((0 : Nat), (14 : Nat), (15 : Nat), (41 : Nat))]) own_pn_com_example_tallywire_tallywire_logs_CalibrationCycle (fun args s h => atoms_spec (ws := Jvm.Cond.codeWith (⟨"com/example/tallywire/tallywire/logs/CalibrationCycle", "offset", "()Ljava/util/OptionalLong;"⟩ : MethodName) prog_28_method_4_code 2 (some (.object "java/util/OptionalLong")) [((0 : Nat), (14 : Nat), (15 : Nat), (41 : Nat))] :: ws) h _ (List.mem_cons_self ..)) ?_
  intro p e s m args below meth c s₁ Bd hml0 htab hP hK
  obtain ⟨hTK, hBl⟩ := hK
  obtain ⟨rfl, hZ, hh⟩ := hP
  have hx := Bd.exec
  have hby := Bd.bytes
  have hml : c.maxLocals = 2 := hml0
  have hlk := Bd.notSynchronized
  have hown : s.vm.findClass "com/example/tallywire/tallywire/logs/CalibrationCycle" = some m.cls := findClass_of_methodNamed Bd.named
  have hnm := (name_of_methodNamed Bd.named Bd.method).1
  have X0 : Stand p l e ({ frames := 3, cells := 1, slots := 2, locals := 40 } : Room) (s.setVm s.vm) m #[(.ref cc)] below meth c s₁ [] 0 0 := Stand.of_body Bd
  have e0 : s₁.heap = h0 := by rw [← hh, Bd.state]; rfl
  have N0 := Fr.nil n0
  have hS0 : s.Since s.vm 0 := (State.WarmedH.refl s).since 0
  have hk0 : 0 ≤ h0.size := Nat.zero_le _
  have K0 : Keep h0 h0 [] := Keep.refl _ _
  refine own_enter (P := (DoneW s ({ frames := 3, cells := 1, slots := 2, locals := 40 } : Room).cells ({ frames := 3, cells := 1, slots := 2, locals := 40 } : Room).slots (QoffO Z cc cm cr h0 n0))) (Ls := #[.val (.ref cc), .unset]) (by first | (simp [entryFrame, mkF, argsToLocals, Value.category]; done) | rfl) ?_
  refine own_aloadN X0 hx 1 rfl (hb hby own_d4_0) rfl rfl ?_
  obtain ⟨T1, X1, e1, st1⟩ := getF X0 hx hZ hown (host := "") (Or.inl (hw _ (List.mem_of_getElem? (i := 24) rfl))) Via.refl e0 Fp (g := (mkF m 1 #[.val (.ref cc), .unset] [(.ref cc)])) rfl rfl (hb hby own_d4_1)
  refine Goes.go st1 ?_
  show Goes p e below _ T1 (mkF m 4 #[.val (.ref cc), .unset] [(.long cr)])
  refine own_aloadN X1 hx 5 rfl (hb hby own_d4_4) rfl rfl ?_
  obtain ⟨T2, X2, e2, st2⟩ := getF X1 hx hZ hown (host := "") (Or.inl (hw _ (List.mem_of_getElem? (i := 22) rfl))) Via.refl e1 Fm (g := (mkF m 5 #[.val (.ref cc), .unset] [(.ref cc), (.long cr)])) rfl rfl (hb hby own_d4_5)
  refine Goes.go st2 ?_
  show Goes p e below _ T2 (mkF m 8 #[.val (.ref cc), .unset] [(.long cm), (.long cr)])
  obtain ⟨_, _, ⟨T3, L3, k3, n3⟩, -, X3, ⟨Lc3, hQ3, l3, y3, z3⟩, st3⟩ := Jvm.LawKit.callS X2 hx (y := (⟨"java/lang/Math", "subtractExact", "(JJ)J"⟩ : MethodName)) hown (mvT hZ (hw _ (List.mem_of_getElem? (i := 31) rfl))) (mvT hZ (hw _ (List.mem_of_getElem? (i := 32) rfl))) (mvT hZ (hw _ (List.mem_of_getElem? (i := 33) rfl))) (mvT hZ (hw _ (List.mem_of_getElem? (i := 34) rfl))) (by decide) (backOf (W := 0) (rmsubR l Z a0 hw [] cr cm h0 n0 Z0 hno) hZ (hw _ (List.mem_of_getElem? (i := 34) rfl)) (hw _ (List.mem_of_getElem? (i := 33) rfl)) (by decide) (by decide)) (g := (mkF m 8 #[.val (.ref cc), .unset] [(.long cm), (.long cr)])) rfl (by rw [hml]; rfl) (argsL := [(.long cr), (.long cm)]) (rest := []) (lenOf own_pd2 rfl) rfl (by show 2 * 0 + _ ≤ _; exact Nat.le_of_eq rfl) (hb hby own_d4_8) (fun _ _ => ⟨rfl, e2, (by decide : 0 + 0 ≤ _), (by decide : 0 + 0 ≤ _)⟩)
  dsimp only [Pt.U, Pt.locs, Pt.cells, Pt.slots] at X3 l3 y3 z3 st3 hQ3
  subst l3 y3 z3
  obtain ⟨rfl, N3q, eh3⟩ := hQ3
  have N3 := Fr.app N0 N3q
  refine Goes.go st3 ?_
  show Goes p e below _ T3 (mkF m 11 #[.val (.ref cc), .unset] [(.long (cr - cm))])
  obtain ⟨_, _, ⟨T4, L4, k4, n4⟩, -, X4, ⟨Lc4, hQ4, l4, y4, z4⟩, st4⟩ := Jvm.LawKit.callS X3 hx (y := (⟨"java/util/OptionalLong", "of", "(J)Ljava/util/OptionalLong;"⟩ : MethodName)) hown (mvT hZ (hw _ (List.mem_of_getElem? (i := 35) rfl))) (mvT hZ (hw _ (List.mem_of_getElem? (i := 36) rfl))) (mvT hZ (hw _ (List.mem_of_getElem? (i := 37) rfl))) (mvT hZ (hw _ (List.mem_of_getElem? (i := 38) rfl))) (by decide) (backOf (W := 0) (rm6 l Z a0 hw [] (cr - cm) h0 n0 Z0 ) hZ (hw _ (List.mem_of_getElem? (i := 38) rfl)) (hw _ (List.mem_of_getElem? (i := 37) rfl)) (by decide) (by decide)) (g := (mkF m 11 #[.val (.ref cc), .unset] [(.long (cr - cm))])) rfl (by rw [hml]; rfl) (argsL := [(.long (cr - cm))]) (rest := []) (lenOf own_pd3 rfl) rfl (by show 2 * 0 + _ ≤ _; exact Nat.le_of_eq rfl) (hb hby own_d4_11) (fun _ _ => ⟨rfl, eh3, (by decide : 0 + 1 ≤ _), (by decide : 0 + 2 ≤ _)⟩)
  dsimp only [Pt.U, Pt.locs, Pt.cells, Pt.slots] at X4 l4 y4 z4 st4 hQ4
  subst l4 y4 z4
  obtain ⟨ob_4, rfl, N4q, K4q, f4_0, f4_1, f4_2, f4_3⟩ := hQ4
  have N4 := Fr.app N3 N4q
  have ne5 : cc ≠ ob_4 := Nat.ne_of_lt (Nat.lt_of_lt_of_le Fm.lt f4_0)
  have GG6 : n0 ≤ ob_4 := Nat.le_trans Z0 f4_0
  have HG6 : h0.size ≤ ob_4 := Nat.le_trans K0.1 f4_0
  have f7 := Fm.keep K4q nin0
  have f8 := Fp.keep K4q nin0
  have K4 := K0.trans K4q all0
  have Z4 := Nat.le_trans Z0 K4q.1
  have hk4 := Nat.le_trans hk0 K4q.1
  refine Goes.go st4 ?_
  show Goes p e below _ T4 (mkF m 14 #[.val (.ref cc), .unset] [(.ref ob_4)])
  refine own_retWR X4 hx hS0 hlk Bd.returns rfl rfl (hb hby own_d4_14) (by decide) (by decide) rfl hk4 ?_
  exact ⟨ob_4, rfl, N4, K4, HG6, f4_1, f4_2, f4_3⟩
theorem own_pd4 : parseMethodDescriptor "()Ljava/util/OptionalLong;" = some ⟨[], some (.object "java/util/OptionalLong")⟩ := by decide +kernel
theorem own_d4_15 : decode prog_28_method_4_code 15 = .ok (.astore_n 1, 1) := by decide +kernel
theorem own_d4_16 : decode prog_28_method_4_code 16 = .ok (.invokestatic 43, 3) := by decide +kernel
theorem own_d4_19 : decode prog_28_method_4_code 19 = .ok (.areturn, 1) := by decide +kernel
def QoffV (Z : State) (cc : Addr) (cm : Int64) (cr : Int64) (ez : Addr) (us : Value) (ss : Value) (h0 : Heap) (n0 : Nat) (v : Option Value) (h : Heap) (L : List Loc) : Prop := v = some (.ref ez) ∧ Fr n0 L ∧ Keep h0 h []
set_option maxRecDepth 65536 in
set_option maxHeartbeats 40000000 in
theorem rmoffV (l : Launch) (Z : State) (a0 : Array Value) (hw : ∀ d ∈ tables_1, d.before a0 Z = true) (ws : List Jvm.Cond) (cc : Addr) (cm : Int64) (cr : Int64) (ez : Addr) (us : Value) (ss : Value) (h0 : Heap) (n0 : Nat) (Z0 : n0 ≤ h0.size) (Fm : Fld Z h0 cc "com/example/tallywire/tallywire/logs/CalibrationCycle" "bestMidpoint" "J" (.long cm)) (Fp : Fld Z h0 cc "com/example/tallywire/tallywire/logs/CalibrationCycle" "bestReply" "J" (.long cr)) (hov : ((cr ^^^ cm) &&& (cr ^^^ (cr - cm))) < (0 : Int64)) (hold : Old Z n0 h0) (Se : Sta Z h0 "java/util/OptionalLong" "EMPTY" "Ljava/util/OptionalLong;" (.ref ez)) (Fus : Sta Z h0 "java/lang/Throwable" "UNASSIGNED_STACK" "[Ljava/lang/StackTraceElement;" us) (hus : us.isRef = true) (Fss : Sta Z h0 "java/lang/Throwable" "SUPPRESSED_SENTINEL" "Ljava/util/List;" ss) (hss : ss.isRef = true) (hfl : l.flags = flags0) :
    MetFree l (⟨"com/example/tallywire/tallywire/logs/CalibrationCycle", "offset", "()Ljava/util/OptionalLong;"⟩ : MethodName) (head1 (Jvm.Cond.codeWith (⟨"com/example/tallywire/tallywire/logs/CalibrationCycle", "offset", "()Ljava/util/OptionalLong;"⟩ : MethodName) prog_28_method_4_code 2 (some (.object "java/util/OptionalLong")) [((0 : Nat), (14 : Nat), (15 : Nat), (41 : Nat))] :: ws) ({ frames := 8, cells := 4, slots := 2814, locals := 112 } : Room)) (fun a U => a = #[(.ref cc)] ∧ Z.Warmed39 U.vm ∧ U.heap = h0) (fun _ _ bl st _ => st.vm.MethodsKnown ∧ st.vm.FramesKnown bl) (fun _ U o U' => ∃ v L, o = .returned v ∧ QoffV Z cc cm cr ez us ss h0 n0 v U'.heap L ∧ ReturnedEndW U o U' L ({ frames := 8, cells := 4, slots := 2814, locals := 112 } : Room).cells ({ frames := 8, cells := 4, slots := 2814, locals := 112 } : Room).slots) := by
  refine Jvm.Free.Fmt.of_bodyTbl (code := prog_28_method_4_code) (maxLocals := 2) (ret := (some (.object "java/util/OptionalLong"))) (handlers := [((0 : Nat), (14 : Nat), (15 : Nat), (41 : Nat))]) own_pn_com_example_tallywire_tallywire_logs_CalibrationCycle (fun args s h => atoms_spec (ws := Jvm.Cond.codeWith (⟨"com/example/tallywire/tallywire/logs/CalibrationCycle", "offset", "()Ljava/util/OptionalLong;"⟩ : MethodName) prog_28_method_4_code 2 (some (.object "java/util/OptionalLong")) [((0 : Nat), (14 : Nat), (15 : Nat), (41 : Nat))] :: ws) h _ (List.mem_cons_self ..)) ?_
  intro p e s m args below meth c s₁ Bd hml0 htab hP hK
  obtain ⟨hTK, hBl⟩ := hK
  obtain ⟨rfl, hZ, hh⟩ := hP
  have hx := Bd.exec
  have hby := Bd.bytes
  have hml : c.maxLocals = 2 := hml0
  have hlk := Bd.notSynchronized
  have hown : s.vm.findClass "com/example/tallywire/tallywire/logs/CalibrationCycle" = some m.cls := findClass_of_methodNamed Bd.named
  have hnm := (name_of_methodNamed Bd.named Bd.method).1
  have X0 : Stand p l e ({ frames := 8, cells := 4, slots := 2814, locals := 112 } : Room) (s.setVm s.vm) m #[(.ref cc)] below meth c s₁ [] 0 0 := Stand.of_body Bd
  have e0 : s₁.heap = h0 := by rw [← hh, Bd.state]; rfl
  have N0 := Fr.nil n0
  have hS0 : s.Since s.vm 0 := (State.WarmedH.refl s).since 0
  have hk0 : 0 ≤ h0.size := Nat.zero_le _
  have K0 : Keep h0 h0 [] := Keep.refl _ _
  refine own_enter (P := (DoneW s ({ frames := 8, cells := 4, slots := 2814, locals := 112 } : Room).cells ({ frames := 8, cells := 4, slots := 2814, locals := 112 } : Room).slots (QoffV Z cc cm cr ez us ss h0 n0))) (Ls := #[.val (.ref cc), .unset]) (by first | (simp [entryFrame, mkF, argsToLocals, Value.category]; done) | rfl) ?_
  refine own_aloadN X0 hx 1 rfl (hb hby own_d4_0) rfl rfl ?_
  obtain ⟨T1, X1, e1, st1⟩ := getF X0 hx hZ hown (host := "") (Or.inl (hw _ (List.mem_of_getElem? (i := 24) rfl))) Via.refl e0 Fp (g := (mkF m 1 #[.val (.ref cc), .unset] [(.ref cc)])) rfl rfl (hb hby own_d4_1)
  refine Goes.go st1 ?_
  show Goes p e below _ T1 (mkF m 4 #[.val (.ref cc), .unset] [(.long cr)])
  refine own_aloadN X1 hx 5 rfl (hb hby own_d4_4) rfl rfl ?_
  obtain ⟨T2, X2, e2, st2⟩ := getF X1 hx hZ hown (host := "") (Or.inl (hw _ (List.mem_of_getElem? (i := 22) rfl))) Via.refl e1 Fm (g := (mkF m 5 #[.val (.ref cc), .unset] [(.ref cc), (.long cr)])) rfl rfl (hb hby own_d4_5)
  refine Goes.go st2 ?_
  show Goes p e below _ T2 (mkF m 8 #[.val (.ref cc), .unset] [(.long cm), (.long cr)])
  obtain ⟨ea3, B3, XB3, SB3, gB3, KB3, st3⟩ := own_catchS (cls := "java/lang/ArithmeticException") (rm := ({ frames := 7, cells := 4, slots := 2814, locals := 95 } : Room)) X2 hx hown (mvT hZ (hw _ (List.mem_of_getElem? (i := 31) rfl))) (mvT hZ (hw _ (List.mem_of_getElem? (i := 32) rfl))) (mvT hZ (hw _ (List.mem_of_getElem? (i := 33) rfl))) (mvT hZ (hw _ (List.mem_of_getElem? (i := 34) rfl))) (by decide) hZ (rmsubT l Z a0 hw [] cr cm us ss h0 h0.size (Nat.le_refl _) hov (Nat.le_refl _) hold.2 Fus hus Fss hss hfl) (hw _ (List.mem_of_getElem? (i := 34) rfl)) (hw _ (List.mem_of_getElem? (i := 33) rfl)) e2 (Vm.MethodsKnown.alikeC hS0.1.alike hTK) (Vm.FramesKnown.alikeC hS0.1.alike hBl) (g := (mkF m 8 #[.val (.ref cc), .unset] [(.long cm), (.long cr)])) rfl (by rw [hml]; rfl) (argsL := [(.long cr), (.long cm)]) (rest := []) (lenOf own_pd2 rfl) rfl (W := 0) (by show 2 * 0 + _ ≤ _; exact Nat.le_of_eq rfl) (by decide) (by decide) (by decide) (by decide) (hb hby own_d4_8) rfl (x := ⟨0, 14, 15, 41⟩) (rst := []) htab rfl (by decide) (mvT hZ (hw _ (List.mem_of_getElem? (i := 141) rfl)))
  obtain ⟨Y3, hS3, hZ3, ho3⟩ := rebS hS0 hk0 XB3 SB3 gB3 hZ hown
  have f4 := Fm.keep KB3 nin0
  have f5 := Fp.keep KB3 nin0
  have f6 := hold.keep KB3 all0
  have f7 := own_sta_keep Se KB3 all0
  have f8 := own_sta_keep Fus KB3 all0
  have f9 := own_sta_keep Fss KB3 all0
  have K3 := K0.trans KB3 all0
  have Z3 := Nat.le_trans Z0 KB3.1
  refine Goes.tr st3 ?_
  show Goes p e below _ B3 (mkF m 15 #[.val (.ref cc), .unset] [(.ref ea3)])
  refine own_astoreN Y3 hx 16 rfl #[.val (.ref cc), .val (.ref ea3)] (hb hby own_d4_15) rfl rfl ?_
  obtain ⟨_, _, ⟨T10, L10, k10, n10⟩, -, X10, ⟨Lc10, hQ10, l10, y10, z10⟩, st10⟩ := Jvm.LawKit.callS Y3 hx (y := (⟨"java/util/OptionalLong", "empty", "()Ljava/util/OptionalLong;"⟩ : MethodName)) ho3 (mvT hZ3 (hw _ (List.mem_of_getElem? (i := 142) rfl))) (mvT hZ3 (hw _ (List.mem_of_getElem? (i := 143) rfl))) (mvT hZ3 (hw _ (List.mem_of_getElem? (i := 37) rfl))) (mvT hZ3 (hw _ (List.mem_of_getElem? (i := 144) rfl))) (by decide) (backOf (W := 0) (rm19 l Z a0 hw [] ez B3.heap n0 Z3 f7) hZ3 (hw _ (List.mem_of_getElem? (i := 144) rfl)) (hw _ (List.mem_of_getElem? (i := 37) rfl)) (by decide) (by decide)) (g := (mkF m 16 #[.val (.ref cc), .val (.ref ea3)] [])) rfl (by rw [hml]; rfl) (argsL := []) (rest := []) (lenOf own_pd4 rfl) rfl (by show 2 * 0 + _ ≤ _; exact Nat.le_of_eq rfl) (hb hby own_d4_16) (fun _ _ => ⟨rfl, rfl, (by decide : 4 + 0 ≤ _), (by decide : 2814 + 0 ≤ _)⟩)
  dsimp only [Pt.U, Pt.locs, Pt.cells, Pt.slots] at X10 l10 y10 z10 st10 hQ10
  subst l10 y10 z10
  obtain ⟨rfl, N10q, eh10⟩ := hQ10
  have N10 := Fr.app N0 N10q
  refine Goes.go st10 ?_
  show Goes p e below _ T10 (mkF m 19 #[.val (.ref cc), .val (.ref ea3)] [(.ref ez)])
  refine own_retWR X10 hx hS3 hlk Bd.returns rfl rfl (hb hby own_d4_19) (by decide) (by decide) eh10 (Nat.le_refl B3.heap.size) ?_
  exact ⟨rfl, N10, K3⟩
theorem own_d12_0 : decode prog_28_method_3_code 0 = .ok (.aload_n 0, 1) := by decide +kernel
theorem own_d12_1 : decode prog_28_method_3_code 1 = .ok (.getfield 17, 3) := by decide +kernel
theorem own_d12_4 : decode prog_28_method_3_code 4 = .ok (.bipush 20, 2) := by decide +kernel
theorem own_d12_6 : decode prog_28_method_3_code 6 = .ok (.if_icmp .ne 7, 3) := by decide +kernel
theorem own_d12_13 : decode prog_28_method_3_code 13 = .ok (.iconst 0, 1) := by decide +kernel
theorem own_d12_14 : decode prog_28_method_3_code 14 = .ok (.ireturn, 1) := by decide +kernel
def Q12 (Z : State) (cc : Addr) (cn : Int32) (h0 : Heap) (n0 : Nat) (v : Option Value) (h : Heap) (L : List Loc) : Prop := v = some (.int (0 : Int32)) ∧ Fr n0 L ∧ h = h0
set_option maxRecDepth 65536 in
set_option maxHeartbeats 40000000 in
theorem rm12 (l : Launch) (Z : State) (a0 : Array Value) (hw : ∀ d ∈ tables_1, d.before a0 Z = true) (ws : List Jvm.Cond) (cc : Addr) (cn : Int32) (h0 : Heap) (n0 : Nat) (Z0 : n0 ≤ h0.size) (Fn : Fld Z h0 cc "com/example/tallywire/tallywire/logs/CalibrationCycle" "exchanges" "I" (.int cn)) (hcn : ¬ cn = (20 : Int32)) :
    MetFree l (⟨"com/example/tallywire/tallywire/logs/CalibrationCycle", "isComplete", "()Z"⟩ : MethodName) (head1 (Jvm.Cond.code (⟨"com/example/tallywire/tallywire/logs/CalibrationCycle", "isComplete", "()Z"⟩ : MethodName) prog_28_method_3_code 1 (some .boolean) :: ws) ({ frames := 0, cells := 0, slots := 0, locals := 0 } : Room)) (fun a U => a = #[(.ref cc)] ∧ Z.Warmed39 U.vm ∧ U.heap = h0) (fun _ _ _ _ _ => True) (fun _ U o U' => ∃ v L, o = .returned v ∧ Q12 Z cc cn h0 n0 v U'.heap L ∧ FrameEnd U o U' L ({ frames := 0, cells := 0, slots := 0, locals := 0 } : Room).cells ({ frames := 0, cells := 0, slots := 0, locals := 0 } : Room).slots) := by
  refine MetFree.of_bodySF (plainFor_of_name own_pn_com_example_tallywire_tallywire_logs_CalibrationCycle) hisR ?_
  intro p e s m args below meth c s₁ Bd hml0 hP hK
  obtain ⟨rfl, hZ, hh⟩ := hP
  have hx := Bd.exec
  have hby := Bd.bytes
  have hml : c.maxLocals = 1 := hml0
  have hlk := Bd.notSynchronized
  have hown : s.vm.findClass "com/example/tallywire/tallywire/logs/CalibrationCycle" = some m.cls := findClass_of_methodNamed Bd.named
  have hnm := (name_of_methodNamed Bd.named Bd.method).1
  have X0 : Stand p l e ({ frames := 0, cells := 0, slots := 0, locals := 0 } : Room) s m #[(.ref cc)] below meth c s₁ [] 0 0 := Stand.of_body Bd
  have e0 : s₁.heap = h0 := by rw [← hh, Bd.state]; rfl
  have N0 := Fr.nil n0
  refine own_enter (P := (Done s ({ frames := 0, cells := 0, slots := 0, locals := 0 } : Room).cells ({ frames := 0, cells := 0, slots := 0, locals := 0 } : Room).slots (Q12 Z cc cn h0 n0))) (Ls := #[.val (.ref cc)]) (by first | (simp [entryFrame, mkF, argsToLocals, Value.category]; done) | rfl) ?_
  refine own_aloadN X0 hx 1 rfl (hb hby own_d12_0) rfl rfl ?_
  obtain ⟨T1, X1, e1, st1⟩ := getF X0 hx hZ hown (host := "") (Or.inl (hw _ (List.mem_of_getElem? (i := 19) rfl))) Via.refl e0 Fn (g := (mkF m 1 #[.val (.ref cc)] [(.ref cc)])) rfl rfl (hb hby own_d12_1)
  refine Goes.go st1 ?_
  show Goes p e below _ T1 (mkF m 4 #[.val (.ref cc)] [(.int cn)])
  refine own_bipush X1 hx 6 rfl (20 : Int32) (hb hby own_d12_4) (by decide) ?_
  refine own_icmpY X1 hx 13 (hb hby own_d12_6) (feq (hcn : ¬ (cn = (20 : Int32)))).2 (by decide) (by decide) ?_
  refine own_iconst X1 hx 14 rfl (0 : Int32) (hb hby own_d12_13) (by decide) ?_
  refine own_retZ X1 hx hlk Bd.returns (by decide) (hb hby own_d12_14) (by decide) (by decide) e1 ?_
  exact ⟨rfl, N0, rfl⟩
theorem own_d8_0 : decode method_3_code 0 = .ok (.lload_n 0, 1) := by decide +kernel
theorem own_d8_1 : decode method_3_code 1 = .ok (.iconst 1, 1) := by decide +kernel
theorem own_d8_2 : decode method_3_code 2 = .ok (.lshr, 1) := by decide +kernel
theorem own_d8_3 : decode method_3_code 3 = .ok (.lload_n 2, 1) := by decide +kernel
theorem own_d8_4 : decode method_3_code 4 = .ok (.iconst 1, 1) := by decide +kernel
theorem own_d8_5 : decode method_3_code 5 = .ok (.lshr, 1) := by decide +kernel
theorem own_d8_6 : decode method_3_code 6 = .ok (.ladd, 1) := by decide +kernel
theorem own_d8_7 : decode method_3_code 7 = .ok (.lload_n 0, 1) := by decide +kernel
theorem own_d8_8 : decode method_3_code 8 = .ok (.lload_n 2, 1) := by decide +kernel
theorem own_d8_9 : decode method_3_code 9 = .ok (.land, 1) := by decide +kernel
theorem own_d8_10 : decode method_3_code 10 = .ok (.lconst 1, 1) := by decide +kernel
theorem own_d8_11 : decode method_3_code 11 = .ok (.land, 1) := by decide +kernel
theorem own_d8_12 : decode method_3_code 12 = .ok (.ladd, 1) := by decide +kernel
theorem own_d8_13 : decode method_3_code 13 = .ok (.lreturn, 1) := by decide +kernel
theorem own_pn_com_example_tallywire_tallywire_logs_CalibrationCycleAddPinLaw : plainName "com/example/tallywire/tallywire/logs/CalibrationCycleAddPinLaw" = true := by first | (simp [plainName, overriddenIn]; done) | decide +kernel
def Q8 (Z : State) (ma : Int64) (mb : Int64) (mg : Int64) (h0 : Heap) (n0 : Nat) (v : Option Value) (h : Heap) (L : List Loc) : Prop := v = some (.long mg) ∧ Fr n0 L ∧ h = h0
set_option maxRecDepth 65536 in
set_option maxHeartbeats 40000000 in
theorem rm8 (l : Launch) (Z : State) (a0 : Array Value) (hw : ∀ d ∈ tables_1, d.before a0 Z = true) (ws : List Jvm.Cond) (ma : Int64) (mb : Int64) (mg : Int64) (h0 : Heap) (n0 : Nat) (Z0 : n0 ≤ h0.size) (hm : (((ma >>> ((1 : Int32) &&& 0x3f).toInt64) + (mb >>> ((1 : Int32) &&& 0x3f).toInt64)) + ((ma &&& mb) &&& (1 : Int64))) = mg) :
    MetFree l (⟨"com/example/tallywire/tallywire/logs/CalibrationCycleAddPinLaw", "midpoint", "(JJ)J"⟩ : MethodName) (head1 (Jvm.Cond.code (⟨"com/example/tallywire/tallywire/logs/CalibrationCycleAddPinLaw", "midpoint", "(JJ)J"⟩ : MethodName) method_3_code 4 (some .long) :: ws) ({ frames := 0, cells := 0, slots := 0, locals := 0 } : Room)) (fun a U => a = #[(.long ma), (.long mb)] ∧ Z.Warmed39 U.vm ∧ U.heap = h0) (fun _ _ _ _ _ => True) (fun _ U o U' => ∃ v L, o = .returned v ∧ Q8 Z ma mb mg h0 n0 v U'.heap L ∧ FrameEnd U o U' L ({ frames := 0, cells := 0, slots := 0, locals := 0 } : Room).cells ({ frames := 0, cells := 0, slots := 0, locals := 0 } : Room).slots) := by
  refine MetFree.of_bodySF (plainFor_of_name own_pn_com_example_tallywire_tallywire_logs_CalibrationCycleAddPinLaw) hisR ?_
  intro p e s m args below meth c s₁ Bd hml0 hP hK
  obtain ⟨rfl, hZ, hh⟩ := hP
  have hx := Bd.exec
  have hby := Bd.bytes
  have hml : c.maxLocals = 4 := hml0
  have hlk := Bd.notSynchronized
  have hown : s.vm.findClass "com/example/tallywire/tallywire/logs/CalibrationCycleAddPinLaw" = some m.cls := findClass_of_methodNamed Bd.named
  have hnm := (name_of_methodNamed Bd.named Bd.method).1
  have X0 : Stand p l e ({ frames := 0, cells := 0, slots := 0, locals := 0 } : Room) s m #[(.long ma), (.long mb)] below meth c s₁ [] 0 0 := Stand.of_body Bd
  have e0 : s₁.heap = h0 := by rw [← hh, Bd.state]; rfl
  have N0 := Fr.nil n0
  refine own_enter (P := (Done s ({ frames := 0, cells := 0, slots := 0, locals := 0 } : Room).cells ({ frames := 0, cells := 0, slots := 0, locals := 0 } : Room).slots (Q8 Z ma mb mg h0 n0))) (Ls := #[.val (.long ma), .second, .val (.long mb), .second]) (by first | (simp [entryFrame, mkF, argsToLocals, Value.category]; done) | rfl) ?_
  refine own_lloadN X0 hx 1 rfl (hb hby own_d8_0) rfl ?_
  refine own_iconst X0 hx 2 rfl (1 : Int32) (hb hby own_d8_1) (by decide) ?_
  refine own_lshr X0 hx 3 rfl (hb hby own_d8_2) rfl ?_
  refine own_lloadN X0 hx 4 rfl (hb hby own_d8_3) rfl ?_
  refine own_iconst X0 hx 5 rfl (1 : Int32) (hb hby own_d8_4) (by decide) ?_
  refine own_lshr X0 hx 6 rfl (hb hby own_d8_5) rfl ?_
  refine own_ladd X0 hx 7 rfl (hb hby own_d8_6) rfl ?_
  refine own_lloadN X0 hx 8 rfl (hb hby own_d8_7) rfl ?_
  refine own_lloadN X0 hx 9 rfl (hb hby own_d8_8) rfl ?_
  refine own_land X0 hx 10 rfl (hb hby own_d8_9) rfl ?_
  refine own_lconst X0 hx 11 rfl (1 : Int64) (hb hby own_d8_10) (by decide) ?_
  refine own_land X0 hx 12 rfl (hb hby own_d8_11) rfl ?_
  refine own_ladd X0 hx 13 rfl (hb hby own_d8_12) rfl ?_
  refine own_retJ X0 hx hlk Bd.returns (hb hby own_d8_13) (by decide) (by decide) e0 ?_
  exact ⟨(congrArg (fun z => some (Value.long z)) hm), N0, rfl⟩
theorem own_pd5 : parseMethodDescriptor "()Z" = some ⟨[], some .boolean⟩ := by decide +kernel
theorem own_pd6 : parseMethodDescriptor "()J" = some ⟨[], some .long⟩ := by decide +kernel
theorem own_d9_0 : decode method_4_code 0 = .ok (.lload_n 1, 1) := by decide +kernel
theorem own_d9_1 : decode method_4_code 1 = .ok (.lload_n 3, 1) := by decide +kernel
theorem own_d9_2 : decode method_4_code 2 = .ok (.lsub, 1) := by decide +kernel
theorem own_d9_3 : decode method_4_code 3 = .ok (.lstore 5, 2) := by decide +kernel
theorem own_d9_5 : decode method_4_code 5 = .ok (.lload_n 1, 1) := by decide +kernel
theorem own_d9_6 : decode method_4_code 6 = .ok (.lload_n 3, 1) := by decide +kernel
theorem own_d9_7 : decode method_4_code 7 = .ok (.lxor, 1) := by decide +kernel
theorem own_d9_8 : decode method_4_code 8 = .ok (.lload_n 1, 1) := by decide +kernel
theorem own_d9_9 : decode method_4_code 9 = .ok (.lload 5, 2) := by decide +kernel
theorem own_d9_11 : decode method_4_code 11 = .ok (.lxor, 1) := by decide +kernel
theorem own_d9_12 : decode method_4_code 12 = .ok (.land, 1) := by decide +kernel
theorem own_d9_13 : decode method_4_code 13 = .ok (.lconst 0, 1) := by decide +kernel
theorem own_d9_14 : decode method_4_code 14 = .ok (.lcmp, 1) := by decide +kernel
theorem own_d9_15 : decode method_4_code 15 = .ok (.ifCond .ge 7, 3) := by decide +kernel
theorem own_d9_22 : decode method_4_code 22 = .ok (.iconst 0, 1) := by decide +kernel
theorem own_d9_23 : decode method_4_code 23 = .ok (.istore 7, 2) := by decide +kernel
theorem own_d9_25 : decode method_4_code 25 = .ok (.iload 7, 2) := by decide +kernel
theorem own_d9_27 : decode method_4_code 27 = .ok (.ifCond .eq 16, 3) := by decide +kernel
theorem own_d9_43 : decode method_4_code 43 = .ok (.aload_n 0, 1) := by decide +kernel
theorem own_d9_44 : decode method_4_code 44 = .ok (.invokevirtual 38, 3) := by decide +kernel
theorem own_d9_47 : decode method_4_code 47 = .ok (.ifCond .eq 17, 3) := by decide +kernel
theorem own_d9_50 : decode method_4_code 50 = .ok (.aload_n 0, 1) := by decide +kernel
theorem own_d9_51 : decode method_4_code 51 = .ok (.invokevirtual 43, 3) := by decide +kernel
theorem own_d9_54 : decode method_4_code 54 = .ok (.lload 5, 2) := by decide +kernel
theorem own_d9_56 : decode method_4_code 56 = .ok (.lcmp, 1) := by decide +kernel
theorem own_d9_57 : decode method_4_code 57 = .ok (.ifCond .ne 7, 3) := by decide +kernel
theorem own_d9_60 : decode method_4_code 60 = .ok (.iconst 1, 1) := by decide +kernel
theorem own_d9_61 : decode method_4_code 61 = .ok (.goto 4, 3) := by decide +kernel
theorem own_d9_65 : decode method_4_code 65 = .ok (.ireturn, 1) := by decide +kernel
def QmatP (Z : State) (ob : Addr) (rp : Int64) (md : Int64) (h0 : Heap) (n0 : Nat) (v : Option Value) (h : Heap) (L : List Loc) : Prop := v = some (.int (1 : Int32)) ∧ Fr n0 L ∧ h = h0
set_option maxRecDepth 65536 in
set_option maxHeartbeats 40000000 in
theorem rmmatP (l : Launch) (Z : State) (a0 : Array Value) (hw : ∀ d ∈ tables_1, d.before a0 Z = true) (ws : List Jvm.Cond) (ob : Addr) (rp : Int64) (md : Int64) (h0 : Heap) (n0 : Nat) (Z0 : n0 ≤ h0.size) (hno : ¬ (((rp ^^^ md) &&& (rp ^^^ (rp - md))) < (0 : Int64))) (EO : Exa Z h0 ob "java/util/OptionalLong") (Fi : Fld Z h0 ob "java/util/OptionalLong" "isPresent" "Z" (.int (1 : Int32))) (Fv : Fld Z h0 ob "java/util/OptionalLong" "value" "J" (.long (rp - md))) :
    MetFree l (⟨"com/example/tallywire/tallywire/logs/CalibrationCycleAddPinLaw", "matches", "(Ljava/util/OptionalLong;JJ)Z"⟩ : MethodName) (head1 (Jvm.Cond.code (⟨"com/example/tallywire/tallywire/logs/CalibrationCycleAddPinLaw", "matches", "(Ljava/util/OptionalLong;JJ)Z"⟩ : MethodName) method_4_code 8 (some .boolean) :: ws) ({ frames := 1, cells := 0, slots := 0, locals := 12 } : Room)) (fun a U => a = #[(.ref ob), (.long rp), (.long md)] ∧ Z.Warmed39 U.vm ∧ U.heap = h0) (fun _ _ _ _ _ => True) (fun _ U o U' => ∃ v L, o = .returned v ∧ QmatP Z ob rp md h0 n0 v U'.heap L ∧ FrameEnd U o U' L ({ frames := 1, cells := 0, slots := 0, locals := 12 } : Room).cells ({ frames := 1, cells := 0, slots := 0, locals := 12 } : Room).slots) := by
  refine MetFree.of_bodySF (plainFor_of_name own_pn_com_example_tallywire_tallywire_logs_CalibrationCycleAddPinLaw) hisR ?_
  intro p e s m args below meth c s₁ Bd hml0 hP hK
  obtain ⟨rfl, hZ, hh⟩ := hP
  have hx := Bd.exec
  have hby := Bd.bytes
  have hml : c.maxLocals = 8 := hml0
  have hlk := Bd.notSynchronized
  have hown : s.vm.findClass "com/example/tallywire/tallywire/logs/CalibrationCycleAddPinLaw" = some m.cls := findClass_of_methodNamed Bd.named
  have hnm := (name_of_methodNamed Bd.named Bd.method).1
  have X0 : Stand p l e ({ frames := 1, cells := 0, slots := 0, locals := 12 } : Room) s m #[(.ref ob), (.long rp), (.long md)] below meth c s₁ [] 0 0 := Stand.of_body Bd
  have e0 : s₁.heap = h0 := by rw [← hh, Bd.state]; rfl
  have N0 := Fr.nil n0
  refine own_enter (P := (Done s ({ frames := 1, cells := 0, slots := 0, locals := 12 } : Room).cells ({ frames := 1, cells := 0, slots := 0, locals := 12 } : Room).slots (QmatP Z ob rp md h0 n0))) (Ls := #[.val (.ref ob), .val (.long rp), .second, .val (.long md), .second, .unset, .unset, .unset]) (by first | (simp [entryFrame, mkF, argsToLocals, Value.category]; done) | rfl) ?_
  refine own_lloadN X0 hx 1 rfl (hb hby own_d9_0) rfl ?_
  refine own_lloadN X0 hx 2 rfl (hb hby own_d9_1) rfl ?_
  refine own_lsub X0 hx 3 rfl (hb hby own_d9_2) rfl ?_
  refine own_lstore X0 hx 5 rfl #[.val (.ref ob), .val (.long rp), .second, .val (.long md), .second, .val (.long (rp - md)), .second, .unset] (hb hby own_d9_3) rfl ?_
  refine own_lloadN X0 hx 6 rfl (hb hby own_d9_5) rfl ?_
  refine own_lloadN X0 hx 7 rfl (hb hby own_d9_6) rfl ?_
  refine own_lxor X0 hx 8 rfl (hb hby own_d9_7) rfl ?_
  refine own_lloadN X0 hx 9 rfl (hb hby own_d9_8) rfl ?_
  refine own_lload X0 hx 11 rfl (hb hby own_d9_9) rfl ?_
  refine own_lxor X0 hx 12 rfl (hb hby own_d9_11) rfl ?_
  refine own_land X0 hx 13 rfl (hb hby own_d9_12) rfl ?_
  refine own_lconst X0 hx 14 rfl (0 : Int64) (hb hby own_d9_13) (by decide) ?_
  refine own_lcmp X0 hx 15 rfl (hb hby own_d9_14) ?_
  refine own_ifY X0 hx 22 (hb hby own_d9_15) (Lflt (hno : ¬ (((rp ^^^ md) &&& (rp ^^^ (rp - md))) < (0 : Int64)))).2.1 (by decide) (by decide) ?_
  refine own_iconst X0 hx 23 rfl (0 : Int32) (hb hby own_d9_22) (by decide) ?_
  refine own_istore X0 hx 25 rfl #[.val (.ref ob), .val (.long rp), .second, .val (.long md), .second, .val (.long (rp - md)), .second, .val (.int (0 : Int32))] (hb hby own_d9_23) rfl ?_
  refine own_iload X0 hx 27 rfl (hb hby own_d9_25) rfl ?_
  refine own_ifY X0 hx 43 (hb hby own_d9_27) ((if0 _ _).trans (teq ((by decide) : (0 : Int32) = (0 : Int32))).1) (by decide) (by decide) ?_
  refine own_aloadN X0 hx 44 rfl (hb hby own_d9_43) rfl rfl ?_
  obtain ⟨cq1, kq1, q1a, q1b, q1c⟩ := isOf hZ e0 EO
  obtain ⟨_, _, ⟨T1, L1, k1, n1⟩, -, X1, ⟨Lc1, hQ1, l1, y1, z1⟩, st1⟩ := X0.virtualBack hx (y := (⟨"java/util/OptionalLong", "isPresent", "()Z"⟩ : MethodName)) (z := (⟨"java/util/OptionalLong", "isPresent", "()Z"⟩ : MethodName)) hown (mvT hZ (hw _ (List.mem_of_getElem? (i := 57) rfl))) (mvT hZ (hw _ (List.mem_of_getElem? (i := 58) rfl))) (notFace_of_selects (args := #[]) (mvT hZ (hw _ (List.mem_of_getElem? (i := 60) rfl)))) (mvT hZ (hw _ (List.mem_of_getElem? (i := 60) rfl))) (mvT hZ (hw _ (List.mem_of_getElem? (i := 59) rfl))) (by decide) (backOf (W := 0) (rmisp1 l Z a0 hw [] ob h0 n0 Z0 Fi) hZ (hw _ (List.mem_of_getElem? (i := 61) rfl)) (hw _ (List.mem_of_getElem? (i := 37) rfl)) (by decide) (by decide)) q1a q1c (g := (mkF m 44 #[.val (.ref ob), .val (.long rp), .second, .val (.long md), .second, .val (.long (rp - md)), .second, .val (.int (0 : Int32))] [(.ref ob)])) rfl (by rw [hml]; rfl) (Steps.refl _) (argsL := []) (rest := []) (lenOf own_pd5 rfl) rfl (by show 2 * 0 + _ ≤ _; exact Nat.le_of_eq rfl) (hb hby own_d9_44) (fun _ _ => ⟨rfl, e0, (by decide : 0 + 0 ≤ _), (by decide : 0 + 0 ≤ _)⟩)
  dsimp only [Pt.U, Pt.locs, Pt.cells, Pt.slots] at X1 l1 y1 z1 st1 hQ1
  subst l1 y1 z1
  obtain ⟨rfl, N1q, eh1⟩ := hQ1
  have N1 := Fr.app N0 N1q
  refine Goes.tr st1 ?_
  show Goes p e below _ T1 (mkF m 47 #[.val (.ref ob), .val (.long rp), .second, .val (.long md), .second, .val (.long (rp - md)), .second, .val (.int (0 : Int32))] [(.int (1 : Int32))])
  refine own_ifN X1 hx 50 (hb hby own_d9_47) ((if0 _ _).trans (feq ((by decide) : ¬ ((1 : Int32) = (0 : Int32)))).1) rfl ?_
  refine own_aloadN X1 hx 51 rfl (hb hby own_d9_50) rfl rfl ?_
  obtain ⟨cq2, kq2, q2a, q2b, q2c⟩ := isOf hZ eh1 EO
  obtain ⟨_, _, ⟨T2, L2, k2, n2⟩, -, X2, ⟨Lc2, hQ2, l2, y2, z2⟩, st2⟩ := X1.virtualBack hx (y := (⟨"java/util/OptionalLong", "getAsLong", "()J"⟩ : MethodName)) (z := (⟨"java/util/OptionalLong", "getAsLong", "()J"⟩ : MethodName)) hown (mvT hZ (hw _ (List.mem_of_getElem? (i := 62) rfl))) (mvT hZ (hw _ (List.mem_of_getElem? (i := 63) rfl))) (notFace_of_selects (args := #[]) (mvT hZ (hw _ (List.mem_of_getElem? (i := 65) rfl)))) (mvT hZ (hw _ (List.mem_of_getElem? (i := 65) rfl))) (mvT hZ (hw _ (List.mem_of_getElem? (i := 64) rfl))) (by decide) (backOf (W := 0) (rm11 l Z a0 hw [] ob (rp - md) h0 n0 Z0 Fi Fv) hZ (hw _ (List.mem_of_getElem? (i := 66) rfl)) (hw _ (List.mem_of_getElem? (i := 37) rfl)) (by decide) (by decide)) q2a q2c (g := (mkF m 51 #[.val (.ref ob), .val (.long rp), .second, .val (.long md), .second, .val (.long (rp - md)), .second, .val (.int (0 : Int32))] [(.ref ob)])) rfl (by rw [hml]; rfl) (Steps.refl _) (argsL := []) (rest := []) (lenOf own_pd6 rfl) rfl (by show 2 * 0 + _ ≤ _; exact Nat.le_of_eq rfl) (hb hby own_d9_51) (fun _ _ => ⟨rfl, eh1, (by decide : 0 + 0 ≤ _), (by decide : 0 + 0 ≤ _)⟩)
  dsimp only [Pt.U, Pt.locs, Pt.cells, Pt.slots] at X2 l2 y2 z2 st2 hQ2
  subst l2 y2 z2
  obtain ⟨rfl, N2q, eh2⟩ := hQ2
  have N2 := Fr.app N1 N2q
  refine Goes.tr st2 ?_
  show Goes p e below _ T2 (mkF m 54 #[.val (.ref ob), .val (.long rp), .second, .val (.long md), .second, .val (.long (rp - md)), .second, .val (.int (0 : Int32))] [(.long (rp - md))])
  refine own_lload X2 hx 56 rfl (hb hby own_d9_54) rfl ?_
  refine own_lcmp X2 hx 57 rfl (hb hby own_d9_56) ?_
  refine own_ifN X2 hx 60 (hb hby own_d9_57) (Lteq (rfl : (rp - md) = (rp - md))).2 rfl ?_
  refine own_iconst X2 hx 61 rfl (1 : Int32) (hb hby own_d9_60) (by decide) ?_
  refine own_goto X2 hx 65 (hb hby own_d9_61) (by decide) (by decide) ?_
  refine own_retZ X2 hx hlk Bd.returns (by decide) (hb hby own_d9_65) (by decide) (by decide) eh2 ?_
  exact ⟨rfl, N2, rfl⟩
theorem own_d9_18 : decode method_4_code 18 = .ok (.iconst 1, 1) := by decide +kernel
theorem own_d9_19 : decode method_4_code 19 = .ok (.goto 4, 3) := by decide +kernel
theorem own_d9_30 : decode method_4_code 30 = .ok (.aload_n 0, 1) := by decide +kernel
theorem own_d9_31 : decode method_4_code 31 = .ok (.invokevirtual 38, 3) := by decide +kernel
theorem own_d9_34 : decode method_4_code 34 = .ok (.ifCond .ne 7, 3) := by decide +kernel
theorem own_d9_37 : decode method_4_code 37 = .ok (.iconst 1, 1) := by decide +kernel
theorem own_d9_38 : decode method_4_code 38 = .ok (.goto 4, 3) := by decide +kernel
theorem own_d9_42 : decode method_4_code 42 = .ok (.ireturn, 1) := by decide +kernel
def QmatN (Z : State) (ob : Addr) (rp : Int64) (md : Int64) (h0 : Heap) (n0 : Nat) (v : Option Value) (h : Heap) (L : List Loc) : Prop := v = some (.int (1 : Int32)) ∧ Fr n0 L ∧ h = h0
set_option maxRecDepth 65536 in
set_option maxHeartbeats 40000000 in
theorem rmmatN (l : Launch) (Z : State) (a0 : Array Value) (hw : ∀ d ∈ tables_1, d.before a0 Z = true) (ws : List Jvm.Cond) (ob : Addr) (rp : Int64) (md : Int64) (h0 : Heap) (n0 : Nat) (Z0 : n0 ≤ h0.size) (hov : ((rp ^^^ md) &&& (rp ^^^ (rp - md))) < (0 : Int64)) (EO : Exa Z h0 ob "java/util/OptionalLong") (Fi : Fld Z h0 ob "java/util/OptionalLong" "isPresent" "Z" (.int (0 : Int32))) :
    MetFree l (⟨"com/example/tallywire/tallywire/logs/CalibrationCycleAddPinLaw", "matches", "(Ljava/util/OptionalLong;JJ)Z"⟩ : MethodName) (head1 (Jvm.Cond.code (⟨"com/example/tallywire/tallywire/logs/CalibrationCycleAddPinLaw", "matches", "(Ljava/util/OptionalLong;JJ)Z"⟩ : MethodName) method_4_code 8 (some .boolean) :: ws) ({ frames := 1, cells := 0, slots := 0, locals := 12 } : Room)) (fun a U => a = #[(.ref ob), (.long rp), (.long md)] ∧ Z.Warmed39 U.vm ∧ U.heap = h0) (fun _ _ _ _ _ => True) (fun _ U o U' => ∃ v L, o = .returned v ∧ QmatN Z ob rp md h0 n0 v U'.heap L ∧ FrameEnd U o U' L ({ frames := 1, cells := 0, slots := 0, locals := 12 } : Room).cells ({ frames := 1, cells := 0, slots := 0, locals := 12 } : Room).slots) := by
  refine MetFree.of_bodySF (plainFor_of_name own_pn_com_example_tallywire_tallywire_logs_CalibrationCycleAddPinLaw) hisR ?_
  intro p e s m args below meth c s₁ Bd hml0 hP hK
  obtain ⟨rfl, hZ, hh⟩ := hP
  have hx := Bd.exec
  have hby := Bd.bytes
  have hml : c.maxLocals = 8 := hml0
  have hlk := Bd.notSynchronized
  have hown : s.vm.findClass "com/example/tallywire/tallywire/logs/CalibrationCycleAddPinLaw" = some m.cls := findClass_of_methodNamed Bd.named
  have hnm := (name_of_methodNamed Bd.named Bd.method).1
  have X0 : Stand p l e ({ frames := 1, cells := 0, slots := 0, locals := 12 } : Room) s m #[(.ref ob), (.long rp), (.long md)] below meth c s₁ [] 0 0 := Stand.of_body Bd
  have e0 : s₁.heap = h0 := by rw [← hh, Bd.state]; rfl
  have N0 := Fr.nil n0
  refine own_enter (P := (Done s ({ frames := 1, cells := 0, slots := 0, locals := 12 } : Room).cells ({ frames := 1, cells := 0, slots := 0, locals := 12 } : Room).slots (QmatN Z ob rp md h0 n0))) (Ls := #[.val (.ref ob), .val (.long rp), .second, .val (.long md), .second, .unset, .unset, .unset]) (by first | (simp [entryFrame, mkF, argsToLocals, Value.category]; done) | rfl) ?_
  refine own_lloadN X0 hx 1 rfl (hb hby own_d9_0) rfl ?_
  refine own_lloadN X0 hx 2 rfl (hb hby own_d9_1) rfl ?_
  refine own_lsub X0 hx 3 rfl (hb hby own_d9_2) rfl ?_
  refine own_lstore X0 hx 5 rfl #[.val (.ref ob), .val (.long rp), .second, .val (.long md), .second, .val (.long (rp - md)), .second, .unset] (hb hby own_d9_3) rfl ?_
  refine own_lloadN X0 hx 6 rfl (hb hby own_d9_5) rfl ?_
  refine own_lloadN X0 hx 7 rfl (hb hby own_d9_6) rfl ?_
  refine own_lxor X0 hx 8 rfl (hb hby own_d9_7) rfl ?_
  refine own_lloadN X0 hx 9 rfl (hb hby own_d9_8) rfl ?_
  refine own_lload X0 hx 11 rfl (hb hby own_d9_9) rfl ?_
  refine own_lxor X0 hx 12 rfl (hb hby own_d9_11) rfl ?_
  refine own_land X0 hx 13 rfl (hb hby own_d9_12) rfl ?_
  refine own_lconst X0 hx 14 rfl (0 : Int64) (hb hby own_d9_13) (by decide) ?_
  refine own_lcmp X0 hx 15 rfl (hb hby own_d9_14) ?_
  refine own_ifN X0 hx 18 (hb hby own_d9_15) (Ltlt (hov : ((rp ^^^ md) &&& (rp ^^^ (rp - md))) < (0 : Int64))).2.1 rfl ?_
  refine own_iconst X0 hx 19 rfl (1 : Int32) (hb hby own_d9_18) (by decide) ?_
  refine own_goto X0 hx 23 (hb hby own_d9_19) (by decide) (by decide) ?_
  refine own_istore X0 hx 25 rfl #[.val (.ref ob), .val (.long rp), .second, .val (.long md), .second, .val (.long (rp - md)), .second, .val (.int (1 : Int32))] (hb hby own_d9_23) rfl ?_
  refine own_iload X0 hx 27 rfl (hb hby own_d9_25) rfl ?_
  refine own_ifN X0 hx 30 (hb hby own_d9_27) ((if0 _ _).trans (feq ((by decide) : ¬ ((1 : Int32) = (0 : Int32)))).1) rfl ?_
  refine own_aloadN X0 hx 31 rfl (hb hby own_d9_30) rfl rfl ?_
  obtain ⟨cq1, kq1, q1a, q1b, q1c⟩ := isOf hZ e0 EO
  obtain ⟨_, _, ⟨T1, L1, k1, n1⟩, -, X1, ⟨Lc1, hQ1, l1, y1, z1⟩, st1⟩ := X0.virtualBack hx (y := (⟨"java/util/OptionalLong", "isPresent", "()Z"⟩ : MethodName)) (z := (⟨"java/util/OptionalLong", "isPresent", "()Z"⟩ : MethodName)) hown (mvT hZ (hw _ (List.mem_of_getElem? (i := 57) rfl))) (mvT hZ (hw _ (List.mem_of_getElem? (i := 58) rfl))) (notFace_of_selects (args := #[]) (mvT hZ (hw _ (List.mem_of_getElem? (i := 60) rfl)))) (mvT hZ (hw _ (List.mem_of_getElem? (i := 60) rfl))) (mvT hZ (hw _ (List.mem_of_getElem? (i := 59) rfl))) (by decide) (backOf (W := 0) (rmisp0 l Z a0 hw [] ob h0 n0 Z0 Fi) hZ (hw _ (List.mem_of_getElem? (i := 61) rfl)) (hw _ (List.mem_of_getElem? (i := 37) rfl)) (by decide) (by decide)) q1a q1c (g := (mkF m 31 #[.val (.ref ob), .val (.long rp), .second, .val (.long md), .second, .val (.long (rp - md)), .second, .val (.int (1 : Int32))] [(.ref ob)])) rfl (by rw [hml]; rfl) (Steps.refl _) (argsL := []) (rest := []) (lenOf own_pd5 rfl) rfl (by show 2 * 0 + _ ≤ _; exact Nat.le_of_eq rfl) (hb hby own_d9_31) (fun _ _ => ⟨rfl, e0, (by decide : 0 + 0 ≤ _), (by decide : 0 + 0 ≤ _)⟩)
  dsimp only [Pt.U, Pt.locs, Pt.cells, Pt.slots] at X1 l1 y1 z1 st1 hQ1
  subst l1 y1 z1
  obtain ⟨rfl, N1q, eh1⟩ := hQ1
  have N1 := Fr.app N0 N1q
  refine Goes.tr st1 ?_
  show Goes p e below _ T1 (mkF m 34 #[.val (.ref ob), .val (.long rp), .second, .val (.long md), .second, .val (.long (rp - md)), .second, .val (.int (1 : Int32))] [(.int (0 : Int32))])
  refine own_ifN X1 hx 37 (hb hby own_d9_34) ((if0 _ _).trans (teq ((by decide) : (0 : Int32) = (0 : Int32))).2) rfl ?_
  refine own_iconst X1 hx 38 rfl (1 : Int32) (hb hby own_d9_37) (by decide) ?_
  refine own_goto X1 hx 42 (hb hby own_d9_38) (by decide) (by decide) ?_
  refine own_retZ X1 hx hlk Bd.returns (by decide) (hb hby own_d9_42) (by decide) (by decide) eh1 ?_
  exact ⟨rfl, N1, rfl⟩
theorem own_pd7 : parseMethodDescriptor "()V" = some ⟨[], none⟩ := by decide +kernel
theorem own_pd8 : parseMethodDescriptor "(JJJ)V" = some ⟨[.long, .long, .long], none⟩ := by decide +kernel
theorem own_pd9 : parseMethodDescriptor "(Ljava/util/OptionalLong;JJ)Z" = some ⟨[(.object "java/util/OptionalLong"), .long, .long], some .boolean⟩ := by decide +kernel
def Q0 (Z : State) (x0 : Int64) (x1 : Int64) (x2 : Int64) (x3 : Int64) (x4 : Int64) (x5 : Int64) (ez : Addr) (us : Value) (ss : Value) (h0 : Heap) (n0 : Nat) (v : Option Value) (h : Heap) (L : List Loc) : Prop := v = some (.int 1) ∧ Fr n0 L
set_option maxRecDepth 65536 in
set_option maxHeartbeats 40000000 in
theorem rm0 (l : Launch) (Z : State) (a0 : Array Value) (hw : ∀ d ∈ tables_1, d.before a0 Z = true) (ws : List Jvm.Cond) (x0 : Int64) (x1 : Int64) (x2 : Int64) (x3 : Int64) (x4 : Int64) (x5 : Int64) (ez : Addr) (us : Value) (ss : Value) (h0 : Heap) (n0 : Nat) (Z0 : n0 ≤ h0.size) (hold : Old Z n0 h0) (Se : Sta Z h0 "java/util/OptionalLong" "EMPTY" "Ljava/util/OptionalLong;" (.ref ez)) (Ee : Exa Z h0 ez "java/util/OptionalLong") (Fe : Fld Z h0 ez "java/util/OptionalLong" "isPresent" "Z" (.int (0 : Int32))) (Fus : Sta Z h0 "java/lang/Throwable" "UNASSIGNED_STACK" "[Ljava/lang/StackTraceElement;" us) (hus : us.isRef = true) (Fss : Sta Z h0 "java/lang/Throwable" "SUPPRESSED_SENTINEL" "Ljava/util/List;" ss) (hss : ss.isRef = true) (hfl : l.flags = flags0) :
    MetFree l x (head1 (Jvm.Cond.code x code maxLocals ret :: ws) room_1) (fun a U => a = #[(.long x0), (.long x1), (.long x2), (.long x3), (.long x4), (.long x5)] ∧ Z.Warmed39 U.vm ∧ U.heap = h0) (fun _ _ bl st _ => st.vm.MethodsKnown ∧ st.vm.FramesKnown bl) (fun _ U o U' => ∃ v L, o = .returned v ∧ Q0 Z x0 x1 x2 x3 x4 x5 ez us ss h0 n0 v U'.heap L ∧ ReturnedEndW U o U' L 9 5632) := by
  refine MetFree.of_bodySF (plainFor_of_name own_pn_com_example_tallywire_tallywire_logs_CalibrationCycleAddPinLaw) hisR ?_
  intro p e s m args below meth c s₁ Bd hml0 hP hK
  obtain ⟨hTK, hBl⟩ := hK
  obtain ⟨rfl, hZ, hh⟩ := hP
  have hx := Bd.exec
  have hby := Bd.bytes
  have hml : c.maxLocals = 27 := hml0
  have hlk := Bd.notSynchronized
  have hown : s.vm.findClass "com/example/tallywire/tallywire/logs/CalibrationCycleAddPinLaw" = some m.cls := findClass_of_methodNamed Bd.named
  have hnm := (name_of_methodNamed Bd.named Bd.method).1
  have X0 : Stand p l e room_1 (s.setVm s.vm) m #[(.long x0), (.long x1), (.long x2), (.long x3), (.long x4), (.long x5)] below meth c s₁ [] 0 0 := Stand.of_body Bd
  have e0 : s₁.heap = h0 := by rw [← hh, Bd.state]; rfl
  have N0 := Fr.nil n0
  have hS0 : s.Since s.vm 0 := (State.WarmedH.refl s).since 0
  have hk0 : 0 ≤ h0.size := Nat.zero_le _
  have K0 : Keep h0 h0 [] := Keep.refl _ _
  refine own_enter (P := (DoneW s 9 5632 (Q0 Z x0 x1 x2 x3 x4 x5 ez us ss h0 n0))) (Ls := #[.val (.long x0), .second, .val (.long x1), .second, .val (.long x2), .second, .val (.long x3), .second, .val (.long x4), .second, .val (.long x5), .second, .unset, .unset, .unset, .unset, .unset, .unset, .unset, .unset, .unset, .unset, .unset, .unset, .unset, .unset, .unset]) (by first | (simp [entryFrame, mkF, argsToLocals, Value.category, maxLocals]; done) | rfl) ?_
  refine own_lload X0 hx 2 rfl (hb hby at_0) rfl ?_
  refine Goes.go (X0.ldc2Long hx hown (mvT hZ (hw _ (List.mem_of_getElem? (i := 0) rfl))) (g := (mkF m 2 #[.val (.long x0), .second, .val (.long x1), .second, .val (.long x2), .second, .val (.long x3), .second, .val (.long x4), .second, .val (.long x5), .second, .unset, .unset, .unset, .unset, .unset, .unset, .unset, .unset, .unset, .unset, .unset, .unset, .unset, .unset, .unset] [(.long x2)])) rfl (hb hby at_2)) ?_
  show Goes p e below _ s₁ (mkF m 5 #[.val (.long x0), .second, .val (.long x1), .second, .val (.long x2), .second, .val (.long x3), .second, .val (.long x4), .second, .val (.long x5), .second, .unset, .unset, .unset, .unset, .unset, .unset, .unset, .unset, .unset, .unset, .unset, .unset, .unset, .unset, .unset] [(.long (9223372036854775807 : Int64)), (.long x2)])
  refine own_land X0 hx 6 rfl (hb hby at_5) rfl ?_
  refine Goes.go (X0.ldc2Long hx hown (mvT hZ (hw _ (List.mem_of_getElem? (i := 0) rfl))) (g := (mkF m 6 #[.val (.long x0), .second, .val (.long x1), .second, .val (.long x2), .second, .val (.long x3), .second, .val (.long x4), .second, .val (.long x5), .second, .unset, .unset, .unset, .unset, .unset, .unset, .unset, .unset, .unset, .unset, .unset, .unset, .unset, .unset, .unset] [(.long (x2 &&& (9223372036854775807 : Int64)))])) rfl (hb hby at_6)) ?_
  show Goes p e below _ s₁ (mkF m 9 #[.val (.long x0), .second, .val (.long x1), .second, .val (.long x2), .second, .val (.long x3), .second, .val (.long x4), .second, .val (.long x5), .second, .unset, .unset, .unset, .unset, .unset, .unset, .unset, .unset, .unset, .unset, .unset, .unset, .unset, .unset, .unset] [(.long (9223372036854775807 : Int64)), (.long (x2 &&& (9223372036854775807 : Int64)))])
  obtain ⟨ga1, h_ga1⟩ : ∃ z, z = ((x2 &&& (9223372036854775807 : Int64)) % (9223372036854775807 : Int64)) := ⟨_, rfl⟩
  refine own_lrem X0 hx 10 rfl (hb hby at_9) (by decide) h_ga1.symm ?_
  refine own_lstore X0 hx 12 rfl #[.val (.long x0), .second, .val (.long x1), .second, .val (.long x2), .second, .val (.long x3), .second, .val (.long x4), .second, .val (.long x5), .second, .val (.long ga1), .second, .unset, .unset, .unset, .unset, .unset, .unset, .unset, .unset, .unset, .unset, .unset, .unset, .unset] (hb hby at_10) rfl ?_
  refine own_lloadN X0 hx 13 rfl (hb hby at_12) rfl ?_
  refine own_lstore X0 hx 15 rfl #[.val (.long x0), .second, .val (.long x1), .second, .val (.long x2), .second, .val (.long x3), .second, .val (.long x4), .second, .val (.long x5), .second, .val (.long ga1), .second, .val (.long x0), .second, .unset, .unset, .unset, .unset, .unset, .unset, .unset, .unset, .unset, .unset, .unset] (hb hby at_13) rfl ?_
  have hg1 := own_gap h_ga1
  have J33 : ∀ (T1 : State) (h1 : Heap) (L1 : List Loc) (se1 : Int64) (hs1 : own_fits se1 ga1) (X1 : Stand p l e room_1 (s.setVm s.vm) m #[(.long x0), (.long x1), (.long x2), (.long x3), (.long x4), (.long x5)] below meth c T1 L1 0 0) (e1 : T1.heap = h1) (N1 : Fr n0 L1) (K1 : Keep h0 h1 []) (Z1 : n0 ≤ h1.size) (f1_0 : Old Z n0 h1) (f1_1 : Sta Z h1 "java/lang/Throwable" "UNASSIGNED_STACK" "[Ljava/lang/StackTraceElement;" us) (f1_2 : Sta Z h1 "java/lang/Throwable" "SUPPRESSED_SENTINEL" "Ljava/util/List;" ss) (f1_3 : Sta Z h1 "java/util/OptionalLong" "EMPTY" "Ljava/util/OptionalLong;" (.ref ez)) (f1_4 : Exa Z h1 ez "java/util/OptionalLong") (f1_5 : Fld Z h1 ez "java/util/OptionalLong" "isPresent" "Z" (.int (0 : Int32))), Goes p e below (DoneW s 9 5632 (Q0 Z x0 x1 x2 x3 x4 x5 ez us ss h0 n0)) T1 (mkF m 33 #[.val (.long x0), .second, .val (.long x1), .second, .val (.long x2), .second, .val (.long x3), .second, .val (.long x4), .second, .val (.long x5), .second, .val (.long ga1), .second, .val (.long se1), .second, .unset, .unset, .unset, .unset, .unset, .unset, .unset, .unset, .unset, .unset, .unset] []) := by
    intro T1 h1 L1 se1 hs1 X1 e1 N1 K1 Z1 f1_0 f1_1 f1_2 f1_3 f1_4 f1_5
    refine own_lload X1 hx 35 rfl (hb hby at_33) rfl ?_
    refine own_lload X1 hx 37 rfl (hb hby at_35) rfl ?_
    refine own_ladd X1 hx 38 rfl (hb hby at_37) rfl ?_
    refine own_lstore X1 hx 40 rfl #[.val (.long x0), .second, .val (.long x1), .second, .val (.long x2), .second, .val (.long x3), .second, .val (.long x4), .second, .val (.long x5), .second, .val (.long ga1), .second, .val (.long se1), .second, .val (.long (se1 + ga1)), .second, .unset, .unset, .unset, .unset, .unset, .unset, .unset, .unset, .unset] (hb hby at_38) rfl ?_
    have J66 : ∀ (T2 : State) (h2 : Heap) (L2 : List Loc) (ga2 : Int64) (hg2 : 0 ≤ ga2.toInt ∧ ga2.toInt < 9223372036854775807) (X2 : Stand p l e room_1 (s.setVm s.vm) m #[(.long x0), (.long x1), (.long x2), (.long x3), (.long x4), (.long x5)] below meth c T2 L2 0 0) (e2 : T2.heap = h2) (N2 : Fr n0 L2) (K2 : Keep h0 h2 []) (Z2 : n0 ≤ h2.size) (f2_0 : Old Z n0 h2) (f2_1 : Sta Z h2 "java/lang/Throwable" "UNASSIGNED_STACK" "[Ljava/lang/StackTraceElement;" us) (f2_2 : Sta Z h2 "java/lang/Throwable" "SUPPRESSED_SENTINEL" "Ljava/util/List;" ss) (f2_3 : Sta Z h2 "java/util/OptionalLong" "EMPTY" "Ljava/util/OptionalLong;" (.ref ez)) (f2_4 : Exa Z h2 ez "java/util/OptionalLong") (f2_5 : Fld Z h2 ez "java/util/OptionalLong" "isPresent" "Z" (.int (0 : Int32))), Goes p e below (DoneW s 9 5632 (Q0 Z x0 x1 x2 x3 x4 x5 ez us ss h0 n0)) T2 (mkF m 66 #[.val (.long x0), .second, .val (.long x1), .second, .val (.long x2), .second, .val (.long x3), .second, .val (.long x4), .second, .val (.long x5), .second, .val (.long ga1), .second, .val (.long se1), .second, .val (.long (se1 + ga1)), .second, .unset, .unset, .unset, .unset, .unset, .unset, .unset, .unset, .unset] [(.long ga2)]) := by
      intro T2 h2 L2 ga2 hg2 X2 e2 N2 K2 Z2 f2_0 f2_1 f2_2 f2_3 f2_4 f2_5
      refine own_lstore X2 hx 68 rfl #[.val (.long x0), .second, .val (.long x1), .second, .val (.long x2), .second, .val (.long x3), .second, .val (.long x4), .second, .val (.long x5), .second, .val (.long ga1), .second, .val (.long se1), .second, .val (.long (se1 + ga1)), .second, .val (.long ga2), .second, .unset, .unset, .unset, .unset, .unset, .unset, .unset] (hb hby at_66) rfl ?_
      refine own_lload X2 hx 70 rfl (hb hby at_68) rfl ?_
      refine own_lstore X2 hx 72 rfl #[.val (.long x0), .second, .val (.long x1), .second, .val (.long x2), .second, .val (.long x3), .second, .val (.long x4), .second, .val (.long x5), .second, .val (.long ga1), .second, .val (.long se1), .second, .val (.long (se1 + ga1)), .second, .val (.long ga2), .second, .val (.long x3), .second, .unset, .unset, .unset, .unset, .unset] (hb hby at_70) rfl ?_
      have J91 : ∀ (T3 : State) (h3 : Heap) (L3 : List Loc) (se2 : Int64) (hs2 : own_fits se2 ga2) (X3 : Stand p l e room_1 (s.setVm s.vm) m #[(.long x0), (.long x1), (.long x2), (.long x3), (.long x4), (.long x5)] below meth c T3 L3 0 0) (e3 : T3.heap = h3) (N3 : Fr n0 L3) (K3 : Keep h0 h3 []) (Z3 : n0 ≤ h3.size) (f3_0 : Old Z n0 h3) (f3_1 : Sta Z h3 "java/lang/Throwable" "UNASSIGNED_STACK" "[Ljava/lang/StackTraceElement;" us) (f3_2 : Sta Z h3 "java/lang/Throwable" "SUPPRESSED_SENTINEL" "Ljava/util/List;" ss) (f3_3 : Sta Z h3 "java/util/OptionalLong" "EMPTY" "Ljava/util/OptionalLong;" (.ref ez)) (f3_4 : Exa Z h3 ez "java/util/OptionalLong") (f3_5 : Fld Z h3 ez "java/util/OptionalLong" "isPresent" "Z" (.int (0 : Int32))), Goes p e below (DoneW s 9 5632 (Q0 Z x0 x1 x2 x3 x4 x5 ez us ss h0 n0)) T3 (mkF m 91 #[.val (.long x0), .second, .val (.long x1), .second, .val (.long x2), .second, .val (.long x3), .second, .val (.long x4), .second, .val (.long x5), .second, .val (.long ga1), .second, .val (.long se1), .second, .val (.long (se1 + ga1)), .second, .val (.long ga2), .second, .val (.long se2), .second, .unset, .unset, .unset, .unset, .unset] []) := by
        intro T3 h3 L3 se2 hs2 X3 e3 N3 K3 Z3 f3_0 f3_1 f3_2 f3_3 f3_4 f3_5
        refine own_lload X3 hx 93 rfl (hb hby at_91) rfl ?_
        refine own_lload X3 hx 95 rfl (hb hby at_93) rfl ?_
        refine own_ladd X3 hx 96 rfl (hb hby at_95) rfl ?_
        refine own_lstore X3 hx 98 rfl #[.val (.long x0), .second, .val (.long x1), .second, .val (.long x2), .second, .val (.long x3), .second, .val (.long x4), .second, .val (.long x5), .second, .val (.long ga1), .second, .val (.long se1), .second, .val (.long (se1 + ga1)), .second, .val (.long ga2), .second, .val (.long se2), .second, .val (.long (se2 + ga2)), .second, .unset, .unset, .unset] (hb hby at_96) rfl ?_
        obtain ⟨T4, h4, X4, e4, E4, A4, D4, Un4, st4⟩ := newO X3 hx hZ hown (hw _ (List.mem_of_getElem? (i := 2) rfl)) (hw _ (List.mem_of_getElem? (i := 3) rfl)) (hw _ (List.mem_of_getElem? (i := 4) rfl)) e3 (g := (mkF m 98 #[.val (.long x0), .second, .val (.long x1), .second, .val (.long x2), .second, .val (.long x3), .second, .val (.long x4), .second, .val (.long x5), .second, .val (.long ga1), .second, .val (.long se1), .second, .val (.long (se1 + ga1)), .second, .val (.long ga2), .second, .val (.long se2), .second, .val (.long (se2 + ga2)), .second, .unset, .unset, .unset] [])) rfl (hb hby at_98) (by decide) (by decide)
        obtain ⟨b4, g4⟩ : ∃ z, z = h3.size := ⟨_, rfl⟩
        rw [← g4] at A4 D4 Un4 st4
        have ne5 : ez ≠ b4 := own_lt_ne f3_4.lt g4
        have G4 : n0 ≤ b4 := Nat.le_trans Z3 (Nat.le_of_eq g4.symm)
        have H4 : h0.size ≤ b4 := Nat.le_trans K3.1 (Nat.le_of_eq g4.symm)
        have f6 := f3_0.ext E4
        have f7 := f3_1.ext E4
        have f8 := f3_2.ext E4
        have f9 := f3_3.ext E4
        have f10 := f3_4.ext E4
        have f11 := f3_5.ext E4
        have K4 := K3.ext E4
        have Z4 := Nat.le_trans Z3 E4.1
        have hk4 := Nat.le_trans (Nat.zero_le (Array.size h3)) E4.1
        have f12 : Fld Z h4 b4 "com/example/tallywire/tallywire/logs/CalibrationCycle" "bestRoundTrip" "J" (.long (0 : Int64)) := D4 (Or.inl (hw _ (List.mem_of_getElem? (i := 13) rfl))) (ty := .long) (by decide)
        have f13 : Fld Z h4 b4 "com/example/tallywire/tallywire/logs/CalibrationCycle" "exchanges" "I" (.int (0 : Int32)) := D4 (Or.inl (hw _ (List.mem_of_getElem? (i := 20) rfl))) (ty := .int) (by decide)
        have f14 : Fld Z h4 b4 "com/example/tallywire/tallywire/logs/CalibrationCycle" "bestMidpoint" "J" (.long (0 : Int64)) := D4 (Or.inl (hw _ (List.mem_of_getElem? (i := 23) rfl))) (ty := .long) (by decide)
        have f15 : Fld Z h4 b4 "com/example/tallywire/tallywire/logs/CalibrationCycle" "bestReply" "J" (.long (0 : Int64)) := D4 (Or.inl (hw _ (List.mem_of_getElem? (i := 25) rfl))) (ty := .long) (by decide)
        refine Goes.go st4 ?_
        show Goes p e below _ T4 (mkF m 101 #[.val (.long x0), .second, .val (.long x1), .second, .val (.long x2), .second, .val (.long x3), .second, .val (.long x4), .second, .val (.long x5), .second, .val (.long ga1), .second, .val (.long se1), .second, .val (.long (se1 + ga1)), .second, .val (.long ga2), .second, .val (.long se2), .second, .val (.long (se2 + ga2)), .second, .unset, .unset, .unset] [(.ref b4)])
        refine own_dup X4 hx 102 rfl (hb hby at_101) rfl ?_
        obtain ⟨_, _, ⟨T16, L16, k16, n16⟩, -, X16, ⟨Lc16, hQ16, l16, y16, z16⟩, st16⟩ := X4.specialBack hx (y := (⟨"com/example/tallywire/tallywire/logs/CalibrationCycle", "<init>", "()V"⟩ : MethodName)) rfl hown (mvT hZ (hw _ (List.mem_of_getElem? (i := 5) rfl))) (mvT hZ (hw _ (List.mem_of_getElem? (i := 6) rfl))) (mvT hZ (hw _ (List.mem_of_getElem? (i := 7) rfl))) (by decide) (backOf (W := 1) (rm1 l Z a0 hw [] b4 h4 n0 Z4 A4 G4 f12 f13 f14 f15) hZ (hw _ (List.mem_of_getElem? (i := 7) rfl)) (hw _ (List.mem_of_getElem? (i := 4) rfl)) (by decide) (by decide)) (g := (mkF m 102 #[.val (.long x0), .second, .val (.long x1), .second, .val (.long x2), .second, .val (.long x3), .second, .val (.long x4), .second, .val (.long x5), .second, .val (.long ga1), .second, .val (.long se1), .second, .val (.long (se1 + ga1)), .second, .val (.long ga2), .second, .val (.long se2), .second, .val (.long (se2 + ga2)), .second, .unset, .unset, .unset] [(.ref b4), (.ref b4)])) rfl (by rw [hml]; rfl) (Steps.refl _) (a := b4) (argsL := []) (rest := [(.ref b4)]) (lenOf own_pd7 rfl) rfl (by show 2 * 0 + _ ≤ _; exact Nat.le_of_eq rfl) (hb hby at_102) (fun _ _ => ⟨rfl, e4, (by decide : 1 + 0 ≤ _), (by decide : 4 + 0 ≤ _)⟩)
        dsimp only [Pt.U, Pt.locs, Pt.cells, Pt.slots] at X16 l16 y16 z16 st16 hQ16
        subst l16 y16 z16
        obtain ⟨rfl, N16q, K16q, f16_0, f16_1, f16_2, f16_3⟩ := hQ16
        have N16 := Fr.app N3 N16q
        have f17 := f6.keep K16q (allS G4 all0)
        have f18 := own_sta_keep f7 K16q (allS (own_eplain A4) all0)
        have f19 := own_sta_keep f8 K16q (allS (own_eplain A4) all0)
        have f20 := own_sta_keep f9 K16q (allS (own_eplain A4) all0)
        have f21 := f10.keep K16q
        have f22 := f11.keep K16q (ninS ne5 nin0)
        have f23 := A4.keep K16q
        have K16 := K4.trans K16q (allS (Or.inr H4) all0)
        have Z16 := Nat.le_trans Z4 K16q.1
        have hk16 := Nat.le_trans hk4 K16q.1
        refine Goes.tr st16 ?_
        show Goes p e below _ T16 (mkF m 105 #[.val (.long x0), .second, .val (.long x1), .second, .val (.long x2), .second, .val (.long x3), .second, .val (.long x4), .second, .val (.long x5), .second, .val (.long ga1), .second, .val (.long se1), .second, .val (.long (se1 + ga1)), .second, .val (.long ga2), .second, .val (.long se2), .second, .val (.long (se2 + ga2)), .second, .unset, .unset, .unset] [(.ref b4)])
        refine own_astore X16 hx 107 rfl #[.val (.long x0), .second, .val (.long x1), .second, .val (.long x2), .second, .val (.long x3), .second, .val (.long x4), .second, .val (.long x5), .second, .val (.long ga1), .second, .val (.long se1), .second, .val (.long (se1 + ga1)), .second, .val (.long ga2), .second, .val (.long se2), .second, .val (.long (se2 + ga2)), .second, .val (.ref b4), .unset, .unset] (hb hby at_105) rfl rfl ?_
        refine own_aload X16 hx 109 rfl (hb hby at_107) rfl rfl ?_
        refine own_lload X16 hx 111 rfl (hb hby at_109) rfl ?_
        refine own_lloadN X16 hx 112 rfl (hb hby at_111) rfl ?_
        refine own_lload X16 hx 114 rfl (hb hby at_112) rfl ?_
        obtain ⟨cq24, kq24, q24a, q24b, q24c⟩ := isOf hZ rfl f23
        obtain ⟨_, _, ⟨T24, L24, k24, n24⟩, -, X24, ⟨Lc24, hQ24, l24, y24, z24⟩, st24⟩ := X16.virtualBack hx (y := (⟨"com/example/tallywire/tallywire/logs/CalibrationCycle", "add", "(JJJ)V"⟩ : MethodName)) (z := (⟨"com/example/tallywire/tallywire/logs/CalibrationCycle", "add", "(JJJ)V"⟩ : MethodName)) hown (mvT hZ (hw _ (List.mem_of_getElem? (i := 14) rfl))) (mvT hZ (hw _ (List.mem_of_getElem? (i := 15) rfl))) (notFace_of_selects (args := #[]) (mvT hZ (hw _ (List.mem_of_getElem? (i := 17) rfl)))) (mvT hZ (hw _ (List.mem_of_getElem? (i := 17) rfl))) (mvT hZ (hw _ (List.mem_of_getElem? (i := 16) rfl))) (by decide) (backOf (W := 0) (rmaddT l Z a0 hw [] b4 se1 x1 (se1 + ga1) (0 : Int32) (9223372036854775807 : Int64) (0 : Int64) (0 : Int64) T16.heap n0 Z16 f23 G4 f16_0 f16_1 f16_2 f16_3 (own_rtM hs1)) hZ (hw _ (List.mem_of_getElem? (i := 18) rfl)) (hw _ (List.mem_of_getElem? (i := 4) rfl)) (by decide) (by decide)) q24a q24c (g := (mkF m 114 #[.val (.long x0), .second, .val (.long x1), .second, .val (.long x2), .second, .val (.long x3), .second, .val (.long x4), .second, .val (.long x5), .second, .val (.long ga1), .second, .val (.long se1), .second, .val (.long (se1 + ga1)), .second, .val (.long ga2), .second, .val (.long se2), .second, .val (.long (se2 + ga2)), .second, .val (.ref b4), .unset, .unset] [(.long (se1 + ga1)), (.long x1), (.long se1), (.ref b4)])) rfl (by rw [hml]; rfl) (Steps.refl _) (argsL := [(.long se1), (.long x1), (.long (se1 + ga1))]) (rest := []) (lenOf own_pd8 rfl) rfl (by show 2 * 0 + _ ≤ _; exact Nat.le_of_eq rfl) (hb hby at_114) (fun _ _ => ⟨rfl, rfl, (by decide : 1 + 0 ≤ _), (by decide : 4 + 0 ≤ _)⟩)
        dsimp only [Pt.U, Pt.locs, Pt.cells, Pt.slots] at X24 l24 y24 z24 st24 hQ24
        subst l24 y24 z24
        obtain ⟨rfl, N24q, K24q, f24_0, f24_1, f24_2, f24_3⟩ := hQ24
        have N24 := Fr.app N16 N24q
        have f25 := f17.keep K24q (allS G4 all0)
        have f26 := own_sta_keep f18 K24q (allS (own_eplain f23) all0)
        have f27 := own_sta_keep f19 K24q (allS (own_eplain f23) all0)
        have f28 := own_sta_keep f20 K24q (allS (own_eplain f23) all0)
        have f29 := f21.keep K24q
        have f30 := f22.keep K24q (ninS ne5 nin0)
        have f31 := f23.keep K24q
        have K24 := K16.trans K24q (allS (Or.inr H4) all0)
        have Z24 := Nat.le_trans Z16 K24q.1
        have hk24 := Nat.le_trans hk16 K24q.1
        refine Goes.tr st24 ?_
        show Goes p e below _ T24 (mkF m 117 #[.val (.long x0), .second, .val (.long x1), .second, .val (.long x2), .second, .val (.long x3), .second, .val (.long x4), .second, .val (.long x5), .second, .val (.long ga1), .second, .val (.long se1), .second, .val (.long (se1 + ga1)), .second, .val (.long ga2), .second, .val (.long se2), .second, .val (.long (se2 + ga2)), .second, .val (.ref b4), .unset, .unset] [])
        refine own_aload X24 hx 119 rfl (hb hby at_117) rfl rfl ?_
        by_cases ov1 : ((x1 ^^^ (se1 + (((se1 + ga1) - se1) / (2 : Int64)))) &&& (x1 ^^^ (x1 - (se1 + (((se1 + ga1) - se1) / (2 : Int64)))))) < (0 : Int64)
        · obtain ⟨cq32, kq32, q32a, q32b, q32c⟩ := isOf hZ rfl f31
          obtain ⟨_, _, ⟨T32, L32, k32, n32⟩, -, X32, Sx32, gr32, ⟨Lc32, hQ32, l32, y32, z32⟩, st32⟩ := X24.virtualBackS hx (y := (⟨"com/example/tallywire/tallywire/logs/CalibrationCycle", "offset", "()Ljava/util/OptionalLong;"⟩ : MethodName)) (z := (⟨"com/example/tallywire/tallywire/logs/CalibrationCycle", "offset", "()Ljava/util/OptionalLong;"⟩ : MethodName)) hown (mvT hZ (hw _ (List.mem_of_getElem? (i := 26) rfl))) (mvT hZ (hw _ (List.mem_of_getElem? (i := 27) rfl))) (notFace_of_selects (args := #[]) (mvT hZ (hw _ (List.mem_of_getElem? (i := 29) rfl)))) (mvT hZ (hw _ (List.mem_of_getElem? (i := 29) rfl))) (mvT hZ (hw _ (List.mem_of_getElem? (i := 28) rfl))) (by decide) (own_backSW (W := 0) (rmoffV l Z a0 hw [] b4 (se1 + (((se1 + ga1) - se1) / (2 : Int64))) x1 ez us ss T24.heap n0 Z24 f24_2 f24_3 ov1 f25 f28 f26 hus f27 hss hfl) hZ (hw _ (List.mem_of_getElem? (i := 30) rfl)) (hw _ (List.mem_of_getElem? (i := 4) rfl)) (by decide) (by decide) (Vm.MethodsKnown.alikeC hS0.1.alike hTK) (Vm.FramesKnown.alikeC hS0.1.alike hBl)) q32a q32c (g := (mkF m 119 #[.val (.long x0), .second, .val (.long x1), .second, .val (.long x2), .second, .val (.long x3), .second, .val (.long x4), .second, .val (.long x5), .second, .val (.long ga1), .second, .val (.long se1), .second, .val (.long (se1 + ga1)), .second, .val (.long ga2), .second, .val (.long se2), .second, .val (.long (se2 + ga2)), .second, .val (.ref b4), .unset, .unset] [(.ref b4)])) rfl (by rw [hml]; rfl) (Steps.refl _) (argsL := []) (rest := []) (lenOf own_pd4 rfl) rfl (by show 2 * 0 + _ ≤ _; exact Nat.le_of_eq rfl) (hb hby at_119) (fun _ _ => ⟨rfl, rfl, (by decide : 1 + 4 ≤ _), (by decide : 4 + 2814 ≤ _)⟩)
          dsimp only [Pt.U, Pt.locs, Pt.cells, Pt.slots] at X32 l32 y32 z32 st32 hQ32 Sx32 gr32
          subst l32 y32 z32
          obtain ⟨Y32, hS32, hZ32, ho32⟩ := rebS hS0 (Nat.le_trans hk24 (Nat.le_of_eq (congrArg Array.size (Eq.symm rfl)))) X32 Sx32 gr32 hZ hown
          obtain ⟨rfl, N32q, K32q⟩ := hQ32
          have N32 := Fr.app N24 N32q
          have f33 := f25.keep K32q all0
          have f34 := own_sta_keep f26 K32q all0
          have f35 := own_sta_keep f27 K32q all0
          have f36 := own_sta_keep f28 K32q all0
          have f37 := f29.keep K32q
          have f38 := f30.keep K32q nin0
          have f39 := f31.keep K32q
          have f40 := f24_0.keep K32q nin0
          have f41 := f24_1.keep K32q nin0
          have f42 := f24_2.keep K32q nin0
          have f43 := f24_3.keep K32q nin0
          have K32 := K24.trans K32q all0
          have Z32 := Nat.le_trans Z24 K32q.1
          refine Goes.tr st32 ?_
          show Goes p e below _ T32 (mkF m 122 #[.val (.long x0), .second, .val (.long x1), .second, .val (.long x2), .second, .val (.long x3), .second, .val (.long x4), .second, .val (.long x5), .second, .val (.long ga1), .second, .val (.long se1), .second, .val (.long (se1 + ga1)), .second, .val (.long ga2), .second, .val (.long se2), .second, .val (.long (se2 + ga2)), .second, .val (.ref b4), .unset, .unset] [(.ref ez)])
          refine own_lloadN Y32 hx 123 rfl (hb hby at_122) rfl ?_
          refine own_lload Y32 hx 125 rfl (hb hby at_123) rfl ?_
          refine own_lload Y32 hx 127 rfl (hb hby at_125) rfl ?_
          obtain ⟨_, _, ⟨T44, L44, k44, n44⟩, -, X44, ⟨Lc44, hQ44, l44, y44, z44⟩, st44⟩ := Jvm.LawKit.callS Y32 hx (y := (⟨"com/example/tallywire/tallywire/logs/CalibrationCycleAddPinLaw", "midpoint", "(JJ)J"⟩ : MethodName)) ho32 (mvT hZ32 (hw _ (List.mem_of_getElem? (i := 50) rfl))) (mvT hZ32 (hw _ (List.mem_of_getElem? (i := 51) rfl))) (mvT hZ32 (hw _ (List.mem_of_getElem? (i := 52) rfl))) (mvT hZ32 (hw _ (List.mem_of_getElem? (i := 53) rfl))) (by decide) (backOf (W := 3) (rm8 l Z a0 hw [] se1 (se1 + ga1) (se1 + (((se1 + ga1) - se1) / (2 : Int64))) T32.heap n0 Z32 (own_mid hs1)) hZ32 (hw _ (List.mem_of_getElem? (i := 53) rfl)) (hw _ (List.mem_of_getElem? (i := 52) rfl)) (by decide) (by decide)) (g := (mkF m 127 #[.val (.long x0), .second, .val (.long x1), .second, .val (.long x2), .second, .val (.long x3), .second, .val (.long x4), .second, .val (.long x5), .second, .val (.long ga1), .second, .val (.long se1), .second, .val (.long (se1 + ga1)), .second, .val (.long ga2), .second, .val (.long se2), .second, .val (.long (se2 + ga2)), .second, .val (.ref b4), .unset, .unset] [(.long (se1 + ga1)), (.long se1), (.long x1), (.ref ez)])) rfl (by rw [hml]; rfl) (argsL := [(.long se1), (.long (se1 + ga1))]) (rest := [(.long x1), (.ref ez)]) (lenOf own_pd2 rfl) rfl (by show 2 * 0 + _ ≤ _; exact Nat.le_of_eq rfl) (hb hby at_127) (fun _ _ => ⟨rfl, rfl, (by decide : 5 + 0 ≤ _), (by decide : 2818 + 0 ≤ _)⟩)
          dsimp only [Pt.U, Pt.locs, Pt.cells, Pt.slots] at X44 l44 y44 z44 st44 hQ44
          subst l44 y44 z44
          obtain ⟨rfl, N44q, eh44⟩ := hQ44
          have N44 := Fr.app N32 N44q
          refine Goes.go st44 ?_
          show Goes p e below _ T44 (mkF m 130 #[.val (.long x0), .second, .val (.long x1), .second, .val (.long x2), .second, .val (.long x3), .second, .val (.long x4), .second, .val (.long x5), .second, .val (.long ga1), .second, .val (.long se1), .second, .val (.long (se1 + ga1)), .second, .val (.long ga2), .second, .val (.long se2), .second, .val (.long (se2 + ga2)), .second, .val (.ref b4), .unset, .unset] [(.long (se1 + (((se1 + ga1) - se1) / (2 : Int64)))), (.long x1), (.ref ez)])
          obtain ⟨_, _, ⟨T45, L45, k45, n45⟩, -, X45, ⟨Lc45, hQ45, l45, y45, z45⟩, st45⟩ := Jvm.LawKit.callS X44 hx (y := (⟨"com/example/tallywire/tallywire/logs/CalibrationCycleAddPinLaw", "matches", "(Ljava/util/OptionalLong;JJ)Z"⟩ : MethodName)) ho32 (mvT hZ32 (hw _ (List.mem_of_getElem? (i := 54) rfl))) (mvT hZ32 (hw _ (List.mem_of_getElem? (i := 55) rfl))) (mvT hZ32 (hw _ (List.mem_of_getElem? (i := 52) rfl))) (mvT hZ32 (hw _ (List.mem_of_getElem? (i := 56) rfl))) (by decide) (backOf (W := 0) (rmmatN l Z a0 hw [] ez x1 (se1 + (((se1 + ga1) - se1) / (2 : Int64))) T32.heap n0 Z32 ov1 f37 f38) hZ32 (hw _ (List.mem_of_getElem? (i := 56) rfl)) (hw _ (List.mem_of_getElem? (i := 52) rfl)) (by decide) (by decide)) (g := (mkF m 130 #[.val (.long x0), .second, .val (.long x1), .second, .val (.long x2), .second, .val (.long x3), .second, .val (.long x4), .second, .val (.long x5), .second, .val (.long ga1), .second, .val (.long se1), .second, .val (.long (se1 + ga1)), .second, .val (.long ga2), .second, .val (.long se2), .second, .val (.long (se2 + ga2)), .second, .val (.ref b4), .unset, .unset] [(.long (se1 + (((se1 + ga1) - se1) / (2 : Int64)))), (.long x1), (.ref ez)])) rfl (by rw [hml]; rfl) (argsL := [(.ref ez), (.long x1), (.long (se1 + (((se1 + ga1) - se1) / (2 : Int64))))]) (rest := []) (lenOf own_pd9 rfl) rfl (by show 2 * 0 + _ ≤ _; exact Nat.le_of_eq rfl) (hb hby at_130) (fun _ _ => ⟨rfl, eh44, (by decide : 5 + 0 ≤ _), (by decide : 2818 + 0 ≤ _)⟩)
          dsimp only [Pt.U, Pt.locs, Pt.cells, Pt.slots] at X45 l45 y45 z45 st45 hQ45
          subst l45 y45 z45
          obtain ⟨rfl, N45q, eh45⟩ := hQ45
          have N45 := Fr.app N44 N45q
          refine Goes.go st45 ?_
          show Goes p e below _ T45 (mkF m 133 #[.val (.long x0), .second, .val (.long x1), .second, .val (.long x2), .second, .val (.long x3), .second, .val (.long x4), .second, .val (.long x5), .second, .val (.long ga1), .second, .val (.long se1), .second, .val (.long (se1 + ga1)), .second, .val (.long ga2), .second, .val (.long se2), .second, .val (.long (se2 + ga2)), .second, .val (.ref b4), .unset, .unset] [(.int (1 : Int32))])
          refine own_istore X45 hx 135 rfl #[.val (.long x0), .second, .val (.long x1), .second, .val (.long x2), .second, .val (.long x3), .second, .val (.long x4), .second, .val (.long x5), .second, .val (.long ga1), .second, .val (.long se1), .second, .val (.long (se1 + ga1)), .second, .val (.long ga2), .second, .val (.long se2), .second, .val (.long (se2 + ga2)), .second, .val (.ref b4), .val (.int (1 : Int32)), .unset] (hb hby at_133) rfl ?_
          refine own_aload X45 hx 137 rfl (hb hby at_135) rfl rfl ?_
          refine own_lload X45 hx 139 rfl (hb hby at_137) rfl ?_
          refine own_lload X45 hx 141 rfl (hb hby at_139) rfl ?_
          refine own_lload X45 hx 143 rfl (hb hby at_141) rfl ?_
          by_cases hb2 : ((se2 + ga2) - se2) < ((se1 + ga1) - se1)
          · obtain ⟨cq46, kq46, q46a, q46b, q46c⟩ := isOf hZ32 eh45 f39
            obtain ⟨_, _, ⟨T46, L46, k46, n46⟩, -, X46, ⟨Lc46, hQ46, l46, y46, z46⟩, st46⟩ := X45.virtualBack hx (y := (⟨"com/example/tallywire/tallywire/logs/CalibrationCycle", "add", "(JJJ)V"⟩ : MethodName)) (z := (⟨"com/example/tallywire/tallywire/logs/CalibrationCycle", "add", "(JJJ)V"⟩ : MethodName)) ho32 (mvT hZ32 (hw _ (List.mem_of_getElem? (i := 14) rfl))) (mvT hZ32 (hw _ (List.mem_of_getElem? (i := 15) rfl))) (notFace_of_selects (args := #[]) (mvT hZ32 (hw _ (List.mem_of_getElem? (i := 17) rfl)))) (mvT hZ32 (hw _ (List.mem_of_getElem? (i := 17) rfl))) (mvT hZ32 (hw _ (List.mem_of_getElem? (i := 16) rfl))) (by decide) (backOf (W := 0) (rmaddT l Z a0 hw [] b4 se2 x4 (se2 + ga2) ((0 : Int32) + (1 : Int32)) ((se1 + ga1) - se1) (se1 + (((se1 + ga1) - se1) / (2 : Int64))) x1 T32.heap n0 Z32 f39 G4 f40 f41 f42 f43 hb2) hZ32 (hw _ (List.mem_of_getElem? (i := 18) rfl)) (hw _ (List.mem_of_getElem? (i := 4) rfl)) (by decide) (by decide)) q46a q46c (g := (mkF m 143 #[.val (.long x0), .second, .val (.long x1), .second, .val (.long x2), .second, .val (.long x3), .second, .val (.long x4), .second, .val (.long x5), .second, .val (.long ga1), .second, .val (.long se1), .second, .val (.long (se1 + ga1)), .second, .val (.long ga2), .second, .val (.long se2), .second, .val (.long (se2 + ga2)), .second, .val (.ref b4), .val (.int (1 : Int32)), .unset] [(.long (se2 + ga2)), (.long x4), (.long se2), (.ref b4)])) rfl (by rw [hml]; rfl) (Steps.refl _) (argsL := [(.long se2), (.long x4), (.long (se2 + ga2))]) (rest := []) (lenOf own_pd8 rfl) rfl (by show 2 * 0 + _ ≤ _; exact Nat.le_of_eq rfl) (hb hby at_143) (fun _ _ => ⟨rfl, eh45, (by decide : 5 + 0 ≤ _), (by decide : 2818 + 0 ≤ _)⟩)
            dsimp only [Pt.U, Pt.locs, Pt.cells, Pt.slots] at X46 l46 y46 z46 st46 hQ46
            subst l46 y46 z46
            obtain ⟨rfl, N46q, K46q, f46_0, f46_1, f46_2, f46_3⟩ := hQ46
            have N46 := Fr.app N45 N46q
            have f47 := f33.keep K46q (allS G4 all0)
            have f48 := own_sta_keep f34 K46q (allS (own_eplain f39) all0)
            have f49 := own_sta_keep f35 K46q (allS (own_eplain f39) all0)
            have f50 := own_sta_keep f36 K46q (allS (own_eplain f39) all0)
            have f51 := f37.keep K46q
            have f52 := f38.keep K46q (ninS ne5 nin0)
            have f53 := f39.keep K46q
            have K46 := K32.trans K46q (allS (Or.inr H4) all0)
            have Z46 := Nat.le_trans Z32 K46q.1
            have hk46 := Nat.le_trans (Nat.le_refl T32.heap.size) K46q.1
            refine Goes.tr st46 ?_
            show Goes p e below _ T46 (mkF m 146 #[.val (.long x0), .second, .val (.long x1), .second, .val (.long x2), .second, .val (.long x3), .second, .val (.long x4), .second, .val (.long x5), .second, .val (.long ga1), .second, .val (.long se1), .second, .val (.long (se1 + ga1)), .second, .val (.long ga2), .second, .val (.long se2), .second, .val (.long (se2 + ga2)), .second, .val (.ref b4), .val (.int (1 : Int32)), .unset] [])
            refine own_lload X46 hx 148 rfl (hb hby at_146) rfl ?_
            refine own_lload X46 hx 150 rfl (hb hby at_148) rfl ?_
            refine own_lcmp X46 hx 151 rfl (hb hby at_150) ?_
            refine own_ifN X46 hx 154 (hb hby at_151) (Ltlt ((own_cmp hs1 hs2).mp hb2 : ga2 < ga1)).2.1 rfl ?_
            refine own_aload X46 hx 156 rfl (hb hby at_154) rfl rfl ?_
            by_cases ov2 : ((x4 ^^^ (se2 + (((se2 + ga2) - se2) / (2 : Int64)))) &&& (x4 ^^^ (x4 - (se2 + (((se2 + ga2) - se2) / (2 : Int64)))))) < (0 : Int64)
            · obtain ⟨cq54, kq54, q54a, q54b, q54c⟩ := isOf hZ32 rfl f53
              obtain ⟨_, _, ⟨T54, L54, k54, n54⟩, -, X54, Sx54, gr54, ⟨Lc54, hQ54, l54, y54, z54⟩, st54⟩ := X46.virtualBackS hx (y := (⟨"com/example/tallywire/tallywire/logs/CalibrationCycle", "offset", "()Ljava/util/OptionalLong;"⟩ : MethodName)) (z := (⟨"com/example/tallywire/tallywire/logs/CalibrationCycle", "offset", "()Ljava/util/OptionalLong;"⟩ : MethodName)) ho32 (mvT hZ32 (hw _ (List.mem_of_getElem? (i := 26) rfl))) (mvT hZ32 (hw _ (List.mem_of_getElem? (i := 27) rfl))) (notFace_of_selects (args := #[]) (mvT hZ32 (hw _ (List.mem_of_getElem? (i := 29) rfl)))) (mvT hZ32 (hw _ (List.mem_of_getElem? (i := 29) rfl))) (mvT hZ32 (hw _ (List.mem_of_getElem? (i := 28) rfl))) (by decide) (own_backSW (W := 0) (rmoffV l Z a0 hw [] b4 (se2 + (((se2 + ga2) - se2) / (2 : Int64))) x4 ez us ss T46.heap n0 Z46 f46_2 f46_3 ov2 f47 f50 f48 hus f49 hss hfl) hZ32 (hw _ (List.mem_of_getElem? (i := 30) rfl)) (hw _ (List.mem_of_getElem? (i := 4) rfl)) (by decide) (by decide) (Vm.MethodsKnown.alikeC hS32.1.alike hTK) (Vm.FramesKnown.alikeC hS32.1.alike hBl)) q54a q54c (g := (mkF m 156 #[.val (.long x0), .second, .val (.long x1), .second, .val (.long x2), .second, .val (.long x3), .second, .val (.long x4), .second, .val (.long x5), .second, .val (.long ga1), .second, .val (.long se1), .second, .val (.long (se1 + ga1)), .second, .val (.long ga2), .second, .val (.long se2), .second, .val (.long (se2 + ga2)), .second, .val (.ref b4), .val (.int (1 : Int32)), .unset] [(.ref b4)])) rfl (by rw [hml]; rfl) (Steps.refl _) (argsL := []) (rest := []) (lenOf own_pd4 rfl) rfl (by show 2 * 0 + _ ≤ _; exact Nat.le_of_eq rfl) (hb hby at_156) (fun _ _ => ⟨rfl, rfl, (by decide : 5 + 4 ≤ _), (by decide : 2818 + 2814 ≤ _)⟩)
              dsimp only [Pt.U, Pt.locs, Pt.cells, Pt.slots] at X54 l54 y54 z54 st54 hQ54 Sx54 gr54
              subst l54 y54 z54
              obtain ⟨Y54, hS54, hZ54, ho54⟩ := rebS hS32 (Nat.le_trans hk46 (Nat.le_of_eq (congrArg Array.size (Eq.symm rfl)))) X54 Sx54 gr54 hZ32 ho32
              obtain ⟨rfl, N54q, K54q⟩ := hQ54
              have N54 := Fr.app N46 N54q
              have f55 := f47.keep K54q all0
              have f56 := own_sta_keep f48 K54q all0
              have f57 := own_sta_keep f49 K54q all0
              have f58 := own_sta_keep f50 K54q all0
              have f59 := f51.keep K54q
              have f60 := f52.keep K54q nin0
              have f61 := f53.keep K54q
              have f62 := f46_0.keep K54q nin0
              have f63 := f46_1.keep K54q nin0
              have f64 := f46_2.keep K54q nin0
              have f65 := f46_3.keep K54q nin0
              have K54 := K46.trans K54q all0
              have Z54 := Nat.le_trans Z46 K54q.1
              refine Goes.tr st54 ?_
              show Goes p e below _ T54 (mkF m 159 #[.val (.long x0), .second, .val (.long x1), .second, .val (.long x2), .second, .val (.long x3), .second, .val (.long x4), .second, .val (.long x5), .second, .val (.long ga1), .second, .val (.long se1), .second, .val (.long (se1 + ga1)), .second, .val (.long ga2), .second, .val (.long se2), .second, .val (.long (se2 + ga2)), .second, .val (.ref b4), .val (.int (1 : Int32)), .unset] [(.ref ez)])
              refine own_lload Y54 hx 161 rfl (hb hby at_159) rfl ?_
              refine own_lload Y54 hx 163 rfl (hb hby at_161) rfl ?_
              refine own_lload Y54 hx 165 rfl (hb hby at_163) rfl ?_
              obtain ⟨_, _, ⟨T66, L66, k66, n66⟩, -, X66, ⟨Lc66, hQ66, l66, y66, z66⟩, st66⟩ := Jvm.LawKit.callS Y54 hx (y := (⟨"com/example/tallywire/tallywire/logs/CalibrationCycleAddPinLaw", "midpoint", "(JJ)J"⟩ : MethodName)) ho54 (mvT hZ54 (hw _ (List.mem_of_getElem? (i := 50) rfl))) (mvT hZ54 (hw _ (List.mem_of_getElem? (i := 51) rfl))) (mvT hZ54 (hw _ (List.mem_of_getElem? (i := 52) rfl))) (mvT hZ54 (hw _ (List.mem_of_getElem? (i := 53) rfl))) (by decide) (backOf (W := 3) (rm8 l Z a0 hw [] se2 (se2 + ga2) (se2 + (((se2 + ga2) - se2) / (2 : Int64))) T54.heap n0 Z54 (own_mid hs2)) hZ54 (hw _ (List.mem_of_getElem? (i := 53) rfl)) (hw _ (List.mem_of_getElem? (i := 52) rfl)) (by decide) (by decide)) (g := (mkF m 165 #[.val (.long x0), .second, .val (.long x1), .second, .val (.long x2), .second, .val (.long x3), .second, .val (.long x4), .second, .val (.long x5), .second, .val (.long ga1), .second, .val (.long se1), .second, .val (.long (se1 + ga1)), .second, .val (.long ga2), .second, .val (.long se2), .second, .val (.long (se2 + ga2)), .second, .val (.ref b4), .val (.int (1 : Int32)), .unset] [(.long (se2 + ga2)), (.long se2), (.long x4), (.ref ez)])) rfl (by rw [hml]; rfl) (argsL := [(.long se2), (.long (se2 + ga2))]) (rest := [(.long x4), (.ref ez)]) (lenOf own_pd2 rfl) rfl (by show 2 * 0 + _ ≤ _; exact Nat.le_of_eq rfl) (hb hby at_165) (fun _ _ => ⟨rfl, rfl, (by decide : 9 + 0 ≤ _), (by decide : 5632 + 0 ≤ _)⟩)
              dsimp only [Pt.U, Pt.locs, Pt.cells, Pt.slots] at X66 l66 y66 z66 st66 hQ66
              subst l66 y66 z66
              obtain ⟨rfl, N66q, eh66⟩ := hQ66
              have N66 := Fr.app N54 N66q
              refine Goes.go st66 ?_
              show Goes p e below _ T66 (mkF m 168 #[.val (.long x0), .second, .val (.long x1), .second, .val (.long x2), .second, .val (.long x3), .second, .val (.long x4), .second, .val (.long x5), .second, .val (.long ga1), .second, .val (.long se1), .second, .val (.long (se1 + ga1)), .second, .val (.long ga2), .second, .val (.long se2), .second, .val (.long (se2 + ga2)), .second, .val (.ref b4), .val (.int (1 : Int32)), .unset] [(.long (se2 + (((se2 + ga2) - se2) / (2 : Int64)))), (.long x4), (.ref ez)])
              obtain ⟨_, _, ⟨T67, L67, k67, n67⟩, -, X67, ⟨Lc67, hQ67, l67, y67, z67⟩, st67⟩ := Jvm.LawKit.callS X66 hx (y := (⟨"com/example/tallywire/tallywire/logs/CalibrationCycleAddPinLaw", "matches", "(Ljava/util/OptionalLong;JJ)Z"⟩ : MethodName)) ho54 (mvT hZ54 (hw _ (List.mem_of_getElem? (i := 54) rfl))) (mvT hZ54 (hw _ (List.mem_of_getElem? (i := 55) rfl))) (mvT hZ54 (hw _ (List.mem_of_getElem? (i := 52) rfl))) (mvT hZ54 (hw _ (List.mem_of_getElem? (i := 56) rfl))) (by decide) (backOf (W := 0) (rmmatN l Z a0 hw [] ez x4 (se2 + (((se2 + ga2) - se2) / (2 : Int64))) T54.heap n0 Z54 ov2 f59 f60) hZ54 (hw _ (List.mem_of_getElem? (i := 56) rfl)) (hw _ (List.mem_of_getElem? (i := 52) rfl)) (by decide) (by decide)) (g := (mkF m 168 #[.val (.long x0), .second, .val (.long x1), .second, .val (.long x2), .second, .val (.long x3), .second, .val (.long x4), .second, .val (.long x5), .second, .val (.long ga1), .second, .val (.long se1), .second, .val (.long (se1 + ga1)), .second, .val (.long ga2), .second, .val (.long se2), .second, .val (.long (se2 + ga2)), .second, .val (.ref b4), .val (.int (1 : Int32)), .unset] [(.long (se2 + (((se2 + ga2) - se2) / (2 : Int64)))), (.long x4), (.ref ez)])) rfl (by rw [hml]; rfl) (argsL := [(.ref ez), (.long x4), (.long (se2 + (((se2 + ga2) - se2) / (2 : Int64))))]) (rest := []) (lenOf own_pd9 rfl) rfl (by show 2 * 0 + _ ≤ _; exact Nat.le_of_eq rfl) (hb hby at_168) (fun _ _ => ⟨rfl, eh66, (by decide : 9 + 0 ≤ _), (by decide : 5632 + 0 ≤ _)⟩)
              dsimp only [Pt.U, Pt.locs, Pt.cells, Pt.slots] at X67 l67 y67 z67 st67 hQ67
              subst l67 y67 z67
              obtain ⟨rfl, N67q, eh67⟩ := hQ67
              have N67 := Fr.app N66 N67q
              refine Goes.go st67 ?_
              show Goes p e below _ T67 (mkF m 171 #[.val (.long x0), .second, .val (.long x1), .second, .val (.long x2), .second, .val (.long x3), .second, .val (.long x4), .second, .val (.long x5), .second, .val (.long ga1), .second, .val (.long se1), .second, .val (.long (se1 + ga1)), .second, .val (.long ga2), .second, .val (.long se2), .second, .val (.long (se2 + ga2)), .second, .val (.ref b4), .val (.int (1 : Int32)), .unset] [(.int (1 : Int32))])
              refine own_istore X67 hx 173 rfl #[.val (.long x0), .second, .val (.long x1), .second, .val (.long x2), .second, .val (.long x3), .second, .val (.long x4), .second, .val (.long x5), .second, .val (.long ga1), .second, .val (.long se1), .second, .val (.long (se1 + ga1)), .second, .val (.long ga2), .second, .val (.long se2), .second, .val (.long (se2 + ga2)), .second, .val (.ref b4), .val (.int (1 : Int32)), .val (.int (1 : Int32))] (hb hby at_171) rfl ?_
              refine own_goto X67 hx 194 (hb hby at_173) (by decide) (by decide) ?_
              refine own_iload X67 hx 196 rfl (hb hby at_194) rfl ?_
              refine own_ifN X67 hx 199 (hb hby at_196) ((if0 _ _).trans (feq ((by decide) : ¬ ((1 : Int32) = (0 : Int32)))).1) rfl ?_
              refine own_iload X67 hx 201 rfl (hb hby at_199) rfl ?_
              refine own_ifN X67 hx 204 (hb hby at_201) ((if0 _ _).trans (feq ((by decide) : ¬ ((1 : Int32) = (0 : Int32)))).1) rfl ?_
              refine own_aload X67 hx 206 rfl (hb hby at_204) rfl rfl ?_
              obtain ⟨cq68, kq68, q68a, q68b, q68c⟩ := isOf hZ54 eh67 f61
              obtain ⟨_, _, ⟨T68, L68, k68, n68⟩, -, X68, ⟨Lc68, hQ68, l68, y68, z68⟩, st68⟩ := X67.virtualBack hx (y := (⟨"com/example/tallywire/tallywire/logs/CalibrationCycle", "isComplete", "()Z"⟩ : MethodName)) (z := (⟨"com/example/tallywire/tallywire/logs/CalibrationCycle", "isComplete", "()Z"⟩ : MethodName)) ho54 (mvT hZ54 (hw _ (List.mem_of_getElem? (i := 67) rfl))) (mvT hZ54 (hw _ (List.mem_of_getElem? (i := 68) rfl))) (notFace_of_selects (args := #[]) (mvT hZ54 (hw _ (List.mem_of_getElem? (i := 70) rfl)))) (mvT hZ54 (hw _ (List.mem_of_getElem? (i := 70) rfl))) (mvT hZ54 (hw _ (List.mem_of_getElem? (i := 69) rfl))) (by decide) (backOf (W := 0) (rm12 l Z a0 hw [] b4 (((0 : Int32) + (1 : Int32)) + (1 : Int32)) T54.heap n0 Z54 f63 (by decide)) hZ54 (hw _ (List.mem_of_getElem? (i := 71) rfl)) (hw _ (List.mem_of_getElem? (i := 4) rfl)) (by decide) (by decide)) q68a q68c (g := (mkF m 206 #[.val (.long x0), .second, .val (.long x1), .second, .val (.long x2), .second, .val (.long x3), .second, .val (.long x4), .second, .val (.long x5), .second, .val (.long ga1), .second, .val (.long se1), .second, .val (.long (se1 + ga1)), .second, .val (.long ga2), .second, .val (.long se2), .second, .val (.long (se2 + ga2)), .second, .val (.ref b4), .val (.int (1 : Int32)), .val (.int (1 : Int32))] [(.ref b4)])) rfl (by rw [hml]; rfl) (Steps.refl _) (argsL := []) (rest := []) (lenOf own_pd5 rfl) rfl (by show 2 * 0 + _ ≤ _; exact Nat.le_of_eq rfl) (hb hby at_206) (fun _ _ => ⟨rfl, eh67, (by decide : 9 + 0 ≤ _), (by decide : 5632 + 0 ≤ _)⟩)
              dsimp only [Pt.U, Pt.locs, Pt.cells, Pt.slots] at X68 l68 y68 z68 st68 hQ68
              subst l68 y68 z68
              obtain ⟨rfl, N68q, eh68⟩ := hQ68
              have N68 := Fr.app N67 N68q
              refine Goes.tr st68 ?_
              show Goes p e below _ T68 (mkF m 209 #[.val (.long x0), .second, .val (.long x1), .second, .val (.long x2), .second, .val (.long x3), .second, .val (.long x4), .second, .val (.long x5), .second, .val (.long ga1), .second, .val (.long se1), .second, .val (.long (se1 + ga1)), .second, .val (.long ga2), .second, .val (.long se2), .second, .val (.long (se2 + ga2)), .second, .val (.ref b4), .val (.int (1 : Int32)), .val (.int (1 : Int32))] [(.int (0 : Int32))])
              refine own_ifN X68 hx 212 (hb hby at_209) ((if0 _ _).trans (teq ((by decide) : (0 : Int32) = (0 : Int32))).2) rfl ?_
              refine own_iconst X68 hx 213 rfl (1 : Int32) (hb hby at_212) (by decide) ?_
              refine own_goto X68 hx 217 (hb hby at_213) (by decide) (by decide) ?_
              refine own_retWZ X68 hx hS54 hlk Bd.returns (by decide) (hb hby at_217) (by decide) (by decide) eh68 (Nat.le_refl T54.heap.size) ?_
              exact ⟨rfl, N68⟩
            · obtain ⟨cq69, kq69, q69a, q69b, q69c⟩ := isOf hZ32 rfl f53
              obtain ⟨_, _, ⟨T69, L69, k69, n69⟩, -, X69, Sx69, gr69, ⟨Lc69, hQ69, l69, y69, z69⟩, st69⟩ := X46.virtualBackS hx (y := (⟨"com/example/tallywire/tallywire/logs/CalibrationCycle", "offset", "()Ljava/util/OptionalLong;"⟩ : MethodName)) (z := (⟨"com/example/tallywire/tallywire/logs/CalibrationCycle", "offset", "()Ljava/util/OptionalLong;"⟩ : MethodName)) ho32 (mvT hZ32 (hw _ (List.mem_of_getElem? (i := 26) rfl))) (mvT hZ32 (hw _ (List.mem_of_getElem? (i := 27) rfl))) (notFace_of_selects (args := #[]) (mvT hZ32 (hw _ (List.mem_of_getElem? (i := 29) rfl)))) (mvT hZ32 (hw _ (List.mem_of_getElem? (i := 29) rfl))) (mvT hZ32 (hw _ (List.mem_of_getElem? (i := 28) rfl))) (by decide) (own_backSW (W := 0) (rmoffO l Z a0 hw [] b4 (se2 + (((se2 + ga2) - se2) / (2 : Int64))) x4 T46.heap n0 Z46 f46_2 f46_3 ov2) hZ32 (hw _ (List.mem_of_getElem? (i := 30) rfl)) (hw _ (List.mem_of_getElem? (i := 4) rfl)) (by decide) (by decide) (Vm.MethodsKnown.alikeC hS32.1.alike hTK) (Vm.FramesKnown.alikeC hS32.1.alike hBl)) q69a q69c (g := (mkF m 156 #[.val (.long x0), .second, .val (.long x1), .second, .val (.long x2), .second, .val (.long x3), .second, .val (.long x4), .second, .val (.long x5), .second, .val (.long ga1), .second, .val (.long se1), .second, .val (.long (se1 + ga1)), .second, .val (.long ga2), .second, .val (.long se2), .second, .val (.long (se2 + ga2)), .second, .val (.ref b4), .val (.int (1 : Int32)), .unset] [(.ref b4)])) rfl (by rw [hml]; rfl) (Steps.refl _) (argsL := []) (rest := []) (lenOf own_pd4 rfl) rfl (by show 2 * 0 + _ ≤ _; exact Nat.le_of_eq rfl) (hb hby at_156) (fun _ _ => ⟨rfl, rfl, (by decide : 5 + 1 ≤ _), (by decide : 2818 + 2 ≤ _)⟩)
              dsimp only [Pt.U, Pt.locs, Pt.cells, Pt.slots] at X69 l69 y69 z69 st69 hQ69 Sx69 gr69
              subst l69 y69 z69
              obtain ⟨Y69, hS69, hZ69, ho69⟩ := rebS hS32 (Nat.le_trans hk46 (Nat.le_of_eq (congrArg Array.size (Eq.symm rfl)))) X69 Sx69 gr69 hZ32 ho32
              obtain ⟨ob_69, rfl, N69q, K69q, f69_0, f69_1, f69_2, f69_3⟩ := hQ69
              have N69 := Fr.app N46 N69q
              have ne70 : ez ≠ ob_69 := Nat.ne_of_lt (Nat.lt_of_lt_of_le f51.lt f69_0)
              have ne71 : b4 ≠ ob_69 := Nat.ne_of_lt (Nat.lt_of_lt_of_le f53.lt f69_0)
              have GG72 : n0 ≤ ob_69 := Nat.le_trans Z46 f69_0
              have HG72 : h0.size ≤ ob_69 := Nat.le_trans K46.1 f69_0
              have f73 := f47.keep K69q all0
              have f74 := own_sta_keep f48 K69q all0
              have f75 := own_sta_keep f49 K69q all0
              have f76 := own_sta_keep f50 K69q all0
              have f77 := f51.keep K69q
              have f78 := f52.keep K69q nin0
              have f79 := f53.keep K69q
              have f80 := f46_0.keep K69q nin0
              have f81 := f46_1.keep K69q nin0
              have f82 := f46_2.keep K69q nin0
              have f83 := f46_3.keep K69q nin0
              have K69 := K46.trans K69q all0
              have Z69 := Nat.le_trans Z46 K69q.1
              refine Goes.tr st69 ?_
              show Goes p e below _ T69 (mkF m 159 #[.val (.long x0), .second, .val (.long x1), .second, .val (.long x2), .second, .val (.long x3), .second, .val (.long x4), .second, .val (.long x5), .second, .val (.long ga1), .second, .val (.long se1), .second, .val (.long (se1 + ga1)), .second, .val (.long ga2), .second, .val (.long se2), .second, .val (.long (se2 + ga2)), .second, .val (.ref b4), .val (.int (1 : Int32)), .unset] [(.ref ob_69)])
              refine own_lload Y69 hx 161 rfl (hb hby at_159) rfl ?_
              refine own_lload Y69 hx 163 rfl (hb hby at_161) rfl ?_
              refine own_lload Y69 hx 165 rfl (hb hby at_163) rfl ?_
              obtain ⟨_, _, ⟨T84, L84, k84, n84⟩, -, X84, ⟨Lc84, hQ84, l84, y84, z84⟩, st84⟩ := Jvm.LawKit.callS Y69 hx (y := (⟨"com/example/tallywire/tallywire/logs/CalibrationCycleAddPinLaw", "midpoint", "(JJ)J"⟩ : MethodName)) ho69 (mvT hZ69 (hw _ (List.mem_of_getElem? (i := 50) rfl))) (mvT hZ69 (hw _ (List.mem_of_getElem? (i := 51) rfl))) (mvT hZ69 (hw _ (List.mem_of_getElem? (i := 52) rfl))) (mvT hZ69 (hw _ (List.mem_of_getElem? (i := 53) rfl))) (by decide) (backOf (W := 3) (rm8 l Z a0 hw [] se2 (se2 + ga2) (se2 + (((se2 + ga2) - se2) / (2 : Int64))) T69.heap n0 Z69 (own_mid hs2)) hZ69 (hw _ (List.mem_of_getElem? (i := 53) rfl)) (hw _ (List.mem_of_getElem? (i := 52) rfl)) (by decide) (by decide)) (g := (mkF m 165 #[.val (.long x0), .second, .val (.long x1), .second, .val (.long x2), .second, .val (.long x3), .second, .val (.long x4), .second, .val (.long x5), .second, .val (.long ga1), .second, .val (.long se1), .second, .val (.long (se1 + ga1)), .second, .val (.long ga2), .second, .val (.long se2), .second, .val (.long (se2 + ga2)), .second, .val (.ref b4), .val (.int (1 : Int32)), .unset] [(.long (se2 + ga2)), (.long se2), (.long x4), (.ref ob_69)])) rfl (by rw [hml]; rfl) (argsL := [(.long se2), (.long (se2 + ga2))]) (rest := [(.long x4), (.ref ob_69)]) (lenOf own_pd2 rfl) rfl (by show 2 * 0 + _ ≤ _; exact Nat.le_of_eq rfl) (hb hby at_165) (fun _ _ => ⟨rfl, rfl, (by decide : 6 + 0 ≤ _), (by decide : 2820 + 0 ≤ _)⟩)
              dsimp only [Pt.U, Pt.locs, Pt.cells, Pt.slots] at X84 l84 y84 z84 st84 hQ84
              subst l84 y84 z84
              obtain ⟨rfl, N84q, eh84⟩ := hQ84
              have N84 := Fr.app N69 N84q
              refine Goes.go st84 ?_
              show Goes p e below _ T84 (mkF m 168 #[.val (.long x0), .second, .val (.long x1), .second, .val (.long x2), .second, .val (.long x3), .second, .val (.long x4), .second, .val (.long x5), .second, .val (.long ga1), .second, .val (.long se1), .second, .val (.long (se1 + ga1)), .second, .val (.long ga2), .second, .val (.long se2), .second, .val (.long (se2 + ga2)), .second, .val (.ref b4), .val (.int (1 : Int32)), .unset] [(.long (se2 + (((se2 + ga2) - se2) / (2 : Int64)))), (.long x4), (.ref ob_69)])
              obtain ⟨_, _, ⟨T85, L85, k85, n85⟩, -, X85, ⟨Lc85, hQ85, l85, y85, z85⟩, st85⟩ := Jvm.LawKit.callS X84 hx (y := (⟨"com/example/tallywire/tallywire/logs/CalibrationCycleAddPinLaw", "matches", "(Ljava/util/OptionalLong;JJ)Z"⟩ : MethodName)) ho69 (mvT hZ69 (hw _ (List.mem_of_getElem? (i := 54) rfl))) (mvT hZ69 (hw _ (List.mem_of_getElem? (i := 55) rfl))) (mvT hZ69 (hw _ (List.mem_of_getElem? (i := 52) rfl))) (mvT hZ69 (hw _ (List.mem_of_getElem? (i := 56) rfl))) (by decide) (backOf (W := 0) (rmmatP l Z a0 hw [] ob_69 x4 (se2 + (((se2 + ga2) - se2) / (2 : Int64))) T69.heap n0 Z69 ov2 f69_1 f69_2 f69_3) hZ69 (hw _ (List.mem_of_getElem? (i := 56) rfl)) (hw _ (List.mem_of_getElem? (i := 52) rfl)) (by decide) (by decide)) (g := (mkF m 168 #[.val (.long x0), .second, .val (.long x1), .second, .val (.long x2), .second, .val (.long x3), .second, .val (.long x4), .second, .val (.long x5), .second, .val (.long ga1), .second, .val (.long se1), .second, .val (.long (se1 + ga1)), .second, .val (.long ga2), .second, .val (.long se2), .second, .val (.long (se2 + ga2)), .second, .val (.ref b4), .val (.int (1 : Int32)), .unset] [(.long (se2 + (((se2 + ga2) - se2) / (2 : Int64)))), (.long x4), (.ref ob_69)])) rfl (by rw [hml]; rfl) (argsL := [(.ref ob_69), (.long x4), (.long (se2 + (((se2 + ga2) - se2) / (2 : Int64))))]) (rest := []) (lenOf own_pd9 rfl) rfl (by show 2 * 0 + _ ≤ _; exact Nat.le_of_eq rfl) (hb hby at_168) (fun _ _ => ⟨rfl, eh84, (by decide : 6 + 0 ≤ _), (by decide : 2820 + 0 ≤ _)⟩)
              dsimp only [Pt.U, Pt.locs, Pt.cells, Pt.slots] at X85 l85 y85 z85 st85 hQ85
              subst l85 y85 z85
              obtain ⟨rfl, N85q, eh85⟩ := hQ85
              have N85 := Fr.app N84 N85q
              refine Goes.go st85 ?_
              show Goes p e below _ T85 (mkF m 171 #[.val (.long x0), .second, .val (.long x1), .second, .val (.long x2), .second, .val (.long x3), .second, .val (.long x4), .second, .val (.long x5), .second, .val (.long ga1), .second, .val (.long se1), .second, .val (.long (se1 + ga1)), .second, .val (.long ga2), .second, .val (.long se2), .second, .val (.long (se2 + ga2)), .second, .val (.ref b4), .val (.int (1 : Int32)), .unset] [(.int (1 : Int32))])
              refine own_istore X85 hx 173 rfl #[.val (.long x0), .second, .val (.long x1), .second, .val (.long x2), .second, .val (.long x3), .second, .val (.long x4), .second, .val (.long x5), .second, .val (.long ga1), .second, .val (.long se1), .second, .val (.long (se1 + ga1)), .second, .val (.long ga2), .second, .val (.long se2), .second, .val (.long (se2 + ga2)), .second, .val (.ref b4), .val (.int (1 : Int32)), .val (.int (1 : Int32))] (hb hby at_171) rfl ?_
              refine own_goto X85 hx 194 (hb hby at_173) (by decide) (by decide) ?_
              refine own_iload X85 hx 196 rfl (hb hby at_194) rfl ?_
              refine own_ifN X85 hx 199 (hb hby at_196) ((if0 _ _).trans (feq ((by decide) : ¬ ((1 : Int32) = (0 : Int32)))).1) rfl ?_
              refine own_iload X85 hx 201 rfl (hb hby at_199) rfl ?_
              refine own_ifN X85 hx 204 (hb hby at_201) ((if0 _ _).trans (feq ((by decide) : ¬ ((1 : Int32) = (0 : Int32)))).1) rfl ?_
              refine own_aload X85 hx 206 rfl (hb hby at_204) rfl rfl ?_
              obtain ⟨cq86, kq86, q86a, q86b, q86c⟩ := isOf hZ69 eh85 f79
              obtain ⟨_, _, ⟨T86, L86, k86, n86⟩, -, X86, ⟨Lc86, hQ86, l86, y86, z86⟩, st86⟩ := X85.virtualBack hx (y := (⟨"com/example/tallywire/tallywire/logs/CalibrationCycle", "isComplete", "()Z"⟩ : MethodName)) (z := (⟨"com/example/tallywire/tallywire/logs/CalibrationCycle", "isComplete", "()Z"⟩ : MethodName)) ho69 (mvT hZ69 (hw _ (List.mem_of_getElem? (i := 67) rfl))) (mvT hZ69 (hw _ (List.mem_of_getElem? (i := 68) rfl))) (notFace_of_selects (args := #[]) (mvT hZ69 (hw _ (List.mem_of_getElem? (i := 70) rfl)))) (mvT hZ69 (hw _ (List.mem_of_getElem? (i := 70) rfl))) (mvT hZ69 (hw _ (List.mem_of_getElem? (i := 69) rfl))) (by decide) (backOf (W := 0) (rm12 l Z a0 hw [] b4 (((0 : Int32) + (1 : Int32)) + (1 : Int32)) T69.heap n0 Z69 f81 (by decide)) hZ69 (hw _ (List.mem_of_getElem? (i := 71) rfl)) (hw _ (List.mem_of_getElem? (i := 4) rfl)) (by decide) (by decide)) q86a q86c (g := (mkF m 206 #[.val (.long x0), .second, .val (.long x1), .second, .val (.long x2), .second, .val (.long x3), .second, .val (.long x4), .second, .val (.long x5), .second, .val (.long ga1), .second, .val (.long se1), .second, .val (.long (se1 + ga1)), .second, .val (.long ga2), .second, .val (.long se2), .second, .val (.long (se2 + ga2)), .second, .val (.ref b4), .val (.int (1 : Int32)), .val (.int (1 : Int32))] [(.ref b4)])) rfl (by rw [hml]; rfl) (Steps.refl _) (argsL := []) (rest := []) (lenOf own_pd5 rfl) rfl (by show 2 * 0 + _ ≤ _; exact Nat.le_of_eq rfl) (hb hby at_206) (fun _ _ => ⟨rfl, eh85, (by decide : 6 + 0 ≤ _), (by decide : 2820 + 0 ≤ _)⟩)
              dsimp only [Pt.U, Pt.locs, Pt.cells, Pt.slots] at X86 l86 y86 z86 st86 hQ86
              subst l86 y86 z86
              obtain ⟨rfl, N86q, eh86⟩ := hQ86
              have N86 := Fr.app N85 N86q
              refine Goes.tr st86 ?_
              show Goes p e below _ T86 (mkF m 209 #[.val (.long x0), .second, .val (.long x1), .second, .val (.long x2), .second, .val (.long x3), .second, .val (.long x4), .second, .val (.long x5), .second, .val (.long ga1), .second, .val (.long se1), .second, .val (.long (se1 + ga1)), .second, .val (.long ga2), .second, .val (.long se2), .second, .val (.long (se2 + ga2)), .second, .val (.ref b4), .val (.int (1 : Int32)), .val (.int (1 : Int32))] [(.int (0 : Int32))])
              refine own_ifN X86 hx 212 (hb hby at_209) ((if0 _ _).trans (teq ((by decide) : (0 : Int32) = (0 : Int32))).2) rfl ?_
              refine own_iconst X86 hx 213 rfl (1 : Int32) (hb hby at_212) (by decide) ?_
              refine own_goto X86 hx 217 (hb hby at_213) (by decide) (by decide) ?_
              refine own_retWZ X86 hx hS69 hlk Bd.returns (by decide) (hb hby at_217) (by decide) (by decide) eh86 (Nat.le_refl T69.heap.size) ?_
              exact ⟨rfl, N86⟩
          · obtain ⟨cq87, kq87, q87a, q87b, q87c⟩ := isOf hZ32 eh45 f39
            obtain ⟨_, _, ⟨T87, L87, k87, n87⟩, -, X87, ⟨Lc87, hQ87, l87, y87, z87⟩, st87⟩ := X45.virtualBack hx (y := (⟨"com/example/tallywire/tallywire/logs/CalibrationCycle", "add", "(JJJ)V"⟩ : MethodName)) (z := (⟨"com/example/tallywire/tallywire/logs/CalibrationCycle", "add", "(JJJ)V"⟩ : MethodName)) ho32 (mvT hZ32 (hw _ (List.mem_of_getElem? (i := 14) rfl))) (mvT hZ32 (hw _ (List.mem_of_getElem? (i := 15) rfl))) (notFace_of_selects (args := #[]) (mvT hZ32 (hw _ (List.mem_of_getElem? (i := 17) rfl)))) (mvT hZ32 (hw _ (List.mem_of_getElem? (i := 17) rfl))) (mvT hZ32 (hw _ (List.mem_of_getElem? (i := 16) rfl))) (by decide) (backOf (W := 0) (rmaddF l Z a0 hw [] b4 se2 x4 (se2 + ga2) ((0 : Int32) + (1 : Int32)) ((se1 + ga1) - se1) (se1 + (((se1 + ga1) - se1) / (2 : Int64))) x1 T32.heap n0 Z32 f39 G4 f40 f41 f42 f43 hb2) hZ32 (hw _ (List.mem_of_getElem? (i := 18) rfl)) (hw _ (List.mem_of_getElem? (i := 4) rfl)) (by decide) (by decide)) q87a q87c (g := (mkF m 143 #[.val (.long x0), .second, .val (.long x1), .second, .val (.long x2), .second, .val (.long x3), .second, .val (.long x4), .second, .val (.long x5), .second, .val (.long ga1), .second, .val (.long se1), .second, .val (.long (se1 + ga1)), .second, .val (.long ga2), .second, .val (.long se2), .second, .val (.long (se2 + ga2)), .second, .val (.ref b4), .val (.int (1 : Int32)), .unset] [(.long (se2 + ga2)), (.long x4), (.long se2), (.ref b4)])) rfl (by rw [hml]; rfl) (Steps.refl _) (argsL := [(.long se2), (.long x4), (.long (se2 + ga2))]) (rest := []) (lenOf own_pd8 rfl) rfl (by show 2 * 0 + _ ≤ _; exact Nat.le_of_eq rfl) (hb hby at_143) (fun _ _ => ⟨rfl, eh45, (by decide : 5 + 0 ≤ _), (by decide : 2818 + 0 ≤ _)⟩)
            dsimp only [Pt.U, Pt.locs, Pt.cells, Pt.slots] at X87 l87 y87 z87 st87 hQ87
            subst l87 y87 z87
            obtain ⟨rfl, N87q, K87q, f87_0, f87_1, f87_2, f87_3⟩ := hQ87
            have N87 := Fr.app N45 N87q
            have f88 := f33.keep K87q (allS G4 all0)
            have f89 := own_sta_keep f34 K87q (allS (own_eplain f39) all0)
            have f90 := own_sta_keep f35 K87q (allS (own_eplain f39) all0)
            have f91 := own_sta_keep f36 K87q (allS (own_eplain f39) all0)
            have f92 := f37.keep K87q
            have f93 := f38.keep K87q (ninS ne5 nin0)
            have f94 := f39.keep K87q
            have K87 := K32.trans K87q (allS (Or.inr H4) all0)
            have Z87 := Nat.le_trans Z32 K87q.1
            have hk87 := Nat.le_trans (Nat.le_refl T32.heap.size) K87q.1
            refine Goes.tr st87 ?_
            show Goes p e below _ T87 (mkF m 146 #[.val (.long x0), .second, .val (.long x1), .second, .val (.long x2), .second, .val (.long x3), .second, .val (.long x4), .second, .val (.long x5), .second, .val (.long ga1), .second, .val (.long se1), .second, .val (.long (se1 + ga1)), .second, .val (.long ga2), .second, .val (.long se2), .second, .val (.long (se2 + ga2)), .second, .val (.ref b4), .val (.int (1 : Int32)), .unset] [])
            refine own_lload X87 hx 148 rfl (hb hby at_146) rfl ?_
            refine own_lload X87 hx 150 rfl (hb hby at_148) rfl ?_
            refine own_lcmp X87 hx 151 rfl (hb hby at_150) ?_
            refine own_ifY X87 hx 176 (hb hby at_151) (Lflt (fun q => hb2 ((own_cmp hs1 hs2).mpr q) : ¬ (ga2 < ga1))).2.1 (by decide) (by decide) ?_
            refine own_aload X87 hx 178 rfl (hb hby at_176) rfl rfl ?_
            obtain ⟨cq95, kq95, q95a, q95b, q95c⟩ := isOf hZ32 rfl f94
            obtain ⟨_, _, ⟨T95, L95, k95, n95⟩, -, X95, Sx95, gr95, ⟨Lc95, hQ95, l95, y95, z95⟩, st95⟩ := X87.virtualBackS hx (y := (⟨"com/example/tallywire/tallywire/logs/CalibrationCycle", "offset", "()Ljava/util/OptionalLong;"⟩ : MethodName)) (z := (⟨"com/example/tallywire/tallywire/logs/CalibrationCycle", "offset", "()Ljava/util/OptionalLong;"⟩ : MethodName)) ho32 (mvT hZ32 (hw _ (List.mem_of_getElem? (i := 26) rfl))) (mvT hZ32 (hw _ (List.mem_of_getElem? (i := 27) rfl))) (notFace_of_selects (args := #[]) (mvT hZ32 (hw _ (List.mem_of_getElem? (i := 29) rfl)))) (mvT hZ32 (hw _ (List.mem_of_getElem? (i := 29) rfl))) (mvT hZ32 (hw _ (List.mem_of_getElem? (i := 28) rfl))) (by decide) (own_backSW (W := 0) (rmoffV l Z a0 hw [] b4 (se1 + (((se1 + ga1) - se1) / (2 : Int64))) x1 ez us ss T87.heap n0 Z87 f87_2 f87_3 ov1 f88 f91 f89 hus f90 hss hfl) hZ32 (hw _ (List.mem_of_getElem? (i := 30) rfl)) (hw _ (List.mem_of_getElem? (i := 4) rfl)) (by decide) (by decide) (Vm.MethodsKnown.alikeC hS32.1.alike hTK) (Vm.FramesKnown.alikeC hS32.1.alike hBl)) q95a q95c (g := (mkF m 178 #[.val (.long x0), .second, .val (.long x1), .second, .val (.long x2), .second, .val (.long x3), .second, .val (.long x4), .second, .val (.long x5), .second, .val (.long ga1), .second, .val (.long se1), .second, .val (.long (se1 + ga1)), .second, .val (.long ga2), .second, .val (.long se2), .second, .val (.long (se2 + ga2)), .second, .val (.ref b4), .val (.int (1 : Int32)), .unset] [(.ref b4)])) rfl (by rw [hml]; rfl) (Steps.refl _) (argsL := []) (rest := []) (lenOf own_pd4 rfl) rfl (by show 2 * 0 + _ ≤ _; exact Nat.le_of_eq rfl) (hb hby at_178) (fun _ _ => ⟨rfl, rfl, (by decide : 5 + 4 ≤ _), (by decide : 2818 + 2814 ≤ _)⟩)
            dsimp only [Pt.U, Pt.locs, Pt.cells, Pt.slots] at X95 l95 y95 z95 st95 hQ95 Sx95 gr95
            subst l95 y95 z95
            obtain ⟨Y95, hS95, hZ95, ho95⟩ := rebS hS32 (Nat.le_trans hk87 (Nat.le_of_eq (congrArg Array.size (Eq.symm rfl)))) X95 Sx95 gr95 hZ32 ho32
            obtain ⟨rfl, N95q, K95q⟩ := hQ95
            have N95 := Fr.app N87 N95q
            have f96 := f88.keep K95q all0
            have f97 := own_sta_keep f89 K95q all0
            have f98 := own_sta_keep f90 K95q all0
            have f99 := own_sta_keep f91 K95q all0
            have f100 := f92.keep K95q
            have f101 := f93.keep K95q nin0
            have f102 := f94.keep K95q
            have f103 := f87_0.keep K95q nin0
            have f104 := f87_1.keep K95q nin0
            have f105 := f87_2.keep K95q nin0
            have f106 := f87_3.keep K95q nin0
            have K95 := K87.trans K95q all0
            have Z95 := Nat.le_trans Z87 K95q.1
            refine Goes.tr st95 ?_
            show Goes p e below _ T95 (mkF m 181 #[.val (.long x0), .second, .val (.long x1), .second, .val (.long x2), .second, .val (.long x3), .second, .val (.long x4), .second, .val (.long x5), .second, .val (.long ga1), .second, .val (.long se1), .second, .val (.long (se1 + ga1)), .second, .val (.long ga2), .second, .val (.long se2), .second, .val (.long (se2 + ga2)), .second, .val (.ref b4), .val (.int (1 : Int32)), .unset] [(.ref ez)])
            refine own_lloadN Y95 hx 182 rfl (hb hby at_181) rfl ?_
            refine own_lload Y95 hx 184 rfl (hb hby at_182) rfl ?_
            refine own_lload Y95 hx 186 rfl (hb hby at_184) rfl ?_
            obtain ⟨_, _, ⟨T107, L107, k107, n107⟩, -, X107, ⟨Lc107, hQ107, l107, y107, z107⟩, st107⟩ := Jvm.LawKit.callS Y95 hx (y := (⟨"com/example/tallywire/tallywire/logs/CalibrationCycleAddPinLaw", "midpoint", "(JJ)J"⟩ : MethodName)) ho95 (mvT hZ95 (hw _ (List.mem_of_getElem? (i := 50) rfl))) (mvT hZ95 (hw _ (List.mem_of_getElem? (i := 51) rfl))) (mvT hZ95 (hw _ (List.mem_of_getElem? (i := 52) rfl))) (mvT hZ95 (hw _ (List.mem_of_getElem? (i := 53) rfl))) (by decide) (backOf (W := 3) (rm8 l Z a0 hw [] se1 (se1 + ga1) (se1 + (((se1 + ga1) - se1) / (2 : Int64))) T95.heap n0 Z95 (own_mid hs1)) hZ95 (hw _ (List.mem_of_getElem? (i := 53) rfl)) (hw _ (List.mem_of_getElem? (i := 52) rfl)) (by decide) (by decide)) (g := (mkF m 186 #[.val (.long x0), .second, .val (.long x1), .second, .val (.long x2), .second, .val (.long x3), .second, .val (.long x4), .second, .val (.long x5), .second, .val (.long ga1), .second, .val (.long se1), .second, .val (.long (se1 + ga1)), .second, .val (.long ga2), .second, .val (.long se2), .second, .val (.long (se2 + ga2)), .second, .val (.ref b4), .val (.int (1 : Int32)), .unset] [(.long (se1 + ga1)), (.long se1), (.long x1), (.ref ez)])) rfl (by rw [hml]; rfl) (argsL := [(.long se1), (.long (se1 + ga1))]) (rest := [(.long x1), (.ref ez)]) (lenOf own_pd2 rfl) rfl (by show 2 * 0 + _ ≤ _; exact Nat.le_of_eq rfl) (hb hby at_186) (fun _ _ => ⟨rfl, rfl, (by decide : 9 + 0 ≤ _), (by decide : 5632 + 0 ≤ _)⟩)
            dsimp only [Pt.U, Pt.locs, Pt.cells, Pt.slots] at X107 l107 y107 z107 st107 hQ107
            subst l107 y107 z107
            obtain ⟨rfl, N107q, eh107⟩ := hQ107
            have N107 := Fr.app N95 N107q
            refine Goes.go st107 ?_
            show Goes p e below _ T107 (mkF m 189 #[.val (.long x0), .second, .val (.long x1), .second, .val (.long x2), .second, .val (.long x3), .second, .val (.long x4), .second, .val (.long x5), .second, .val (.long ga1), .second, .val (.long se1), .second, .val (.long (se1 + ga1)), .second, .val (.long ga2), .second, .val (.long se2), .second, .val (.long (se2 + ga2)), .second, .val (.ref b4), .val (.int (1 : Int32)), .unset] [(.long (se1 + (((se1 + ga1) - se1) / (2 : Int64)))), (.long x1), (.ref ez)])
            obtain ⟨_, _, ⟨T108, L108, k108, n108⟩, -, X108, ⟨Lc108, hQ108, l108, y108, z108⟩, st108⟩ := Jvm.LawKit.callS X107 hx (y := (⟨"com/example/tallywire/tallywire/logs/CalibrationCycleAddPinLaw", "matches", "(Ljava/util/OptionalLong;JJ)Z"⟩ : MethodName)) ho95 (mvT hZ95 (hw _ (List.mem_of_getElem? (i := 54) rfl))) (mvT hZ95 (hw _ (List.mem_of_getElem? (i := 55) rfl))) (mvT hZ95 (hw _ (List.mem_of_getElem? (i := 52) rfl))) (mvT hZ95 (hw _ (List.mem_of_getElem? (i := 56) rfl))) (by decide) (backOf (W := 0) (rmmatN l Z a0 hw [] ez x1 (se1 + (((se1 + ga1) - se1) / (2 : Int64))) T95.heap n0 Z95 ov1 f100 f101) hZ95 (hw _ (List.mem_of_getElem? (i := 56) rfl)) (hw _ (List.mem_of_getElem? (i := 52) rfl)) (by decide) (by decide)) (g := (mkF m 189 #[.val (.long x0), .second, .val (.long x1), .second, .val (.long x2), .second, .val (.long x3), .second, .val (.long x4), .second, .val (.long x5), .second, .val (.long ga1), .second, .val (.long se1), .second, .val (.long (se1 + ga1)), .second, .val (.long ga2), .second, .val (.long se2), .second, .val (.long (se2 + ga2)), .second, .val (.ref b4), .val (.int (1 : Int32)), .unset] [(.long (se1 + (((se1 + ga1) - se1) / (2 : Int64)))), (.long x1), (.ref ez)])) rfl (by rw [hml]; rfl) (argsL := [(.ref ez), (.long x1), (.long (se1 + (((se1 + ga1) - se1) / (2 : Int64))))]) (rest := []) (lenOf own_pd9 rfl) rfl (by show 2 * 0 + _ ≤ _; exact Nat.le_of_eq rfl) (hb hby at_189) (fun _ _ => ⟨rfl, eh107, (by decide : 9 + 0 ≤ _), (by decide : 5632 + 0 ≤ _)⟩)
            dsimp only [Pt.U, Pt.locs, Pt.cells, Pt.slots] at X108 l108 y108 z108 st108 hQ108
            subst l108 y108 z108
            obtain ⟨rfl, N108q, eh108⟩ := hQ108
            have N108 := Fr.app N107 N108q
            refine Goes.go st108 ?_
            show Goes p e below _ T108 (mkF m 192 #[.val (.long x0), .second, .val (.long x1), .second, .val (.long x2), .second, .val (.long x3), .second, .val (.long x4), .second, .val (.long x5), .second, .val (.long ga1), .second, .val (.long se1), .second, .val (.long (se1 + ga1)), .second, .val (.long ga2), .second, .val (.long se2), .second, .val (.long (se2 + ga2)), .second, .val (.ref b4), .val (.int (1 : Int32)), .unset] [(.int (1 : Int32))])
            refine own_istore X108 hx 194 rfl #[.val (.long x0), .second, .val (.long x1), .second, .val (.long x2), .second, .val (.long x3), .second, .val (.long x4), .second, .val (.long x5), .second, .val (.long ga1), .second, .val (.long se1), .second, .val (.long (se1 + ga1)), .second, .val (.long ga2), .second, .val (.long se2), .second, .val (.long (se2 + ga2)), .second, .val (.ref b4), .val (.int (1 : Int32)), .val (.int (1 : Int32))] (hb hby at_192) rfl ?_
            refine own_iload X108 hx 196 rfl (hb hby at_194) rfl ?_
            refine own_ifN X108 hx 199 (hb hby at_196) ((if0 _ _).trans (feq ((by decide) : ¬ ((1 : Int32) = (0 : Int32)))).1) rfl ?_
            refine own_iload X108 hx 201 rfl (hb hby at_199) rfl ?_
            refine own_ifN X108 hx 204 (hb hby at_201) ((if0 _ _).trans (feq ((by decide) : ¬ ((1 : Int32) = (0 : Int32)))).1) rfl ?_
            refine own_aload X108 hx 206 rfl (hb hby at_204) rfl rfl ?_
            obtain ⟨cq109, kq109, q109a, q109b, q109c⟩ := isOf hZ95 eh108 f102
            obtain ⟨_, _, ⟨T109, L109, k109, n109⟩, -, X109, ⟨Lc109, hQ109, l109, y109, z109⟩, st109⟩ := X108.virtualBack hx (y := (⟨"com/example/tallywire/tallywire/logs/CalibrationCycle", "isComplete", "()Z"⟩ : MethodName)) (z := (⟨"com/example/tallywire/tallywire/logs/CalibrationCycle", "isComplete", "()Z"⟩ : MethodName)) ho95 (mvT hZ95 (hw _ (List.mem_of_getElem? (i := 67) rfl))) (mvT hZ95 (hw _ (List.mem_of_getElem? (i := 68) rfl))) (notFace_of_selects (args := #[]) (mvT hZ95 (hw _ (List.mem_of_getElem? (i := 70) rfl)))) (mvT hZ95 (hw _ (List.mem_of_getElem? (i := 70) rfl))) (mvT hZ95 (hw _ (List.mem_of_getElem? (i := 69) rfl))) (by decide) (backOf (W := 0) (rm12 l Z a0 hw [] b4 (((0 : Int32) + (1 : Int32)) + (1 : Int32)) T95.heap n0 Z95 f104 (by decide)) hZ95 (hw _ (List.mem_of_getElem? (i := 71) rfl)) (hw _ (List.mem_of_getElem? (i := 4) rfl)) (by decide) (by decide)) q109a q109c (g := (mkF m 206 #[.val (.long x0), .second, .val (.long x1), .second, .val (.long x2), .second, .val (.long x3), .second, .val (.long x4), .second, .val (.long x5), .second, .val (.long ga1), .second, .val (.long se1), .second, .val (.long (se1 + ga1)), .second, .val (.long ga2), .second, .val (.long se2), .second, .val (.long (se2 + ga2)), .second, .val (.ref b4), .val (.int (1 : Int32)), .val (.int (1 : Int32))] [(.ref b4)])) rfl (by rw [hml]; rfl) (Steps.refl _) (argsL := []) (rest := []) (lenOf own_pd5 rfl) rfl (by show 2 * 0 + _ ≤ _; exact Nat.le_of_eq rfl) (hb hby at_206) (fun _ _ => ⟨rfl, eh108, (by decide : 9 + 0 ≤ _), (by decide : 5632 + 0 ≤ _)⟩)
            dsimp only [Pt.U, Pt.locs, Pt.cells, Pt.slots] at X109 l109 y109 z109 st109 hQ109
            subst l109 y109 z109
            obtain ⟨rfl, N109q, eh109⟩ := hQ109
            have N109 := Fr.app N108 N109q
            refine Goes.tr st109 ?_
            show Goes p e below _ T109 (mkF m 209 #[.val (.long x0), .second, .val (.long x1), .second, .val (.long x2), .second, .val (.long x3), .second, .val (.long x4), .second, .val (.long x5), .second, .val (.long ga1), .second, .val (.long se1), .second, .val (.long (se1 + ga1)), .second, .val (.long ga2), .second, .val (.long se2), .second, .val (.long (se2 + ga2)), .second, .val (.ref b4), .val (.int (1 : Int32)), .val (.int (1 : Int32))] [(.int (0 : Int32))])
            refine own_ifN X109 hx 212 (hb hby at_209) ((if0 _ _).trans (teq ((by decide) : (0 : Int32) = (0 : Int32))).2) rfl ?_
            refine own_iconst X109 hx 213 rfl (1 : Int32) (hb hby at_212) (by decide) ?_
            refine own_goto X109 hx 217 (hb hby at_213) (by decide) (by decide) ?_
            refine own_retWZ X109 hx hS95 hlk Bd.returns (by decide) (hb hby at_217) (by decide) (by decide) eh109 (Nat.le_refl T95.heap.size) ?_
            exact ⟨rfl, N109⟩
        · obtain ⟨cq110, kq110, q110a, q110b, q110c⟩ := isOf hZ rfl f31
          obtain ⟨_, _, ⟨T110, L110, k110, n110⟩, -, X110, Sx110, gr110, ⟨Lc110, hQ110, l110, y110, z110⟩, st110⟩ := X24.virtualBackS hx (y := (⟨"com/example/tallywire/tallywire/logs/CalibrationCycle", "offset", "()Ljava/util/OptionalLong;"⟩ : MethodName)) (z := (⟨"com/example/tallywire/tallywire/logs/CalibrationCycle", "offset", "()Ljava/util/OptionalLong;"⟩ : MethodName)) hown (mvT hZ (hw _ (List.mem_of_getElem? (i := 26) rfl))) (mvT hZ (hw _ (List.mem_of_getElem? (i := 27) rfl))) (notFace_of_selects (args := #[]) (mvT hZ (hw _ (List.mem_of_getElem? (i := 29) rfl)))) (mvT hZ (hw _ (List.mem_of_getElem? (i := 29) rfl))) (mvT hZ (hw _ (List.mem_of_getElem? (i := 28) rfl))) (by decide) (own_backSW (W := 0) (rmoffO l Z a0 hw [] b4 (se1 + (((se1 + ga1) - se1) / (2 : Int64))) x1 T24.heap n0 Z24 f24_2 f24_3 ov1) hZ (hw _ (List.mem_of_getElem? (i := 30) rfl)) (hw _ (List.mem_of_getElem? (i := 4) rfl)) (by decide) (by decide) (Vm.MethodsKnown.alikeC hS0.1.alike hTK) (Vm.FramesKnown.alikeC hS0.1.alike hBl)) q110a q110c (g := (mkF m 119 #[.val (.long x0), .second, .val (.long x1), .second, .val (.long x2), .second, .val (.long x3), .second, .val (.long x4), .second, .val (.long x5), .second, .val (.long ga1), .second, .val (.long se1), .second, .val (.long (se1 + ga1)), .second, .val (.long ga2), .second, .val (.long se2), .second, .val (.long (se2 + ga2)), .second, .val (.ref b4), .unset, .unset] [(.ref b4)])) rfl (by rw [hml]; rfl) (Steps.refl _) (argsL := []) (rest := []) (lenOf own_pd4 rfl) rfl (by show 2 * 0 + _ ≤ _; exact Nat.le_of_eq rfl) (hb hby at_119) (fun _ _ => ⟨rfl, rfl, (by decide : 1 + 1 ≤ _), (by decide : 4 + 2 ≤ _)⟩)
          dsimp only [Pt.U, Pt.locs, Pt.cells, Pt.slots] at X110 l110 y110 z110 st110 hQ110 Sx110 gr110
          subst l110 y110 z110
          obtain ⟨Y110, hS110, hZ110, ho110⟩ := rebS hS0 (Nat.le_trans hk24 (Nat.le_of_eq (congrArg Array.size (Eq.symm rfl)))) X110 Sx110 gr110 hZ hown
          obtain ⟨ob_110, rfl, N110q, K110q, f110_0, f110_1, f110_2, f110_3⟩ := hQ110
          have N110 := Fr.app N24 N110q
          have ne111 : ez ≠ ob_110 := Nat.ne_of_lt (Nat.lt_of_lt_of_le f29.lt f110_0)
          have ne112 : b4 ≠ ob_110 := Nat.ne_of_lt (Nat.lt_of_lt_of_le f31.lt f110_0)
          have GG113 : n0 ≤ ob_110 := Nat.le_trans Z24 f110_0
          have HG113 : h0.size ≤ ob_110 := Nat.le_trans K24.1 f110_0
          have f114 := f25.keep K110q all0
          have f115 := own_sta_keep f26 K110q all0
          have f116 := own_sta_keep f27 K110q all0
          have f117 := own_sta_keep f28 K110q all0
          have f118 := f29.keep K110q
          have f119 := f30.keep K110q nin0
          have f120 := f31.keep K110q
          have f121 := f24_0.keep K110q nin0
          have f122 := f24_1.keep K110q nin0
          have f123 := f24_2.keep K110q nin0
          have f124 := f24_3.keep K110q nin0
          have K110 := K24.trans K110q all0
          have Z110 := Nat.le_trans Z24 K110q.1
          refine Goes.tr st110 ?_
          show Goes p e below _ T110 (mkF m 122 #[.val (.long x0), .second, .val (.long x1), .second, .val (.long x2), .second, .val (.long x3), .second, .val (.long x4), .second, .val (.long x5), .second, .val (.long ga1), .second, .val (.long se1), .second, .val (.long (se1 + ga1)), .second, .val (.long ga2), .second, .val (.long se2), .second, .val (.long (se2 + ga2)), .second, .val (.ref b4), .unset, .unset] [(.ref ob_110)])
          refine own_lloadN Y110 hx 123 rfl (hb hby at_122) rfl ?_
          refine own_lload Y110 hx 125 rfl (hb hby at_123) rfl ?_
          refine own_lload Y110 hx 127 rfl (hb hby at_125) rfl ?_
          obtain ⟨_, _, ⟨T125, L125, k125, n125⟩, -, X125, ⟨Lc125, hQ125, l125, y125, z125⟩, st125⟩ := Jvm.LawKit.callS Y110 hx (y := (⟨"com/example/tallywire/tallywire/logs/CalibrationCycleAddPinLaw", "midpoint", "(JJ)J"⟩ : MethodName)) ho110 (mvT hZ110 (hw _ (List.mem_of_getElem? (i := 50) rfl))) (mvT hZ110 (hw _ (List.mem_of_getElem? (i := 51) rfl))) (mvT hZ110 (hw _ (List.mem_of_getElem? (i := 52) rfl))) (mvT hZ110 (hw _ (List.mem_of_getElem? (i := 53) rfl))) (by decide) (backOf (W := 3) (rm8 l Z a0 hw [] se1 (se1 + ga1) (se1 + (((se1 + ga1) - se1) / (2 : Int64))) T110.heap n0 Z110 (own_mid hs1)) hZ110 (hw _ (List.mem_of_getElem? (i := 53) rfl)) (hw _ (List.mem_of_getElem? (i := 52) rfl)) (by decide) (by decide)) (g := (mkF m 127 #[.val (.long x0), .second, .val (.long x1), .second, .val (.long x2), .second, .val (.long x3), .second, .val (.long x4), .second, .val (.long x5), .second, .val (.long ga1), .second, .val (.long se1), .second, .val (.long (se1 + ga1)), .second, .val (.long ga2), .second, .val (.long se2), .second, .val (.long (se2 + ga2)), .second, .val (.ref b4), .unset, .unset] [(.long (se1 + ga1)), (.long se1), (.long x1), (.ref ob_110)])) rfl (by rw [hml]; rfl) (argsL := [(.long se1), (.long (se1 + ga1))]) (rest := [(.long x1), (.ref ob_110)]) (lenOf own_pd2 rfl) rfl (by show 2 * 0 + _ ≤ _; exact Nat.le_of_eq rfl) (hb hby at_127) (fun _ _ => ⟨rfl, rfl, (by decide : 2 + 0 ≤ _), (by decide : 6 + 0 ≤ _)⟩)
          dsimp only [Pt.U, Pt.locs, Pt.cells, Pt.slots] at X125 l125 y125 z125 st125 hQ125
          subst l125 y125 z125
          obtain ⟨rfl, N125q, eh125⟩ := hQ125
          have N125 := Fr.app N110 N125q
          refine Goes.go st125 ?_
          show Goes p e below _ T125 (mkF m 130 #[.val (.long x0), .second, .val (.long x1), .second, .val (.long x2), .second, .val (.long x3), .second, .val (.long x4), .second, .val (.long x5), .second, .val (.long ga1), .second, .val (.long se1), .second, .val (.long (se1 + ga1)), .second, .val (.long ga2), .second, .val (.long se2), .second, .val (.long (se2 + ga2)), .second, .val (.ref b4), .unset, .unset] [(.long (se1 + (((se1 + ga1) - se1) / (2 : Int64)))), (.long x1), (.ref ob_110)])
          obtain ⟨_, _, ⟨T126, L126, k126, n126⟩, -, X126, ⟨Lc126, hQ126, l126, y126, z126⟩, st126⟩ := Jvm.LawKit.callS X125 hx (y := (⟨"com/example/tallywire/tallywire/logs/CalibrationCycleAddPinLaw", "matches", "(Ljava/util/OptionalLong;JJ)Z"⟩ : MethodName)) ho110 (mvT hZ110 (hw _ (List.mem_of_getElem? (i := 54) rfl))) (mvT hZ110 (hw _ (List.mem_of_getElem? (i := 55) rfl))) (mvT hZ110 (hw _ (List.mem_of_getElem? (i := 52) rfl))) (mvT hZ110 (hw _ (List.mem_of_getElem? (i := 56) rfl))) (by decide) (backOf (W := 0) (rmmatP l Z a0 hw [] ob_110 x1 (se1 + (((se1 + ga1) - se1) / (2 : Int64))) T110.heap n0 Z110 ov1 f110_1 f110_2 f110_3) hZ110 (hw _ (List.mem_of_getElem? (i := 56) rfl)) (hw _ (List.mem_of_getElem? (i := 52) rfl)) (by decide) (by decide)) (g := (mkF m 130 #[.val (.long x0), .second, .val (.long x1), .second, .val (.long x2), .second, .val (.long x3), .second, .val (.long x4), .second, .val (.long x5), .second, .val (.long ga1), .second, .val (.long se1), .second, .val (.long (se1 + ga1)), .second, .val (.long ga2), .second, .val (.long se2), .second, .val (.long (se2 + ga2)), .second, .val (.ref b4), .unset, .unset] [(.long (se1 + (((se1 + ga1) - se1) / (2 : Int64)))), (.long x1), (.ref ob_110)])) rfl (by rw [hml]; rfl) (argsL := [(.ref ob_110), (.long x1), (.long (se1 + (((se1 + ga1) - se1) / (2 : Int64))))]) (rest := []) (lenOf own_pd9 rfl) rfl (by show 2 * 0 + _ ≤ _; exact Nat.le_of_eq rfl) (hb hby at_130) (fun _ _ => ⟨rfl, eh125, (by decide : 2 + 0 ≤ _), (by decide : 6 + 0 ≤ _)⟩)
          dsimp only [Pt.U, Pt.locs, Pt.cells, Pt.slots] at X126 l126 y126 z126 st126 hQ126
          subst l126 y126 z126
          obtain ⟨rfl, N126q, eh126⟩ := hQ126
          have N126 := Fr.app N125 N126q
          refine Goes.go st126 ?_
          show Goes p e below _ T126 (mkF m 133 #[.val (.long x0), .second, .val (.long x1), .second, .val (.long x2), .second, .val (.long x3), .second, .val (.long x4), .second, .val (.long x5), .second, .val (.long ga1), .second, .val (.long se1), .second, .val (.long (se1 + ga1)), .second, .val (.long ga2), .second, .val (.long se2), .second, .val (.long (se2 + ga2)), .second, .val (.ref b4), .unset, .unset] [(.int (1 : Int32))])
          refine own_istore X126 hx 135 rfl #[.val (.long x0), .second, .val (.long x1), .second, .val (.long x2), .second, .val (.long x3), .second, .val (.long x4), .second, .val (.long x5), .second, .val (.long ga1), .second, .val (.long se1), .second, .val (.long (se1 + ga1)), .second, .val (.long ga2), .second, .val (.long se2), .second, .val (.long (se2 + ga2)), .second, .val (.ref b4), .val (.int (1 : Int32)), .unset] (hb hby at_133) rfl ?_
          refine own_aload X126 hx 137 rfl (hb hby at_135) rfl rfl ?_
          refine own_lload X126 hx 139 rfl (hb hby at_137) rfl ?_
          refine own_lload X126 hx 141 rfl (hb hby at_139) rfl ?_
          refine own_lload X126 hx 143 rfl (hb hby at_141) rfl ?_
          by_cases hb2 : ((se2 + ga2) - se2) < ((se1 + ga1) - se1)
          · obtain ⟨cq127, kq127, q127a, q127b, q127c⟩ := isOf hZ110 eh126 f120
            obtain ⟨_, _, ⟨T127, L127, k127, n127⟩, -, X127, ⟨Lc127, hQ127, l127, y127, z127⟩, st127⟩ := X126.virtualBack hx (y := (⟨"com/example/tallywire/tallywire/logs/CalibrationCycle", "add", "(JJJ)V"⟩ : MethodName)) (z := (⟨"com/example/tallywire/tallywire/logs/CalibrationCycle", "add", "(JJJ)V"⟩ : MethodName)) ho110 (mvT hZ110 (hw _ (List.mem_of_getElem? (i := 14) rfl))) (mvT hZ110 (hw _ (List.mem_of_getElem? (i := 15) rfl))) (notFace_of_selects (args := #[]) (mvT hZ110 (hw _ (List.mem_of_getElem? (i := 17) rfl)))) (mvT hZ110 (hw _ (List.mem_of_getElem? (i := 17) rfl))) (mvT hZ110 (hw _ (List.mem_of_getElem? (i := 16) rfl))) (by decide) (backOf (W := 0) (rmaddT l Z a0 hw [] b4 se2 x4 (se2 + ga2) ((0 : Int32) + (1 : Int32)) ((se1 + ga1) - se1) (se1 + (((se1 + ga1) - se1) / (2 : Int64))) x1 T110.heap n0 Z110 f120 G4 f121 f122 f123 f124 hb2) hZ110 (hw _ (List.mem_of_getElem? (i := 18) rfl)) (hw _ (List.mem_of_getElem? (i := 4) rfl)) (by decide) (by decide)) q127a q127c (g := (mkF m 143 #[.val (.long x0), .second, .val (.long x1), .second, .val (.long x2), .second, .val (.long x3), .second, .val (.long x4), .second, .val (.long x5), .second, .val (.long ga1), .second, .val (.long se1), .second, .val (.long (se1 + ga1)), .second, .val (.long ga2), .second, .val (.long se2), .second, .val (.long (se2 + ga2)), .second, .val (.ref b4), .val (.int (1 : Int32)), .unset] [(.long (se2 + ga2)), (.long x4), (.long se2), (.ref b4)])) rfl (by rw [hml]; rfl) (Steps.refl _) (argsL := [(.long se2), (.long x4), (.long (se2 + ga2))]) (rest := []) (lenOf own_pd8 rfl) rfl (by show 2 * 0 + _ ≤ _; exact Nat.le_of_eq rfl) (hb hby at_143) (fun _ _ => ⟨rfl, eh126, (by decide : 2 + 0 ≤ _), (by decide : 6 + 0 ≤ _)⟩)
            dsimp only [Pt.U, Pt.locs, Pt.cells, Pt.slots] at X127 l127 y127 z127 st127 hQ127
            subst l127 y127 z127
            obtain ⟨rfl, N127q, K127q, f127_0, f127_1, f127_2, f127_3⟩ := hQ127
            have N127 := Fr.app N126 N127q
            have f128 := f114.keep K127q (allS G4 all0)
            have f129 := own_sta_keep f115 K127q (allS (own_eplain f120) all0)
            have f130 := own_sta_keep f116 K127q (allS (own_eplain f120) all0)
            have f131 := own_sta_keep f117 K127q (allS (own_eplain f120) all0)
            have f132 := f118.keep K127q
            have f133 := f119.keep K127q (ninS ne5 nin0)
            have f134 := f120.keep K127q
            have f135 := f110_1.keep K127q
            have f136 := f110_2.keep K127q (ninS (Ne.symm ne112) nin0)
            have f137 := f110_3.keep K127q (ninS (Ne.symm ne112) nin0)
            have K127 := K110.trans K127q (allS (Or.inr H4) all0)
            have Z127 := Nat.le_trans Z110 K127q.1
            have hk127 := Nat.le_trans (Nat.le_refl T110.heap.size) K127q.1
            refine Goes.tr st127 ?_
            show Goes p e below _ T127 (mkF m 146 #[.val (.long x0), .second, .val (.long x1), .second, .val (.long x2), .second, .val (.long x3), .second, .val (.long x4), .second, .val (.long x5), .second, .val (.long ga1), .second, .val (.long se1), .second, .val (.long (se1 + ga1)), .second, .val (.long ga2), .second, .val (.long se2), .second, .val (.long (se2 + ga2)), .second, .val (.ref b4), .val (.int (1 : Int32)), .unset] [])
            refine own_lload X127 hx 148 rfl (hb hby at_146) rfl ?_
            refine own_lload X127 hx 150 rfl (hb hby at_148) rfl ?_
            refine own_lcmp X127 hx 151 rfl (hb hby at_150) ?_
            refine own_ifN X127 hx 154 (hb hby at_151) (Ltlt ((own_cmp hs1 hs2).mp hb2 : ga2 < ga1)).2.1 rfl ?_
            refine own_aload X127 hx 156 rfl (hb hby at_154) rfl rfl ?_
            by_cases ov2 : ((x4 ^^^ (se2 + (((se2 + ga2) - se2) / (2 : Int64)))) &&& (x4 ^^^ (x4 - (se2 + (((se2 + ga2) - se2) / (2 : Int64)))))) < (0 : Int64)
            · obtain ⟨cq138, kq138, q138a, q138b, q138c⟩ := isOf hZ110 rfl f134
              obtain ⟨_, _, ⟨T138, L138, k138, n138⟩, -, X138, Sx138, gr138, ⟨Lc138, hQ138, l138, y138, z138⟩, st138⟩ := X127.virtualBackS hx (y := (⟨"com/example/tallywire/tallywire/logs/CalibrationCycle", "offset", "()Ljava/util/OptionalLong;"⟩ : MethodName)) (z := (⟨"com/example/tallywire/tallywire/logs/CalibrationCycle", "offset", "()Ljava/util/OptionalLong;"⟩ : MethodName)) ho110 (mvT hZ110 (hw _ (List.mem_of_getElem? (i := 26) rfl))) (mvT hZ110 (hw _ (List.mem_of_getElem? (i := 27) rfl))) (notFace_of_selects (args := #[]) (mvT hZ110 (hw _ (List.mem_of_getElem? (i := 29) rfl)))) (mvT hZ110 (hw _ (List.mem_of_getElem? (i := 29) rfl))) (mvT hZ110 (hw _ (List.mem_of_getElem? (i := 28) rfl))) (by decide) (own_backSW (W := 0) (rmoffV l Z a0 hw [] b4 (se2 + (((se2 + ga2) - se2) / (2 : Int64))) x4 ez us ss T127.heap n0 Z127 f127_2 f127_3 ov2 f128 f131 f129 hus f130 hss hfl) hZ110 (hw _ (List.mem_of_getElem? (i := 30) rfl)) (hw _ (List.mem_of_getElem? (i := 4) rfl)) (by decide) (by decide) (Vm.MethodsKnown.alikeC hS110.1.alike hTK) (Vm.FramesKnown.alikeC hS110.1.alike hBl)) q138a q138c (g := (mkF m 156 #[.val (.long x0), .second, .val (.long x1), .second, .val (.long x2), .second, .val (.long x3), .second, .val (.long x4), .second, .val (.long x5), .second, .val (.long ga1), .second, .val (.long se1), .second, .val (.long (se1 + ga1)), .second, .val (.long ga2), .second, .val (.long se2), .second, .val (.long (se2 + ga2)), .second, .val (.ref b4), .val (.int (1 : Int32)), .unset] [(.ref b4)])) rfl (by rw [hml]; rfl) (Steps.refl _) (argsL := []) (rest := []) (lenOf own_pd4 rfl) rfl (by show 2 * 0 + _ ≤ _; exact Nat.le_of_eq rfl) (hb hby at_156) (fun _ _ => ⟨rfl, rfl, (by decide : 2 + 4 ≤ _), (by decide : 6 + 2814 ≤ _)⟩)
              dsimp only [Pt.U, Pt.locs, Pt.cells, Pt.slots] at X138 l138 y138 z138 st138 hQ138 Sx138 gr138
              subst l138 y138 z138
              obtain ⟨Y138, hS138, hZ138, ho138⟩ := rebS hS110 (Nat.le_trans hk127 (Nat.le_of_eq (congrArg Array.size (Eq.symm rfl)))) X138 Sx138 gr138 hZ110 ho110
              obtain ⟨rfl, N138q, K138q⟩ := hQ138
              have N138 := Fr.app N127 N138q
              have f139 := f128.keep K138q all0
              have f140 := own_sta_keep f129 K138q all0
              have f141 := own_sta_keep f130 K138q all0
              have f142 := own_sta_keep f131 K138q all0
              have f143 := f132.keep K138q
              have f144 := f133.keep K138q nin0
              have f145 := f134.keep K138q
              have f146 := f135.keep K138q
              have f147 := f136.keep K138q nin0
              have f148 := f137.keep K138q nin0
              have f149 := f127_0.keep K138q nin0
              have f150 := f127_1.keep K138q nin0
              have f151 := f127_2.keep K138q nin0
              have f152 := f127_3.keep K138q nin0
              have K138 := K127.trans K138q all0
              have Z138 := Nat.le_trans Z127 K138q.1
              refine Goes.tr st138 ?_
              show Goes p e below _ T138 (mkF m 159 #[.val (.long x0), .second, .val (.long x1), .second, .val (.long x2), .second, .val (.long x3), .second, .val (.long x4), .second, .val (.long x5), .second, .val (.long ga1), .second, .val (.long se1), .second, .val (.long (se1 + ga1)), .second, .val (.long ga2), .second, .val (.long se2), .second, .val (.long (se2 + ga2)), .second, .val (.ref b4), .val (.int (1 : Int32)), .unset] [(.ref ez)])
              refine own_lload Y138 hx 161 rfl (hb hby at_159) rfl ?_
              refine own_lload Y138 hx 163 rfl (hb hby at_161) rfl ?_
              refine own_lload Y138 hx 165 rfl (hb hby at_163) rfl ?_
              obtain ⟨_, _, ⟨T153, L153, k153, n153⟩, -, X153, ⟨Lc153, hQ153, l153, y153, z153⟩, st153⟩ := Jvm.LawKit.callS Y138 hx (y := (⟨"com/example/tallywire/tallywire/logs/CalibrationCycleAddPinLaw", "midpoint", "(JJ)J"⟩ : MethodName)) ho138 (mvT hZ138 (hw _ (List.mem_of_getElem? (i := 50) rfl))) (mvT hZ138 (hw _ (List.mem_of_getElem? (i := 51) rfl))) (mvT hZ138 (hw _ (List.mem_of_getElem? (i := 52) rfl))) (mvT hZ138 (hw _ (List.mem_of_getElem? (i := 53) rfl))) (by decide) (backOf (W := 3) (rm8 l Z a0 hw [] se2 (se2 + ga2) (se2 + (((se2 + ga2) - se2) / (2 : Int64))) T138.heap n0 Z138 (own_mid hs2)) hZ138 (hw _ (List.mem_of_getElem? (i := 53) rfl)) (hw _ (List.mem_of_getElem? (i := 52) rfl)) (by decide) (by decide)) (g := (mkF m 165 #[.val (.long x0), .second, .val (.long x1), .second, .val (.long x2), .second, .val (.long x3), .second, .val (.long x4), .second, .val (.long x5), .second, .val (.long ga1), .second, .val (.long se1), .second, .val (.long (se1 + ga1)), .second, .val (.long ga2), .second, .val (.long se2), .second, .val (.long (se2 + ga2)), .second, .val (.ref b4), .val (.int (1 : Int32)), .unset] [(.long (se2 + ga2)), (.long se2), (.long x4), (.ref ez)])) rfl (by rw [hml]; rfl) (argsL := [(.long se2), (.long (se2 + ga2))]) (rest := [(.long x4), (.ref ez)]) (lenOf own_pd2 rfl) rfl (by show 2 * 0 + _ ≤ _; exact Nat.le_of_eq rfl) (hb hby at_165) (fun _ _ => ⟨rfl, rfl, (by decide : 6 + 0 ≤ _), (by decide : 2820 + 0 ≤ _)⟩)
              dsimp only [Pt.U, Pt.locs, Pt.cells, Pt.slots] at X153 l153 y153 z153 st153 hQ153
              subst l153 y153 z153
              obtain ⟨rfl, N153q, eh153⟩ := hQ153
              have N153 := Fr.app N138 N153q
              refine Goes.go st153 ?_
              show Goes p e below _ T153 (mkF m 168 #[.val (.long x0), .second, .val (.long x1), .second, .val (.long x2), .second, .val (.long x3), .second, .val (.long x4), .second, .val (.long x5), .second, .val (.long ga1), .second, .val (.long se1), .second, .val (.long (se1 + ga1)), .second, .val (.long ga2), .second, .val (.long se2), .second, .val (.long (se2 + ga2)), .second, .val (.ref b4), .val (.int (1 : Int32)), .unset] [(.long (se2 + (((se2 + ga2) - se2) / (2 : Int64)))), (.long x4), (.ref ez)])
              obtain ⟨_, _, ⟨T154, L154, k154, n154⟩, -, X154, ⟨Lc154, hQ154, l154, y154, z154⟩, st154⟩ := Jvm.LawKit.callS X153 hx (y := (⟨"com/example/tallywire/tallywire/logs/CalibrationCycleAddPinLaw", "matches", "(Ljava/util/OptionalLong;JJ)Z"⟩ : MethodName)) ho138 (mvT hZ138 (hw _ (List.mem_of_getElem? (i := 54) rfl))) (mvT hZ138 (hw _ (List.mem_of_getElem? (i := 55) rfl))) (mvT hZ138 (hw _ (List.mem_of_getElem? (i := 52) rfl))) (mvT hZ138 (hw _ (List.mem_of_getElem? (i := 56) rfl))) (by decide) (backOf (W := 0) (rmmatN l Z a0 hw [] ez x4 (se2 + (((se2 + ga2) - se2) / (2 : Int64))) T138.heap n0 Z138 ov2 f143 f144) hZ138 (hw _ (List.mem_of_getElem? (i := 56) rfl)) (hw _ (List.mem_of_getElem? (i := 52) rfl)) (by decide) (by decide)) (g := (mkF m 168 #[.val (.long x0), .second, .val (.long x1), .second, .val (.long x2), .second, .val (.long x3), .second, .val (.long x4), .second, .val (.long x5), .second, .val (.long ga1), .second, .val (.long se1), .second, .val (.long (se1 + ga1)), .second, .val (.long ga2), .second, .val (.long se2), .second, .val (.long (se2 + ga2)), .second, .val (.ref b4), .val (.int (1 : Int32)), .unset] [(.long (se2 + (((se2 + ga2) - se2) / (2 : Int64)))), (.long x4), (.ref ez)])) rfl (by rw [hml]; rfl) (argsL := [(.ref ez), (.long x4), (.long (se2 + (((se2 + ga2) - se2) / (2 : Int64))))]) (rest := []) (lenOf own_pd9 rfl) rfl (by show 2 * 0 + _ ≤ _; exact Nat.le_of_eq rfl) (hb hby at_168) (fun _ _ => ⟨rfl, eh153, (by decide : 6 + 0 ≤ _), (by decide : 2820 + 0 ≤ _)⟩)
              dsimp only [Pt.U, Pt.locs, Pt.cells, Pt.slots] at X154 l154 y154 z154 st154 hQ154
              subst l154 y154 z154
              obtain ⟨rfl, N154q, eh154⟩ := hQ154
              have N154 := Fr.app N153 N154q
              refine Goes.go st154 ?_
              show Goes p e below _ T154 (mkF m 171 #[.val (.long x0), .second, .val (.long x1), .second, .val (.long x2), .second, .val (.long x3), .second, .val (.long x4), .second, .val (.long x5), .second, .val (.long ga1), .second, .val (.long se1), .second, .val (.long (se1 + ga1)), .second, .val (.long ga2), .second, .val (.long se2), .second, .val (.long (se2 + ga2)), .second, .val (.ref b4), .val (.int (1 : Int32)), .unset] [(.int (1 : Int32))])
              refine own_istore X154 hx 173 rfl #[.val (.long x0), .second, .val (.long x1), .second, .val (.long x2), .second, .val (.long x3), .second, .val (.long x4), .second, .val (.long x5), .second, .val (.long ga1), .second, .val (.long se1), .second, .val (.long (se1 + ga1)), .second, .val (.long ga2), .second, .val (.long se2), .second, .val (.long (se2 + ga2)), .second, .val (.ref b4), .val (.int (1 : Int32)), .val (.int (1 : Int32))] (hb hby at_171) rfl ?_
              refine own_goto X154 hx 194 (hb hby at_173) (by decide) (by decide) ?_
              refine own_iload X154 hx 196 rfl (hb hby at_194) rfl ?_
              refine own_ifN X154 hx 199 (hb hby at_196) ((if0 _ _).trans (feq ((by decide) : ¬ ((1 : Int32) = (0 : Int32)))).1) rfl ?_
              refine own_iload X154 hx 201 rfl (hb hby at_199) rfl ?_
              refine own_ifN X154 hx 204 (hb hby at_201) ((if0 _ _).trans (feq ((by decide) : ¬ ((1 : Int32) = (0 : Int32)))).1) rfl ?_
              refine own_aload X154 hx 206 rfl (hb hby at_204) rfl rfl ?_
              obtain ⟨cq155, kq155, q155a, q155b, q155c⟩ := isOf hZ138 eh154 f145
              obtain ⟨_, _, ⟨T155, L155, k155, n155⟩, -, X155, ⟨Lc155, hQ155, l155, y155, z155⟩, st155⟩ := X154.virtualBack hx (y := (⟨"com/example/tallywire/tallywire/logs/CalibrationCycle", "isComplete", "()Z"⟩ : MethodName)) (z := (⟨"com/example/tallywire/tallywire/logs/CalibrationCycle", "isComplete", "()Z"⟩ : MethodName)) ho138 (mvT hZ138 (hw _ (List.mem_of_getElem? (i := 67) rfl))) (mvT hZ138 (hw _ (List.mem_of_getElem? (i := 68) rfl))) (notFace_of_selects (args := #[]) (mvT hZ138 (hw _ (List.mem_of_getElem? (i := 70) rfl)))) (mvT hZ138 (hw _ (List.mem_of_getElem? (i := 70) rfl))) (mvT hZ138 (hw _ (List.mem_of_getElem? (i := 69) rfl))) (by decide) (backOf (W := 0) (rm12 l Z a0 hw [] b4 (((0 : Int32) + (1 : Int32)) + (1 : Int32)) T138.heap n0 Z138 f150 (by decide)) hZ138 (hw _ (List.mem_of_getElem? (i := 71) rfl)) (hw _ (List.mem_of_getElem? (i := 4) rfl)) (by decide) (by decide)) q155a q155c (g := (mkF m 206 #[.val (.long x0), .second, .val (.long x1), .second, .val (.long x2), .second, .val (.long x3), .second, .val (.long x4), .second, .val (.long x5), .second, .val (.long ga1), .second, .val (.long se1), .second, .val (.long (se1 + ga1)), .second, .val (.long ga2), .second, .val (.long se2), .second, .val (.long (se2 + ga2)), .second, .val (.ref b4), .val (.int (1 : Int32)), .val (.int (1 : Int32))] [(.ref b4)])) rfl (by rw [hml]; rfl) (Steps.refl _) (argsL := []) (rest := []) (lenOf own_pd5 rfl) rfl (by show 2 * 0 + _ ≤ _; exact Nat.le_of_eq rfl) (hb hby at_206) (fun _ _ => ⟨rfl, eh154, (by decide : 6 + 0 ≤ _), (by decide : 2820 + 0 ≤ _)⟩)
              dsimp only [Pt.U, Pt.locs, Pt.cells, Pt.slots] at X155 l155 y155 z155 st155 hQ155
              subst l155 y155 z155
              obtain ⟨rfl, N155q, eh155⟩ := hQ155
              have N155 := Fr.app N154 N155q
              refine Goes.tr st155 ?_
              show Goes p e below _ T155 (mkF m 209 #[.val (.long x0), .second, .val (.long x1), .second, .val (.long x2), .second, .val (.long x3), .second, .val (.long x4), .second, .val (.long x5), .second, .val (.long ga1), .second, .val (.long se1), .second, .val (.long (se1 + ga1)), .second, .val (.long ga2), .second, .val (.long se2), .second, .val (.long (se2 + ga2)), .second, .val (.ref b4), .val (.int (1 : Int32)), .val (.int (1 : Int32))] [(.int (0 : Int32))])
              refine own_ifN X155 hx 212 (hb hby at_209) ((if0 _ _).trans (teq ((by decide) : (0 : Int32) = (0 : Int32))).2) rfl ?_
              refine own_iconst X155 hx 213 rfl (1 : Int32) (hb hby at_212) (by decide) ?_
              refine own_goto X155 hx 217 (hb hby at_213) (by decide) (by decide) ?_
              refine own_retWZ X155 hx hS138 hlk Bd.returns (by decide) (hb hby at_217) (by decide) (by decide) eh155 (Nat.le_refl T138.heap.size) ?_
              exact ⟨rfl, N155⟩
            · obtain ⟨cq156, kq156, q156a, q156b, q156c⟩ := isOf hZ110 rfl f134
              obtain ⟨_, _, ⟨T156, L156, k156, n156⟩, -, X156, Sx156, gr156, ⟨Lc156, hQ156, l156, y156, z156⟩, st156⟩ := X127.virtualBackS hx (y := (⟨"com/example/tallywire/tallywire/logs/CalibrationCycle", "offset", "()Ljava/util/OptionalLong;"⟩ : MethodName)) (z := (⟨"com/example/tallywire/tallywire/logs/CalibrationCycle", "offset", "()Ljava/util/OptionalLong;"⟩ : MethodName)) ho110 (mvT hZ110 (hw _ (List.mem_of_getElem? (i := 26) rfl))) (mvT hZ110 (hw _ (List.mem_of_getElem? (i := 27) rfl))) (notFace_of_selects (args := #[]) (mvT hZ110 (hw _ (List.mem_of_getElem? (i := 29) rfl)))) (mvT hZ110 (hw _ (List.mem_of_getElem? (i := 29) rfl))) (mvT hZ110 (hw _ (List.mem_of_getElem? (i := 28) rfl))) (by decide) (own_backSW (W := 0) (rmoffO l Z a0 hw [] b4 (se2 + (((se2 + ga2) - se2) / (2 : Int64))) x4 T127.heap n0 Z127 f127_2 f127_3 ov2) hZ110 (hw _ (List.mem_of_getElem? (i := 30) rfl)) (hw _ (List.mem_of_getElem? (i := 4) rfl)) (by decide) (by decide) (Vm.MethodsKnown.alikeC hS110.1.alike hTK) (Vm.FramesKnown.alikeC hS110.1.alike hBl)) q156a q156c (g := (mkF m 156 #[.val (.long x0), .second, .val (.long x1), .second, .val (.long x2), .second, .val (.long x3), .second, .val (.long x4), .second, .val (.long x5), .second, .val (.long ga1), .second, .val (.long se1), .second, .val (.long (se1 + ga1)), .second, .val (.long ga2), .second, .val (.long se2), .second, .val (.long (se2 + ga2)), .second, .val (.ref b4), .val (.int (1 : Int32)), .unset] [(.ref b4)])) rfl (by rw [hml]; rfl) (Steps.refl _) (argsL := []) (rest := []) (lenOf own_pd4 rfl) rfl (by show 2 * 0 + _ ≤ _; exact Nat.le_of_eq rfl) (hb hby at_156) (fun _ _ => ⟨rfl, rfl, (by decide : 2 + 1 ≤ _), (by decide : 6 + 2 ≤ _)⟩)
              dsimp only [Pt.U, Pt.locs, Pt.cells, Pt.slots] at X156 l156 y156 z156 st156 hQ156 Sx156 gr156
              subst l156 y156 z156
              obtain ⟨Y156, hS156, hZ156, ho156⟩ := rebS hS110 (Nat.le_trans hk127 (Nat.le_of_eq (congrArg Array.size (Eq.symm rfl)))) X156 Sx156 gr156 hZ110 ho110
              obtain ⟨ob_156, rfl, N156q, K156q, f156_0, f156_1, f156_2, f156_3⟩ := hQ156
              have N156 := Fr.app N127 N156q
              have ne157 : ez ≠ ob_156 := Nat.ne_of_lt (Nat.lt_of_lt_of_le f132.lt f156_0)
              have ne158 : b4 ≠ ob_156 := Nat.ne_of_lt (Nat.lt_of_lt_of_le f134.lt f156_0)
              have ne159 : ob_110 ≠ ob_156 := Nat.ne_of_lt (Nat.lt_of_lt_of_le f135.lt f156_0)
              have GG160 : n0 ≤ ob_156 := Nat.le_trans Z127 f156_0
              have HG160 : h0.size ≤ ob_156 := Nat.le_trans K127.1 f156_0
              have f161 := f128.keep K156q all0
              have f162 := own_sta_keep f129 K156q all0
              have f163 := own_sta_keep f130 K156q all0
              have f164 := own_sta_keep f131 K156q all0
              have f165 := f132.keep K156q
              have f166 := f133.keep K156q nin0
              have f167 := f134.keep K156q
              have f168 := f135.keep K156q
              have f169 := f136.keep K156q nin0
              have f170 := f137.keep K156q nin0
              have f171 := f127_0.keep K156q nin0
              have f172 := f127_1.keep K156q nin0
              have f173 := f127_2.keep K156q nin0
              have f174 := f127_3.keep K156q nin0
              have K156 := K127.trans K156q all0
              have Z156 := Nat.le_trans Z127 K156q.1
              refine Goes.tr st156 ?_
              show Goes p e below _ T156 (mkF m 159 #[.val (.long x0), .second, .val (.long x1), .second, .val (.long x2), .second, .val (.long x3), .second, .val (.long x4), .second, .val (.long x5), .second, .val (.long ga1), .second, .val (.long se1), .second, .val (.long (se1 + ga1)), .second, .val (.long ga2), .second, .val (.long se2), .second, .val (.long (se2 + ga2)), .second, .val (.ref b4), .val (.int (1 : Int32)), .unset] [(.ref ob_156)])
              refine own_lload Y156 hx 161 rfl (hb hby at_159) rfl ?_
              refine own_lload Y156 hx 163 rfl (hb hby at_161) rfl ?_
              refine own_lload Y156 hx 165 rfl (hb hby at_163) rfl ?_
              obtain ⟨_, _, ⟨T175, L175, k175, n175⟩, -, X175, ⟨Lc175, hQ175, l175, y175, z175⟩, st175⟩ := Jvm.LawKit.callS Y156 hx (y := (⟨"com/example/tallywire/tallywire/logs/CalibrationCycleAddPinLaw", "midpoint", "(JJ)J"⟩ : MethodName)) ho156 (mvT hZ156 (hw _ (List.mem_of_getElem? (i := 50) rfl))) (mvT hZ156 (hw _ (List.mem_of_getElem? (i := 51) rfl))) (mvT hZ156 (hw _ (List.mem_of_getElem? (i := 52) rfl))) (mvT hZ156 (hw _ (List.mem_of_getElem? (i := 53) rfl))) (by decide) (backOf (W := 3) (rm8 l Z a0 hw [] se2 (se2 + ga2) (se2 + (((se2 + ga2) - se2) / (2 : Int64))) T156.heap n0 Z156 (own_mid hs2)) hZ156 (hw _ (List.mem_of_getElem? (i := 53) rfl)) (hw _ (List.mem_of_getElem? (i := 52) rfl)) (by decide) (by decide)) (g := (mkF m 165 #[.val (.long x0), .second, .val (.long x1), .second, .val (.long x2), .second, .val (.long x3), .second, .val (.long x4), .second, .val (.long x5), .second, .val (.long ga1), .second, .val (.long se1), .second, .val (.long (se1 + ga1)), .second, .val (.long ga2), .second, .val (.long se2), .second, .val (.long (se2 + ga2)), .second, .val (.ref b4), .val (.int (1 : Int32)), .unset] [(.long (se2 + ga2)), (.long se2), (.long x4), (.ref ob_156)])) rfl (by rw [hml]; rfl) (argsL := [(.long se2), (.long (se2 + ga2))]) (rest := [(.long x4), (.ref ob_156)]) (lenOf own_pd2 rfl) rfl (by show 2 * 0 + _ ≤ _; exact Nat.le_of_eq rfl) (hb hby at_165) (fun _ _ => ⟨rfl, rfl, (by decide : 3 + 0 ≤ _), (by decide : 8 + 0 ≤ _)⟩)
              dsimp only [Pt.U, Pt.locs, Pt.cells, Pt.slots] at X175 l175 y175 z175 st175 hQ175
              subst l175 y175 z175
              obtain ⟨rfl, N175q, eh175⟩ := hQ175
              have N175 := Fr.app N156 N175q
              refine Goes.go st175 ?_
              show Goes p e below _ T175 (mkF m 168 #[.val (.long x0), .second, .val (.long x1), .second, .val (.long x2), .second, .val (.long x3), .second, .val (.long x4), .second, .val (.long x5), .second, .val (.long ga1), .second, .val (.long se1), .second, .val (.long (se1 + ga1)), .second, .val (.long ga2), .second, .val (.long se2), .second, .val (.long (se2 + ga2)), .second, .val (.ref b4), .val (.int (1 : Int32)), .unset] [(.long (se2 + (((se2 + ga2) - se2) / (2 : Int64)))), (.long x4), (.ref ob_156)])
              obtain ⟨_, _, ⟨T176, L176, k176, n176⟩, -, X176, ⟨Lc176, hQ176, l176, y176, z176⟩, st176⟩ := Jvm.LawKit.callS X175 hx (y := (⟨"com/example/tallywire/tallywire/logs/CalibrationCycleAddPinLaw", "matches", "(Ljava/util/OptionalLong;JJ)Z"⟩ : MethodName)) ho156 (mvT hZ156 (hw _ (List.mem_of_getElem? (i := 54) rfl))) (mvT hZ156 (hw _ (List.mem_of_getElem? (i := 55) rfl))) (mvT hZ156 (hw _ (List.mem_of_getElem? (i := 52) rfl))) (mvT hZ156 (hw _ (List.mem_of_getElem? (i := 56) rfl))) (by decide) (backOf (W := 0) (rmmatP l Z a0 hw [] ob_156 x4 (se2 + (((se2 + ga2) - se2) / (2 : Int64))) T156.heap n0 Z156 ov2 f156_1 f156_2 f156_3) hZ156 (hw _ (List.mem_of_getElem? (i := 56) rfl)) (hw _ (List.mem_of_getElem? (i := 52) rfl)) (by decide) (by decide)) (g := (mkF m 168 #[.val (.long x0), .second, .val (.long x1), .second, .val (.long x2), .second, .val (.long x3), .second, .val (.long x4), .second, .val (.long x5), .second, .val (.long ga1), .second, .val (.long se1), .second, .val (.long (se1 + ga1)), .second, .val (.long ga2), .second, .val (.long se2), .second, .val (.long (se2 + ga2)), .second, .val (.ref b4), .val (.int (1 : Int32)), .unset] [(.long (se2 + (((se2 + ga2) - se2) / (2 : Int64)))), (.long x4), (.ref ob_156)])) rfl (by rw [hml]; rfl) (argsL := [(.ref ob_156), (.long x4), (.long (se2 + (((se2 + ga2) - se2) / (2 : Int64))))]) (rest := []) (lenOf own_pd9 rfl) rfl (by show 2 * 0 + _ ≤ _; exact Nat.le_of_eq rfl) (hb hby at_168) (fun _ _ => ⟨rfl, eh175, (by decide : 3 + 0 ≤ _), (by decide : 8 + 0 ≤ _)⟩)
              dsimp only [Pt.U, Pt.locs, Pt.cells, Pt.slots] at X176 l176 y176 z176 st176 hQ176
              subst l176 y176 z176
              obtain ⟨rfl, N176q, eh176⟩ := hQ176
              have N176 := Fr.app N175 N176q
              refine Goes.go st176 ?_
              show Goes p e below _ T176 (mkF m 171 #[.val (.long x0), .second, .val (.long x1), .second, .val (.long x2), .second, .val (.long x3), .second, .val (.long x4), .second, .val (.long x5), .second, .val (.long ga1), .second, .val (.long se1), .second, .val (.long (se1 + ga1)), .second, .val (.long ga2), .second, .val (.long se2), .second, .val (.long (se2 + ga2)), .second, .val (.ref b4), .val (.int (1 : Int32)), .unset] [(.int (1 : Int32))])
              refine own_istore X176 hx 173 rfl #[.val (.long x0), .second, .val (.long x1), .second, .val (.long x2), .second, .val (.long x3), .second, .val (.long x4), .second, .val (.long x5), .second, .val (.long ga1), .second, .val (.long se1), .second, .val (.long (se1 + ga1)), .second, .val (.long ga2), .second, .val (.long se2), .second, .val (.long (se2 + ga2)), .second, .val (.ref b4), .val (.int (1 : Int32)), .val (.int (1 : Int32))] (hb hby at_171) rfl ?_
              refine own_goto X176 hx 194 (hb hby at_173) (by decide) (by decide) ?_
              refine own_iload X176 hx 196 rfl (hb hby at_194) rfl ?_
              refine own_ifN X176 hx 199 (hb hby at_196) ((if0 _ _).trans (feq ((by decide) : ¬ ((1 : Int32) = (0 : Int32)))).1) rfl ?_
              refine own_iload X176 hx 201 rfl (hb hby at_199) rfl ?_
              refine own_ifN X176 hx 204 (hb hby at_201) ((if0 _ _).trans (feq ((by decide) : ¬ ((1 : Int32) = (0 : Int32)))).1) rfl ?_
              refine own_aload X176 hx 206 rfl (hb hby at_204) rfl rfl ?_
              obtain ⟨cq177, kq177, q177a, q177b, q177c⟩ := isOf hZ156 eh176 f167
              obtain ⟨_, _, ⟨T177, L177, k177, n177⟩, -, X177, ⟨Lc177, hQ177, l177, y177, z177⟩, st177⟩ := X176.virtualBack hx (y := (⟨"com/example/tallywire/tallywire/logs/CalibrationCycle", "isComplete", "()Z"⟩ : MethodName)) (z := (⟨"com/example/tallywire/tallywire/logs/CalibrationCycle", "isComplete", "()Z"⟩ : MethodName)) ho156 (mvT hZ156 (hw _ (List.mem_of_getElem? (i := 67) rfl))) (mvT hZ156 (hw _ (List.mem_of_getElem? (i := 68) rfl))) (notFace_of_selects (args := #[]) (mvT hZ156 (hw _ (List.mem_of_getElem? (i := 70) rfl)))) (mvT hZ156 (hw _ (List.mem_of_getElem? (i := 70) rfl))) (mvT hZ156 (hw _ (List.mem_of_getElem? (i := 69) rfl))) (by decide) (backOf (W := 0) (rm12 l Z a0 hw [] b4 (((0 : Int32) + (1 : Int32)) + (1 : Int32)) T156.heap n0 Z156 f172 (by decide)) hZ156 (hw _ (List.mem_of_getElem? (i := 71) rfl)) (hw _ (List.mem_of_getElem? (i := 4) rfl)) (by decide) (by decide)) q177a q177c (g := (mkF m 206 #[.val (.long x0), .second, .val (.long x1), .second, .val (.long x2), .second, .val (.long x3), .second, .val (.long x4), .second, .val (.long x5), .second, .val (.long ga1), .second, .val (.long se1), .second, .val (.long (se1 + ga1)), .second, .val (.long ga2), .second, .val (.long se2), .second, .val (.long (se2 + ga2)), .second, .val (.ref b4), .val (.int (1 : Int32)), .val (.int (1 : Int32))] [(.ref b4)])) rfl (by rw [hml]; rfl) (Steps.refl _) (argsL := []) (rest := []) (lenOf own_pd5 rfl) rfl (by show 2 * 0 + _ ≤ _; exact Nat.le_of_eq rfl) (hb hby at_206) (fun _ _ => ⟨rfl, eh176, (by decide : 3 + 0 ≤ _), (by decide : 8 + 0 ≤ _)⟩)
              dsimp only [Pt.U, Pt.locs, Pt.cells, Pt.slots] at X177 l177 y177 z177 st177 hQ177
              subst l177 y177 z177
              obtain ⟨rfl, N177q, eh177⟩ := hQ177
              have N177 := Fr.app N176 N177q
              refine Goes.tr st177 ?_
              show Goes p e below _ T177 (mkF m 209 #[.val (.long x0), .second, .val (.long x1), .second, .val (.long x2), .second, .val (.long x3), .second, .val (.long x4), .second, .val (.long x5), .second, .val (.long ga1), .second, .val (.long se1), .second, .val (.long (se1 + ga1)), .second, .val (.long ga2), .second, .val (.long se2), .second, .val (.long (se2 + ga2)), .second, .val (.ref b4), .val (.int (1 : Int32)), .val (.int (1 : Int32))] [(.int (0 : Int32))])
              refine own_ifN X177 hx 212 (hb hby at_209) ((if0 _ _).trans (teq ((by decide) : (0 : Int32) = (0 : Int32))).2) rfl ?_
              refine own_iconst X177 hx 213 rfl (1 : Int32) (hb hby at_212) (by decide) ?_
              refine own_goto X177 hx 217 (hb hby at_213) (by decide) (by decide) ?_
              refine own_retWZ X177 hx hS156 hlk Bd.returns (by decide) (hb hby at_217) (by decide) (by decide) eh177 (Nat.le_refl T156.heap.size) ?_
              exact ⟨rfl, N177⟩
          · obtain ⟨cq178, kq178, q178a, q178b, q178c⟩ := isOf hZ110 eh126 f120
            obtain ⟨_, _, ⟨T178, L178, k178, n178⟩, -, X178, ⟨Lc178, hQ178, l178, y178, z178⟩, st178⟩ := X126.virtualBack hx (y := (⟨"com/example/tallywire/tallywire/logs/CalibrationCycle", "add", "(JJJ)V"⟩ : MethodName)) (z := (⟨"com/example/tallywire/tallywire/logs/CalibrationCycle", "add", "(JJJ)V"⟩ : MethodName)) ho110 (mvT hZ110 (hw _ (List.mem_of_getElem? (i := 14) rfl))) (mvT hZ110 (hw _ (List.mem_of_getElem? (i := 15) rfl))) (notFace_of_selects (args := #[]) (mvT hZ110 (hw _ (List.mem_of_getElem? (i := 17) rfl)))) (mvT hZ110 (hw _ (List.mem_of_getElem? (i := 17) rfl))) (mvT hZ110 (hw _ (List.mem_of_getElem? (i := 16) rfl))) (by decide) (backOf (W := 0) (rmaddF l Z a0 hw [] b4 se2 x4 (se2 + ga2) ((0 : Int32) + (1 : Int32)) ((se1 + ga1) - se1) (se1 + (((se1 + ga1) - se1) / (2 : Int64))) x1 T110.heap n0 Z110 f120 G4 f121 f122 f123 f124 hb2) hZ110 (hw _ (List.mem_of_getElem? (i := 18) rfl)) (hw _ (List.mem_of_getElem? (i := 4) rfl)) (by decide) (by decide)) q178a q178c (g := (mkF m 143 #[.val (.long x0), .second, .val (.long x1), .second, .val (.long x2), .second, .val (.long x3), .second, .val (.long x4), .second, .val (.long x5), .second, .val (.long ga1), .second, .val (.long se1), .second, .val (.long (se1 + ga1)), .second, .val (.long ga2), .second, .val (.long se2), .second, .val (.long (se2 + ga2)), .second, .val (.ref b4), .val (.int (1 : Int32)), .unset] [(.long (se2 + ga2)), (.long x4), (.long se2), (.ref b4)])) rfl (by rw [hml]; rfl) (Steps.refl _) (argsL := [(.long se2), (.long x4), (.long (se2 + ga2))]) (rest := []) (lenOf own_pd8 rfl) rfl (by show 2 * 0 + _ ≤ _; exact Nat.le_of_eq rfl) (hb hby at_143) (fun _ _ => ⟨rfl, eh126, (by decide : 2 + 0 ≤ _), (by decide : 6 + 0 ≤ _)⟩)
            dsimp only [Pt.U, Pt.locs, Pt.cells, Pt.slots] at X178 l178 y178 z178 st178 hQ178
            subst l178 y178 z178
            obtain ⟨rfl, N178q, K178q, f178_0, f178_1, f178_2, f178_3⟩ := hQ178
            have N178 := Fr.app N126 N178q
            have f179 := f114.keep K178q (allS G4 all0)
            have f180 := own_sta_keep f115 K178q (allS (own_eplain f120) all0)
            have f181 := own_sta_keep f116 K178q (allS (own_eplain f120) all0)
            have f182 := own_sta_keep f117 K178q (allS (own_eplain f120) all0)
            have f183 := f118.keep K178q
            have f184 := f119.keep K178q (ninS ne5 nin0)
            have f185 := f120.keep K178q
            have f186 := f110_1.keep K178q
            have f187 := f110_2.keep K178q (ninS (Ne.symm ne112) nin0)
            have f188 := f110_3.keep K178q (ninS (Ne.symm ne112) nin0)
            have K178 := K110.trans K178q (allS (Or.inr H4) all0)
            have Z178 := Nat.le_trans Z110 K178q.1
            have hk178 := Nat.le_trans (Nat.le_refl T110.heap.size) K178q.1
            refine Goes.tr st178 ?_
            show Goes p e below _ T178 (mkF m 146 #[.val (.long x0), .second, .val (.long x1), .second, .val (.long x2), .second, .val (.long x3), .second, .val (.long x4), .second, .val (.long x5), .second, .val (.long ga1), .second, .val (.long se1), .second, .val (.long (se1 + ga1)), .second, .val (.long ga2), .second, .val (.long se2), .second, .val (.long (se2 + ga2)), .second, .val (.ref b4), .val (.int (1 : Int32)), .unset] [])
            refine own_lload X178 hx 148 rfl (hb hby at_146) rfl ?_
            refine own_lload X178 hx 150 rfl (hb hby at_148) rfl ?_
            refine own_lcmp X178 hx 151 rfl (hb hby at_150) ?_
            refine own_ifY X178 hx 176 (hb hby at_151) (Lflt (fun q => hb2 ((own_cmp hs1 hs2).mpr q) : ¬ (ga2 < ga1))).2.1 (by decide) (by decide) ?_
            refine own_aload X178 hx 178 rfl (hb hby at_176) rfl rfl ?_
            obtain ⟨cq189, kq189, q189a, q189b, q189c⟩ := isOf hZ110 rfl f185
            obtain ⟨_, _, ⟨T189, L189, k189, n189⟩, -, X189, Sx189, gr189, ⟨Lc189, hQ189, l189, y189, z189⟩, st189⟩ := X178.virtualBackS hx (y := (⟨"com/example/tallywire/tallywire/logs/CalibrationCycle", "offset", "()Ljava/util/OptionalLong;"⟩ : MethodName)) (z := (⟨"com/example/tallywire/tallywire/logs/CalibrationCycle", "offset", "()Ljava/util/OptionalLong;"⟩ : MethodName)) ho110 (mvT hZ110 (hw _ (List.mem_of_getElem? (i := 26) rfl))) (mvT hZ110 (hw _ (List.mem_of_getElem? (i := 27) rfl))) (notFace_of_selects (args := #[]) (mvT hZ110 (hw _ (List.mem_of_getElem? (i := 29) rfl)))) (mvT hZ110 (hw _ (List.mem_of_getElem? (i := 29) rfl))) (mvT hZ110 (hw _ (List.mem_of_getElem? (i := 28) rfl))) (by decide) (own_backSW (W := 0) (rmoffO l Z a0 hw [] b4 (se1 + (((se1 + ga1) - se1) / (2 : Int64))) x1 T178.heap n0 Z178 f178_2 f178_3 ov1) hZ110 (hw _ (List.mem_of_getElem? (i := 30) rfl)) (hw _ (List.mem_of_getElem? (i := 4) rfl)) (by decide) (by decide) (Vm.MethodsKnown.alikeC hS110.1.alike hTK) (Vm.FramesKnown.alikeC hS110.1.alike hBl)) q189a q189c (g := (mkF m 178 #[.val (.long x0), .second, .val (.long x1), .second, .val (.long x2), .second, .val (.long x3), .second, .val (.long x4), .second, .val (.long x5), .second, .val (.long ga1), .second, .val (.long se1), .second, .val (.long (se1 + ga1)), .second, .val (.long ga2), .second, .val (.long se2), .second, .val (.long (se2 + ga2)), .second, .val (.ref b4), .val (.int (1 : Int32)), .unset] [(.ref b4)])) rfl (by rw [hml]; rfl) (Steps.refl _) (argsL := []) (rest := []) (lenOf own_pd4 rfl) rfl (by show 2 * 0 + _ ≤ _; exact Nat.le_of_eq rfl) (hb hby at_178) (fun _ _ => ⟨rfl, rfl, (by decide : 2 + 1 ≤ _), (by decide : 6 + 2 ≤ _)⟩)
            dsimp only [Pt.U, Pt.locs, Pt.cells, Pt.slots] at X189 l189 y189 z189 st189 hQ189 Sx189 gr189
            subst l189 y189 z189
            obtain ⟨Y189, hS189, hZ189, ho189⟩ := rebS hS110 (Nat.le_trans hk178 (Nat.le_of_eq (congrArg Array.size (Eq.symm rfl)))) X189 Sx189 gr189 hZ110 ho110
            obtain ⟨ob_189, rfl, N189q, K189q, f189_0, f189_1, f189_2, f189_3⟩ := hQ189
            have N189 := Fr.app N178 N189q
            have ne190 : ez ≠ ob_189 := Nat.ne_of_lt (Nat.lt_of_lt_of_le f183.lt f189_0)
            have ne191 : b4 ≠ ob_189 := Nat.ne_of_lt (Nat.lt_of_lt_of_le f185.lt f189_0)
            have ne192 : ob_110 ≠ ob_189 := Nat.ne_of_lt (Nat.lt_of_lt_of_le f186.lt f189_0)
            have GG193 : n0 ≤ ob_189 := Nat.le_trans Z178 f189_0
            have HG193 : h0.size ≤ ob_189 := Nat.le_trans K178.1 f189_0
            have f194 := f179.keep K189q all0
            have f195 := own_sta_keep f180 K189q all0
            have f196 := own_sta_keep f181 K189q all0
            have f197 := own_sta_keep f182 K189q all0
            have f198 := f183.keep K189q
            have f199 := f184.keep K189q nin0
            have f200 := f185.keep K189q
            have f201 := f186.keep K189q
            have f202 := f187.keep K189q nin0
            have f203 := f188.keep K189q nin0
            have f204 := f178_0.keep K189q nin0
            have f205 := f178_1.keep K189q nin0
            have f206 := f178_2.keep K189q nin0
            have f207 := f178_3.keep K189q nin0
            have K189 := K178.trans K189q all0
            have Z189 := Nat.le_trans Z178 K189q.1
            refine Goes.tr st189 ?_
            show Goes p e below _ T189 (mkF m 181 #[.val (.long x0), .second, .val (.long x1), .second, .val (.long x2), .second, .val (.long x3), .second, .val (.long x4), .second, .val (.long x5), .second, .val (.long ga1), .second, .val (.long se1), .second, .val (.long (se1 + ga1)), .second, .val (.long ga2), .second, .val (.long se2), .second, .val (.long (se2 + ga2)), .second, .val (.ref b4), .val (.int (1 : Int32)), .unset] [(.ref ob_189)])
            refine own_lloadN Y189 hx 182 rfl (hb hby at_181) rfl ?_
            refine own_lload Y189 hx 184 rfl (hb hby at_182) rfl ?_
            refine own_lload Y189 hx 186 rfl (hb hby at_184) rfl ?_
            obtain ⟨_, _, ⟨T208, L208, k208, n208⟩, -, X208, ⟨Lc208, hQ208, l208, y208, z208⟩, st208⟩ := Jvm.LawKit.callS Y189 hx (y := (⟨"com/example/tallywire/tallywire/logs/CalibrationCycleAddPinLaw", "midpoint", "(JJ)J"⟩ : MethodName)) ho189 (mvT hZ189 (hw _ (List.mem_of_getElem? (i := 50) rfl))) (mvT hZ189 (hw _ (List.mem_of_getElem? (i := 51) rfl))) (mvT hZ189 (hw _ (List.mem_of_getElem? (i := 52) rfl))) (mvT hZ189 (hw _ (List.mem_of_getElem? (i := 53) rfl))) (by decide) (backOf (W := 3) (rm8 l Z a0 hw [] se1 (se1 + ga1) (se1 + (((se1 + ga1) - se1) / (2 : Int64))) T189.heap n0 Z189 (own_mid hs1)) hZ189 (hw _ (List.mem_of_getElem? (i := 53) rfl)) (hw _ (List.mem_of_getElem? (i := 52) rfl)) (by decide) (by decide)) (g := (mkF m 186 #[.val (.long x0), .second, .val (.long x1), .second, .val (.long x2), .second, .val (.long x3), .second, .val (.long x4), .second, .val (.long x5), .second, .val (.long ga1), .second, .val (.long se1), .second, .val (.long (se1 + ga1)), .second, .val (.long ga2), .second, .val (.long se2), .second, .val (.long (se2 + ga2)), .second, .val (.ref b4), .val (.int (1 : Int32)), .unset] [(.long (se1 + ga1)), (.long se1), (.long x1), (.ref ob_189)])) rfl (by rw [hml]; rfl) (argsL := [(.long se1), (.long (se1 + ga1))]) (rest := [(.long x1), (.ref ob_189)]) (lenOf own_pd2 rfl) rfl (by show 2 * 0 + _ ≤ _; exact Nat.le_of_eq rfl) (hb hby at_186) (fun _ _ => ⟨rfl, rfl, (by decide : 3 + 0 ≤ _), (by decide : 8 + 0 ≤ _)⟩)
            dsimp only [Pt.U, Pt.locs, Pt.cells, Pt.slots] at X208 l208 y208 z208 st208 hQ208
            subst l208 y208 z208
            obtain ⟨rfl, N208q, eh208⟩ := hQ208
            have N208 := Fr.app N189 N208q
            refine Goes.go st208 ?_
            show Goes p e below _ T208 (mkF m 189 #[.val (.long x0), .second, .val (.long x1), .second, .val (.long x2), .second, .val (.long x3), .second, .val (.long x4), .second, .val (.long x5), .second, .val (.long ga1), .second, .val (.long se1), .second, .val (.long (se1 + ga1)), .second, .val (.long ga2), .second, .val (.long se2), .second, .val (.long (se2 + ga2)), .second, .val (.ref b4), .val (.int (1 : Int32)), .unset] [(.long (se1 + (((se1 + ga1) - se1) / (2 : Int64)))), (.long x1), (.ref ob_189)])
            obtain ⟨_, _, ⟨T209, L209, k209, n209⟩, -, X209, ⟨Lc209, hQ209, l209, y209, z209⟩, st209⟩ := Jvm.LawKit.callS X208 hx (y := (⟨"com/example/tallywire/tallywire/logs/CalibrationCycleAddPinLaw", "matches", "(Ljava/util/OptionalLong;JJ)Z"⟩ : MethodName)) ho189 (mvT hZ189 (hw _ (List.mem_of_getElem? (i := 54) rfl))) (mvT hZ189 (hw _ (List.mem_of_getElem? (i := 55) rfl))) (mvT hZ189 (hw _ (List.mem_of_getElem? (i := 52) rfl))) (mvT hZ189 (hw _ (List.mem_of_getElem? (i := 56) rfl))) (by decide) (backOf (W := 0) (rmmatP l Z a0 hw [] ob_189 x1 (se1 + (((se1 + ga1) - se1) / (2 : Int64))) T189.heap n0 Z189 ov1 f189_1 f189_2 f189_3) hZ189 (hw _ (List.mem_of_getElem? (i := 56) rfl)) (hw _ (List.mem_of_getElem? (i := 52) rfl)) (by decide) (by decide)) (g := (mkF m 189 #[.val (.long x0), .second, .val (.long x1), .second, .val (.long x2), .second, .val (.long x3), .second, .val (.long x4), .second, .val (.long x5), .second, .val (.long ga1), .second, .val (.long se1), .second, .val (.long (se1 + ga1)), .second, .val (.long ga2), .second, .val (.long se2), .second, .val (.long (se2 + ga2)), .second, .val (.ref b4), .val (.int (1 : Int32)), .unset] [(.long (se1 + (((se1 + ga1) - se1) / (2 : Int64)))), (.long x1), (.ref ob_189)])) rfl (by rw [hml]; rfl) (argsL := [(.ref ob_189), (.long x1), (.long (se1 + (((se1 + ga1) - se1) / (2 : Int64))))]) (rest := []) (lenOf own_pd9 rfl) rfl (by show 2 * 0 + _ ≤ _; exact Nat.le_of_eq rfl) (hb hby at_189) (fun _ _ => ⟨rfl, eh208, (by decide : 3 + 0 ≤ _), (by decide : 8 + 0 ≤ _)⟩)
            dsimp only [Pt.U, Pt.locs, Pt.cells, Pt.slots] at X209 l209 y209 z209 st209 hQ209
            subst l209 y209 z209
            obtain ⟨rfl, N209q, eh209⟩ := hQ209
            have N209 := Fr.app N208 N209q
            refine Goes.go st209 ?_
            show Goes p e below _ T209 (mkF m 192 #[.val (.long x0), .second, .val (.long x1), .second, .val (.long x2), .second, .val (.long x3), .second, .val (.long x4), .second, .val (.long x5), .second, .val (.long ga1), .second, .val (.long se1), .second, .val (.long (se1 + ga1)), .second, .val (.long ga2), .second, .val (.long se2), .second, .val (.long (se2 + ga2)), .second, .val (.ref b4), .val (.int (1 : Int32)), .unset] [(.int (1 : Int32))])
            refine own_istore X209 hx 194 rfl #[.val (.long x0), .second, .val (.long x1), .second, .val (.long x2), .second, .val (.long x3), .second, .val (.long x4), .second, .val (.long x5), .second, .val (.long ga1), .second, .val (.long se1), .second, .val (.long (se1 + ga1)), .second, .val (.long ga2), .second, .val (.long se2), .second, .val (.long (se2 + ga2)), .second, .val (.ref b4), .val (.int (1 : Int32)), .val (.int (1 : Int32))] (hb hby at_192) rfl ?_
            refine own_iload X209 hx 196 rfl (hb hby at_194) rfl ?_
            refine own_ifN X209 hx 199 (hb hby at_196) ((if0 _ _).trans (feq ((by decide) : ¬ ((1 : Int32) = (0 : Int32)))).1) rfl ?_
            refine own_iload X209 hx 201 rfl (hb hby at_199) rfl ?_
            refine own_ifN X209 hx 204 (hb hby at_201) ((if0 _ _).trans (feq ((by decide) : ¬ ((1 : Int32) = (0 : Int32)))).1) rfl ?_
            refine own_aload X209 hx 206 rfl (hb hby at_204) rfl rfl ?_
            obtain ⟨cq210, kq210, q210a, q210b, q210c⟩ := isOf hZ189 eh209 f200
            obtain ⟨_, _, ⟨T210, L210, k210, n210⟩, -, X210, ⟨Lc210, hQ210, l210, y210, z210⟩, st210⟩ := X209.virtualBack hx (y := (⟨"com/example/tallywire/tallywire/logs/CalibrationCycle", "isComplete", "()Z"⟩ : MethodName)) (z := (⟨"com/example/tallywire/tallywire/logs/CalibrationCycle", "isComplete", "()Z"⟩ : MethodName)) ho189 (mvT hZ189 (hw _ (List.mem_of_getElem? (i := 67) rfl))) (mvT hZ189 (hw _ (List.mem_of_getElem? (i := 68) rfl))) (notFace_of_selects (args := #[]) (mvT hZ189 (hw _ (List.mem_of_getElem? (i := 70) rfl)))) (mvT hZ189 (hw _ (List.mem_of_getElem? (i := 70) rfl))) (mvT hZ189 (hw _ (List.mem_of_getElem? (i := 69) rfl))) (by decide) (backOf (W := 0) (rm12 l Z a0 hw [] b4 (((0 : Int32) + (1 : Int32)) + (1 : Int32)) T189.heap n0 Z189 f205 (by decide)) hZ189 (hw _ (List.mem_of_getElem? (i := 71) rfl)) (hw _ (List.mem_of_getElem? (i := 4) rfl)) (by decide) (by decide)) q210a q210c (g := (mkF m 206 #[.val (.long x0), .second, .val (.long x1), .second, .val (.long x2), .second, .val (.long x3), .second, .val (.long x4), .second, .val (.long x5), .second, .val (.long ga1), .second, .val (.long se1), .second, .val (.long (se1 + ga1)), .second, .val (.long ga2), .second, .val (.long se2), .second, .val (.long (se2 + ga2)), .second, .val (.ref b4), .val (.int (1 : Int32)), .val (.int (1 : Int32))] [(.ref b4)])) rfl (by rw [hml]; rfl) (Steps.refl _) (argsL := []) (rest := []) (lenOf own_pd5 rfl) rfl (by show 2 * 0 + _ ≤ _; exact Nat.le_of_eq rfl) (hb hby at_206) (fun _ _ => ⟨rfl, eh209, (by decide : 3 + 0 ≤ _), (by decide : 8 + 0 ≤ _)⟩)
            dsimp only [Pt.U, Pt.locs, Pt.cells, Pt.slots] at X210 l210 y210 z210 st210 hQ210
            subst l210 y210 z210
            obtain ⟨rfl, N210q, eh210⟩ := hQ210
            have N210 := Fr.app N209 N210q
            refine Goes.tr st210 ?_
            show Goes p e below _ T210 (mkF m 209 #[.val (.long x0), .second, .val (.long x1), .second, .val (.long x2), .second, .val (.long x3), .second, .val (.long x4), .second, .val (.long x5), .second, .val (.long ga1), .second, .val (.long se1), .second, .val (.long (se1 + ga1)), .second, .val (.long ga2), .second, .val (.long se2), .second, .val (.long (se2 + ga2)), .second, .val (.ref b4), .val (.int (1 : Int32)), .val (.int (1 : Int32))] [(.int (0 : Int32))])
            refine own_ifN X210 hx 212 (hb hby at_209) ((if0 _ _).trans (teq ((by decide) : (0 : Int32) = (0 : Int32))).2) rfl ?_
            refine own_iconst X210 hx 213 rfl (1 : Int32) (hb hby at_212) (by decide) ?_
            refine own_goto X210 hx 217 (hb hby at_213) (by decide) (by decide) ?_
            refine own_retWZ X210 hx hS189 hlk Bd.returns (by decide) (hb hby at_217) (by decide) (by decide) eh210 (Nat.le_refl T189.heap.size) ?_
            exact ⟨rfl, N210⟩
      refine own_lload X2 hx 74 rfl (hb hby at_72) rfl ?_
      refine Goes.go (X2.ldc2Long hx hown (mvT hZ (hw _ (List.mem_of_getElem? (i := 0) rfl))) (g := (mkF m 74 #[.val (.long x0), .second, .val (.long x1), .second, .val (.long x2), .second, .val (.long x3), .second, .val (.long x4), .second, .val (.long x5), .second, .val (.long ga1), .second, .val (.long se1), .second, .val (.long (se1 + ga1)), .second, .val (.long ga2), .second, .val (.long x3), .second, .unset, .unset, .unset, .unset, .unset] [(.long x3)])) rfl (hb hby at_74)) ?_
      show Goes p e below _ T2 (mkF m 77 #[.val (.long x0), .second, .val (.long x1), .second, .val (.long x2), .second, .val (.long x3), .second, .val (.long x4), .second, .val (.long x5), .second, .val (.long ga1), .second, .val (.long se1), .second, .val (.long (se1 + ga1)), .second, .val (.long ga2), .second, .val (.long x3), .second, .unset, .unset, .unset, .unset, .unset] [(.long (9223372036854775807 : Int64)), (.long x3)])
      refine own_lload X2 hx 79 rfl (hb hby at_77) rfl ?_
      refine own_lsub X2 hx 80 rfl (hb hby at_79) rfl ?_
      refine own_lcmp X2 hx 81 rfl (hb hby at_80) ?_
      by_cases hc81_211 : ((9223372036854775807 : Int64) - ga2) < x3
      · refine own_ifN X2 hx 84 (hb hby at_81) (Ltlt hc81_211).2.2.2 rfl ?_
        refine own_lload X2 hx 86 rfl (hb hby at_84) rfl ?_
        refine own_lload X2 hx 88 rfl (hb hby at_86) rfl ?_
        refine own_lsub X2 hx 89 rfl (hb hby at_88) rfl ?_
        refine own_lstore X2 hx 91 rfl #[.val (.long x0), .second, .val (.long x1), .second, .val (.long x2), .second, .val (.long x3), .second, .val (.long x4), .second, .val (.long x5), .second, .val (.long ga1), .second, .val (.long se1), .second, .val (.long (se1 + ga1)), .second, .val (.long ga2), .second, .val (.long (x3 - ga2)), .second, .unset, .unset, .unset, .unset, .unset] (hb hby at_89) rfl ?_
        exact J91 T2 h2 _ (x3 - ga2) (own_fitB hg2 hc81_211) X2 e2 N2 K2 Z2 f2_0 f2_1 f2_2 f2_3 f2_4 f2_5
      · refine own_ifY X2 hx 91 (hb hby at_81) (Lflt hc81_211).2.2.2 (by decide) (by decide) ?_
        exact J91 T2 h2 _ (x3) (own_fitA hg2 hc81_211) X2 e2 N2 K2 Z2 f2_0 f2_1 f2_2 f2_3 f2_4 f2_5
    refine own_lload X1 hx 42 rfl (hb hby at_40) rfl ?_
    refine Goes.go (X1.ldc2Long hx hown (mvT hZ (hw _ (List.mem_of_getElem? (i := 1) rfl))) (g := (mkF m 42 #[.val (.long x0), .second, .val (.long x1), .second, .val (.long x2), .second, .val (.long x3), .second, .val (.long x4), .second, .val (.long x5), .second, .val (.long ga1), .second, .val (.long se1), .second, .val (.long (se1 + ga1)), .second, .unset, .unset, .unset, .unset, .unset, .unset, .unset, .unset, .unset] [(.long x5)])) rfl (hb hby at_42)) ?_
    show Goes p e below _ T1 (mkF m 45 #[.val (.long x0), .second, .val (.long x1), .second, .val (.long x2), .second, .val (.long x3), .second, .val (.long x4), .second, .val (.long x5), .second, .val (.long ga1), .second, .val (.long se1), .second, .val (.long (se1 + ga1)), .second, .unset, .unset, .unset, .unset, .unset, .unset, .unset, .unset, .unset] [(.long (3 : Int64)), (.long x5)])
    refine own_land X1 hx 46 rfl (hb hby at_45) rfl ?_
    refine own_lconst X1 hx 47 rfl (0 : Int64) (hb hby at_46) (by decide) ?_
    refine own_lcmp X1 hx 48 rfl (hb hby at_47) ?_
    by_cases hc48_212 : (x5 &&& (3 : Int64)) = (0 : Int64)
    · refine own_ifN X1 hx 51 (hb hby at_48) (Lteq hc48_212).2 rfl ?_
      refine own_lload X1 hx 53 rfl (hb hby at_51) rfl ?_
      refine own_goto X1 hx 66 (hb hby at_53) (by decide) (by decide) ?_
      exact J66 T1 h1 _ (ga1) hg1 X1 e1 N1 K1 Z1 f1_0 f1_1 f1_2 f1_3 f1_4 f1_5
    · refine own_ifY X1 hx 56 (hb hby at_48) (Lfeq hc48_212).2 (by decide) (by decide) ?_
      refine own_lload X1 hx 58 rfl (hb hby at_56) rfl ?_
      refine Goes.go (X1.ldc2Long hx hown (mvT hZ (hw _ (List.mem_of_getElem? (i := 0) rfl))) (g := (mkF m 58 #[.val (.long x0), .second, .val (.long x1), .second, .val (.long x2), .second, .val (.long x3), .second, .val (.long x4), .second, .val (.long x5), .second, .val (.long ga1), .second, .val (.long se1), .second, .val (.long (se1 + ga1)), .second, .unset, .unset, .unset, .unset, .unset, .unset, .unset, .unset, .unset] [(.long x5)])) rfl (hb hby at_58)) ?_
      show Goes p e below _ T1 (mkF m 61 #[.val (.long x0), .second, .val (.long x1), .second, .val (.long x2), .second, .val (.long x3), .second, .val (.long x4), .second, .val (.long x5), .second, .val (.long ga1), .second, .val (.long se1), .second, .val (.long (se1 + ga1)), .second, .unset, .unset, .unset, .unset, .unset, .unset, .unset, .unset, .unset] [(.long (9223372036854775807 : Int64)), (.long x5)])
      refine own_land X1 hx 62 rfl (hb hby at_61) rfl ?_
      refine Goes.go (X1.ldc2Long hx hown (mvT hZ (hw _ (List.mem_of_getElem? (i := 0) rfl))) (g := (mkF m 62 #[.val (.long x0), .second, .val (.long x1), .second, .val (.long x2), .second, .val (.long x3), .second, .val (.long x4), .second, .val (.long x5), .second, .val (.long ga1), .second, .val (.long se1), .second, .val (.long (se1 + ga1)), .second, .unset, .unset, .unset, .unset, .unset, .unset, .unset, .unset, .unset] [(.long (x5 &&& (9223372036854775807 : Int64)))])) rfl (hb hby at_62)) ?_
      show Goes p e below _ T1 (mkF m 65 #[.val (.long x0), .second, .val (.long x1), .second, .val (.long x2), .second, .val (.long x3), .second, .val (.long x4), .second, .val (.long x5), .second, .val (.long ga1), .second, .val (.long se1), .second, .val (.long (se1 + ga1)), .second, .unset, .unset, .unset, .unset, .unset, .unset, .unset, .unset, .unset] [(.long (9223372036854775807 : Int64)), (.long (x5 &&& (9223372036854775807 : Int64)))])
      obtain ⟨gb2, h_gb2⟩ : ∃ z, z = ((x5 &&& (9223372036854775807 : Int64)) % (9223372036854775807 : Int64)) := ⟨_, rfl⟩
      refine own_lrem X1 hx 66 rfl (hb hby at_65) (by decide) h_gb2.symm ?_
      exact J66 T1 h1 _ (gb2) (own_gap h_gb2) X1 e1 N1 K1 Z1 f1_0 f1_1 f1_2 f1_3 f1_4 f1_5
  refine own_lload X0 hx 17 rfl (hb hby at_15) rfl ?_
  refine Goes.go (X0.ldc2Long hx hown (mvT hZ (hw _ (List.mem_of_getElem? (i := 0) rfl))) (g := (mkF m 17 #[.val (.long x0), .second, .val (.long x1), .second, .val (.long x2), .second, .val (.long x3), .second, .val (.long x4), .second, .val (.long x5), .second, .val (.long ga1), .second, .val (.long x0), .second, .unset, .unset, .unset, .unset, .unset, .unset, .unset, .unset, .unset, .unset, .unset] [(.long x0)])) rfl (hb hby at_17)) ?_
  show Goes p e below _ s₁ (mkF m 20 #[.val (.long x0), .second, .val (.long x1), .second, .val (.long x2), .second, .val (.long x3), .second, .val (.long x4), .second, .val (.long x5), .second, .val (.long ga1), .second, .val (.long x0), .second, .unset, .unset, .unset, .unset, .unset, .unset, .unset, .unset, .unset, .unset, .unset] [(.long (9223372036854775807 : Int64)), (.long x0)])
  refine own_lload X0 hx 22 rfl (hb hby at_20) rfl ?_
  refine own_lsub X0 hx 23 rfl (hb hby at_22) rfl ?_
  refine own_lcmp X0 hx 24 rfl (hb hby at_23) ?_
  by_cases hc24_213 : ((9223372036854775807 : Int64) - ga1) < x0
  · refine own_ifN X0 hx 27 (hb hby at_24) (Ltlt hc24_213).2.2.2 rfl ?_
    refine own_lloadN X0 hx 28 rfl (hb hby at_27) rfl ?_
    refine own_lload X0 hx 30 rfl (hb hby at_28) rfl ?_
    refine own_lsub X0 hx 31 rfl (hb hby at_30) rfl ?_
    refine own_lstore X0 hx 33 rfl #[.val (.long x0), .second, .val (.long x1), .second, .val (.long x2), .second, .val (.long x3), .second, .val (.long x4), .second, .val (.long x5), .second, .val (.long ga1), .second, .val (.long (x0 - ga1)), .second, .unset, .unset, .unset, .unset, .unset, .unset, .unset, .unset, .unset, .unset, .unset] (hb hby at_31) rfl ?_
    exact J33 s₁ h0 _ (x0 - ga1) (own_fitB hg1 hc24_213) X0 e0 N0 K0 Z0 hold Fus Fss Se Ee Fe
  · refine own_ifY X0 hx 33 (hb hby at_24) (Lflt hc24_213).2.2.2 (by decide) (by decide) ?_
    exact J33 s₁ h0 _ (x0) (own_fitA hg1 hc24_213) X0 e0 N0 K0 Z0 hold Fus Fss Se Ee Fe
set_option maxRecDepth 65536 in
set_option maxHeartbeats 40000000 in
theorem comes_1 {Post : Tables → Env → Array Value → State → Outcome → State → Prop} (hpost : ∀ tb e args s v u, (limb_1_1.after args s (.returned v) u = true ∧ limb_1_2.after args s (.returned v) u = true ∧ True) → ReturnedEndW s (.returned v) u (Jvm.fieldLocs frame_1_writes args s ++ Jvm.arrayLocs frame_1_arrays args s ++ Jvm.staticLocs frame_1_statics s) 24 12160 → Post tb e args s (.returned v) u) :
    ArmFor flags0 classFile x code maxLocals ret World_1 tables_1 room_1 Calls_1 rest_1 Pre_1 Post := by
  intro l hfl _ _ p e ha hc hk s m args below hf hA hF happ hP
  obtain ⟨hcalls, hrest, hpre⟩ := hP
  obtain ⟨-, -, -, hnamed, -, -, -, hat⟩ := (Spec.applies_iff hf).mp happ
  obtain ⟨hg, hn⟩ := and_e (Cond.before_iff.mp (show (Jvm.Cond.and given_1 narrow_1).before args s = true from hpre))
  obtain ⟨gg1, gg2⟩ := and_e hg
  obtain ⟨gg3, gg4⟩ := and_e gg2
  obtain ⟨gg5, gg6⟩ := and_e gg4
  obtain ⟨gg7, gg8⟩ := and_e gg6
  obtain ⟨gg9, gg10⟩ := and_e gg8
  obtain ⟨gg11, gg12⟩ := and_e gg10
  obtain ⟨w0, w1, w2, w3, w4, w5, rfl⟩ : ∃ w0 w1 w2 w3 w4 w5 : Value, args = #[w0, w1, w2, w3, w4, w5] := by
    have hs : args.size = 6 := by simpa [Cond.value, given_1] using gg1
    obtain ⟨L⟩ := args
    match L, hs with
    | [w0, w1, w2, w3, w4, w5], _ => exact ⟨w0, w1, w2, w3, w4, w5, rfl⟩
  have hw := fun d (hd : d ∈ tables_1) => atoms_spec (ws := Jvm.Cond.code x code maxLocals ret :: tables_1) hat d (List.mem_cons_of_mem _ hd)
  have hfit : Fit s := fun {y c} hc i hi => by
    obtain ⟨ha, rfl⟩ := Array.getElem?_eq_some_iff.mp hc
    have q := List.all_eq_true.mp ((Array.all_eq_true_iff_forall_mem.mp hF) _ (Array.getElem_mem ha)) i (List.mem_range.mpr hi)
    simpa [Array.getElem?_eq_getElem hi] using q
  obtain ⟨i0, ei0⟩ := isL_v gg3
  obtain rfl : w0 = (.long i0) := Option.some.inj ei0
  obtain ⟨i1, ei1⟩ := isL_v gg5
  obtain rfl : w1 = (.long i1) := Option.some.inj ei1
  obtain ⟨i2, ei2⟩ := isL_v gg7
  obtain rfl : w2 = (.long i2) := Option.some.inj ei2
  obtain ⟨i3, ei3⟩ := isL_v gg9
  obtain rfl : w3 = (.long i3) := Option.some.inj ei3
  obtain ⟨i4, ei4⟩ := isL_v gg11
  obtain rfl : w4 = (.long i4) := Option.some.inj ei4
  obtain ⟨i5, ei5⟩ := isL_v gg12
  obtain rfl : w5 = (.long i5) := Option.some.inj ei5
  obtain ⟨hsets, hown0⟩ := atoms_of _ (rest_1_c_eq ▸ (show rest_1_c.before _ s = true from hrest))
  obtain ⟨us, evu, fu⟩ := static_fit hfit (hsets _ (List.mem_of_getElem? (i := 5) rfl)) (ty := .array (.object "java/lang/StackTraceElement")) (by decide)
  have hus := fit_R fu rfl
  have Fus := Sta.start evu (Or.inl (hsets _ (List.mem_of_getElem? (i := 6) rfl)))
  obtain ⟨ss, evs, fs⟩ := static_fit hfit (hsets _ (List.mem_of_getElem? (i := 10) rfl)) (ty := .object "java/util/List") (by decide)
  have hss := fit_R fs rfl
  have Fss := Sta.start evs (Or.inl (hsets _ (List.mem_of_getElem? (i := 11) rfl)))
  obtain ⟨ez, eve⟩ := exa_v (Cond.before_iff.mp (hsets _ (List.mem_of_getElem? (i := 22) rfl)))
  have Se := Sta.start eve (Or.inl (hsets _ (List.mem_of_getElem? (i := 21) rfl)))
  have Ee := Exa.start eve (Cond.before_iff.mp (hsets _ (List.mem_of_getElem? (i := 22) rfl)))
  have Fe := Fld.start (own_fldv eve (Term.int_eval (0)) (Cond.before_iff.mp (hsets _ (List.mem_of_getElem? (i := 23) rfl))))
  obtain ⟨n, o, h1, h2, h3, _, L, rfl, ⟨rfl, N⟩, hq⟩ := rm0 l s _ hw tables_1 i0 i1 i2 i3 i4 i5 ez us ss s.heap s.heap.size (Nat.le_refl _) (Old.start s) Se Ee Fe Fus hus Fss hss hfl p e ha hc hk s m _ below hf ((Spec.applies_iff_loose hf).mp happ).1 ⟨rfl, State.Warmed39.refl s, rfl⟩ ⟨MethodsKnown_of_tablesKnown hcalls.2.1, FramesKnown_of_framesKnown hcalls.1 hf⟩
  refine ⟨n, _, h1, h2, h3, hpost _ _ _ _ _ _ ⟨Cond.after_iff.mpr rfl, Cond.after_iff.mpr (eq_i res_at (Term.int_eval (1)) rfl), trivial⟩ ⟨hq.1, hq.2.1, hq.2.2.1, (hq.2.2.2.sift fun y hy => Or.inr (N y hy)).mono (by decide) (by decide)⟩⟩
theorem main_1_1 : Claimed_1_1 := comes_1 fun _ _ _ _ _ _ h hF => ⟨h.1, hF⟩
theorem main_1_2 : Claimed_1_2 := comes_1 fun _ _ _ _ _ _ h hF => ⟨h.2.1, hF⟩
end Jvm.Pilot.@@N@@
namespace Jvm.Pilot.@@N@@
open Jvm Jvm.ClassFile Sem Op Lib Jvm.Free Jvm.Stand Jvm.Pilot.@@N@@.Jvm.D
/-! MADE BY PROGRAM (witnessworld.py) out of the Statement's table words and the real class files: 33 classes; the members and pool entries that the words name. The judged class is class 1, her method 1. -/
namespace start1
open Jvm.ClassFile
def u (s : String) : CpInfo := .utf8 (stringToUtf16 s)
/-- a pool by its gaps: so many unusable entries, then the entry; so many at the end -/
def gap : Nat → List CpInfo → List CpInfo
  | 0, r => r
  | n + 1, r => .unusable :: gap n r
def poolList (es : List (Nat × CpInfo)) (last : Nat) : List CpInfo := es.foldr (fun e r => gap e.1 (e.2 :: r)) (gap last [])
def pool (es : List (Nat × CpInfo)) (last : Nat) : Array CpInfo := ⟨poolList es last⟩
def fileOf (pool : Array CpInfo) (this : Nat) (attrs : Array Attribute := #[]) (ms : Array MethodInfo := #[]) (fl : Nat := 33) (sup : Nat := 0) (ifs : Array Nat := #[]) (fds : Array FieldInfo := #[]) : ClassFile where
  minorVersion := 0
  majorVersion := 65
  constantPool := pool
  accessFlags := fl
  thisClass := this
  superClass := sup
  interfaces := ifs
  fields := fds
  methods := ms
  attributes := attrs
def plain (name : String) (sup : Option ClassId) : Class where
  name := name
  kind := .ordinary
  loader := none
  accessFlags := 33
  super := sup
  interfaces := #[]
  cf := none
  fields := #[]
  methods := #[]
  instanceTypes := #[]
  staticTypes := #[]
  resolved := #[]
  callSites := []
  init := .initialized
  statics := none
  mirror := none

def pool0 : Array CpInfo := pool [(5, u "<init>"), (0, u "()V"), (1, .class_ 10), (1, u "java/lang/Object")] 113

def k0c0 : Code := { maxStack := 0, maxLocals := 1, code := object_method_1_code, exceptionTable := #[], attributes := #[] }
def k0m0 : Method := { name := "<init>", desc := "()V", sig := { parameters := [], returnType := none }, accessFlags := 1, code := some k0c0 }
/-- java/lang/Object -/
def k0 : Class := { plain "java/lang/Object" none with
  accessFlags := 33
  interfaces := #[]
  cf := some (fileOf pool0 8 #[] #[{ accessFlags := 1, nameIndex := 5, descriptorIndex := 6, attributes := #[] }] 33 0 #[] #[])
  fields := #[]
  methods := #[k0m0]
  instanceTypes := #[]
  staticTypes := #[]
  resolved := Array.replicate 124 none
  statics := none }

def pool1 : Array CpInfo := pool [(2, .class_ 4), (0, .nameAndType 5 6), (0, u "java/lang/Object"), (0, u "<init>"), (0, u "()V"), (2, .long 9223372036854775807), (1, .long 3), (1, .class_ 14), (0, u "com/example/tallywire/tallywire/logs/CalibrationCycle"), (0, .methodref 13 3), (0, .methodref 13 17), (0, .nameAndType 18 19), (0, u "add"), (0, u "(JJJ)V"), (0, .methodref 13 21), (0, .nameAndType 22 23), (0, u "offset"), (0, u "()Ljava/util/OptionalLong;"), (0, .methodref 25 26), (0, .class_ 27), (0, .nameAndType 28 29), (0, u "com/example/tallywire/tallywire/logs/CalibrationCycleAddPinLaw"), (0, u "midpoint"), (0, u "(JJ)J"), (0, .methodref 25 31), (0, .nameAndType 32 33), (0, u "matches"), (0, u "(Ljava/util/OptionalLong;JJ)Z"), (0, .methodref 13 35), (0, .nameAndType 36 37), (0, u "isComplete"), (0, u "()Z"), (0, .methodref 39 40), (0, .class_ 41), (0, .nameAndType 42 37), (0, u "java/util/OptionalLong"), (0, u "isPresent"), (0, .methodref 39 44), (0, .nameAndType 45 46), (0, u "getAsLong"), (0, u "()J"), (2, u "law"), (0, u "(JJJJJJ)Z")] 3

def k1m0 : Method := { name := "<init>", desc := "()V", sig := { parameters := [], returnType := none }, accessFlags := 2, code := none }
def k1c1 : Code := { maxStack := 7, maxLocals := 27, code := code, exceptionTable := #[], attributes := #[] }
def k1m1 : Method := { name := "law", desc := "(JJJJJJ)Z", sig := { parameters := [.long, .long, .long, .long, .long, .long], returnType := some .boolean }, accessFlags := 9, code := some k1c1 }
def k1c2 : Code := { maxStack := 6, maxLocals := 4, code := method_3_code, exceptionTable := #[], attributes := #[] }
def k1m2 : Method := { name := "midpoint", desc := "(JJ)J", sig := { parameters := [.long, .long], returnType := some .long }, accessFlags := 10, code := some k1c2 }
def k1c3 : Code := { maxStack := 6, maxLocals := 8, code := method_4_code, exceptionTable := #[], attributes := #[] }
def k1m3 : Method := { name := "matches", desc := "(Ljava/util/OptionalLong;JJ)Z", sig := { parameters := [(.object "java/util/OptionalLong"), .long, .long], returnType := some .boolean }, accessFlags := 10, code := some k1c3 }
/-- com/example/tallywire/tallywire/logs/CalibrationCycleAddPinLaw -/
def k1 : Class := { plain "com/example/tallywire/tallywire/logs/CalibrationCycleAddPinLaw" (some 0) with
  accessFlags := 49
  interfaces := #[]
  cf := some (fileOf pool1 25 #[] #[{ accessFlags := 2, nameIndex := 5, descriptorIndex := 6, attributes := #[] }, { accessFlags := 9, nameIndex := 49, descriptorIndex := 50, attributes := #[] }, { accessFlags := 10, nameIndex := 28, descriptorIndex := 29, attributes := #[] }, { accessFlags := 10, nameIndex := 32, descriptorIndex := 33, attributes := #[] }] 49 2 #[] #[])
  fields := #[]
  methods := #[k1m0, k1m1, k1m2, k1m3]
  instanceTypes := #[]
  staticTypes := #[]
  resolved := Array.replicate 54 none
  statics := none }

def pool2 : Array CpInfo := pool [(1, .methodref 2 3), (0, .class_ 4), (0, .nameAndType 5 6), (0, u "java/lang/Object"), (0, u "<init>"), (0, u "()V"), (2, .long 9223372036854775807), (1, .fieldref 12 13), (0, .class_ 14), (0, .nameAndType 15 16), (0, u "com/example/tallywire/tallywire/logs/CalibrationCycle"), (0, u "bestRoundTrip"), (0, u "J"), (0, .fieldref 12 18), (0, .nameAndType 19 20), (0, u "exchanges"), (0, u "I"), (0, .long 2), (1, .fieldref 12 24), (0, .nameAndType 25 16), (0, u "bestMidpoint"), (0, .fieldref 12 27), (0, .nameAndType 28 16), (0, u "bestReply"), (0, .methodref 30 31), (0, .class_ 32), (0, .nameAndType 33 34), (0, u "java/lang/Math"), (0, u "subtractExact"), (0, u "(JJ)J"), (0, .methodref 36 37), (0, .class_ 38), (0, .nameAndType 39 40), (0, u "java/util/OptionalLong"), (0, u "of"), (0, u "(J)Ljava/util/OptionalLong;"), (0, .class_ 42), (0, u "java/lang/ArithmeticException"), (0, .methodref 36 44), (0, .nameAndType 45 46), (0, u "empty"), (0, u "()Ljava/util/OptionalLong;"), (0, u "EXCHANGES"), (4, u "add"), (0, u "(JJJ)V"), (1, u "isComplete"), (0, u "()Z"), (0, u "offset")] 2

def k2c0 : Code := { maxStack := 3, maxLocals := 1, code := prog_28_method_1_code, exceptionTable := #[], attributes := #[] }
def k2m0 : Method := { name := "<init>", desc := "()V", sig := { parameters := [], returnType := none }, accessFlags := 0, code := some k2c0 }
def k2c1 : Code := { maxStack := 7, maxLocals := 9, code := prog_28_method_2_code, exceptionTable := #[], attributes := #[] }
def k2m1 : Method := { name := "add", desc := "(JJJ)V", sig := { parameters := [.long, .long, .long], returnType := none }, accessFlags := 0, code := some k2c1 }
def k2c2 : Code := { maxStack := 2, maxLocals := 1, code := prog_28_method_3_code, exceptionTable := #[], attributes := #[] }
def k2m2 : Method := { name := "isComplete", desc := "()Z", sig := { parameters := [], returnType := some .boolean }, accessFlags := 0, code := some k2c2 }
def k2c3 : Code := { maxStack := 4, maxLocals := 2, code := prog_28_method_4_code, exceptionTable := #[{ startPc := 0, endPc := 14, handlerPc := 15, catchType := 41 }], attributes := #[] }
def k2m3 : Method := { name := "offset", desc := "()Ljava/util/OptionalLong;", sig := { parameters := [], returnType := some (.object "java/util/OptionalLong") }, accessFlags := 0, code := some k2c3 }
/-- com/example/tallywire/tallywire/logs/CalibrationCycle -/
def k2 : Class := { plain "com/example/tallywire/tallywire/logs/CalibrationCycle" (some 0) with
  accessFlags := 48
  interfaces := #[]
  cf := some (fileOf pool2 12 #[] #[{ accessFlags := 0, nameIndex := 5, descriptorIndex := 6, attributes := #[] }, { accessFlags := 0, nameIndex := 52, descriptorIndex := 53, attributes := #[] }, { accessFlags := 0, nameIndex := 55, descriptorIndex := 56, attributes := #[] }, { accessFlags := 0, nameIndex := 57, descriptorIndex := 46, attributes := #[] }] 48 2 #[] #[{ accessFlags := 24, nameIndex := 47, descriptorIndex := 20, attributes := #[] }, { accessFlags := 2, nameIndex := 19, descriptorIndex := 20, attributes := #[] }, { accessFlags := 2, nameIndex := 15, descriptorIndex := 16, attributes := #[] }, { accessFlags := 2, nameIndex := 25, descriptorIndex := 16, attributes := #[] }, { accessFlags := 2, nameIndex := 28, descriptorIndex := 16, attributes := #[] }])
  fields := #[{ name := "EXCHANGES", type := .int, accessFlags := 24, slot := 0, constantValue := 0 }, { name := "exchanges", type := .int, accessFlags := 2, slot := 0, constantValue := 0 }, { name := "bestRoundTrip", type := .long, accessFlags := 2, slot := 1, constantValue := 0 }, { name := "bestMidpoint", type := .long, accessFlags := 2, slot := 2, constantValue := 0 }, { name := "bestReply", type := .long, accessFlags := 2, slot := 3, constantValue := 0 }]
  methods := #[k2m0, k2m1, k2m2, k2m3]
  instanceTypes := #[.int, .long, .long, .long]
  staticTypes := #[.int]
  resolved := Array.replicate 60 none
  statics := none }

def pool3 : Array CpInfo := pool [(1, .class_ 2), (0, u "java/lang/Math"), (1, .class_ 6), (1, u "java/lang/Object"), (0, u "<init>"), (0, u "()V"), (89, .class_ 100), (1, u "java/lang/Math$RandomNumberGeneratorHolder"), (8, .class_ 110), (0, u "java/lang/ArithmeticException"), (2, .methodref 109 114), (0, .nameAndType 7 115), (0, u "(Ljava/lang/String;)V"), (0, .string 117), (0, u "long overflow"), (3, u "(JJ)J"), (50, u "negativeZeroFloatBits"), (0, u "J"), (2, u "negativeZeroDoubleBits"), (68, u "$assertionsDisabled"), (0, u "Z"), (91, u "twoToTheDoubleScaleDown"), (0, u "D"), (4, u "twoToTheDoubleScaleUp"), (9, u "E"), (3, u "PI"), (2, u "TAU"), (2, u "DEGREES_TO_RADIANS"), (0, u "RADIANS_TO_DEGREES"), (28, u "subtractExact")] 65

def k3m0 : Method := { name := "<init>", desc := "()V", sig := { parameters := [], returnType := none }, accessFlags := 2, code := none }
def k3c1 : Code := { maxStack := 6, maxLocals := 6, code := jdk_29_method_27_code, exceptionTable := #[], attributes := #[] }
def k3m1 : Method := { name := "subtractExact", desc := "(JJ)J", sig := { parameters := [.long, .long], returnType := some .long }, accessFlags := 9, code := some k3c1 }
/-- java/lang/Math -/
def k3 : Class := { plain "java/lang/Math" (some 0) with
  accessFlags := 49
  interfaces := #[]
  cf := some (fileOf pool3 1 #[.nestMembers #[98]] #[{ accessFlags := 2, nameIndex := 7, descriptorIndex := 8, attributes := #[] }, { accessFlags := 9, nameIndex := 394, descriptorIndex := 121, attributes := #[] }] 49 4 #[] #[{ accessFlags := 25, nameIndex := 354, descriptorIndex := 339, attributes := #[] }, { accessFlags := 25, nameIndex := 358, descriptorIndex := 339, attributes := #[] }, { accessFlags := 25, nameIndex := 361, descriptorIndex := 339, attributes := #[] }, { accessFlags := 26, nameIndex := 364, descriptorIndex := 339, attributes := #[] }, { accessFlags := 26, nameIndex := 365, descriptorIndex := 339, attributes := #[] }, { accessFlags := 26, nameIndex := 172, descriptorIndex := 173, attributes := #[] }, { accessFlags := 26, nameIndex := 176, descriptorIndex := 173, attributes := #[] }, { accessFlags := 8, nameIndex := 344, descriptorIndex := 339, attributes := #[] }, { accessFlags := 8, nameIndex := 338, descriptorIndex := 339, attributes := #[] }, { accessFlags := 4120, nameIndex := 245, descriptorIndex := 246, attributes := #[] }])
  fields := #[{ name := "E", type := .double, accessFlags := 25, slot := 0, constantValue := 0 }, { name := "PI", type := .double, accessFlags := 25, slot := 1, constantValue := 0 }, { name := "TAU", type := .double, accessFlags := 25, slot := 2, constantValue := 0 }, { name := "DEGREES_TO_RADIANS", type := .double, accessFlags := 26, slot := 3, constantValue := 0 }, { name := "RADIANS_TO_DEGREES", type := .double, accessFlags := 26, slot := 4, constantValue := 0 }, { name := "negativeZeroFloatBits", type := .long, accessFlags := 26, slot := 5, constantValue := 0 }, { name := "negativeZeroDoubleBits", type := .long, accessFlags := 26, slot := 6, constantValue := 0 }, { name := "twoToTheDoubleScaleUp", type := .double, accessFlags := 8, slot := 7, constantValue := 0 }, { name := "twoToTheDoubleScaleDown", type := .double, accessFlags := 8, slot := 8, constantValue := 0 }, { name := "$assertionsDisabled", type := .boolean, accessFlags := 4120, slot := 9, constantValue := 0 }]
  methods := #[k3m0, k3m1]
  instanceTypes := #[]
  staticTypes := #[.double, .double, .double, .double, .double, .long, .long, .double, .double, .boolean]
  resolved := Array.replicate 460 none
  statics := none }

def pool4 : Array CpInfo := pool [(1, .methodref 2 3), (0, .class_ 4), (0, .nameAndType 5 6), (0, u "java/lang/Object"), (0, u "<init>"), (0, u "()V"), (0, .fieldref 8 9), (0, .class_ 10), (0, .nameAndType 11 12), (0, u "java/util/OptionalLong"), (0, u "isPresent"), (0, u "Z"), (0, .fieldref 8 14), (0, .nameAndType 15 16), (0, u "value"), (0, u "J"), (0, .fieldref 8 18), (0, .nameAndType 19 20), (0, u "EMPTY"), (0, u "Ljava/util/OptionalLong;"), (0, .methodref 8 22), (0, .nameAndType 5 23), (0, u "(J)V"), (21, u "of"), (3, u "empty"), (5, u "getAsLong"), (0, u "()J"), (39, u "()Ljava/util/OptionalLong;"), (0, u "(J)Ljava/util/OptionalLong;"), (1, u "()Z")] 38

def k4m0 : Method := { name := "<init>", desc := "()V", sig := { parameters := [], returnType := none }, accessFlags := 2, code := none }
def k4c1 : Code := { maxStack := 1, maxLocals := 0, code := jdk_2650_method_2_code, exceptionTable := #[], attributes := #[] }
def k4m1 : Method := { name := "empty", desc := "()Ljava/util/OptionalLong;", sig := { parameters := [], returnType := some (.object "java/util/OptionalLong") }, accessFlags := 9, code := some k4c1 }
def k4c2 : Code := { maxStack := 3, maxLocals := 3, code := jdk_2650_method_3_code, exceptionTable := #[], attributes := #[] }
def k4m2 : Method := { name := "<init>", desc := "(J)V", sig := { parameters := [.long], returnType := none }, accessFlags := 2, code := some k4c2 }
def k4c3 : Code := { maxStack := 4, maxLocals := 2, code := jdk_2650_method_4_code, exceptionTable := #[], attributes := #[] }
def k4m3 : Method := { name := "of", desc := "(J)Ljava/util/OptionalLong;", sig := { parameters := [.long], returnType := some (.object "java/util/OptionalLong") }, accessFlags := 9, code := some k4c3 }
def k4c4 : Code := { maxStack := 3, maxLocals := 1, code := jdk_2650_method_5_code, exceptionTable := #[], attributes := #[] }
def k4m4 : Method := { name := "getAsLong", desc := "()J", sig := { parameters := [], returnType := some .long }, accessFlags := 1, code := some k4c4 }
def k4c5 : Code := { maxStack := 1, maxLocals := 1, code := jdk_2650_method_6_code, exceptionTable := #[], attributes := #[] }
def k4m5 : Method := { name := "isPresent", desc := "()Z", sig := { parameters := [], returnType := some .boolean }, accessFlags := 1, code := some k4c5 }
/-- java/util/OptionalLong -/
def k4 : Class := { plain "java/util/OptionalLong" (some 0) with
  accessFlags := 49
  interfaces := #[]
  cf := some (fileOf pool4 8 #[] #[{ accessFlags := 2, nameIndex := 5, descriptorIndex := 6, attributes := #[] }, { accessFlags := 9, nameIndex := 49, descriptorIndex := 96, attributes := #[] }, { accessFlags := 2, nameIndex := 5, descriptorIndex := 23, attributes := #[] }, { accessFlags := 9, nameIndex := 45, descriptorIndex := 97, attributes := #[] }, { accessFlags := 1, nameIndex := 55, descriptorIndex := 56, attributes := #[] }, { accessFlags := 1, nameIndex := 11, descriptorIndex := 99, attributes := #[] }] 49 2 #[] #[{ accessFlags := 26, nameIndex := 19, descriptorIndex := 20, attributes := #[] }, { accessFlags := 18, nameIndex := 11, descriptorIndex := 12, attributes := #[] }, { accessFlags := 18, nameIndex := 15, descriptorIndex := 16, attributes := #[] }])
  fields := #[{ name := "EMPTY", type := (.object "java/util/OptionalLong"), accessFlags := 26, slot := 0, constantValue := 0 }, { name := "isPresent", type := .boolean, accessFlags := 18, slot := 0, constantValue := 0 }, { name := "value", type := .long, accessFlags := 18, slot := 1, constantValue := 0 }]
  methods := #[k4m0, k4m1, k4m2, k4m3, k4m4, k4m5]
  instanceTypes := #[.boolean, .long]
  staticTypes := #[(.object "java/util/OptionalLong")]
  resolved := Array.replicate 138 none
  statics := some 0 }

def pool5 : Array CpInfo := pool [(1, .class_ 2), (0, u "java/io/Serializable"), (0, .class_ 4), (0, u "java/lang/Object")] 2

/-- java/io/Serializable -/
def k5 : Class := { plain "java/io/Serializable" (some 0) with
  accessFlags := 1537
  interfaces := #[]
  cf := some (fileOf pool5 1 #[] #[] 1537 3 #[] #[])
  fields := #[]
  methods := #[]
  instanceTypes := #[]
  staticTypes := #[]
  resolved := Array.replicate 7 none
  statics := none }

def pool6 : Array CpInfo := pool [(1, .methodref 2 3), (0, .class_ 4), (0, .nameAndType 5 6), (0, u "java/lang/Object"), (0, u "<init>"), (0, u "()V"), (0, .fieldref 8 9), (0, .class_ 10), (0, .nameAndType 11 12), (0, u "java/lang/Throwable"), (0, u "cause"), (0, u "Ljava/lang/Throwable;"), (0, .fieldref 8 14), (0, .nameAndType 15 16), (0, u "UNASSIGNED_STACK"), (0, u "[Ljava/lang/StackTraceElement;"), (0, .fieldref 8 18), (0, .nameAndType 19 16), (0, u "stackTrace"), (0, .fieldref 8 21), (0, .nameAndType 22 23), (0, u "SUPPRESSED_SENTINEL"), (0, u "Ljava/util/List;"), (0, .fieldref 8 25), (0, .nameAndType 26 23), (0, u "suppressedExceptions"), (0, .methodref 8 28), (0, .nameAndType 29 30), (0, u "fillInStackTrace"), (0, u "()Ljava/lang/Throwable;"), (0, .fieldref 8 32), (0, .nameAndType 33 34), (0, u "detailMessage"), (0, u "Ljava/lang/String;"), (58, .class_ 94), (0, u "java/lang/Throwable$WrappedPrintStream"), (6, .class_ 103), (1, u "java/lang/Throwable$PrintStreamOrWriter"), (61, u "$assertionsDisabled"), (0, u "Z"), (26, .class_ 194), (0, u "java/lang/Throwable$WrappedPrintWriter"), (3, .fieldref 8 199), (0, .nameAndType 200 201), (0, u "backtrace"), (0, u "Ljava/lang/Object;"), (0, .methodref 8 203), (0, .nameAndType 29 204), (0, u "(I)Ljava/lang/Throwable;"), (6, u "depth"), (0, u "I"), (10, u "(Ljava/lang/String;)V"), (45, .class_ 271), (1, u "java/lang/Throwable$SentinelHolder"), (32, u "EMPTY_THROWABLE_ARRAY"), (0, u "[Ljava/lang/Throwable;"), (12, .class_ 319), (0, u "java/io/Serializable"), (0, u "serialVersionUID"), (0, u "J"), (5, u "NULL_CAUSE_MESSAGE"), (0, u "SELF_SUPPRESSION_MESSAGE"), (0, u "CAUSE_CAPTION"), (0, u "SUPPRESSED_CAPTION")] 73

def k6c0 : Code := { maxStack := 2, maxLocals := 1, code := jdk_78_method_1_code, exceptionTable := #[], attributes := #[] }
def k6m0 : Method := { name := "<init>", desc := "()V", sig := { parameters := [], returnType := none }, accessFlags := 1, code := some k6c0 }
def k6c1 : Code := { maxStack := 2, maxLocals := 2, code := jdk_78_method_2_code, exceptionTable := #[], attributes := #[] }
def k6m1 : Method := { name := "<init>", desc := "(Ljava/lang/String;)V", sig := { parameters := [(.object "java/lang/String")], returnType := none }, accessFlags := 1, code := some k6c1 }
def k6c2 : Code := { maxStack := 2, maxLocals := 1, code := jdk_78_method_18_code, exceptionTable := #[], attributes := #[] }
def k6m2 : Method := { name := "fillInStackTrace", desc := "()Ljava/lang/Throwable;", sig := { parameters := [], returnType := some (.object "java/lang/Throwable") }, accessFlags := 33, code := some k6c2 }
def k6m3 : Method := { name := "fillInStackTrace", desc := "(I)Ljava/lang/Throwable;", sig := { parameters := [.int], returnType := some (.object "java/lang/Throwable") }, accessFlags := 258, code := none }
/-- java/lang/Throwable -/
def k6 : Class := { plain "java/lang/Throwable" (some 0) with
  accessFlags := 33
  interfaces := #[5]
  cf := some (fileOf pool6 8 #[.nestMembers #[193, 93, 101, 269]] #[{ accessFlags := 1, nameIndex := 5, descriptorIndex := 6, attributes := #[] }, { accessFlags := 1, nameIndex := 5, descriptorIndex := 223, attributes := #[] }, { accessFlags := 33, nameIndex := 29, descriptorIndex := 30, attributes := #[] }, { accessFlags := 258, nameIndex := 29, descriptorIndex := 204, attributes := #[] }] 33 2 #[318] #[{ accessFlags := 26, nameIndex := 320, descriptorIndex := 321, attributes := #[] }, { accessFlags := 130, nameIndex := 200, descriptorIndex := 201, attributes := #[] }, { accessFlags := 2, nameIndex := 33, descriptorIndex := 34, attributes := #[] }, { accessFlags := 26, nameIndex := 15, descriptorIndex := 16, attributes := #[] }, { accessFlags := 2, nameIndex := 11, descriptorIndex := 12, attributes := #[] }, { accessFlags := 2, nameIndex := 19, descriptorIndex := 16, attributes := #[] }, { accessFlags := 130, nameIndex := 211, descriptorIndex := 212, attributes := #[] }, { accessFlags := 26, nameIndex := 22, descriptorIndex := 23, attributes := #[] }, { accessFlags := 2, nameIndex := 26, descriptorIndex := 23, attributes := #[] }, { accessFlags := 26, nameIndex := 327, descriptorIndex := 34, attributes := #[] }, { accessFlags := 26, nameIndex := 328, descriptorIndex := 34, attributes := #[] }, { accessFlags := 26, nameIndex := 329, descriptorIndex := 34, attributes := #[] }, { accessFlags := 26, nameIndex := 330, descriptorIndex := 34, attributes := #[] }, { accessFlags := 26, nameIndex := 304, descriptorIndex := 305, attributes := #[] }, { accessFlags := 4120, nameIndex := 165, descriptorIndex := 166, attributes := #[] }])
  fields := #[{ name := "serialVersionUID", type := .long, accessFlags := 26, slot := 0, constantValue := 0 }, { name := "backtrace", type := (.object "java/lang/Object"), accessFlags := 130, slot := 0, constantValue := 0 }, { name := "detailMessage", type := (.object "java/lang/String"), accessFlags := 2, slot := 1, constantValue := 0 }, { name := "UNASSIGNED_STACK", type := (.array (.object "java/lang/StackTraceElement")), accessFlags := 26, slot := 1, constantValue := 0 }, { name := "cause", type := (.object "java/lang/Throwable"), accessFlags := 2, slot := 2, constantValue := 0 }, { name := "stackTrace", type := (.array (.object "java/lang/StackTraceElement")), accessFlags := 2, slot := 3, constantValue := 0 }, { name := "depth", type := .int, accessFlags := 130, slot := 4, constantValue := 0 }, { name := "SUPPRESSED_SENTINEL", type := (.object "java/util/List"), accessFlags := 26, slot := 2, constantValue := 0 }, { name := "suppressedExceptions", type := (.object "java/util/List"), accessFlags := 2, slot := 5, constantValue := 0 }, { name := "NULL_CAUSE_MESSAGE", type := (.object "java/lang/String"), accessFlags := 26, slot := 3, constantValue := 0 }, { name := "SELF_SUPPRESSION_MESSAGE", type := (.object "java/lang/String"), accessFlags := 26, slot := 4, constantValue := 0 }, { name := "CAUSE_CAPTION", type := (.object "java/lang/String"), accessFlags := 26, slot := 5, constantValue := 0 }, { name := "SUPPRESSED_CAPTION", type := (.object "java/lang/String"), accessFlags := 26, slot := 6, constantValue := 0 }, { name := "EMPTY_THROWABLE_ARRAY", type := (.array (.object "java/lang/Throwable")), accessFlags := 26, slot := 7, constantValue := 0 }, { name := "$assertionsDisabled", type := .boolean, accessFlags := 4120, slot := 8, constantValue := 0 }]
  methods := #[k6m0, k6m1, k6m2, k6m3]
  instanceTypes := #[(.object "java/lang/Object"), (.object "java/lang/String"), (.object "java/lang/Throwable"), (.array (.object "java/lang/StackTraceElement")), .int, (.object "java/util/List")]
  staticTypes := #[.long, (.array (.object "java/lang/StackTraceElement")), (.object "java/util/List"), (.object "java/lang/String"), (.object "java/lang/String"), (.object "java/lang/String"), (.object "java/lang/String"), (.array (.object "java/lang/Throwable")), .boolean]
  resolved := Array.replicate 404 none
  statics := some 1 }

def pool7 : Array CpInfo := pool [(2, .class_ 4), (1, u "java/lang/Throwable"), (0, u "<init>"), (0, u "()V"), (0, .methodref 2 8), (0, .nameAndType 5 9), (0, u "(Ljava/lang/String;)V"), (9, .class_ 20), (0, u "java/lang/Exception"), (0, u "serialVersionUID"), (0, u "J")] 17

def k7m0 : Method := { name := "<init>", desc := "()V", sig := { parameters := [], returnType := none }, accessFlags := 1, code := none }
def k7c1 : Code := { maxStack := 2, maxLocals := 2, code := jdk_59_method_2_code, exceptionTable := #[], attributes := #[] }
def k7m1 : Method := { name := "<init>", desc := "(Ljava/lang/String;)V", sig := { parameters := [(.object "java/lang/String")], returnType := none }, accessFlags := 1, code := some k7c1 }
/-- java/lang/Exception -/
def k7 : Class := { plain "java/lang/Exception" (some 6) with
  accessFlags := 33
  interfaces := #[]
  cf := some (fileOf pool7 19 #[] #[{ accessFlags := 1, nameIndex := 5, descriptorIndex := 6, attributes := #[] }, { accessFlags := 1, nameIndex := 5, descriptorIndex := 9, attributes := #[] }] 33 2 #[] #[{ accessFlags := 24, nameIndex := 21, descriptorIndex := 22, attributes := #[] }])
  fields := #[{ name := "serialVersionUID", type := .long, accessFlags := 24, slot := 0, constantValue := 0 }]
  methods := #[k7m0, k7m1]
  instanceTypes := #[(.object "java/lang/Object"), (.object "java/lang/String"), (.object "java/lang/Throwable"), (.array (.object "java/lang/StackTraceElement")), .int, (.object "java/util/List")]
  staticTypes := #[.long]
  resolved := Array.replicate 40 none
  statics := none }

def pool8 : Array CpInfo := pool [(2, .class_ 4), (1, u "java/lang/Exception"), (0, u "<init>"), (0, u "()V"), (0, .methodref 2 8), (0, .nameAndType 5 9), (0, u "(Ljava/lang/String;)V"), (9, .class_ 20), (0, u "java/lang/RuntimeException"), (0, u "serialVersionUID"), (0, u "J")] 17

def k8m0 : Method := { name := "<init>", desc := "()V", sig := { parameters := [], returnType := none }, accessFlags := 1, code := none }
def k8c1 : Code := { maxStack := 2, maxLocals := 2, code := jdk_58_method_2_code, exceptionTable := #[], attributes := #[] }
def k8m1 : Method := { name := "<init>", desc := "(Ljava/lang/String;)V", sig := { parameters := [(.object "java/lang/String")], returnType := none }, accessFlags := 1, code := some k8c1 }
/-- java/lang/RuntimeException -/
def k8 : Class := { plain "java/lang/RuntimeException" (some 7) with
  accessFlags := 33
  interfaces := #[]
  cf := some (fileOf pool8 19 #[] #[{ accessFlags := 1, nameIndex := 5, descriptorIndex := 6, attributes := #[] }, { accessFlags := 1, nameIndex := 5, descriptorIndex := 9, attributes := #[] }] 33 2 #[] #[{ accessFlags := 24, nameIndex := 21, descriptorIndex := 22, attributes := #[] }])
  fields := #[{ name := "serialVersionUID", type := .long, accessFlags := 24, slot := 0, constantValue := 0 }]
  methods := #[k8m0, k8m1]
  instanceTypes := #[(.object "java/lang/Object"), (.object "java/lang/String"), (.object "java/lang/Throwable"), (.array (.object "java/lang/StackTraceElement")), .int, (.object "java/util/List")]
  staticTypes := #[.long]
  resolved := Array.replicate 40 none
  statics := none }

def pool9 : Array CpInfo := pool [(2, .class_ 4), (1, u "java/lang/RuntimeException"), (0, u "<init>"), (0, u "()V"), (0, .methodref 2 8), (0, .nameAndType 5 9), (0, u "(Ljava/lang/String;)V"), (0, .class_ 11), (0, u "java/lang/ArithmeticException"), (0, u "serialVersionUID"), (0, u "J")] 12

def k9m0 : Method := { name := "<init>", desc := "()V", sig := { parameters := [], returnType := none }, accessFlags := 1, code := none }
def k9c1 : Code := { maxStack := 2, maxLocals := 2, code := jdk_84_method_2_code, exceptionTable := #[], attributes := #[] }
def k9m1 : Method := { name := "<init>", desc := "(Ljava/lang/String;)V", sig := { parameters := [(.object "java/lang/String")], returnType := none }, accessFlags := 1, code := some k9c1 }
/-- java/lang/ArithmeticException -/
def k9 : Class := { plain "java/lang/ArithmeticException" (some 8) with
  accessFlags := 33
  interfaces := #[]
  cf := some (fileOf pool9 10 #[] #[{ accessFlags := 1, nameIndex := 5, descriptorIndex := 6, attributes := #[] }, { accessFlags := 1, nameIndex := 5, descriptorIndex := 9, attributes := #[] }] 33 2 #[] #[{ accessFlags := 26, nameIndex := 12, descriptorIndex := 13, attributes := #[] }])
  fields := #[{ name := "serialVersionUID", type := .long, accessFlags := 26, slot := 0, constantValue := 0 }]
  methods := #[k9m0, k9m1]
  instanceTypes := #[(.object "java/lang/Object"), (.object "java/lang/String"), (.object "java/lang/Throwable"), (.array (.object "java/lang/StackTraceElement")), .int, (.object "java/util/List")]
  staticTypes := #[.long]
  resolved := Array.replicate 26 none
  statics := none }

def pool10 : Array CpInfo := pool [(1, .class_ 2), (0, u "java/lang/Comparable"), (0, .class_ 4), (0, u "java/lang/Object")] 7

/-- java/lang/Comparable -/
def k10 : Class := { plain "java/lang/Comparable" (some 0) with
  accessFlags := 1537
  interfaces := #[]
  cf := some (fileOf pool10 1 #[] #[] 1537 3 #[] #[])
  fields := #[]
  methods := #[]
  instanceTypes := #[]
  staticTypes := #[]
  resolved := Array.replicate 12 none
  statics := none }

def pool11 : Array CpInfo := pool [(2, .class_ 4), (1, u "java/lang/CharSequence"), (42, .class_ 48), (0, u "java/lang/CharSequence$1CodePointIterator"), (10, .class_ 60), (0, u "java/lang/CharSequence$1CharIterator"), (5, .class_ 67), (0, u "java/lang/Object")] 63

/-- java/lang/CharSequence -/
def k11 : Class := { plain "java/lang/CharSequence" (some 0) with
  accessFlags := 1537
  interfaces := #[]
  cf := some (fileOf pool11 2 #[.nestMembers #[47, 59]] #[] 1537 66 #[] #[])
  fields := #[]
  methods := #[]
  instanceTypes := #[]
  staticTypes := #[]
  resolved := Array.replicate 131 none
  statics := none }

def pool12 : Array CpInfo := pool [(1, .class_ 2), (0, u "java/lang/constant/Constable"), (0, .class_ 4), (0, u "java/lang/Object")] 6

/-- java/lang/constant/Constable -/
def k12 : Class := { plain "java/lang/constant/Constable" (some 0) with
  accessFlags := 1537
  interfaces := #[]
  cf := some (fileOf pool12 1 #[] #[] 1537 3 #[] #[])
  fields := #[]
  methods := #[]
  instanceTypes := #[]
  staticTypes := #[]
  resolved := Array.replicate 11 none
  statics := none }

def pool13 : Array CpInfo := pool [(1, .class_ 2), (0, u "java/lang/constant/ConstantDesc"), (0, .class_ 4), (0, u "java/lang/Object")] 32

/-- java/lang/constant/ConstantDesc -/
def k13 : Class := { plain "java/lang/constant/ConstantDesc" (some 0) with
  accessFlags := 1537
  interfaces := #[]
  cf := some (fileOf pool13 1 #[] #[] 1537 3 #[] #[])
  fields := #[]
  methods := #[]
  instanceTypes := #[]
  staticTypes := #[]
  resolved := Array.replicate 37 none
  statics := none }

def pool14 : Array CpInfo := pool [(2, .class_ 4), (1, u "java/lang/Object"), (0, u "<init>"), (0, u "()V"), (3, .class_ 12), (1, u "java/lang/String"), (0, u "value"), (0, u "[B"), (2, u "coder"), (0, u "B"), (2, u "hash"), (0, u "I"), (2, u "hashIsZero"), (0, u "Z"), (13, u "COMPACT_STRINGS"), (534, .class_ 576), (0, u "java/lang/CharSequence"), (22, u "CASE_INSENSITIVE_ORDER"), (0, u "Ljava/util/Comparator;"), (500, u "serialPersistentFields"), (0, u "[Ljava/io/ObjectStreamField;"), (0, .class_ 1104), (0, u "java/lang/String$CaseInsensitiveComparator"), (1, .class_ 1107), (0, u "java/io/Serializable"), (0, .class_ 1109), (0, u "java/lang/Comparable"), (0, .class_ 1111), (0, u "java/lang/constant/Constable"), (0, .class_ 1113), (0, u "java/lang/constant/ConstantDesc"), (2, u "serialVersionUID"), (0, u "J"), (3, u "REPL"), (0, u "C"), (2, u "LATIN1"), (1, u "UTF16")] 323

def k14m0 : Method := { name := "<init>", desc := "()V", sig := { parameters := [], returnType := none }, accessFlags := 1, code := none }
/-- java/lang/String -/
def k14 : Class := { plain "java/lang/String" (some 0) with
  accessFlags := 49
  interfaces := #[5, 10, 11, 12, 13]
  cf := some (fileOf pool14 10 #[.nestMembers #[1103]] #[{ accessFlags := 1, nameIndex := 5, descriptorIndex := 6, attributes := #[] }] 49 2 #[1106, 1108, 575, 1110, 1112] #[{ accessFlags := 18, nameIndex := 13, descriptorIndex := 14, attributes := #[] }, { accessFlags := 18, nameIndex := 17, descriptorIndex := 18, attributes := #[] }, { accessFlags := 2, nameIndex := 21, descriptorIndex := 22, attributes := #[] }, { accessFlags := 2, nameIndex := 25, descriptorIndex := 26, attributes := #[] }, { accessFlags := 26, nameIndex := 1116, descriptorIndex := 1117, attributes := #[] }, { accessFlags := 24, nameIndex := 40, descriptorIndex := 26, attributes := #[] }, { accessFlags := 26, nameIndex := 1101, descriptorIndex := 1102, attributes := #[] }, { accessFlags := 26, nameIndex := 1121, descriptorIndex := 1122, attributes := #[] }, { accessFlags := 25, nameIndex := 599, descriptorIndex := 600, attributes := #[] }, { accessFlags := 24, nameIndex := 1125, descriptorIndex := 18, attributes := #[] }, { accessFlags := 24, nameIndex := 1127, descriptorIndex := 18, attributes := #[] }])
  fields := #[{ name := "value", type := (.array .byte), accessFlags := 18, slot := 0, constantValue := 0 }, { name := "coder", type := .byte, accessFlags := 18, slot := 1, constantValue := 0 }, { name := "hash", type := .int, accessFlags := 2, slot := 2, constantValue := 0 }, { name := "hashIsZero", type := .boolean, accessFlags := 2, slot := 3, constantValue := 0 }, { name := "serialVersionUID", type := .long, accessFlags := 26, slot := 0, constantValue := 0 }, { name := "COMPACT_STRINGS", type := .boolean, accessFlags := 24, slot := 1, constantValue := 0 }, { name := "serialPersistentFields", type := (.array (.object "java/io/ObjectStreamField")), accessFlags := 26, slot := 2, constantValue := 0 }, { name := "REPL", type := .char, accessFlags := 26, slot := 3, constantValue := 0 }, { name := "CASE_INSENSITIVE_ORDER", type := (.object "java/util/Comparator"), accessFlags := 25, slot := 4, constantValue := 0 }, { name := "LATIN1", type := .byte, accessFlags := 24, slot := 5, constantValue := 0 }, { name := "UTF16", type := .byte, accessFlags := 24, slot := 6, constantValue := 0 }]
  methods := #[k14m0]
  instanceTypes := #[(.array .byte), .byte, .int, .boolean]
  staticTypes := #[.long, .boolean, (.array (.object "java/io/ObjectStreamField")), .char, (.object "java/util/Comparator"), .byte, .byte]
  resolved := Array.replicate 1451 none
  statics := none }

def pool15 : Array CpInfo := pool [(2, .class_ 4), (1, u "java/lang/Object"), (0, u "<init>"), (0, u "()V"), (12, .class_ 20), (0, u "java/util/Collections"), (63, u "r"), (0, u "Ljava/util/Random;"), (80, .class_ 167), (0, u "java/util/Collections$UnmodifiableCollection"), (6, .class_ 175), (0, u "java/util/Collections$UnmodifiableSequencedCollection"), (6, .class_ 183), (0, u "java/util/Collections$UnmodifiableSet"), (6, .class_ 191), (0, u "java/util/Collections$UnmodifiableSequencedSet"), (6, .class_ 199), (0, u "java/util/Collections$UnmodifiableSortedSet"), (6, .class_ 207), (0, u "java/util/Collections$UnmodifiableNavigableSet"), (4, .class_ 213), (0, u "java/util/Collections$UnmodifiableList"), (1, .class_ 216), (0, u "java/util/Collections$UnmodifiableRandomAccessList"), (6, .class_ 224), (0, u "java/util/Collections$UnmodifiableMap"), (6, .class_ 232), (0, u "java/util/Collections$UnmodifiableSequencedMap"), (4, .class_ 238), (0, u "java/util/Collections$UnmodifiableSortedMap"), (6, .class_ 246), (0, u "java/util/Collections$UnmodifiableNavigableMap"), (3, .class_ 251), (0, u "java/util/Collections$SynchronizedCollection"), (4, .class_ 257), (0, u "java/util/Collections$SynchronizedSet"), (4, .class_ 263), (0, u "java/util/Collections$SynchronizedSortedSet"), (1, .class_ 266), (0, u "java/util/Collections$SynchronizedNavigableSet"), (1, .class_ 269), (0, u "java/util/Collections$SynchronizedRandomAccessList"), (1, .class_ 272), (0, u "java/util/Collections$SynchronizedList"), (5, .class_ 279), (0, u "java/util/Collections$SynchronizedMap"), (1, .class_ 282), (0, u "java/util/Collections$SynchronizedSortedMap"), (1, .class_ 285), (0, u "java/util/Collections$SynchronizedNavigableMap"), (1, .class_ 288), (0, u "java/util/Collections$CheckedCollection"), (11, .class_ 301), (0, u "java/util/Collections$CheckedQueue"), (3, .class_ 306), (0, u "java/util/Collections$CheckedSet"), (3, .class_ 311), (0, u "java/util/Collections$CheckedSortedSet"), (3, .class_ 316), (0, u "java/util/Collections$CheckedNavigableSet"), (3, .class_ 321), (0, u "java/util/Collections$CheckedRandomAccessList"), (3, .class_ 326), (0, u "java/util/Collections$CheckedList"), (1, .class_ 329), (0, u "java/util/Collections$CheckedMap"), (3, .class_ 334), (0, u "java/util/Collections$CheckedSortedMap"), (3, .class_ 339), (0, u "java/util/Collections$CheckedNavigableMap"), (4, .class_ 346), (1, u "java/util/Collections$EmptyIterator"), (3, .class_ 352), (1, u "java/util/Collections$EmptyListIterator"), (2, .class_ 357), (1, u "java/util/Collections$EmptyEnumeration"), (4, u "EMPTY_SET"), (0, u "Ljava/util/Set;"), (6, u "EMPTY_LIST"), (0, u "Ljava/util/List;"), (2, u "EMPTY_MAP"), (0, u "Ljava/util/Map;"), (4, .class_ 381), (0, u "java/util/Collections$SingletonSet"), (2, .class_ 385), (0, u "java/util/Collections$1"), (1, .class_ 388), (0, u "java/util/Collections$2"), (1, .class_ 391), (0, u "java/util/Collections$SingletonList"), (1, .class_ 394), (0, u "java/util/Collections$SingletonMap"), (22, .class_ 418), (0, u "java/util/Collections$CopiesList"), (4, .class_ 425), (1, u "java/util/Collections$ReverseComparator"), (8, .class_ 435), (0, u "java/util/Collections$ReverseComparator2"), (6, .class_ 443), (0, u "java/util/Collections$3"), (25, .class_ 470), (0, u "java/util/Collections$SetFromMap"), (2, .class_ 474), (0, u "java/util/Collections$SequencedSetFromMap"), (3, .class_ 479), (0, u "java/util/Collections$AsLIFOQueue"), (11, .class_ 492), (0, u "java/util/Collections$EmptySet"), (1, .class_ 495), (0, u "java/util/Collections$EmptyList"), (1, .class_ 498), (0, u "java/util/Collections$EmptyMap"), (1, u "BINARYSEARCH_THRESHOLD"), (0, u "I"), (2, u "REVERSE_THRESHOLD"), (1, u "SHUFFLE_THRESHOLD"), (1, u "FILL_THRESHOLD"), (1, u "ROTATE_THRESHOLD"), (1, u "COPY_THRESHOLD"), (1, u "REPLACEALL_THRESHOLD"), (1, u "INDEXOFSUBLIST_THRESHOLD"), (333, .class_ 851), (0, u "java/util/Collections$CheckedMap$CheckedEntrySet"), (0, .class_ 853), (0, u "java/util/Collections$CheckedMap$CheckedEntrySet$CheckedEntry"), (0, .class_ 855), (0, u "java/util/Collections$CheckedMap$CheckedEntrySet$1"), (0, .class_ 857), (0, u "java/util/Collections$CheckedList$1"), (0, .class_ 859), (0, u "java/util/Collections$CheckedCollection$1"), (0, .class_ 861), (0, u "java/util/Collections$UnmodifiableNavigableMap$EmptyNavigableMap"), (0, .class_ 863), (0, u "java/util/Collections$UnmodifiableMap$UnmodifiableEntrySet"), (0, .class_ 865), (0, u "java/util/Collections$UnmodifiableMap$UnmodifiableEntrySet$UnmodifiableEntry"), (0, .class_ 867), (0, u "java/util/Collections$UnmodifiableMap$UnmodifiableEntrySet$UnmodifiableEntrySetSpliterator"), (0, .class_ 869), (0, u "java/util/Collections$UnmodifiableMap$UnmodifiableEntrySet$1"), (0, .class_ 871), (0, u "java/util/Collections$UnmodifiableList$1"), (0, .class_ 873), (0, u "java/util/Collections$UnmodifiableNavigableSet$EmptyNavigableSet"), (0, .class_ 875), (0, u "java/util/Collections$UnmodifiableCollection$1")] 57

def k15m0 : Method := { name := "<init>", desc := "()V", sig := { parameters := [], returnType := none }, accessFlags := 2, code := none }
/-- java/util/Collections -/
def k15 : Class := { plain "java/util/Collections" (some 0) with
  accessFlags := 33
  interfaces := #[]
  cf := some (fileOf pool15 19 #[.nestMembers #[478, 473, 469, 434, 423, 417, 393, 390, 380, 497, 494, 491, 355, 350, 344, 338, 333, 328, 850, 852, 854, 320, 325, 856, 315, 310, 305, 300, 287, 858, 284, 281, 278, 268, 271, 265, 262, 256, 250, 245, 860, 237, 231, 223, 862, 864, 866, 868, 215, 212, 870, 206, 872, 198, 190, 182, 174, 166, 874, 442, 387, 384]] #[{ accessFlags := 2, nameIndex := 5, descriptorIndex := 6, attributes := #[] }] 33 2 #[] #[{ accessFlags := 26, nameIndex := 500, descriptorIndex := 501, attributes := #[] }, { accessFlags := 26, nameIndex := 504, descriptorIndex := 501, attributes := #[] }, { accessFlags := 26, nameIndex := 506, descriptorIndex := 501, attributes := #[] }, { accessFlags := 26, nameIndex := 508, descriptorIndex := 501, attributes := #[] }, { accessFlags := 26, nameIndex := 510, descriptorIndex := 501, attributes := #[] }, { accessFlags := 26, nameIndex := 512, descriptorIndex := 501, attributes := #[] }, { accessFlags := 26, nameIndex := 514, descriptorIndex := 501, attributes := #[] }, { accessFlags := 26, nameIndex := 516, descriptorIndex := 501, attributes := #[] }, { accessFlags := 10, nameIndex := 84, descriptorIndex := 85, attributes := #[] }, { accessFlags := 25, nameIndex := 362, descriptorIndex := 363, attributes := #[] }, { accessFlags := 25, nameIndex := 370, descriptorIndex := 371, attributes := #[] }, { accessFlags := 25, nameIndex := 374, descriptorIndex := 375, attributes := #[] }])
  fields := #[{ name := "BINARYSEARCH_THRESHOLD", type := .int, accessFlags := 26, slot := 0, constantValue := 0 }, { name := "REVERSE_THRESHOLD", type := .int, accessFlags := 26, slot := 1, constantValue := 0 }, { name := "SHUFFLE_THRESHOLD", type := .int, accessFlags := 26, slot := 2, constantValue := 0 }, { name := "FILL_THRESHOLD", type := .int, accessFlags := 26, slot := 3, constantValue := 0 }, { name := "ROTATE_THRESHOLD", type := .int, accessFlags := 26, slot := 4, constantValue := 0 }, { name := "COPY_THRESHOLD", type := .int, accessFlags := 26, slot := 5, constantValue := 0 }, { name := "REPLACEALL_THRESHOLD", type := .int, accessFlags := 26, slot := 6, constantValue := 0 }, { name := "INDEXOFSUBLIST_THRESHOLD", type := .int, accessFlags := 26, slot := 7, constantValue := 0 }, { name := "r", type := (.object "java/util/Random"), accessFlags := 10, slot := 8, constantValue := 0 }, { name := "EMPTY_SET", type := (.object "java/util/Set"), accessFlags := 25, slot := 9, constantValue := 0 }, { name := "EMPTY_LIST", type := (.object "java/util/List"), accessFlags := 25, slot := 10, constantValue := 0 }, { name := "EMPTY_MAP", type := (.object "java/util/Map"), accessFlags := 25, slot := 11, constantValue := 0 }]
  methods := #[k15m0]
  instanceTypes := #[]
  staticTypes := #[.int, .int, .int, .int, .int, .int, .int, .int, (.object "java/util/Random"), (.object "java/util/Set"), (.object "java/util/List"), (.object "java/util/Map")]
  resolved := Array.replicate 933 none
  statics := some 2 }

def pool16 : Array CpInfo := pool [(8, .class_ 10), (1, u "java/lang/Iterable"), (24, .class_ 36), (0, u "java/lang/Object")] 25

/-- java/lang/Iterable -/
def k16 : Class := { plain "java/lang/Iterable" (some 0) with
  accessFlags := 1537
  interfaces := #[]
  cf := some (fileOf pool16 8 #[] #[] 1537 35 #[] #[])
  fields := #[]
  methods := #[]
  instanceTypes := #[]
  staticTypes := #[]
  resolved := Array.replicate 62 none
  statics := none }

def pool17 : Array CpInfo := pool [(10, .class_ 12), (1, u "java/util/Collection"), (47, .class_ 61), (0, u "java/lang/Object"), (0, .class_ 63), (0, u "java/lang/Iterable")] 51

/-- java/util/Collection -/
def k17 : Class := { plain "java/util/Collection" (some 0) with
  accessFlags := 1537
  interfaces := #[16]
  cf := some (fileOf pool17 10 #[] #[] 1537 60 #[62] #[])
  fields := #[]
  methods := #[]
  instanceTypes := #[]
  staticTypes := #[]
  resolved := Array.replicate 115 none
  statics := none }

def pool18 : Array CpInfo := pool [(2, .class_ 4), (1, u "java/lang/Object"), (0, u "<init>"), (0, u "()V"), (1, .class_ 10), (1, u "java/util/AbstractCollection"), (66, .class_ 78), (0, u "java/util/Collection")] 81

def k18m0 : Method := { name := "<init>", desc := "()V", sig := { parameters := [], returnType := none }, accessFlags := 4, code := none }
/-- java/util/AbstractCollection -/
def k18 : Class := { plain "java/util/AbstractCollection" (some 0) with
  accessFlags := 1057
  interfaces := #[17]
  cf := some (fileOf pool18 8 #[] #[{ accessFlags := 4, nameIndex := 5, descriptorIndex := 6, attributes := #[] }] 1057 2 #[77] #[])
  fields := #[]
  methods := #[k18m0]
  instanceTypes := #[]
  staticTypes := #[]
  resolved := Array.replicate 160 none
  statics := none }

def pool19 : Array CpInfo := pool [(8, .class_ 10), (1, u "java/util/SequencedCollection"), (15, .class_ 27), (0, u "java/lang/Object"), (0, .class_ 29), (0, u "java/util/Collection")] 27

/-- java/util/SequencedCollection -/
def k19 : Class := { plain "java/util/SequencedCollection" (some 0) with
  accessFlags := 1537
  interfaces := #[17]
  cf := some (fileOf pool19 8 #[] #[] 1537 26 #[28] #[])
  fields := #[]
  methods := #[]
  instanceTypes := #[]
  staticTypes := #[]
  resolved := Array.replicate 57 none
  statics := none }

def pool20 : Array CpInfo := pool [(8, .class_ 10), (1, u "java/util/List"), (92, .class_ 104), (0, u "java/lang/Object"), (15, .class_ 121), (0, u "java/util/SequencedCollection")] 129

/-- java/util/List -/
def k20 : Class := { plain "java/util/List" (some 0) with
  accessFlags := 1537
  interfaces := #[19]
  cf := some (fileOf pool20 8 #[] #[] 1537 103 #[120] #[])
  fields := #[]
  methods := #[]
  instanceTypes := #[]
  staticTypes := #[]
  resolved := Array.replicate 251 none
  statics := none }

def pool21 : Array CpInfo := pool [(2, .class_ 4), (1, u "java/util/AbstractCollection"), (0, u "<init>"), (0, u "()V"), (1, .class_ 10), (1, u "java/util/AbstractList"), (0, u "modCount"), (0, u "I"), (64, .class_ 78), (0, u "java/util/AbstractList$Itr"), (3, .class_ 83), (0, u "java/util/AbstractList$ListItr"), (9, .class_ 94), (0, u "java/util/AbstractList$RandomAccessSubList"), (3, .class_ 99), (0, u "java/util/AbstractList$SubList"), (33, .class_ 134), (0, u "java/util/List"), (73, .class_ 209), (0, u "java/util/AbstractList$SubList$1"), (0, .class_ 211), (0, u "java/util/AbstractList$RandomAccessSpliterator")] 6

def k21m0 : Method := { name := "<init>", desc := "()V", sig := { parameters := [], returnType := none }, accessFlags := 4, code := none }
/-- java/util/AbstractList -/
def k21 : Class := { plain "java/util/AbstractList" (some 18) with
  accessFlags := 1057
  interfaces := #[20]
  cf := some (fileOf pool21 8 #[.nestMembers #[93, 98, 208, 210, 82, 77]] #[{ accessFlags := 4, nameIndex := 5, descriptorIndex := 6, attributes := #[] }] 1057 2 #[133] #[{ accessFlags := 132, nameIndex := 11, descriptorIndex := 12, attributes := #[] }])
  fields := #[{ name := "modCount", type := .int, accessFlags := 132, slot := 0, constantValue := 0 }]
  methods := #[k21m0]
  instanceTypes := #[.int]
  staticTypes := #[]
  resolved := Array.replicate 218 none
  statics := none }

def pool22 : Array CpInfo := pool [(1, .class_ 2), (0, u "java/util/RandomAccess"), (0, .class_ 4), (0, u "java/lang/Object")] 2

/-- java/util/RandomAccess -/
def k22 : Class := { plain "java/util/RandomAccess" (some 0) with
  accessFlags := 1537
  interfaces := #[]
  cf := some (fileOf pool22 1 #[] #[] 1537 3 #[] #[])
  fields := #[]
  methods := #[]
  instanceTypes := #[]
  staticTypes := #[]
  resolved := Array.replicate 7 none
  statics := none }

def pool23 : Array CpInfo := pool [(2, .class_ 4), (1, u "java/util/AbstractList"), (0, u "<init>"), (0, u "()V"), (1, .class_ 10), (1, u "java/util/Collections"), (54, .class_ 66), (0, u "java/util/Collections$EmptyList"), (0, .class_ 68), (0, u "java/util/RandomAccess"), (0, .class_ 70), (0, u "java/io/Serializable"), (0, u "serialVersionUID"), (0, u "J")] 77

def k23m0 : Method := { name := "<init>", desc := "()V", sig := { parameters := [], returnType := none }, accessFlags := 2, code := none }
/-- java/util/Collections$EmptyList -/
def k23 : Class := { plain "java/util/Collections$EmptyList" (some 21) with
  accessFlags := 32
  interfaces := #[22, 5]
  cf := some (fileOf pool23 65 #[.nestHost 8] #[{ accessFlags := 2, nameIndex := 5, descriptorIndex := 6, attributes := #[] }] 32 2 #[67, 69] #[{ accessFlags := 26, nameIndex := 71, descriptorIndex := 72, attributes := #[] }])
  fields := #[{ name := "serialVersionUID", type := .long, accessFlags := 26, slot := 0, constantValue := 0 }]
  methods := #[k23m0]
  instanceTypes := #[.int]
  staticTypes := #[.long]
  resolved := Array.replicate 150 none
  statics := none }

def pool24 : Array CpInfo := pool [(2, .class_ 4), (1, u "java/lang/StackTraceElement"), (0, u "<init>"), (2, .class_ 10), (1, u "java/lang/Object"), (0, u "()V"), (2, u "format"), (0, u "B"), (2, u "classLoaderName"), (0, u "Ljava/lang/String;"), (2, u "moduleName"), (2, u "moduleVersion"), (12, u "declaringClass"), (4, u "methodName"), (2, u "fileName"), (2, u "lineNumber"), (0, u "I"), (65, u "declaringClassObject"), (0, u "Ljava/lang/Class;"), (33, .class_ 153), (1, u "java/lang/StackTraceElement$HashedModules"), (17, .class_ 172), (0, u "java/io/Serializable"), (0, u "NATIVE_METHOD"), (1, u "UNKNOWN_SOURCE"), (2, u "BUILTIN_CLASS_LOADER"), (1, u "JDK_NON_UPGRADEABLE_MODULE"), (1, u "serialVersionUID"), (0, u "J")] 51

def k24m0 : Method := { name := "<init>", desc := "()V", sig := { parameters := [], returnType := none }, accessFlags := 2, code := none }
/-- java/lang/StackTraceElement -/
def k24 : Class := { plain "java/lang/StackTraceElement" (some 0) with
  accessFlags := 49
  interfaces := #[5]
  cf := some (fileOf pool24 2 #[.nestMembers #[151]] #[{ accessFlags := 2, nameIndex := 5, descriptorIndex := 11, attributes := #[] }] 49 8 #[171] #[{ accessFlags := 26, nameIndex := 173, descriptorIndex := 19, attributes := #[] }, { accessFlags := 26, nameIndex := 175, descriptorIndex := 19, attributes := #[] }, { accessFlags := 130, nameIndex := 116, descriptorIndex := 117, attributes := #[] }, { accessFlags := 2, nameIndex := 18, descriptorIndex := 19, attributes := #[] }, { accessFlags := 2, nameIndex := 22, descriptorIndex := 19, attributes := #[] }, { accessFlags := 2, nameIndex := 25, descriptorIndex := 19, attributes := #[] }, { accessFlags := 2, nameIndex := 38, descriptorIndex := 19, attributes := #[] }, { accessFlags := 2, nameIndex := 43, descriptorIndex := 19, attributes := #[] }, { accessFlags := 2, nameIndex := 46, descriptorIndex := 19, attributes := #[] }, { accessFlags := 2, nameIndex := 49, descriptorIndex := 50, attributes := #[] }, { accessFlags := 2, nameIndex := 14, descriptorIndex := 15, attributes := #[] }, { accessFlags := 26, nameIndex := 178, descriptorIndex := 15, attributes := #[] }, { accessFlags := 26, nameIndex := 180, descriptorIndex := 15, attributes := #[] }, { accessFlags := 26, nameIndex := 182, descriptorIndex := 183, attributes := #[] }])
  fields := #[{ name := "NATIVE_METHOD", type := (.object "java/lang/String"), accessFlags := 26, slot := 0, constantValue := 0 }, { name := "UNKNOWN_SOURCE", type := (.object "java/lang/String"), accessFlags := 26, slot := 1, constantValue := 0 }, { name := "declaringClassObject", type := (.object "java/lang/Class"), accessFlags := 130, slot := 0, constantValue := 0 }, { name := "classLoaderName", type := (.object "java/lang/String"), accessFlags := 2, slot := 1, constantValue := 0 }, { name := "moduleName", type := (.object "java/lang/String"), accessFlags := 2, slot := 2, constantValue := 0 }, { name := "moduleVersion", type := (.object "java/lang/String"), accessFlags := 2, slot := 3, constantValue := 0 }, { name := "declaringClass", type := (.object "java/lang/String"), accessFlags := 2, slot := 4, constantValue := 0 }, { name := "methodName", type := (.object "java/lang/String"), accessFlags := 2, slot := 5, constantValue := 0 }, { name := "fileName", type := (.object "java/lang/String"), accessFlags := 2, slot := 6, constantValue := 0 }, { name := "lineNumber", type := .int, accessFlags := 2, slot := 7, constantValue := 0 }, { name := "format", type := .byte, accessFlags := 2, slot := 8, constantValue := 0 }, { name := "BUILTIN_CLASS_LOADER", type := .byte, accessFlags := 26, slot := 2, constantValue := 0 }, { name := "JDK_NON_UPGRADEABLE_MODULE", type := .byte, accessFlags := 26, slot := 3, constantValue := 0 }, { name := "serialVersionUID", type := .long, accessFlags := 26, slot := 4, constantValue := 0 }]
  methods := #[k24m0]
  instanceTypes := #[(.object "java/lang/Class"), (.object "java/lang/String"), (.object "java/lang/String"), (.object "java/lang/String"), (.object "java/lang/String"), (.object "java/lang/String"), (.object "java/lang/String"), .int, .byte]
  staticTypes := #[(.object "java/lang/String"), (.object "java/lang/String"), .byte, .byte, .long]
  resolved := Array.replicate 235 none
  statics := none }

def pool25 : Array CpInfo := pool [(1, u "java/lang/Cloneable"), (0, .class_ 1), (0, u "java/lang/Object"), (0, .class_ 3)] 3

/-- java/lang/Cloneable -/
def k25 : Class := { plain "java/lang/Cloneable" (some 0) with
  accessFlags := 1537
  interfaces := #[]
  cf := some (fileOf pool25 2 #[] #[] 1537 4 #[] #[])
  fields := #[]
  methods := #[]
  instanceTypes := #[]
  staticTypes := #[]
  resolved := Array.replicate 8 none
  statics := none }

/-- the primitive byte -/
def k26 : Class := { plain "byte" none with kind := .primitive 'B', accessFlags := 0x411 }
/-- [B -/
def k27 : Class := { plain "[B" (some 0) with kind := .array 26 .byte, interfaces := #[25, 5], accessFlags := 1041 }

/-- the primitive int -/
def k28 : Class := { plain "int" none with kind := .primitive 'I', accessFlags := 0x411 }
/-- [I -/
def k29 : Class := { plain "[I" (some 0) with kind := .array 28 .int, interfaces := #[25, 5], accessFlags := 1041 }

/-- [Ljava/lang/Object; -/
def k30 : Class := { plain "[Ljava/lang/Object;" (some 0) with kind := .array 0 (.object "java/lang/Object"), interfaces := #[25, 5], accessFlags := 1041 }

/-- [Ljava/lang/StackTraceElement; -/
def k31 : Class := { plain "[Ljava/lang/StackTraceElement;" (some 0) with kind := .array 24 (.object "java/lang/StackTraceElement"), interfaces := #[25, 5], accessFlags := 1041 }

/-- [Ljava/lang/Throwable; -/
def k32 : Class := { plain "[Ljava/lang/Throwable;" (some 0) with kind := .array 6 (.object "java/lang/Throwable"), interfaces := #[25, 5], accessFlags := 1041 }

def heap : Heap := #[{ cls := 4, slots := #[.ref 6], vm := .statics 4 },
  { cls := 6, slots := #[.long 0, .ref 3, .ref 5, .null, .null, .null, .null, .ref 4, .int 1], vm := .statics 6 },
  { cls := 15, slots := #[.int 0, .int 0, .int 0, .int 0, .int 0, .int 0, .int 0, .int 0, .null, .null, .ref 5, .null], vm := .statics 15 },
  { cls := 31, slots := #[], vm := .none },
  { cls := 32, slots := #[], vm := .none },
  { cls := 23, slots := #[.int 0], vm := .none },
  { cls := 4, slots := #[.int 0, .long 0], vm := .none }]
def classes : Array Class := #[k0, k1, k2, k3, k4, k5, k6, k7, k8, k9, k10, k11, k12, k13, k14, k15, k16, k17, k18, k19, k20, k21, k22, k23, k24, k25, k26, k27, k28, k29, k30, k31, k32]
def interned : List (Array UInt16 × Addr) := []
def slotsUsed : Nat := 25
def theMethod : MethodId := ⟨1, 1⟩
def args0 : Array Value := #[.long 0, .long 1, .long 2, .long 3, .long 4, .long 5]
def aboutOver (below : List Frame) : State where
  vm := { classes := classes, interned := interned.toArray }
  heap := heap
  slotsUsed := slotsUsed
  threads := #[{ frames := .invoking theMethod args0 :: below }]
def below0 : List Frame := [.native { method := ⟨0, 0⟩, args := #[] }]
def about1 : State := aboutOver below0
def p0 : Program := .bare "" "" ""
def e0 : Env := launch0.env 0 0 0
theorem w_frames : about1.frames = Frame.invoking theMethod args0 :: below0 := rfl
set_option maxRecDepth 65536 in
theorem w_args : argsFit about1.vm theMethod args0 = true := by decide +kernel
set_option maxRecDepth 65536 in
theorem w_heap : heapFits about1 = true := by decide +kernel
set_option maxRecDepth 65536 in
theorem w_runnable : about1.curStatus? = some .runnable := by decide +kernel
set_option maxRecDepth 65536 in
theorem w_alone : about1.alone = true := by decide +kernel
set_option maxRecDepth 65536 in
theorem w_named : about1.methodNamed? x = some theMethod := by decide +kernel
set_option maxRecDepth 65536 in
theorem w_hears : about1.hears theMethod below0 = true := by decide +kernel
set_option maxRecDepth 65536 in
theorem w_ripe : about1.ripe theMethod args0 below0 = true := by decide +kernel
theorem w_running : about1.status = .running := rfl
set_option maxRecDepth 65536 in
theorem w_room : about1.hasRoom e0.platform room_1 = true :=
  launch0.hasRoom_least _ room_1 (by decide +kernel) (by decide +kernel) (by decide +kernel) (by decide +kernel) (by decide +kernel) (by decide +kernel)
theorem allAtoms_all (ts : List Jvm.Cond) (a : Array Jvm.Value) (st : Jvm.State) : (allAtoms ts).before a st = ts.all (fun c => c.before a st) := by
  induction ts with
  | nil => rfl
  | cons c t ih =>
    show (Jvm.Cond.and c (allAtoms t)).before a st = _
    rw [Jvm.Cond.before_and, ih, List.all_cons]
def words1 : List Jvm.Cond := Jvm.Cond.code x code maxLocals ret :: tables_1
/-- a 'code' word, met by the world's own term for the bytes: nothing is compared byte by byte -/
theorem code_word {y : MethodName} {bytes : ByteArray} {mx : Nat} {rt : Option FieldType} {a : Array Value} {s : State} {m : MethodId} {meth : Method} {c : Code} (h1 : s.methodNamed? y = some m) (h2 : s.vm.method? m = some meth) (h3 : meth.code = some c) (h4 : c.code = bytes)
    (h5 : (c.maxLocals == mx && c.exceptionTable.isEmpty && decide (c.maxStack ≤ mostOperands) && decide (meth.sig.returnType = rt) && !meth.locks && decide (parseMethodDescriptor y.desc = some meth.sig)) = true) : (Jvm.Cond.code y bytes mx rt).before a s = true := by
  simp only [Bool.and_eq_true, beq_iff_eq, Bool.not_eq_true', decide_eq_true_eq] at h5
  obtain ⟨⟨⟨⟨⟨g1, g2⟩, g3⟩, g4⟩, g5⟩, g6⟩ := h5
  simp [Cond.before, Cond.holds, Cond.value, h1, h2, h3, h4, g1, g2, g3, g4, g5, g6]
def isCode : Jvm.Cond → Bool
  | .code _ _ _ _ => true
  | _ => false
theorem all_split {L : List Jvm.Cond} {P : Jvm.Cond → Bool} (h1 : L.all (fun c => isCode c || P c) = true) (h2 : ∀ c ∈ L.filter isCode, P c = true) : L.all P = true := by
  refine List.all_eq_true.mpr fun c hc => ?_
  have h := List.all_eq_true.mp h1 c hc
  rcases Bool.eq_false_or_eq_true (isCode c) with hi | hi
  · exact h2 c (List.mem_filter.mpr ⟨hc, hi⟩)
  · simpa [hi] using h
set_option maxRecDepth 65536 in
theorem w_c0 : (Jvm.Cond.code x code maxLocals ret).before args0 about1 = true := code_word (m := ⟨1, 1⟩) (meth := k1m1) (c := k1c1) (by decide +kernel) rfl rfl rfl (by decide +kernel)
set_option maxRecDepth 65536 in
theorem w_c1 : (Jvm.Cond.code ({ cls := "com/example/tallywire/tallywire/logs/CalibrationCycle", name := "<init>", desc := "()V" } : Jvm.MethodName) prog_28_method_1_code (1 : Nat) (Option.none : Option Jvm.ClassFile.FieldType)).before args0 about1 = true := code_word (m := ⟨2, 0⟩) (meth := k2m0) (c := k2c0) (by decide +kernel) rfl rfl rfl (by decide +kernel)
set_option maxRecDepth 65536 in
theorem w_c2 : (Jvm.Cond.code ({ cls := "java/lang/Object", name := "<init>", desc := "()V" } : Jvm.MethodName) object_method_1_code (1 : Nat) (Option.none : Option Jvm.ClassFile.FieldType)).before args0 about1 = true := code_word (m := ⟨0, 0⟩) (meth := k0m0) (c := k0c0) (by decide +kernel) rfl rfl rfl (by decide +kernel)
set_option maxRecDepth 65536 in
theorem w_c3 : (Jvm.Cond.code ({ cls := "com/example/tallywire/tallywire/logs/CalibrationCycle", name := "add", desc := "(JJJ)V" } : Jvm.MethodName) prog_28_method_2_code (9 : Nat) (Option.none : Option Jvm.ClassFile.FieldType)).before args0 about1 = true := code_word (m := ⟨2, 1⟩) (meth := k2m1) (c := k2c1) (by decide +kernel) rfl rfl rfl (by decide +kernel)
set_option maxRecDepth 65536 in
theorem w_c4 : (Jvm.Cond.code ({ cls := "java/lang/Math", name := "subtractExact", desc := "(JJ)J" } : Jvm.MethodName) jdk_29_method_27_code (6 : Nat) (Option.some Jvm.ClassFile.FieldType.long)).before args0 about1 = true := code_word (m := ⟨3, 1⟩) (meth := k3m1) (c := k3c1) (by decide +kernel) rfl rfl rfl (by decide +kernel)
set_option maxRecDepth 65536 in
theorem w_c5 : (Jvm.Cond.code ({ cls := "java/util/OptionalLong", name := "of", desc := "(J)Ljava/util/OptionalLong;" } : Jvm.MethodName) jdk_2650_method_4_code (2 : Nat) (Option.some (Jvm.ClassFile.FieldType.object "java/util/OptionalLong"))).before args0 about1 = true := code_word (m := ⟨4, 3⟩) (meth := k4m3) (c := k4c3) (by decide +kernel) rfl rfl rfl (by decide +kernel)
set_option maxRecDepth 65536 in
theorem w_c6 : (Jvm.Cond.code ({ cls := "java/util/OptionalLong", name := "<init>", desc := "(J)V" } : Jvm.MethodName) jdk_2650_method_3_code (3 : Nat) (Option.none : Option Jvm.ClassFile.FieldType)).before args0 about1 = true := code_word (m := ⟨4, 2⟩) (meth := k4m2) (c := k4c2) (by decide +kernel) rfl rfl rfl (by decide +kernel)
set_option maxRecDepth 65536 in
theorem w_c7 : (Jvm.Cond.code ({ cls := "com/example/tallywire/tallywire/logs/CalibrationCycleAddPinLaw", name := "midpoint", desc := "(JJ)J" } : Jvm.MethodName) method_3_code (4 : Nat) (Option.some Jvm.ClassFile.FieldType.long)).before args0 about1 = true := code_word (m := ⟨1, 2⟩) (meth := k1m2) (c := k1c2) (by decide +kernel) rfl rfl rfl (by decide +kernel)
set_option maxRecDepth 65536 in
theorem w_c8 : (Jvm.Cond.code ({ cls := "com/example/tallywire/tallywire/logs/CalibrationCycleAddPinLaw", name := "matches", desc := "(Ljava/util/OptionalLong;JJ)Z" } : Jvm.MethodName) method_4_code (8 : Nat) (Option.some Jvm.ClassFile.FieldType.boolean)).before args0 about1 = true := code_word (m := ⟨1, 3⟩) (meth := k1m3) (c := k1c3) (by decide +kernel) rfl rfl rfl (by decide +kernel)
set_option maxRecDepth 65536 in
theorem w_c9 : (Jvm.Cond.code ({ cls := "java/util/OptionalLong", name := "isPresent", desc := "()Z" } : Jvm.MethodName) jdk_2650_method_6_code (1 : Nat) (Option.some Jvm.ClassFile.FieldType.boolean)).before args0 about1 = true := code_word (m := ⟨4, 5⟩) (meth := k4m5) (c := k4c5) (by decide +kernel) rfl rfl rfl (by decide +kernel)
set_option maxRecDepth 65536 in
theorem w_c10 : (Jvm.Cond.code ({ cls := "java/util/OptionalLong", name := "getAsLong", desc := "()J" } : Jvm.MethodName) jdk_2650_method_5_code (1 : Nat) (Option.some Jvm.ClassFile.FieldType.long)).before args0 about1 = true := code_word (m := ⟨4, 4⟩) (meth := k4m4) (c := k4c4) (by decide +kernel) rfl rfl rfl (by decide +kernel)
set_option maxRecDepth 65536 in
theorem w_c11 : (Jvm.Cond.code ({ cls := "com/example/tallywire/tallywire/logs/CalibrationCycle", name := "isComplete", desc := "()Z" } : Jvm.MethodName) prog_28_method_3_code (1 : Nat) (Option.some Jvm.ClassFile.FieldType.boolean)).before args0 about1 = true := code_word (m := ⟨2, 2⟩) (meth := k2m2) (c := k2c2) (by decide +kernel) rfl rfl rfl (by decide +kernel)
set_option maxRecDepth 65536 in
theorem w_c12 : (Jvm.Cond.code ({ cls := "java/lang/ArithmeticException", name := "<init>", desc := "(Ljava/lang/String;)V" } : Jvm.MethodName) jdk_84_method_2_code (2 : Nat) (Option.none : Option Jvm.ClassFile.FieldType)).before args0 about1 = true := code_word (m := ⟨9, 1⟩) (meth := k9m1) (c := k9c1) (by decide +kernel) rfl rfl rfl (by decide +kernel)
set_option maxRecDepth 65536 in
theorem w_c13 : (Jvm.Cond.code ({ cls := "java/lang/RuntimeException", name := "<init>", desc := "(Ljava/lang/String;)V" } : Jvm.MethodName) jdk_58_method_2_code (2 : Nat) (Option.none : Option Jvm.ClassFile.FieldType)).before args0 about1 = true := code_word (m := ⟨8, 1⟩) (meth := k8m1) (c := k8c1) (by decide +kernel) rfl rfl rfl (by decide +kernel)
set_option maxRecDepth 65536 in
theorem w_c14 : (Jvm.Cond.code ({ cls := "java/lang/Exception", name := "<init>", desc := "(Ljava/lang/String;)V" } : Jvm.MethodName) jdk_59_method_2_code (2 : Nat) (Option.none : Option Jvm.ClassFile.FieldType)).before args0 about1 = true := code_word (m := ⟨7, 1⟩) (meth := k7m1) (c := k7c1) (by decide +kernel) rfl rfl rfl (by decide +kernel)
set_option maxRecDepth 65536 in
theorem w_c15 : (Jvm.Cond.code ({ cls := "java/lang/Throwable", name := "<init>", desc := "(Ljava/lang/String;)V" } : Jvm.MethodName) jdk_78_method_2_code (2 : Nat) (Option.none : Option Jvm.ClassFile.FieldType)).before args0 about1 = true := code_word (m := ⟨6, 1⟩) (meth := k6m1) (c := k6c1) (by decide +kernel) rfl rfl rfl (by decide +kernel)
set_option maxRecDepth 65536 in
theorem w_c16 : (Jvm.Cond.code ({ cls := "java/lang/Throwable", name := "<init>", desc := "()V" } : Jvm.MethodName) jdk_78_method_1_code (1 : Nat) (Option.none : Option Jvm.ClassFile.FieldType)).before args0 about1 = true := code_word (m := ⟨6, 0⟩) (meth := k6m0) (c := k6c0) (by decide +kernel) rfl rfl rfl (by decide +kernel)
set_option maxRecDepth 65536 in
theorem w_c17 : (Jvm.Cond.code ({ cls := "java/util/OptionalLong", name := "empty", desc := "()Ljava/util/OptionalLong;" } : Jvm.MethodName) jdk_2650_method_2_code (0 : Nat) (Option.some (Jvm.ClassFile.FieldType.object "java/util/OptionalLong"))).before args0 about1 = true := code_word (m := ⟨4, 1⟩) (meth := k4m1) (c := k4c1) (by decide +kernel) rfl rfl rfl (by decide +kernel)
def codes1 : List Jvm.Cond := [Jvm.Cond.code x code maxLocals ret, Jvm.Cond.code ({ cls := "com/example/tallywire/tallywire/logs/CalibrationCycle", name := "<init>", desc := "()V" } : Jvm.MethodName) prog_28_method_1_code (1 : Nat) (Option.none : Option Jvm.ClassFile.FieldType), Jvm.Cond.code ({ cls := "java/lang/Object", name := "<init>", desc := "()V" } : Jvm.MethodName) object_method_1_code (1 : Nat) (Option.none : Option Jvm.ClassFile.FieldType), Jvm.Cond.code ({ cls := "com/example/tallywire/tallywire/logs/CalibrationCycle", name := "add", desc := "(JJJ)V" } : Jvm.MethodName) prog_28_method_2_code (9 : Nat) (Option.none : Option Jvm.ClassFile.FieldType), Jvm.Cond.code ({ cls := "java/lang/Math", name := "subtractExact", desc := "(JJ)J" } : Jvm.MethodName) jdk_29_method_27_code (6 : Nat) (Option.some Jvm.ClassFile.FieldType.long), Jvm.Cond.code ({ cls := "java/util/OptionalLong", name := "of", desc := "(J)Ljava/util/OptionalLong;" } : Jvm.MethodName) jdk_2650_method_4_code (2 : Nat) (Option.some (Jvm.ClassFile.FieldType.object "java/util/OptionalLong")), Jvm.Cond.code ({ cls := "java/util/OptionalLong", name := "<init>", desc := "(J)V" } : Jvm.MethodName) jdk_2650_method_3_code (3 : Nat) (Option.none : Option Jvm.ClassFile.FieldType), Jvm.Cond.code ({ cls := "com/example/tallywire/tallywire/logs/CalibrationCycleAddPinLaw", name := "midpoint", desc := "(JJ)J" } : Jvm.MethodName) method_3_code (4 : Nat) (Option.some Jvm.ClassFile.FieldType.long), Jvm.Cond.code ({ cls := "com/example/tallywire/tallywire/logs/CalibrationCycleAddPinLaw", name := "matches", desc := "(Ljava/util/OptionalLong;JJ)Z" } : Jvm.MethodName) method_4_code (8 : Nat) (Option.some Jvm.ClassFile.FieldType.boolean), Jvm.Cond.code ({ cls := "java/util/OptionalLong", name := "isPresent", desc := "()Z" } : Jvm.MethodName) jdk_2650_method_6_code (1 : Nat) (Option.some Jvm.ClassFile.FieldType.boolean), Jvm.Cond.code ({ cls := "java/util/OptionalLong", name := "getAsLong", desc := "()J" } : Jvm.MethodName) jdk_2650_method_5_code (1 : Nat) (Option.some Jvm.ClassFile.FieldType.long), Jvm.Cond.code ({ cls := "com/example/tallywire/tallywire/logs/CalibrationCycle", name := "isComplete", desc := "()Z" } : Jvm.MethodName) prog_28_method_3_code (1 : Nat) (Option.some Jvm.ClassFile.FieldType.boolean), Jvm.Cond.code ({ cls := "java/lang/ArithmeticException", name := "<init>", desc := "(Ljava/lang/String;)V" } : Jvm.MethodName) jdk_84_method_2_code (2 : Nat) (Option.none : Option Jvm.ClassFile.FieldType), Jvm.Cond.code ({ cls := "java/lang/RuntimeException", name := "<init>", desc := "(Ljava/lang/String;)V" } : Jvm.MethodName) jdk_58_method_2_code (2 : Nat) (Option.none : Option Jvm.ClassFile.FieldType), Jvm.Cond.code ({ cls := "java/lang/Exception", name := "<init>", desc := "(Ljava/lang/String;)V" } : Jvm.MethodName) jdk_59_method_2_code (2 : Nat) (Option.none : Option Jvm.ClassFile.FieldType), Jvm.Cond.code ({ cls := "java/lang/Throwable", name := "<init>", desc := "(Ljava/lang/String;)V" } : Jvm.MethodName) jdk_78_method_2_code (2 : Nat) (Option.none : Option Jvm.ClassFile.FieldType), Jvm.Cond.code ({ cls := "java/lang/Throwable", name := "<init>", desc := "()V" } : Jvm.MethodName) jdk_78_method_1_code (1 : Nat) (Option.none : Option Jvm.ClassFile.FieldType), Jvm.Cond.code ({ cls := "java/util/OptionalLong", name := "empty", desc := "()Ljava/util/OptionalLong;" } : Jvm.MethodName) jdk_2650_method_2_code (0 : Nat) (Option.some (Jvm.ClassFile.FieldType.object "java/util/OptionalLong"))]
set_option maxRecDepth 65536 in
theorem codes_eq : words1.filter isCode = codes1 := rfl
theorem w_codes : ∀ c ∈ words1.filter isCode, c.before args0 about1 = true := by
  rw [codes_eq]
  intro c hc
  simp only [codes1, List.mem_cons, List.not_mem_nil, or_false] at hc
  rcases hc with rfl | rfl | rfl | rfl | rfl | rfl | rfl | rfl | rfl | rfl | rfl | rfl | rfl | rfl | rfl | rfl | rfl | rfl
  · exact w_c0
  · exact w_c1
  · exact w_c2
  · exact w_c3
  · exact w_c4
  · exact w_c5
  · exact w_c6
  · exact w_c7
  · exact w_c8
  · exact w_c9
  · exact w_c10
  · exact w_c11
  · exact w_c12
  · exact w_c13
  · exact w_c14
  · exact w_c15
  · exact w_c16
  · exact w_c17
set_option maxRecDepth 65536 in
theorem w_t1 : (words1.take 24).all (fun c => isCode c || c.before args0 about1) = true := by decide +kernel
set_option maxRecDepth 65536 in
theorem w_t2 : ((words1.drop 24).take 24).all (fun c => isCode c || c.before args0 about1) = true := by decide +kernel
set_option maxRecDepth 65536 in
theorem w_t3 : (((words1.drop 24).drop 24).take 24).all (fun c => isCode c || c.before args0 about1) = true := by decide +kernel
set_option maxRecDepth 65536 in
theorem w_t4 : ((((words1.drop 24).drop 24).drop 24).take 24).all (fun c => isCode c || c.before args0 about1) = true := by decide +kernel
set_option maxRecDepth 65536 in
theorem w_t5 : (((((words1.drop 24).drop 24).drop 24).drop 24).take 24).all (fun c => isCode c || c.before args0 about1) = true := by decide +kernel
set_option maxRecDepth 65536 in
theorem w_t6 : ((((((words1.drop 24).drop 24).drop 24).drop 24).drop 24).take 24).all (fun c => isCode c || c.before args0 about1) = true := by decide +kernel
set_option maxRecDepth 65536 in
theorem w_t7 : ((((((words1.drop 24).drop 24).drop 24).drop 24).drop 24).drop 24).all (fun c => isCode c || c.before args0 about1) = true := by decide +kernel
theorem w_tables : (allAtoms (Jvm.Cond.code x code maxLocals ret :: tables_1)).before args0 about1 = true := by
  rw [allAtoms_all]
  show words1.all (fun c => c.before args0 about1) = true
  refine all_split ?_ w_codes
  rw [← List.take_append_drop 24 words1, List.all_append, w_t1, ← List.take_append_drop 24 (words1.drop 24), List.all_append, w_t2, ← List.take_append_drop 24 ((words1.drop 24).drop 24), List.all_append, w_t3, ← List.take_append_drop 24 (((words1.drop 24).drop 24).drop 24), List.all_append, w_t4, ← List.take_append_drop 24 ((((words1.drop 24).drop 24).drop 24).drop 24), List.all_append, w_t5, ← List.take_append_drop 24 (((((words1.drop 24).drop 24).drop 24).drop 24).drop 24), List.all_append, w_t6, w_t7]
  rfl
set_option maxRecDepth 65536 in
theorem w_rest : rest_1_c.before args0 about1 = true := by decide +kernel
set_option maxRecDepth 65536 in
theorem w_case : (Jvm.Cond.and given_1 narrow_1).before args0 about1 = true := by decide +kernel
theorem w_applies : (headSpec (Jvm.Cond.code x code maxLocals ret :: tables_1) room_1).applies x e0.platform about1 = true :=
  (Spec.applies_iff w_frames).mpr ⟨w_running, w_runnable, w_alone, w_named, w_hears, w_ripe, w_room, w_tables⟩
theorem atStart : AtStart classFile x code maxLocals ret World_1 tables_1 room_1 Calls_1 rest_1 Pre_1 launch0 p0 e0 about1 theMethod args0 below0 :=
  ⟨lists_1, trivial, launch0.admits_env _ _ _, launch0.least_env, fairChoices_fair.cas, fairChoices_fair.clock, w_frames, w_args, w_heap, w_applies, ⟨(by decide +kernel : framesKnown about1 = true), ⟨(by decide +kernel : tablesKnown about1 = true), trivial⟩⟩, w_rest, w_case⟩
end start1
theorem witness_1 : WitnessClaimed_1 := ⟨start1.p0, start1.e0, start1.about1, start1.theMethod, start1.args0, start1.below0, start1.atStart⟩
end Jvm.Pilot.@@N@@
