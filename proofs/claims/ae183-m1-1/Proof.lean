import JvmDerived
import JvmDerived.Pilot.@@N@@Statement
import JvmDerived.Pilot.@@N@@Code
set_option linter.unusedVariables false
set_option linter.unusedSimpArgs false
namespace Jvm.Pilot.@@N@@
open Jvm Jvm.ClassFile Sem Op Lib Jvm.Free Jvm.Stand Jvm.LawKit Jvm.RoadKit Bundle Jvm.Pilot.@@N@@.Jvm.D
section Own
variable {p : Program} {l : Launch} {e : Env} {R : Room} {s : State} {m : MethodId} {args : Array Value} {below : List Frame} {meth : Method} {c : Code} {T : State} {locs : List Loc} {cells slots : Nat} {C S : Nat} {Q : Option Value → Heap → List Loc → Prop} {P : Outcome → State → Prop}
/-- from the state T with the frame g on top the run comes to the method's end, and P holds there -/
def Goes (p : Program) (e : Env) (below : List Frame) (P : Outcome → State → Prop) (T : State) (g : JFrame) : Prop :=
  ∃ s₂ o, Steps p.tables e below (T.setTop g) s₂ ∧ s₂.status = .running ∧ Ended s₂ below o ∧ P o s₂
/-- it returned, Q holds, the frame's bounds are kept -/
def Done (s : State) (C S : Nat) (Q : Option Value → Heap → List Loc → Prop) (o : Outcome) (U : State) : Prop := ∃ v L, o = .returned v ∧ Q v U.heap L ∧ FrameEnd s o U L C S
/-- .. where a String's constant may have been linked -/
def DoneW (s : State) (C S : Nat) (Q : Option Value → Heap → List Loc → Prop) (o : Outcome) (U : State) : Prop := ∃ v L, o = .returned v ∧ Q v U.heap L ∧ ReturnedEndW s o U L C S
theorem Goes.go {T' : State} {g g' : JFrame} (st : ∀ t, Steps p.tables e below (T'.setTop g') t → Steps p.tables e below (T.setTop g) t) (h : Goes p e below P T' g') : Goes p e below P T g := by
  obtain ⟨s₂, o, h1, h2⟩ := h; exact ⟨s₂, o, st _ h1, h2⟩
theorem Goes.tr {T' : State} {g g' : JFrame} (st : Steps p.tables e below (T.setTop g) (T'.setTop g')) (h : Goes p e below P T' g') : Goes p e below P T g := Goes.go (fun _ k => st.trans k) h
/-- the end of a walk that has linked Strings' constants -/
theorem own_wend {vm0 : Vm} {k0 : Nat} {fs : List Frame} {v : Option Value} (hS : s.Since vm0 k0) (hk : k0 ≤ T.heap.size) (hW : (s.setVm vm0).WarmedH (T.setFrames fs).vm) (hsame : (s.setVm vm0).sameButNew ({ T.setFrames fs with vm := (s.setVm vm0).vm } : State) locs cells slots) (hC : cells ≤ C) (hS' : slots ≤ S) : ReturnedEndW s (.returned v) (T.setFrames fs) locs C S := by
  have h2 := hS.trans (hW.since (T.setFrames fs).heap.size) hk
  exact ⟨⟨v, rfl⟩, h2.1, h2.2, (hsame.setVm s.vm).mono hC hS'⟩
/-- a value comes back -/
theorem own_ret (X : Stand p l e R s m args below meth c T locs cells slots) (hx : p.tables.exec = Jvm.exec) (hlk : meth.locks = false) {t : FieldType} (hret : meth.sig.returnType = some t) {i : Instr} {w : Value} (hn : narrow t w = w)
    (hi : (i = .ireturn ∧ (t = .int ∨ t = .boolean ∨ t = .byte ∨ t = .char ∨ t = .short) ∧ ∃ z, w = .int z) ∨ (i = .lreturn ∧ t = .long ∧ ∃ z, w = .long z) ∨ (i = .dreturn ∧ t = .double ∧ ∃ z, w = .double z) ∨ (i = .freturn ∧ t = .float ∧ ∃ z, w = .float z) ∨ (i = .areturn ∧ t.isReference = true ∧ w.isRef = true))
    {pc : Nat} {Ls : Array Slot} {rest : List Value} (hd : decode c.code pc = .ok (i, 1)) (hC : cells ≤ C) (hS : slots ≤ S) {h : Heap} (eT : T.heap = h) (hQ : Q (some w) h locs) : Goes p e below (Done s C S Q) T (mkF m pc Ls (w :: rest)) := by
  obtain ⟨fs, hr, hrun, hended, hW, hsame⟩ := X.leave (v := some w) (fun h => by rw [hret] at h; cases h)
  subst eT
  exact ⟨_, _, retOut X hx hret hn hi hd hr, hrun, hended, _, _, rfl, hQ, ⟨_, rfl⟩, hW, hsame.mono hC hS⟩
theorem own_retI (X : Stand p l e R s m args below meth c T locs cells slots) (hx : p.tables.exec = Jvm.exec) (hlk : meth.locks = false) (hret : meth.sig.returnType = some .int) {z : Int32}
    {pc : Nat} {Ls : Array Slot} {rest : List Value} (hd : decode c.code pc = .ok (.ireturn, 1)) (hC : cells ≤ C) (hS : slots ≤ S) {h : Heap} (eT : T.heap = h) (hQ : Q (some (.int z)) h locs) : Goes p e below (Done s C S Q) T (mkF m pc Ls (.int z :: rest)) :=
  own_ret X hx hlk hret rfl (Or.inl ⟨rfl, Or.inl rfl, z, rfl⟩) hd hC hS eT hQ
theorem own_retZ (X : Stand p l e R s m args below meth c T locs cells slots) (hx : p.tables.exec = Jvm.exec) (hlk : meth.locks = false) (hret : meth.sig.returnType = some .boolean) {z : Int32} (hn : narrow .boolean (.int z) = .int z)
    {pc : Nat} {Ls : Array Slot} {rest : List Value} (hd : decode c.code pc = .ok (.ireturn, 1)) (hC : cells ≤ C) (hS : slots ≤ S) {h : Heap} (eT : T.heap = h) (hQ : Q (some (.int z)) h locs) : Goes p e below (Done s C S Q) T (mkF m pc Ls (.int z :: rest)) :=
  own_ret X hx hlk hret hn (Or.inl ⟨rfl, Or.inr (Or.inl rfl), z, rfl⟩) hd hC hS eT hQ
theorem own_retJ (X : Stand p l e R s m args below meth c T locs cells slots) (hx : p.tables.exec = Jvm.exec) (hlk : meth.locks = false) (hret : meth.sig.returnType = some .long) {z : Int64}
    {pc : Nat} {Ls : Array Slot} {rest : List Value} (hd : decode c.code pc = .ok (.lreturn, 1)) (hC : cells ≤ C) (hS : slots ≤ S) {h : Heap} (eT : T.heap = h) (hQ : Q (some (.long z)) h locs) : Goes p e below (Done s C S Q) T (mkF m pc Ls (.long z :: rest)) :=
  own_ret X hx hlk hret rfl (Or.inr (Or.inl ⟨rfl, rfl, z, rfl⟩)) hd hC hS eT hQ
theorem own_narR {t : FieldType} {w : Value} (hw : w.isRef = true) : narrow t w = w := by
  rcases ref_cases hw with rfl | ⟨a, rfl⟩ <;> cases t <;> rfl
theorem own_retR (X : Stand p l e R s m args below meth c T locs cells slots) (hx : p.tables.exec = Jvm.exec) (hlk : meth.locks = false) {t : FieldType} (hret : meth.sig.returnType = some t) (ht : t.isReference = true) {w : Value} (hw : w.isRef = true)
    {pc : Nat} {Ls : Array Slot} {rest : List Value} (hd : decode c.code pc = .ok (.areturn, 1)) (hC : cells ≤ C) (hS : slots ≤ S) {h : Heap} (eT : T.heap = h) (hQ : Q (some w) h locs) : Goes p e below (Done s C S Q) T (mkF m pc Ls (w :: rest)) :=
  own_ret X hx hlk hret (own_narR hw) (Or.inr (Or.inr (Or.inr (Or.inr ⟨rfl, ht, hw⟩)))) hd hC hS eT hQ
theorem own_retV (X : Stand p l e R s m args below meth c T locs cells slots) (hx : p.tables.exec = Jvm.exec) (hlk : meth.locks = false) (hret : meth.sig.returnType = none)
    {pc : Nat} {Ls : Array Slot} (hd : decode c.code pc = .ok (.return_, 1)) (hC : cells ≤ C) (hS : slots ≤ S) {h : Heap} (eT : T.heap = h) (hQ : Q none h locs) : Goes p e below (Done s C S Q) T (mkF m pc Ls []) := by
  obtain ⟨fs, hr, hrun, hended, hW, hsame⟩ := X.leave (v := none) (fun _ => rfl)
  subst eT
  exact ⟨_, _, X.returnOut hx hret hd hr, hrun, hended, _, _, rfl, hQ, ⟨_, rfl⟩, hW, hsame.mono hC hS⟩
theorem own_retW {vm0 : Vm} {k0 : Nat} (X : Stand p l e R (s.setVm vm0) m args below meth c T locs cells slots) (hx : p.tables.exec = Jvm.exec) (hS : s.Since vm0 k0) (hlk : meth.locks = false) {t : FieldType} (hret : meth.sig.returnType = some t) {i : Instr} {w : Value} (hn : narrow t w = w)
    (hi : (i = .ireturn ∧ (t = .int ∨ t = .boolean ∨ t = .byte ∨ t = .char ∨ t = .short) ∧ ∃ z, w = .int z) ∨ (i = .lreturn ∧ t = .long ∧ ∃ z, w = .long z) ∨ (i = .dreturn ∧ t = .double ∧ ∃ z, w = .double z) ∨ (i = .freturn ∧ t = .float ∧ ∃ z, w = .float z) ∨ (i = .areturn ∧ t.isReference = true ∧ w.isRef = true))
    {pc : Nat} {Ls : Array Slot} {rest : List Value} (hd : decode c.code pc = .ok (i, 1)) (hC : cells ≤ C) (hS' : slots ≤ S) {h : Heap} (eT : T.heap = h) (hk : k0 ≤ h.size) (hQ : Q (some w) h locs) : Goes p e below (DoneW s C S Q) T (mkF m pc Ls (w :: rest)) := by
  obtain ⟨fs, hr, hrun, hended, hW, hsame⟩ := X.leave (v := some w) (fun h => by rw [hret] at h; cases h)
  subst eT
  exact ⟨_, _, retOut X hx hret hn hi hd hr, hrun, hended, _, _, rfl, hQ, own_wend hS hk hW hsame hC hS'⟩
theorem own_retWI {vm0 : Vm} {k0 : Nat} (X : Stand p l e R (s.setVm vm0) m args below meth c T locs cells slots) (hx : p.tables.exec = Jvm.exec) (hS : s.Since vm0 k0) (hlk : meth.locks = false) (hret : meth.sig.returnType = some .int) {z : Int32}
    {pc : Nat} {Ls : Array Slot} {rest : List Value} (hd : decode c.code pc = .ok (.ireturn, 1)) (hC : cells ≤ C) (hS' : slots ≤ S) {h : Heap} (eT : T.heap = h) (hk : k0 ≤ h.size) (hQ : Q (some (.int z)) h locs) : Goes p e below (DoneW s C S Q) T (mkF m pc Ls (.int z :: rest)) :=
  own_retW X hx hS hlk hret rfl (Or.inl ⟨rfl, Or.inl rfl, z, rfl⟩) hd hC hS' eT hk hQ
theorem own_retWZ {vm0 : Vm} {k0 : Nat} (X : Stand p l e R (s.setVm vm0) m args below meth c T locs cells slots) (hx : p.tables.exec = Jvm.exec) (hS : s.Since vm0 k0) (hlk : meth.locks = false) (hret : meth.sig.returnType = some .boolean) {z : Int32} (hn : narrow .boolean (.int z) = .int z)
    {pc : Nat} {Ls : Array Slot} {rest : List Value} (hd : decode c.code pc = .ok (.ireturn, 1)) (hC : cells ≤ C) (hS' : slots ≤ S) {h : Heap} (eT : T.heap = h) (hk : k0 ≤ h.size) (hQ : Q (some (.int z)) h locs) : Goes p e below (DoneW s C S Q) T (mkF m pc Ls (.int z :: rest)) :=
  own_retW X hx hS hlk hret hn (Or.inl ⟨rfl, Or.inr (Or.inl rfl), z, rfl⟩) hd hC hS' eT hk hQ
theorem own_retWR {vm0 : Vm} {k0 : Nat} (X : Stand p l e R (s.setVm vm0) m args below meth c T locs cells slots) (hx : p.tables.exec = Jvm.exec) (hS : s.Since vm0 k0) (hlk : meth.locks = false) {t : FieldType} (hret : meth.sig.returnType = some t) (ht : t.isReference = true) {w : Value} (hw : w.isRef = true)
    {pc : Nat} {Ls : Array Slot} {rest : List Value} (hd : decode c.code pc = .ok (.areturn, 1)) (hC : cells ≤ C) (hS' : slots ≤ S) {h : Heap} (eT : T.heap = h) (hk : k0 ≤ h.size) (hQ : Q (some w) h locs) : Goes p e below (DoneW s C S Q) T (mkF m pc Ls (w :: rest)) :=
  own_retW X hx hS hlk hret (own_narR hw) (Or.inr (Or.inr (Or.inr (Or.inr ⟨rfl, ht, hw⟩)))) hd hC hS' eT hk hQ
theorem own_retWV {vm0 : Vm} {k0 : Nat} (X : Stand p l e R (s.setVm vm0) m args below meth c T locs cells slots) (hx : p.tables.exec = Jvm.exec) (hS : s.Since vm0 k0) (hlk : meth.locks = false) (hret : meth.sig.returnType = none)
    {pc : Nat} {Ls : Array Slot} (hd : decode c.code pc = .ok (.return_, 1)) (hC : cells ≤ C) (hS' : slots ≤ S) {h : Heap} (eT : T.heap = h) (hk : k0 ≤ h.size) (hQ : Q none h locs) : Goes p e below (DoneW s C S Q) T (mkF m pc Ls []) := by
  obtain ⟨fs, hr, hrun, hended, hW, hsame⟩ := X.leave (v := none) (fun _ => rfl)
  subst eT
  exact ⟨_, _, X.returnOut hx hret hd hr, hrun, hended, _, _, rfl, hQ, own_wend hS hk hW hsame hC hS'⟩
/-- the entry -/
theorem own_enter {s₁ : State} {maxL : Nat} {as' : Array Value} {Ls : Array Slot} (hE : entryFrame m as' maxL = mkF m 0 Ls []) (h : Goes p e below P s₁ (mkF m 0 Ls [])) :
    ∃ s₂ o, Steps p.tables e below (s₁.setTop (entryFrame m as' maxL)) s₂ ∧ s₂.status = .running ∧ Ended s₂ below o ∧ P o s₂ := by
  rw [hE]; exact h
section Steps1
variable {pc : Nat} {Ls : Array Slot} {rest : List Value}
theorem own_iadd (X : Stand p l e R s m args below meth c T locs cells slots) (hx : p.tables.exec = Jvm.exec) (pc' : Nat) (hp : pc + 1 = pc') {x y z : Int32} (hd : decode c.code pc = .ok (.iadd, 1)) (hz : x + y = z) (h : Goes p e below P T (mkF m pc' Ls (.int z :: rest))) : Goes p e below P T (mkF m pc Ls (.int y :: .int x :: rest)) := by
  subst hp; subst hz; exact Goes.go (fun _ k => XS.iadd X.here hx rfl hd rfl k) h
theorem own_isub (X : Stand p l e R s m args below meth c T locs cells slots) (hx : p.tables.exec = Jvm.exec) (pc' : Nat) (hp : pc + 1 = pc') {x y z : Int32} (hd : decode c.code pc = .ok (.isub, 1)) (hz : x - y = z) (h : Goes p e below P T (mkF m pc' Ls (.int z :: rest))) : Goes p e below P T (mkF m pc Ls (.int y :: .int x :: rest)) := by
  subst hp; subst hz; exact Goes.go (fun _ k => XS.isub X.here hx rfl hd rfl k) h
theorem own_imul (X : Stand p l e R s m args below meth c T locs cells slots) (hx : p.tables.exec = Jvm.exec) (pc' : Nat) (hp : pc + 1 = pc') {x y z : Int32} (hd : decode c.code pc = .ok (.imul, 1)) (hz : x * y = z) (h : Goes p e below P T (mkF m pc' Ls (.int z :: rest))) : Goes p e below P T (mkF m pc Ls (.int y :: .int x :: rest)) := by
  subst hp; subst hz; exact Goes.go (fun _ k => XS.imul X.here hx rfl hd rfl k) h
theorem own_iand (X : Stand p l e R s m args below meth c T locs cells slots) (hx : p.tables.exec = Jvm.exec) (pc' : Nat) (hp : pc + 1 = pc') {x y z : Int32} (hd : decode c.code pc = .ok (.iand, 1)) (hz : x &&& y = z) (h : Goes p e below P T (mkF m pc' Ls (.int z :: rest))) : Goes p e below P T (mkF m pc Ls (.int y :: .int x :: rest)) := by
  subst hp; subst hz; exact Goes.go (fun _ k => XS.iand X.here hx rfl hd rfl k) h
theorem own_ior (X : Stand p l e R s m args below meth c T locs cells slots) (hx : p.tables.exec = Jvm.exec) (pc' : Nat) (hp : pc + 1 = pc') {x y z : Int32} (hd : decode c.code pc = .ok (.ior, 1)) (hz : x ||| y = z) (h : Goes p e below P T (mkF m pc' Ls (.int z :: rest))) : Goes p e below P T (mkF m pc Ls (.int y :: .int x :: rest)) := by
  subst hp; subst hz; exact Goes.go (fun _ k => XS.ior X.here hx rfl hd rfl k) h
theorem own_ixor (X : Stand p l e R s m args below meth c T locs cells slots) (hx : p.tables.exec = Jvm.exec) (pc' : Nat) (hp : pc + 1 = pc') {x y z : Int32} (hd : decode c.code pc = .ok (.ixor, 1)) (hz : x ^^^ y = z) (h : Goes p e below P T (mkF m pc' Ls (.int z :: rest))) : Goes p e below P T (mkF m pc Ls (.int y :: .int x :: rest)) := by
  subst hp; subst hz; exact Goes.go (fun _ k => XS.ixor X.here hx rfl hd rfl k) h
theorem own_idiv (X : Stand p l e R s m args below meth c T locs cells slots) (hx : p.tables.exec = Jvm.exec) (pc' : Nat) (hp : pc + 1 = pc') {x y z : Int32} (hd : decode c.code pc = .ok (.idiv, 1)) (hy : y ≠ 0) (hz : x / y = z) (h : Goes p e below P T (mkF m pc' Ls (.int z :: rest))) : Goes p e below P T (mkF m pc Ls (.int y :: .int x :: rest)) := by
  subst hp; subst hz; exact Goes.go (fun _ k => XS.idiv X.here hx rfl hd rfl hy k) h
theorem own_ishl (X : Stand p l e R s m args below meth c T locs cells slots) (hx : p.tables.exec = Jvm.exec) (pc' : Nat) (hp : pc + 1 = pc') {x z : Int32} {y : Int32} (hd : decode c.code pc = .ok (.ishl, 1)) (hz : (x <<< (y &&& 31)) = z) (h : Goes p e below P T (mkF m pc' Ls (.int z :: rest))) : Goes p e below P T (mkF m pc Ls (.int y :: .int x :: rest)) := by
  subst hp; subst hz; exact Goes.go (fun _ k => XS.ishl X.here hx rfl hd rfl k) h
theorem own_ishr (X : Stand p l e R s m args below meth c T locs cells slots) (hx : p.tables.exec = Jvm.exec) (pc' : Nat) (hp : pc + 1 = pc') {x z : Int32} {y : Int32} (hd : decode c.code pc = .ok (.ishr, 1)) (hz : (x >>> (y &&& 31)) = z) (h : Goes p e below P T (mkF m pc' Ls (.int z :: rest))) : Goes p e below P T (mkF m pc Ls (.int y :: .int x :: rest)) := by
  subst hp; subst hz; exact Goes.go (fun _ k => XS.ishr X.here hx rfl hd rfl k) h
theorem own_iushr (X : Stand p l e R s m args below meth c T locs cells slots) (hx : p.tables.exec = Jvm.exec) (pc' : Nat) (hp : pc + 1 = pc') {x z : Int32} {y : Int32} (hd : decode c.code pc = .ok (.iushr, 1)) (hz : ((x.toUInt32 >>> (y &&& 31).toUInt32).toInt32) = z) (h : Goes p e below P T (mkF m pc' Ls (.int z :: rest))) : Goes p e below P T (mkF m pc Ls (.int y :: .int x :: rest)) := by
  subst hp; subst hz; exact Goes.go (fun _ k => XS.iushr X.here hx rfl hd rfl k) h
theorem own_ladd (X : Stand p l e R s m args below meth c T locs cells slots) (hx : p.tables.exec = Jvm.exec) (pc' : Nat) (hp : pc + 1 = pc') {x y z : Int64} (hd : decode c.code pc = .ok (.ladd, 1)) (hz : x + y = z) (h : Goes p e below P T (mkF m pc' Ls (.long z :: rest))) : Goes p e below P T (mkF m pc Ls (.long y :: .long x :: rest)) := by
  subst hp; subst hz; exact Goes.go (fun _ k => XS.ladd X.here hx rfl hd rfl k) h
theorem own_lsub (X : Stand p l e R s m args below meth c T locs cells slots) (hx : p.tables.exec = Jvm.exec) (pc' : Nat) (hp : pc + 1 = pc') {x y z : Int64} (hd : decode c.code pc = .ok (.lsub, 1)) (hz : x - y = z) (h : Goes p e below P T (mkF m pc' Ls (.long z :: rest))) : Goes p e below P T (mkF m pc Ls (.long y :: .long x :: rest)) := by
  subst hp; subst hz; exact Goes.go (fun _ k => XS.lsub X.here hx rfl hd rfl k) h
theorem own_lmul (X : Stand p l e R s m args below meth c T locs cells slots) (hx : p.tables.exec = Jvm.exec) (pc' : Nat) (hp : pc + 1 = pc') {x y z : Int64} (hd : decode c.code pc = .ok (.lmul, 1)) (hz : x * y = z) (h : Goes p e below P T (mkF m pc' Ls (.long z :: rest))) : Goes p e below P T (mkF m pc Ls (.long y :: .long x :: rest)) := by
  subst hp; subst hz; exact Goes.go (fun _ k => XS.lmul X.here hx rfl hd rfl k) h
theorem own_land (X : Stand p l e R s m args below meth c T locs cells slots) (hx : p.tables.exec = Jvm.exec) (pc' : Nat) (hp : pc + 1 = pc') {x y z : Int64} (hd : decode c.code pc = .ok (.land, 1)) (hz : x &&& y = z) (h : Goes p e below P T (mkF m pc' Ls (.long z :: rest))) : Goes p e below P T (mkF m pc Ls (.long y :: .long x :: rest)) := by
  subst hp; subst hz; exact Goes.go (fun _ k => XS.land X.here hx rfl hd rfl k) h
theorem own_lor (X : Stand p l e R s m args below meth c T locs cells slots) (hx : p.tables.exec = Jvm.exec) (pc' : Nat) (hp : pc + 1 = pc') {x y z : Int64} (hd : decode c.code pc = .ok (.lor, 1)) (hz : x ||| y = z) (h : Goes p e below P T (mkF m pc' Ls (.long z :: rest))) : Goes p e below P T (mkF m pc Ls (.long y :: .long x :: rest)) := by
  subst hp; subst hz; exact Goes.go (fun _ k => XS.lor X.here hx rfl hd rfl k) h
theorem own_lxor (X : Stand p l e R s m args below meth c T locs cells slots) (hx : p.tables.exec = Jvm.exec) (pc' : Nat) (hp : pc + 1 = pc') {x y z : Int64} (hd : decode c.code pc = .ok (.lxor, 1)) (hz : x ^^^ y = z) (h : Goes p e below P T (mkF m pc' Ls (.long z :: rest))) : Goes p e below P T (mkF m pc Ls (.long y :: .long x :: rest)) := by
  subst hp; subst hz; exact Goes.go (fun _ k => XS.lxor X.here hx rfl hd rfl k) h
theorem own_ldiv (X : Stand p l e R s m args below meth c T locs cells slots) (hx : p.tables.exec = Jvm.exec) (pc' : Nat) (hp : pc + 1 = pc') {x y z : Int64} (hd : decode c.code pc = .ok (.ldiv, 1)) (hy : y ≠ 0) (hz : x / y = z) (h : Goes p e below P T (mkF m pc' Ls (.long z :: rest))) : Goes p e below P T (mkF m pc Ls (.long y :: .long x :: rest)) := by
  subst hp; subst hz; exact Goes.go (fun _ k => XS.ldiv X.here hx rfl hd rfl hy k) h
theorem own_lshl (X : Stand p l e R s m args below meth c T locs cells slots) (hx : p.tables.exec = Jvm.exec) (pc' : Nat) (hp : pc + 1 = pc') {x z : Int64} {y : Int32} (hd : decode c.code pc = .ok (.lshl, 1)) (hz : (x <<< (y &&& 0x3f).toInt64) = z) (h : Goes p e below P T (mkF m pc' Ls (.long z :: rest))) : Goes p e below P T (mkF m pc Ls (.int y :: .long x :: rest)) := by
  subst hp; subst hz; exact Goes.go (fun _ k => XS.lshl X.here hx rfl hd rfl k) h
theorem own_lshr (X : Stand p l e R s m args below meth c T locs cells slots) (hx : p.tables.exec = Jvm.exec) (pc' : Nat) (hp : pc + 1 = pc') {x z : Int64} {y : Int32} (hd : decode c.code pc = .ok (.lshr, 1)) (hz : (x >>> (y &&& 0x3f).toInt64) = z) (h : Goes p e below P T (mkF m pc' Ls (.long z :: rest))) : Goes p e below P T (mkF m pc Ls (.int y :: .long x :: rest)) := by
  subst hp; subst hz; exact Goes.go (fun _ k => XS.lshr X.here hx rfl hd rfl k) h
theorem own_lushr (X : Stand p l e R s m args below meth c T locs cells slots) (hx : p.tables.exec = Jvm.exec) (pc' : Nat) (hp : pc + 1 = pc') {x z : Int64} {y : Int32} (hd : decode c.code pc = .ok (.lushr, 1)) (hz : ((x.toUInt64 >>> (y &&& 0x3f).toInt64.toUInt64).toInt64) = z) (h : Goes p e below P T (mkF m pc' Ls (.long z :: rest))) : Goes p e below P T (mkF m pc Ls (.int y :: .long x :: rest)) := by
  subst hp; subst hz; exact Goes.go (fun _ k => XS.lushr X.here hx rfl hd rfl k) h
theorem own_irem (X : Stand p l e R s m args below meth c T locs cells slots) (hx : p.tables.exec = Jvm.exec) (pc' : Nat) (hp : pc + 1 = pc') {x y z : Int32} (hd : decode c.code pc = .ok (.irem, 1)) (hy : y ≠ 0) (hz : x % y = z) (h : Goes p e below P T (mkF m pc' Ls (.int z :: rest))) : Goes p e below P T (mkF m pc Ls (.int y :: .int x :: rest)) := by
  subst hp; subst hz; exact Goes.go (fun _ k => iremM X hx rfl hd rfl hy k) h
theorem own_lrem (X : Stand p l e R s m args below meth c T locs cells slots) (hx : p.tables.exec = Jvm.exec) (pc' : Nat) (hp : pc + 1 = pc') {x y z : Int64} (hd : decode c.code pc = .ok (.lrem, 1)) (hy : y ≠ 0) (hz : x % y = z) (h : Goes p e below P T (mkF m pc' Ls (.long z :: rest))) : Goes p e below P T (mkF m pc Ls (.long y :: .long x :: rest)) := by
  subst hp; subst hz; exact Goes.go (fun _ k => XS.lrem X.here hx rfl hd rfl hy (by rw [lrem_mod]; exact k)) h
theorem own_ineg (X : Stand p l e R s m args below meth c T locs cells slots) (hx : p.tables.exec = Jvm.exec) (pc' : Nat) (hp : pc + 1 = pc') {x : Int32} {z : Int32} (hd : decode c.code pc = .ok (.ineg, 1)) (hz : -x = z) (h : Goes p e below P T (mkF m pc' Ls (.int z :: rest))) : Goes p e below P T (mkF m pc Ls (.int x :: rest)) := by
  subst hp; subst hz; exact Goes.go (fun _ k => XS.ineg X.here hx rfl hd rfl k) h
theorem own_lneg (X : Stand p l e R s m args below meth c T locs cells slots) (hx : p.tables.exec = Jvm.exec) (pc' : Nat) (hp : pc + 1 = pc') {x : Int64} {z : Int64} (hd : decode c.code pc = .ok (.lneg, 1)) (hz : -x = z) (h : Goes p e below P T (mkF m pc' Ls (.long z :: rest))) : Goes p e below P T (mkF m pc Ls (.long x :: rest)) := by
  subst hp; subst hz; exact Goes.go (fun _ k => XS.lneg X.here hx rfl hd rfl k) h
theorem own_i2l (X : Stand p l e R s m args below meth c T locs cells slots) (hx : p.tables.exec = Jvm.exec) (pc' : Nat) (hp : pc + 1 = pc') {x : Int32} {z : Int64} (hd : decode c.code pc = .ok (.i2l, 1)) (hz : x.toInt64 = z) (h : Goes p e below P T (mkF m pc' Ls (.long z :: rest))) : Goes p e below P T (mkF m pc Ls (.int x :: rest)) := by
  subst hp; subst hz; exact Goes.go (fun _ k => XS.i2l X.here hx rfl hd rfl k) h
theorem own_l2i (X : Stand p l e R s m args below meth c T locs cells slots) (hx : p.tables.exec = Jvm.exec) (pc' : Nat) (hp : pc + 1 = pc') {x : Int64} {z : Int32} (hd : decode c.code pc = .ok (.l2i, 1)) (hz : x.toInt32 = z) (h : Goes p e below P T (mkF m pc' Ls (.int z :: rest))) : Goes p e below P T (mkF m pc Ls (.long x :: rest)) := by
  subst hp; subst hz; exact Goes.go (fun _ k => XS.l2i X.here hx rfl hd rfl k) h
theorem own_i2b (X : Stand p l e R s m args below meth c T locs cells slots) (hx : p.tables.exec = Jvm.exec) (pc' : Nat) (hp : pc + 1 = pc') {x : Int32} {z : Int32} (hd : decode c.code pc = .ok (.i2b, 1)) (hz : x.toInt8.toInt32 = z) (h : Goes p e below P T (mkF m pc' Ls (.int z :: rest))) : Goes p e below P T (mkF m pc Ls (.int x :: rest)) := by
  subst hp; subst hz; exact Goes.go (fun _ k => XS.i2b X.here hx rfl hd rfl k) h
theorem own_i2s (X : Stand p l e R s m args below meth c T locs cells slots) (hx : p.tables.exec = Jvm.exec) (pc' : Nat) (hp : pc + 1 = pc') {x : Int32} {z : Int32} (hd : decode c.code pc = .ok (.i2s, 1)) (hz : x.toInt16.toInt32 = z) (h : Goes p e below P T (mkF m pc' Ls (.int z :: rest))) : Goes p e below P T (mkF m pc Ls (.int x :: rest)) := by
  subst hp; subst hz; exact Goes.go (fun _ k => XS.i2s X.here hx rfl hd rfl k) h
theorem own_i2c (X : Stand p l e R s m args below meth c T locs cells slots) (hx : p.tables.exec = Jvm.exec) (pc' : Nat) (hp : pc + 1 = pc') {x : Int32} {z : Int32} (hd : decode c.code pc = .ok (.i2c, 1)) (hz : x.toUInt32.toUInt16.toUInt32.toInt32 = z) (h : Goes p e below P T (mkF m pc' Ls (.int z :: rest))) : Goes p e below P T (mkF m pc Ls (.int x :: rest)) := by
  subst hp; subst hz; exact Goes.go (fun _ k => XS.i2c X.here hx rfl hd rfl k) h
theorem own_lcmp (X : Stand p l e R s m args below meth c T locs cells slots) (hx : p.tables.exec = Jvm.exec) (pc' : Nat) (hp : pc + 1 = pc') {x y : Int64} (hd : decode c.code pc = .ok (.lcmp, 1))  (h : Goes p e below P T (mkF m pc' Ls (.int (lcmpW x y) :: rest))) : Goes p e below P T (mkF m pc Ls (.long y :: .long x :: rest)) := by
  subst hp; exact Goes.go (fun _ k => XS.lcmp X.here hx rfl hd rfl k) h
theorem own_iload (X : Stand p l e R s m args below meth c T locs cells slots) (hx : p.tables.exec = Jvm.exec) (pc' : Nat) (hp : pc + 2 = pc') {k : Nat} {v : Int32} (hd : decode c.code pc = .ok (.iload k, 2)) (hl : Ls[k]? = some (.val (.int v))) (h : Goes p e below P T (mkF m pc' Ls ((.int v) :: rest))) : Goes p e below P T (mkF m pc Ls rest) := by
  subst hp; exact Goes.go (fun _ k => XS.iload X.here hx rfl hd hl k) h
theorem own_iloadN (X : Stand p l e R s m args below meth c T locs cells slots) (hx : p.tables.exec = Jvm.exec) (pc' : Nat) (hp : pc + 1 = pc') {k : Fin 4} {v : Int32} (hd : decode c.code pc = .ok (.iload_n k, 1)) (hl : Ls[k.val]? = some (.val (.int v))) (h : Goes p e below P T (mkF m pc' Ls ((.int v) :: rest))) : Goes p e below P T (mkF m pc Ls rest) := by
  subst hp; exact Goes.go (fun _ k => XS.iloadN X.here hx rfl hd hl k) h
theorem own_istore (X : Stand p l e R s m args below meth c T locs cells slots) (hx : p.tables.exec = Jvm.exec) (pc' : Nat) (hp : pc + 2 = pc') {k : Nat} {v : Int32} (Ls' : Array Slot) (hd : decode c.code pc = .ok (.istore k, 2)) (hl : storeLocals Ls k (.int v) = some Ls') (h : Goes p e below P T (mkF m pc' Ls' rest)) : Goes p e below P T (mkF m pc Ls ((.int v) :: rest)) := by
  subst hp; exact Goes.go (fun _ k => XS.istore X.here hx rfl hd rfl hl k) h
theorem own_istoreN (X : Stand p l e R s m args below meth c T locs cells slots) (hx : p.tables.exec = Jvm.exec) (pc' : Nat) (hp : pc + 1 = pc') {k : Fin 4} {v : Int32} (Ls' : Array Slot) (hd : decode c.code pc = .ok (.istore_n k, 1)) (hl : storeLocals Ls k.val (.int v) = some Ls') (h : Goes p e below P T (mkF m pc' Ls' rest)) : Goes p e below P T (mkF m pc Ls ((.int v) :: rest)) := by
  subst hp; exact Goes.go (fun _ k => XS.istoreN X.here hx rfl hd rfl hl k) h
theorem own_lload (X : Stand p l e R s m args below meth c T locs cells slots) (hx : p.tables.exec = Jvm.exec) (pc' : Nat) (hp : pc + 2 = pc') {k : Nat} {v : Int64} (hd : decode c.code pc = .ok (.lload k, 2)) (hl : Ls[k]? = some (.val (.long v))) (h : Goes p e below P T (mkF m pc' Ls ((.long v) :: rest))) : Goes p e below P T (mkF m pc Ls rest) := by
  subst hp; exact Goes.go (fun _ k => XS.lload X.here hx rfl hd hl k) h
theorem own_lloadN (X : Stand p l e R s m args below meth c T locs cells slots) (hx : p.tables.exec = Jvm.exec) (pc' : Nat) (hp : pc + 1 = pc') {k : Fin 4} {v : Int64} (hd : decode c.code pc = .ok (.lload_n k, 1)) (hl : Ls[k.val]? = some (.val (.long v))) (h : Goes p e below P T (mkF m pc' Ls ((.long v) :: rest))) : Goes p e below P T (mkF m pc Ls rest) := by
  subst hp; exact Goes.go (fun _ k => XS.lloadN X.here hx rfl hd hl k) h
theorem own_lstore (X : Stand p l e R s m args below meth c T locs cells slots) (hx : p.tables.exec = Jvm.exec) (pc' : Nat) (hp : pc + 2 = pc') {k : Nat} {v : Int64} (Ls' : Array Slot) (hd : decode c.code pc = .ok (.lstore k, 2)) (hl : storeLocals Ls k (.long v) = some Ls') (h : Goes p e below P T (mkF m pc' Ls' rest)) : Goes p e below P T (mkF m pc Ls ((.long v) :: rest)) := by
  subst hp; exact Goes.go (fun _ k => XS.lstore X.here hx rfl hd rfl hl k) h
theorem own_lstoreN (X : Stand p l e R s m args below meth c T locs cells slots) (hx : p.tables.exec = Jvm.exec) (pc' : Nat) (hp : pc + 1 = pc') {k : Fin 4} {v : Int64} (Ls' : Array Slot) (hd : decode c.code pc = .ok (.lstore_n k, 1)) (hl : storeLocals Ls k.val (.long v) = some Ls') (h : Goes p e below P T (mkF m pc' Ls' rest)) : Goes p e below P T (mkF m pc Ls ((.long v) :: rest)) := by
  subst hp; exact Goes.go (fun _ k => XS.lstoreN X.here hx rfl hd rfl hl k) h
theorem own_aload (X : Stand p l e R s m args below meth c T locs cells slots) (hx : p.tables.exec = Jvm.exec) (pc' : Nat) (hp : pc + 2 = pc') {k : Nat} {v : Value} (hd : decode c.code pc = .ok (.aload k, 2)) (hl : Ls[k]? = some (.val v)) (hv : v.isRef = true) (h : Goes p e below P T (mkF m pc' Ls (v :: rest))) : Goes p e below P T (mkF m pc Ls rest) := by
  subst hp; exact Goes.go (fun _ k => XS.aload X.here hx rfl hd hl hv k) h
theorem own_aloadN (X : Stand p l e R s m args below meth c T locs cells slots) (hx : p.tables.exec = Jvm.exec) (pc' : Nat) (hp : pc + 1 = pc') {k : Fin 4} {v : Value} (hd : decode c.code pc = .ok (.aload_n k, 1)) (hl : Ls[k.val]? = some (.val v)) (hv : v.isRef = true) (h : Goes p e below P T (mkF m pc' Ls (v :: rest))) : Goes p e below P T (mkF m pc Ls rest) := by
  subst hp; exact Goes.go (fun _ k => XS.aloadN X.here hx rfl hd hl hv k) h
theorem own_astore (X : Stand p l e R s m args below meth c T locs cells slots) (hx : p.tables.exec = Jvm.exec) (pc' : Nat) (hp : pc + 2 = pc') {k : Nat} {v : Value} (Ls' : Array Slot) (hd : decode c.code pc = .ok (.astore k, 2)) (hl : storeLocals Ls k v = some Ls') (hv : v.isRef = true) (h : Goes p e below P T (mkF m pc' Ls' rest)) : Goes p e below P T (mkF m pc Ls (v :: rest)) := by
  subst hp; exact Goes.go (fun _ k => XS.astore X.here hx rfl hd rfl hv hl k) h
theorem own_astoreN (X : Stand p l e R s m args below meth c T locs cells slots) (hx : p.tables.exec = Jvm.exec) (pc' : Nat) (hp : pc + 1 = pc') {k : Fin 4} {v : Value} (Ls' : Array Slot) (hd : decode c.code pc = .ok (.astore_n k, 1)) (hl : storeLocals Ls k.val v = some Ls') (hv : v.isRef = true) (h : Goes p e below P T (mkF m pc' Ls' rest)) : Goes p e below P T (mkF m pc Ls (v :: rest)) := by
  subst hp; exact Goes.go (fun _ k => XS.astoreN X.here hx rfl hd rfl hv hl k) h
theorem own_iconst (X : Stand p l e R s m args below meth c T locs cells slots) (hx : p.tables.exec = Jvm.exec) (pc' : Nat) (hp : pc + 1 = pc') {i : Int} (v : Int32) (hd : decode c.code pc = .ok (.iconst i, 1)) (hv : Int32.ofInt i = v) (h : Goes p e below P T (mkF m pc' Ls (.int v :: rest))) : Goes p e below P T (mkF m pc Ls rest) := by
  subst hp; subst hv; exact Goes.go (fun _ k => XS.iconst X.here hx rfl hd k) h
theorem own_bipush (X : Stand p l e R s m args below meth c T locs cells slots) (hx : p.tables.exec = Jvm.exec) (pc' : Nat) (hp : pc + 2 = pc') {i : Int} (v : Int32) (hd : decode c.code pc = .ok (.bipush i, 2)) (hv : (Int8.ofInt i).toInt32 = v) (h : Goes p e below P T (mkF m pc' Ls (.int v :: rest))) : Goes p e below P T (mkF m pc Ls rest) := by
  subst hp; subst hv; exact Goes.go (fun _ k => XS.bipush X.here hx rfl hd k) h
theorem own_sipush (X : Stand p l e R s m args below meth c T locs cells slots) (hx : p.tables.exec = Jvm.exec) (pc' : Nat) (hp : pc + 3 = pc') {i : Int} (v : Int32) (hd : decode c.code pc = .ok (.sipush i, 3)) (hv : (Int16.ofInt i).toInt32 = v) (h : Goes p e below P T (mkF m pc' Ls (.int v :: rest))) : Goes p e below P T (mkF m pc Ls rest) := by
  subst hp; subst hv; exact Goes.go (fun _ k => XS.sipush X.here hx rfl hd k) h
theorem own_lconst (X : Stand p l e R s m args below meth c T locs cells slots) (hx : p.tables.exec = Jvm.exec) (pc' : Nat) (hp : pc + 1 = pc') {i : Fin 2} (v : Int64) (hd : decode c.code pc = .ok (.lconst i, 1)) (hv : Int64.ofNat i = v) (h : Goes p e below P T (mkF m pc' Ls (.long v :: rest))) : Goes p e below P T (mkF m pc Ls rest) := by
  subst hp; subst hv; exact Goes.go (fun _ k => XS.lconst X.here hx rfl hd k) h
theorem own_aconst_null (X : Stand p l e R s m args below meth c T locs cells slots) (hx : p.tables.exec = Jvm.exec) (pc' : Nat) (hp : pc + 1 = pc')  (hd : decode c.code pc = .ok (.aconst_null, 1))  (h : Goes p e below P T (mkF m pc' Ls (.null :: rest))) : Goes p e below P T (mkF m pc Ls rest) := by
  subst hp; exact Goes.go (fun _ k => XS.aconstNull X.here hx rfl hd k) h
theorem own_dup (X : Stand p l e R s m args below meth c T locs cells slots) (hx : p.tables.exec = Jvm.exec) (pc' : Nat) (hp : pc + 1 = pc') {v : Value} (hd : decode c.code pc = .ok (.dup, 1)) (hc : v.category = 1) (h : Goes p e below P T (mkF m pc' Ls (v :: v :: rest))) : Goes p e below P T (mkF m pc Ls (v :: rest)) := by
  subst hp; exact Goes.go (fun _ k => XS.dup X.here hx rfl hd rfl hc k) h
theorem own_pop (X : Stand p l e R s m args below meth c T locs cells slots) (hx : p.tables.exec = Jvm.exec) (pc' : Nat) (hp : pc + 1 = pc') {v : Value} (hd : decode c.code pc = .ok (.pop, 1)) (hc : v.category = 1) (h : Goes p e below P T (mkF m pc' Ls rest)) : Goes p e below P T (mkF m pc Ls (v :: rest)) := by
  subst hp; exact Goes.go (fun _ k => XS.pop X.here hx rfl hd rfl hc k) h
theorem own_dup_x1 (X : Stand p l e R s m args below meth c T locs cells slots) (hx : p.tables.exec = Jvm.exec) (pc' : Nat) (hp : pc + 1 = pc') {v w : Value} (hd : decode c.code pc = .ok (.dup_x1, 1)) (hc : v.category = 1) (hc' : w.category = 1) (h : Goes p e below P T (mkF m pc' Ls (v :: w :: v :: rest))) : Goes p e below P T (mkF m pc Ls (v :: w :: rest)) := by
  subst hp; exact Goes.go (fun _ k => XS.dupX1 X.here hx rfl hd rfl hc hc' k) h
theorem own_dup2L (X : Stand p l e R s m args below meth c T locs cells slots) (hx : p.tables.exec = Jvm.exec) (pc' : Nat) (hp : pc + 1 = pc') {v : Int64} (hd : decode c.code pc = .ok (.dup2, 1))  (h : Goes p e below P T (mkF m pc' Ls (.long v :: .long v :: rest))) : Goes p e below P T (mkF m pc Ls (.long v :: rest)) := by
  subst hp; exact Goes.go (fun _ k => Jvm.Free.XT.dup2L X.here hx rfl hd rfl k) h
theorem own_dup2 (X : Stand p l e R s m args below meth c T locs cells slots) (hx : p.tables.exec = Jvm.exec) (pc' : Nat) (hp : pc + 1 = pc') {v w : Value} (hd : decode c.code pc = .ok (.dup2, 1)) (hc : v.category = 1) (hc' : w.category = 1) (h : Goes p e below P T (mkF m pc' Ls (v :: w :: v :: w :: rest))) : Goes p e below P T (mkF m pc Ls (v :: w :: rest)) := by
  subst hp; exact Goes.go (fun _ k => Jvm.Free.XT.dup2 X.here hx rfl hd rfl hc hc' k) h
theorem own_iinc (X : Stand p l e R s m args below meth c T locs cells slots) (hx : p.tables.exec = Jvm.exec) (pc' : Nat) (hp : pc + 3 = pc') {k : Nat} {cst : Int} {x z : Int32} (Ls' : Array Slot) (hd : decode c.code pc = .ok (.iinc k cst, 3)) (hl : Ls[k]? = some (.val (.int x))) (hz : x + Int32.ofInt cst = z) (hl' : storeLocals Ls k (.int z) = some Ls') (h : Goes p e below P T (mkF m pc' Ls' rest)) : Goes p e below P T (mkF m pc Ls rest) := by
  subst hp; subst hz; exact Goes.go (fun _ k => XS.iinc X.here hx rfl hd hl hl' k) h
theorem own_goto (X : Stand p l e R s m args below meth c T locs cells slots) (hx : p.tables.exec = Jvm.exec) (pc' : Nat) {o : Int} (hd : decode c.code pc = .ok (.goto o, 3)) (ho : 0 ≤ (pc : Int) + o) (hp : ((pc : Int) + o).toNat = pc') (h : Goes p e below P T (mkF m pc' Ls rest)) : Goes p e below P T (mkF m pc Ls rest) :=
  Goes.go (fun _ k => XS.goto X.here hx rfl rfl hd ho hp k) h
theorem own_ifY (X : Stand p l e R s m args below meth c T locs cells slots) (hx : p.tables.exec = Jvm.exec) (pc' : Nat) {o : Int} {cd : ClassFile.Cond} {x : Int32} (hd : decode c.code pc = .ok (.ifCond cd o, 3)) (hc : ifCond.holds cd x = true) (ho : 0 ≤ (pc : Int) + o) (hp : ((pc : Int) + o).toNat = pc') (h : Goes p e below P T (mkF m pc' Ls rest)) : Goes p e below P T (mkF m pc Ls (.int x :: rest)) :=
  Goes.go (fun _ k => XS.ifYes X.here hx rfl rfl hd rfl hc ho hp k) h
theorem own_ifN (X : Stand p l e R s m args below meth c T locs cells slots) (hx : p.tables.exec = Jvm.exec) (pc' : Nat) {o : Int} {cd : ClassFile.Cond} {x : Int32} (hd : decode c.code pc = .ok (.ifCond cd o, 3)) (hc : ifCond.holds cd x = false) (hp : pc + 3 = pc') (h : Goes p e below P T (mkF m pc' Ls rest)) : Goes p e below P T (mkF m pc Ls (.int x :: rest)) := by
  subst hp; exact Goes.go (fun _ k => XS.ifNo X.here hx rfl hd rfl hc k) h
theorem own_icmpY (X : Stand p l e R s m args below meth c T locs cells slots) (hx : p.tables.exec = Jvm.exec) (pc' : Nat) {o : Int} {cd : ClassFile.Cond} {x y : Int32} (hd : decode c.code pc = .ok (.if_icmp cd o, 3)) (hc : if_icmp.holds cd x y = true) (ho : 0 ≤ (pc : Int) + o) (hp : ((pc : Int) + o).toNat = pc') (h : Goes p e below P T (mkF m pc' Ls rest)) : Goes p e below P T (mkF m pc Ls (.int y :: .int x :: rest)) :=
  Goes.go (fun _ k => XS.icmpYes X.here hx rfl rfl hd rfl hc ho hp k) h
theorem own_icmpN (X : Stand p l e R s m args below meth c T locs cells slots) (hx : p.tables.exec = Jvm.exec) (pc' : Nat) {o : Int} {cd : ClassFile.Cond} {x y : Int32} (hd : decode c.code pc = .ok (.if_icmp cd o, 3)) (hc : if_icmp.holds cd x y = false) (hp : pc + 3 = pc') (h : Goes p e below P T (mkF m pc' Ls rest)) : Goes p e below P T (mkF m pc Ls (.int y :: .int x :: rest)) := by
  subst hp; exact Goes.go (fun _ k => XS.icmpNo X.here hx rfl hd rfl hc k) h
theorem own_acmp (X : Stand p l e R s m args below meth c T locs cells slots) (hx : p.tables.exec = Jvm.exec) (pc' : Nat) {o : Int} {cd : ACond} {x y : Value} {same : Bool} (h1 : x.isRef = true) (h2 : y.isRef = true) (hd : decode c.code pc = .ok (.if_acmp cd o, 3)) (hq : decide (x = y) = same) (ho : 0 ≤ (pc : Int) + o) (hp : pc' = if acV cd same = true then ((pc : Int) + o).toNat else pc + 3) (h : Goes p e below P T (mkF m pc' Ls rest)) : Goes p e below P T (mkF m pc Ls (y :: x :: rest)) :=
  Goes.go (fun _ k => Jvm.RoadKit.acmp (g := mkF m pc Ls (y :: x :: rest)) X hx rfl h1 h2 rfl hd rfl hq ho hp k) h
theorem own_ifnullY (X : Stand p l e R s m args below meth c T locs cells slots) (hx : p.tables.exec = Jvm.exec) (pc' : Nat) {o : Int} (hd : decode c.code pc = .ok (.ifnull o, 3)) (ho : 0 ≤ (pc : Int) + o) (hp : ((pc : Int) + o).toNat = pc') (h : Goes p e below P T (mkF m pc' Ls rest)) : Goes p e below P T (mkF m pc Ls (.null :: rest)) :=
  Goes.go (fun _ k => XS.ifnullYes X.here hx rfl rfl hd rfl ho hp k) h
theorem own_ifnullN (X : Stand p l e R s m args below meth c T locs cells slots) (hx : p.tables.exec = Jvm.exec) (pc' : Nat) {o : Int} {b : Addr} (hd : decode c.code pc = .ok (.ifnull o, 3)) (hp : pc + 3 = pc') (h : Goes p e below P T (mkF m pc' Ls rest)) : Goes p e below P T (mkF m pc Ls (.ref b :: rest)) := by
  subst hp; exact Goes.go (fun _ k => XS.ifnullNo X.here hx rfl hd rfl k) h
theorem own_ifnonnullY (X : Stand p l e R s m args below meth c T locs cells slots) (hx : p.tables.exec = Jvm.exec) (pc' : Nat) {o : Int} {b : Addr} (hd : decode c.code pc = .ok (.ifnonnull o, 3)) (ho : 0 ≤ (pc : Int) + o) (hp : ((pc : Int) + o).toNat = pc') (h : Goes p e below P T (mkF m pc' Ls rest)) : Goes p e below P T (mkF m pc Ls (.ref b :: rest)) :=
  Goes.go (fun _ k => XS.ifnonnullYes X.here hx rfl rfl hd rfl ho hp k) h
theorem own_ifnonnullN (X : Stand p l e R s m args below meth c T locs cells slots) (hx : p.tables.exec = Jvm.exec) (pc' : Nat) {o : Int} (hd : decode c.code pc = .ok (.ifnonnull o, 3)) (hp : pc + 3 = pc') (h : Goes p e below P T (mkF m pc' Ls rest)) : Goes p e below P T (mkF m pc Ls (.null :: rest)) := by
  subst hp; exact Goes.go (fun _ k => XS.ifnonnullNo X.here hx rfl hd rfl k) h
end Steps1
/-- the branches on a long comparison -/
theorem Ltlt {x y : Int64} (h : x < y) : ifCond.holds .lt (lcmpW x y) = true ∧ ifCond.holds .ge (lcmpW x y) = false ∧ ifCond.holds .gt (lcmpW y x) = true ∧ ifCond.holds .le (lcmpW y x) = false :=
  ⟨(if0 _ _).trans (tlt ((lw_lt x y).mpr h)).1, (if0 _ _).trans (tlt ((lw_lt x y).mpr h)).2.1, (if0 _ _).trans (tlt ((lw_gt y x).mpr h)).2.2.1, (if0 _ _).trans (tlt ((lw_gt y x).mpr h)).2.2.2⟩
theorem Lflt {x y : Int64} (h : ¬ x < y) : ifCond.holds .lt (lcmpW x y) = false ∧ ifCond.holds .ge (lcmpW x y) = true ∧ ifCond.holds .gt (lcmpW y x) = false ∧ ifCond.holds .le (lcmpW y x) = true :=
  ⟨(if0 _ _).trans (flt fun q => h ((lw_lt x y).mp q)).1, (if0 _ _).trans (flt fun q => h ((lw_lt x y).mp q)).2.1, (if0 _ _).trans (flt fun q => h ((lw_gt y x).mp q)).2.2.1, (if0 _ _).trans (flt fun q => h ((lw_gt y x).mp q)).2.2.2⟩
theorem Lteq {x y : Int64} (h : x = y) : ifCond.holds .eq (lcmpW x y) = true ∧ ifCond.holds .ne (lcmpW x y) = false :=
  ⟨(if0 _ _).trans (teq ((lw_eq x y).mpr h)).1, (if0 _ _).trans (teq ((lw_eq x y).mpr h)).2⟩
theorem Lfeq {x y : Int64} (h : ¬ x = y) : ifCond.holds .eq (lcmpW x y) = false ∧ ifCond.holds .ne (lcmpW x y) = true :=
  ⟨(if0 _ _).trans (feq fun q => h ((lw_eq x y).mp q)).1, (if0 _ _).trans (feq fun q => h ((lw_eq x y).mp q)).2⟩
theorem Ztlt {x y : Int32} (h : x < y) : if_icmp.holds .lt x y = true ∧ if_icmp.holds .ge x y = false ∧ if_icmp.holds .gt y x = true ∧ if_icmp.holds .le y x = false := tlt h
/-- the pieces of a memory fact -/
theorem own_lt_ne {a b n : Nat} (h : a < n) (g : b = n) : a ≠ b := by omega
end Own
theorem own_sta_keep {Z : State} {h h' : Heap} {C n d : String} {v : Value} {ws : List Addr} (F : Sta Z h C n d v) (K : Keep h h' ws) (q : ∀ x ∈ ws, ∀ cell : Cell, h[x]? = some cell → cell.vm.isStatics = false) : Sta Z h' C n d v := by
  obtain ⟨cf, i, k, f, st, cell, h1, h2, h3, h4, h5, h6, h7⟩ := F
  refine ⟨cf, i, k, f, st, cell, h1, h2, h3, h4, K.2.1 _ _ h5 (fun hm => ?_), h6, h7⟩
  have q1 := q _ hm cell h5
  rw [h6] at q1; cases q1
theorem own_eplain {Z : State} {h : Heap} {a : Addr} {C : String} (F : Exa Z h a C) : ∀ cell : Cell, h[a]? = some cell → cell.vm.isStatics = false := fun cell hc => by
  obtain ⟨c, k, h1, -, -, h4, -⟩ := F; cases h1.symm.trans hc; exact h4
theorem own_rplain {Z : State} {h : Heap} {a : Addr} {c : Cell} {ty : FieldType} (F : Arr Z h a c ty) : ∀ cell : Cell, h[a]? = some cell → cell.vm.isStatics = false := fun cell hc => by
  cases F.1.symm.trans hc; exact F.plain
theorem own_aplain {Z : State} {h : Heap} {a : Addr} {k : ClassId} {ty : FieldType} {n : Int32} {vs : List Value} {dv : Value} (F : Arv Z h a k ty n vs dv) : ∀ cell : Cell, h[a]? = some cell → cell.vm.isStatics = false := by
  obtain ⟨c, A, -⟩ := F; exact own_rplain A
theorem own_fitsR {t : FieldType} {w : Value} (hw : w.isRef = true) (ht : t.isReference = true) : fits t w = true := by
  rcases ref_cases hw with rfl | ⟨a, rfl⟩ <;> cases t <;> first | rfl | (simp [FieldType.isReference] at ht)
theorem own_nz {args : Array Value} {s : State} {t : Term} {cs : Int32} (ev : t.eval args s none [] s = some (.int cs)) (h : (Jvm.Cond.not (Jvm.Cond.eq t (Term.int 0))).before args s = true) : ¬ cs = (0 : Int32) := by
  have h2 := not_v (Cond.before_iff.mp h)
  simpa [Cond.value, ev, Term.eval] using h2
theorem own_c255 (x : Int32) : ¬ (255 : Int32) < ((((x &&& (255 : Int32)).toUInt32.toUInt16.toUInt32.toInt32)).toUInt32.toUInt16.toUInt32.toInt32) := by
  rw [i2c_mask, i2c_mask]
  have hm : (x &&& (255 : Int32)).toInt = x.toInt % 256 := c_mask x (255 : Int32) 8 (by decide) (by decide)
  have e1 : (255 : Int32).toInt = 255 := by decide
  rw [Int32.lt_iff_toInt_lt]; omega
theorem own_wS {Z : State} {a0 : Array Value} (hw : ∀ d ∈ tables_1, d.before a0 Z = true) : ∀ a ∈ Bundle.stringAtoms, a.before a0 Z = true := fun a ha => by
  rcases List.mem_cons.mp ha with rfl | ha
  · exact (hw _ (List.mem_of_getElem? (i := 30) rfl))
  rcases List.mem_cons.mp ha with rfl | ha
  · exact (hw _ (List.mem_of_getElem? (i := 29) rfl))
  rcases List.mem_cons.mp ha with rfl | ha
  · exact (hw _ (List.mem_of_getElem? (i := 44) rfl))
  rcases List.mem_cons.mp ha with rfl | ha
  · exact (hw _ (List.mem_of_getElem? (i := 54) rfl))
  rcases List.mem_cons.mp ha with rfl | ha
  · exact (hw _ (List.mem_of_getElem? (i := 52) rfl))
  rcases List.mem_cons.mp ha with rfl | ha
  · exact (hw _ (List.mem_of_getElem? (i := 56) rfl))
  rcases List.mem_cons.mp ha with rfl | ha
  · exact (hw _ (List.mem_of_getElem? (i := 57) rfl))
  exact absurd ha (List.not_mem_nil)
theorem own_st {r : Int32} {v : Value} (h : (r = (1 : Int32) ∧ ¬ v = .null) ∨ (r = (0 : Int32) ∧ v = .null)) : (v = .null → r = (0 : Int32)) ∧ (¬ v = .null → r = (1 : Int32)) := by
  rcases h with h | h
  · exact ⟨fun q => absurd q h.2, fun _ => h.1⟩
  · exact ⟨fun _ => h.1, fun q => absurd h.2 q⟩
theorem own_d9_0 : decode jdk_52_method_21_code 0 = .ok (.iconst 0, 1) := by decide +kernel
theorem own_d9_1 : decode jdk_52_method_21_code 1 = .ok (.istore 5, 2) := by decide +kernel
theorem own_d9_3 : decode jdk_52_method_21_code 3 = .ok (.iload 5, 2) := by decide +kernel
theorem own_d9_5 : decode jdk_52_method_21_code 5 = .ok (.iload 4, 2) := by decide +kernel
theorem own_d9_7 : decode jdk_52_method_21_code 7 = .ok (.if_icmp .ge 37, 3) := by decide +kernel
theorem own_d9_10 : decode jdk_52_method_21_code 10 = .ok (.aload_n 0, 1) := by decide +kernel
theorem own_d9_11 : decode jdk_52_method_21_code 11 = .ok (.iload_n 1, 1) := by decide +kernel
theorem own_d9_12 : decode jdk_52_method_21_code 12 = .ok (.caload, 1) := by decide +kernel
theorem own_d9_13 : decode jdk_52_method_21_code 13 = .ok (.istore 6, 2) := by decide +kernel
theorem own_d9_15 : decode jdk_52_method_21_code 15 = .ok (.iload 6, 2) := by decide +kernel
theorem own_d9_17 : decode jdk_52_method_21_code 17 = .ok (.sipush 255, 3) := by decide +kernel
theorem own_d9_20 : decode jdk_52_method_21_code 20 = .ok (.if_icmp .le 6, 3) := by decide +kernel
theorem own_d9_26 : decode jdk_52_method_21_code 26 = .ok (.aload_n 2, 1) := by decide +kernel
theorem own_d9_27 : decode jdk_52_method_21_code 27 = .ok (.iload_n 3, 1) := by decide +kernel
theorem own_d9_28 : decode jdk_52_method_21_code 28 = .ok (.iload 6, 2) := by decide +kernel
theorem own_d9_30 : decode jdk_52_method_21_code 30 = .ok (.i2b, 1) := by decide +kernel
theorem own_d9_31 : decode jdk_52_method_21_code 31 = .ok (.bastore, 1) := by decide +kernel
theorem own_d9_32 : decode jdk_52_method_21_code 32 = .ok (.iinc 1 1, 3) := by decide +kernel
theorem own_d9_35 : decode jdk_52_method_21_code 35 = .ok (.iinc 3 1, 3) := by decide +kernel
theorem own_d9_38 : decode jdk_52_method_21_code 38 = .ok (.iinc 5 1, 3) := by decide +kernel
theorem own_d9_41 : decode jdk_52_method_21_code 41 = .ok (.goto (-38), 3) := by decide +kernel
theorem own_d9_44 : decode jdk_52_method_21_code 44 = .ok (.iload 4, 2) := by decide +kernel
theorem own_d9_46 : decode jdk_52_method_21_code 46 = .ok (.ireturn, 1) := by decide +kernel
theorem own_pn_java_lang_StringUTF16 : plainName "java/lang/StringUTF16" = true := by first | (simp [plainName, overriddenIn]; done) | decide +kernel
def Qcmp2 (Z : State) (ca : Addr) (ba : Addr) (ck : ClassId) (sc0 : Int32) (sc1 : Int32) (bk : ClassId) (h0 : Heap) (n0 : Nat) (v : Option Value) (h : Heap) (L : List Loc) : Prop := v = some (.int (2 : Int32)) ∧ Fr n0 L ∧ Keep h0 h [ba] ∧ Arv Z h ba bk .byte (2 : Int32) [(.int ((sc0.toInt8.toInt32).toInt8.toInt32)), (.int ((sc1.toInt8.toInt32).toInt8.toInt32))] (.int (0 : Int32))
set_option maxRecDepth 65536 in
set_option maxHeartbeats 40000000 in
theorem rmcmp2 (l : Launch) (Z : State) (a0 : Array Value) (hw : ∀ d ∈ tables_1, d.before a0 Z = true) (ws : List Jvm.Cond) (ca : Addr) (ba : Addr) (ck : ClassId) (sc0 : Int32) (sc1 : Int32) (bk : ClassId) (h0 : Heap) (n0 : Nat) (Z0 : n0 ≤ h0.size) (Ac : Arv Z h0 ca ck .char (2 : Int32) [(.int sc0), (.int sc1)] (.int (0 : Int32))) (Ab : Arv Z h0 ba bk .byte (2 : Int32) [(.int (0 : Int32)), (.int (0 : Int32))] (.int (0 : Int32))) (gb : n0 ≤ ba) (ncb : ca ≠ ba) (hc0 : ¬ ((255 : Int32) < sc0)) (hc1 : ¬ ((255 : Int32) < sc1)) :
    MetFree l (⟨"java/lang/StringUTF16", "compress", "([CI[BII)I"⟩ : MethodName) (head1 (Jvm.Cond.code (⟨"java/lang/StringUTF16", "compress", "([CI[BII)I"⟩ : MethodName) jdk_52_method_21_code 7 (some .int) :: ws) ({ frames := 0, cells := 0, slots := 0, locals := 0 } : Room)) (fun a U => a = #[(.ref ca), (.int (0 : Int32)), (.ref ba), (.int (0 : Int32)), (.int (2 : Int32))] ∧ Z.Warmed39 U.vm ∧ U.heap = h0) (fun _ _ _ _ _ => True) (fun _ U o U' => ∃ v L, o = .returned v ∧ Qcmp2 Z ca ba ck sc0 sc1 bk h0 n0 v U'.heap L ∧ FrameEnd U o U' L ({ frames := 0, cells := 0, slots := 0, locals := 0 } : Room).cells ({ frames := 0, cells := 0, slots := 0, locals := 0 } : Room).slots) := by
  refine MetFree.of_bodySF (plainFor_of_name own_pn_java_lang_StringUTF16) hisR ?_
  intro p e s m args below meth c s₁ Bd hml0 hP hK
  obtain ⟨rfl, hZ, hh⟩ := hP
  have hx := Bd.exec
  have hby := Bd.bytes
  have hml : c.maxLocals = 7 := hml0
  have hlk := Bd.notSynchronized
  have hown : s.vm.findClass "java/lang/StringUTF16" = some m.cls := findClass_of_methodNamed Bd.named
  have hnm := (name_of_methodNamed Bd.named Bd.method).1
  have X0 : Stand p l e ({ frames := 0, cells := 0, slots := 0, locals := 0 } : Room) s m #[(.ref ca), (.int (0 : Int32)), (.ref ba), (.int (0 : Int32)), (.int (2 : Int32))] below meth c s₁ [] 0 0 := Stand.of_body Bd
  have e0 : s₁.heap = h0 := by rw [← hh, Bd.state]; rfl
  have N0 := Fr.nil n0
  have K0 : Keep h0 h0 [ba] := Keep.refl _ _
  refine own_enter (P := (Done s ({ frames := 0, cells := 0, slots := 0, locals := 0 } : Room).cells ({ frames := 0, cells := 0, slots := 0, locals := 0 } : Room).slots (Qcmp2 Z ca ba ck sc0 sc1 bk h0 n0))) (Ls := #[.val (.ref ca), .val (.int (0 : Int32)), .val (.ref ba), .val (.int (0 : Int32)), .val (.int (2 : Int32)), .unset, .unset]) (by first | (simp [entryFrame, mkF, argsToLocals, Value.category]; done) | rfl) ?_
  refine own_iconst X0 hx 1 rfl (0 : Int32) (hb hby own_d9_0) (by decide) ?_
  refine own_istore X0 hx 3 rfl #[.val (.ref ca), .val (.int (0 : Int32)), .val (.ref ba), .val (.int (0 : Int32)), .val (.int (2 : Int32)), .val (.int (0 : Int32)), .unset] (hb hby own_d9_1) rfl ?_
  refine own_iload X0 hx 5 rfl (hb hby own_d9_3) rfl ?_
  refine own_iload X0 hx 7 rfl (hb hby own_d9_5) rfl ?_
  refine own_icmpN X0 hx 10 (hb hby own_d9_7) (tlt ((by decide) : (0 : Int32) < (2 : Int32))).2.1 rfl ?_
  refine own_aloadN X0 hx 11 rfl (hb hby own_d9_10) rfl rfl ?_
  refine own_iloadN X0 hx 12 rfl (hb hby own_d9_11) rfl ?_
  obtain ⟨cl1, Ar1, qq1, S1, NN1, HH1, GG1⟩ := id Ac
  have hin1 : ¬ ((0 : Int32) < 0 ∨ cl1.slots.size ≤ ((0 : Int32)).toNatClampNeg) := inb_of S1 ⟨by decide, by decide⟩
  have hat1 : cl1.slots[((0 : Int32)).toNatClampNeg]? = some (.int sc0) := HH1.at hin1 rfl
  refine Goes.go (X0.caload hx (j := (0 : Int32)) (v := (.int sc0)) (by rw [e0]; exact Ar1.1) (State.isArrayOf_alike hZ.alike Ar1.2.1) Ar1.2.2 hin1 hat1 (g := (mkF m 12 #[.val (.ref ca), .val (.int (0 : Int32)), .val (.ref ba), .val (.int (0 : Int32)), .val (.int (2 : Int32)), .val (.int (0 : Int32)), .unset] [(.int (0 : Int32)), (.ref ca)])) rfl rfl (hb hby own_d9_12)) ?_
  show Goes p e below _ s₁ (mkF m 13 #[.val (.ref ca), .val (.int (0 : Int32)), .val (.ref ba), .val (.int (0 : Int32)), .val (.int (2 : Int32)), .val (.int (0 : Int32)), .unset] [(.int sc0)])
  refine own_istore X0 hx 15 rfl #[.val (.ref ca), .val (.int (0 : Int32)), .val (.ref ba), .val (.int (0 : Int32)), .val (.int (2 : Int32)), .val (.int (0 : Int32)), .val (.int sc0)] (hb hby own_d9_13) rfl ?_
  refine own_iload X0 hx 17 rfl (hb hby own_d9_15) rfl ?_
  refine own_sipush X0 hx 20 rfl (255 : Int32) (hb hby own_d9_17) (by decide) ?_
  refine own_icmpY X0 hx 26 (hb hby own_d9_20) (flt (hc0 : ¬ ((255 : Int32) < sc0))).2.2.2 (by decide) (by decide) ?_
  refine own_aloadN X0 hx 27 rfl (hb hby own_d9_26) rfl rfl ?_
  refine own_iloadN X0 hx 28 rfl (hb hby own_d9_27) rfl ?_
  refine own_iload X0 hx 30 rfl (hb hby own_d9_28) rfl ?_
  refine own_i2b X0 hx 31 rfl (hb hby own_d9_30) rfl ?_
  obtain ⟨cl2, Ar2, qq2, S2, NN2, HH2, GG2⟩ := id Ab
  have hin2 : ¬ ((0 : Int32) < 0 ∨ cl2.slots.size ≤ ((0 : Int32)).toNatClampNeg) := inb_of S2 ⟨by decide, by decide⟩
  obtain ⟨T2, h2, X2, e2, W2, st2⟩ := stB X0 hx hZ e0 Ar2 (j := (0 : Int32)) hin2 (g := (mkF m 31 #[.val (.ref ca), .val (.int (0 : Int32)), .val (.ref ba), .val (.int (0 : Int32)), .val (.int (2 : Int32)), .val (.int (0 : Int32)), .val (.int sc0)] [(.int (sc0.toInt8.toInt32)), (.int (0 : Int32)), (.ref ba)])) rfl rfl (hb hby own_d9_31)
  have V2 : Arv Z h2 ba bk .byte (2 : Int32) [(.int ((sc0.toInt8.toInt32).toInt8.toInt32)), (.int (0 : Int32))] (.int (0 : Int32)) := Arv.set Ar2 qq2 S2 NN2 HH2 GG2 (fits_nar_byte _) W2 0 rfl (Nat.le_of_ble_eq_true rfl)
  have N2 := Fr.snoc X2 N0 gb
  have f3 := Ac.other W2 ncb
  have K2 := K0.wr W2 (Or.inl (List.mem_of_getElem? (i := 0) rfl))
  have Z2 := Nat.le_trans Z0 (Nat.le_of_eq W2.size.symm)
  refine Goes.go st2 ?_
  show Goes p e below _ T2 (mkF m 32 #[.val (.ref ca), .val (.int (0 : Int32)), .val (.ref ba), .val (.int (0 : Int32)), .val (.int (2 : Int32)), .val (.int (0 : Int32)), .val (.int sc0)] [])
  refine own_iinc X2 hx 35 rfl #[.val (.ref ca), .val (.int (1 : Int32)), .val (.ref ba), .val (.int (0 : Int32)), .val (.int (2 : Int32)), .val (.int (0 : Int32)), .val (.int sc0)] (hb hby own_d9_32) rfl (by decide) rfl ?_
  refine own_iinc X2 hx 38 rfl #[.val (.ref ca), .val (.int (1 : Int32)), .val (.ref ba), .val (.int (1 : Int32)), .val (.int (2 : Int32)), .val (.int (0 : Int32)), .val (.int sc0)] (hb hby own_d9_35) rfl (by decide) rfl ?_
  refine own_iinc X2 hx 41 rfl #[.val (.ref ca), .val (.int (1 : Int32)), .val (.ref ba), .val (.int (1 : Int32)), .val (.int (2 : Int32)), .val (.int (1 : Int32)), .val (.int sc0)] (hb hby own_d9_38) rfl (by decide) rfl ?_
  refine own_goto X2 hx 3 (hb hby own_d9_41) (by decide) (by decide) ?_
  refine own_iload X2 hx 5 rfl (hb hby own_d9_3) rfl ?_
  refine own_iload X2 hx 7 rfl (hb hby own_d9_5) rfl ?_
  refine own_icmpN X2 hx 10 (hb hby own_d9_7) (tlt ((by decide) : (1 : Int32) < (2 : Int32))).2.1 rfl ?_
  refine own_aloadN X2 hx 11 rfl (hb hby own_d9_10) rfl rfl ?_
  refine own_iloadN X2 hx 12 rfl (hb hby own_d9_11) rfl ?_
  obtain ⟨cl4, Ar4, qq4, S4, NN4, HH4, GG4⟩ := id f3
  have hin4 : ¬ ((1 : Int32) < 0 ∨ cl4.slots.size ≤ ((1 : Int32)).toNatClampNeg) := inb_of S4 ⟨by decide, by decide⟩
  have hat4 : cl4.slots[((1 : Int32)).toNatClampNeg]? = some (.int sc1) := HH4.at hin4 rfl
  refine Goes.go (X2.caload hx (j := (1 : Int32)) (v := (.int sc1)) (by rw [e2]; exact Ar4.1) (State.isArrayOf_alike hZ.alike Ar4.2.1) Ar4.2.2 hin4 hat4 (g := (mkF m 12 #[.val (.ref ca), .val (.int (1 : Int32)), .val (.ref ba), .val (.int (1 : Int32)), .val (.int (2 : Int32)), .val (.int (1 : Int32)), .val (.int sc0)] [(.int (1 : Int32)), (.ref ca)])) rfl rfl (hb hby own_d9_12)) ?_
  show Goes p e below _ T2 (mkF m 13 #[.val (.ref ca), .val (.int (1 : Int32)), .val (.ref ba), .val (.int (1 : Int32)), .val (.int (2 : Int32)), .val (.int (1 : Int32)), .val (.int sc0)] [(.int sc1)])
  refine own_istore X2 hx 15 rfl #[.val (.ref ca), .val (.int (1 : Int32)), .val (.ref ba), .val (.int (1 : Int32)), .val (.int (2 : Int32)), .val (.int (1 : Int32)), .val (.int sc1)] (hb hby own_d9_13) rfl ?_
  refine own_iload X2 hx 17 rfl (hb hby own_d9_15) rfl ?_
  refine own_sipush X2 hx 20 rfl (255 : Int32) (hb hby own_d9_17) (by decide) ?_
  refine own_icmpY X2 hx 26 (hb hby own_d9_20) (flt (hc1 : ¬ ((255 : Int32) < sc1))).2.2.2 (by decide) (by decide) ?_
  refine own_aloadN X2 hx 27 rfl (hb hby own_d9_26) rfl rfl ?_
  refine own_iloadN X2 hx 28 rfl (hb hby own_d9_27) rfl ?_
  refine own_iload X2 hx 30 rfl (hb hby own_d9_28) rfl ?_
  refine own_i2b X2 hx 31 rfl (hb hby own_d9_30) rfl ?_
  obtain ⟨cl5, Ar5, qq5, S5, NN5, HH5, GG5⟩ := id V2
  have hin5 : ¬ ((1 : Int32) < 0 ∨ cl5.slots.size ≤ ((1 : Int32)).toNatClampNeg) := inb_of S5 ⟨by decide, by decide⟩
  obtain ⟨T5, h5, X5, e5, W5, st5⟩ := stB X2 hx hZ e2 Ar5 (j := (1 : Int32)) hin5 (g := (mkF m 31 #[.val (.ref ca), .val (.int (1 : Int32)), .val (.ref ba), .val (.int (1 : Int32)), .val (.int (2 : Int32)), .val (.int (1 : Int32)), .val (.int sc1)] [(.int (sc1.toInt8.toInt32)), (.int (1 : Int32)), (.ref ba)])) rfl rfl (hb hby own_d9_31)
  have V5 : Arv Z h5 ba bk .byte (2 : Int32) [(.int ((sc0.toInt8.toInt32).toInt8.toInt32)), (.int ((sc1.toInt8.toInt32).toInt8.toInt32))] (.int (0 : Int32)) := Arv.set Ar5 qq5 S5 NN5 HH5 GG5 (fits_nar_byte _) W5 1 rfl (Nat.le_of_ble_eq_true rfl)
  have N5 := Fr.snoc X5 N2 gb
  have f6 := f3.other W5 ncb
  have K5 := K2.wr W5 (Or.inl (List.mem_of_getElem? (i := 0) rfl))
  have Z5 := Nat.le_trans Z2 (Nat.le_of_eq W5.size.symm)
  refine Goes.go st5 ?_
  show Goes p e below _ T5 (mkF m 32 #[.val (.ref ca), .val (.int (1 : Int32)), .val (.ref ba), .val (.int (1 : Int32)), .val (.int (2 : Int32)), .val (.int (1 : Int32)), .val (.int sc1)] [])
  refine own_iinc X5 hx 35 rfl #[.val (.ref ca), .val (.int (2 : Int32)), .val (.ref ba), .val (.int (1 : Int32)), .val (.int (2 : Int32)), .val (.int (1 : Int32)), .val (.int sc1)] (hb hby own_d9_32) rfl (by decide) rfl ?_
  refine own_iinc X5 hx 38 rfl #[.val (.ref ca), .val (.int (2 : Int32)), .val (.ref ba), .val (.int (2 : Int32)), .val (.int (2 : Int32)), .val (.int (1 : Int32)), .val (.int sc1)] (hb hby own_d9_35) rfl (by decide) rfl ?_
  refine own_iinc X5 hx 41 rfl #[.val (.ref ca), .val (.int (2 : Int32)), .val (.ref ba), .val (.int (2 : Int32)), .val (.int (2 : Int32)), .val (.int (2 : Int32)), .val (.int sc1)] (hb hby own_d9_38) rfl (by decide) rfl ?_
  refine own_goto X5 hx 3 (hb hby own_d9_41) (by decide) (by decide) ?_
  refine own_iload X5 hx 5 rfl (hb hby own_d9_3) rfl ?_
  refine own_iload X5 hx 7 rfl (hb hby own_d9_5) rfl ?_
  refine own_icmpY X5 hx 44 (hb hby own_d9_7) (flt ((by decide) : ¬ ((2 : Int32) < (2 : Int32)))).2.1 (by decide) (by decide) ?_
  refine own_iload X5 hx 46 rfl (hb hby own_d9_44) rfl ?_
  refine own_retI X5 hx hlk Bd.returns (hb hby own_d9_46) (by decide) (by decide) e5 ?_
  exact ⟨rfl, N5, K5, V5⟩
theorem own_pd0 : parseMethodDescriptor "([CI[BII)I" = some ⟨[(.array .char), .int, (.array .byte), .int, .int], some .int⟩ := by decide +kernel
theorem own_d8_0 : decode jdk_52_method_16_code 0 = .ok (.iload_n 2, 1) := by decide +kernel
theorem own_d8_1 : decode jdk_52_method_16_code 1 = .ok (.newarray .byte, 2) := by decide +kernel
theorem own_d8_3 : decode jdk_52_method_16_code 3 = .ok (.astore_n 3, 1) := by decide +kernel
theorem own_d8_4 : decode jdk_52_method_16_code 4 = .ok (.aload_n 0, 1) := by decide +kernel
theorem own_d8_5 : decode jdk_52_method_16_code 5 = .ok (.iload_n 1, 1) := by decide +kernel
theorem own_d8_6 : decode jdk_52_method_16_code 6 = .ok (.aload_n 3, 1) := by decide +kernel
theorem own_d8_7 : decode jdk_52_method_16_code 7 = .ok (.iconst 0, 1) := by decide +kernel
theorem own_d8_8 : decode jdk_52_method_16_code 8 = .ok (.iload_n 2, 1) := by decide +kernel
theorem own_d8_9 : decode jdk_52_method_16_code 9 = .ok (.invokestatic 115, 3) := by decide +kernel
theorem own_d8_12 : decode jdk_52_method_16_code 12 = .ok (.istore 4, 2) := by decide +kernel
theorem own_d8_14 : decode jdk_52_method_16_code 14 = .ok (.iload 4, 2) := by decide +kernel
theorem own_d8_16 : decode jdk_52_method_16_code 16 = .ok (.iload_n 2, 1) := by decide +kernel
theorem own_d8_17 : decode jdk_52_method_16_code 17 = .ok (.if_icmp .eq 40, 3) := by decide +kernel
theorem own_d8_57 : decode jdk_52_method_16_code 57 = .ok (.aload_n 3, 1) := by decide +kernel
theorem own_d8_58 : decode jdk_52_method_16_code 58 = .ok (.areturn, 1) := by decide +kernel
def Qcpr2 (Z : State) (ca : Addr) (ck : ClassId) (sc0 : Int32) (sc1 : Int32) (h0 : Heap) (n0 : Nat) (v : Option Value) (h : Heap) (L : List Loc) : Prop := ∃ rb : Addr, ∃ rk : ClassId, v = some (.ref rb) ∧ Fr n0 L ∧ Keep h0 h [] ∧ h0.size ≤ rb ∧ Arv Z h rb rk .byte (2 : Int32) [(.int ((sc0.toInt8.toInt32).toInt8.toInt32)), (.int ((sc1.toInt8.toInt32).toInt8.toInt32))] (.int (0 : Int32))
set_option maxRecDepth 65536 in
set_option maxHeartbeats 40000000 in
theorem rmcpr2 (l : Launch) (Z : State) (a0 : Array Value) (hw : ∀ d ∈ tables_1, d.before a0 Z = true) (ws : List Jvm.Cond) (ca : Addr) (ck : ClassId) (sc0 : Int32) (sc1 : Int32) (h0 : Heap) (n0 : Nat) (Z0 : n0 ≤ h0.size) (Ac : Arv Z h0 ca ck .char (2 : Int32) [(.int sc0), (.int sc1)] (.int (0 : Int32))) (hc0 : ¬ ((255 : Int32) < sc0)) (hc1 : ¬ ((255 : Int32) < sc1)) :
    MetFree l (⟨"java/lang/StringUTF16", "compress", "([CII)[B"⟩ : MethodName) (head1 (Jvm.Cond.code (⟨"java/lang/StringUTF16", "compress", "([CII)[B"⟩ : MethodName) jdk_52_method_16_code 6 (some (.array .byte)) :: ws) ({ frames := 1, cells := 1, slots := 2, locals := 18 } : Room)) (fun a U => a = #[(.ref ca), (.int (0 : Int32)), (.int (2 : Int32))] ∧ Z.Warmed39 U.vm ∧ U.heap = h0) (fun _ _ _ _ _ => True) (fun _ U o U' => ∃ v L, o = .returned v ∧ Qcpr2 Z ca ck sc0 sc1 h0 n0 v U'.heap L ∧ FrameEnd U o U' L ({ frames := 1, cells := 1, slots := 2, locals := 18 } : Room).cells ({ frames := 1, cells := 1, slots := 2, locals := 18 } : Room).slots) := by
  refine MetFree.of_bodySF (plainFor_of_name own_pn_java_lang_StringUTF16) hisR ?_
  intro p e s m args below meth c s₁ Bd hml0 hP hK
  obtain ⟨rfl, hZ, hh⟩ := hP
  have hx := Bd.exec
  have hby := Bd.bytes
  have hml : c.maxLocals = 6 := hml0
  have hlk := Bd.notSynchronized
  have hown : s.vm.findClass "java/lang/StringUTF16" = some m.cls := findClass_of_methodNamed Bd.named
  have hnm := (name_of_methodNamed Bd.named Bd.method).1
  have X0 : Stand p l e ({ frames := 1, cells := 1, slots := 2, locals := 18 } : Room) s m #[(.ref ca), (.int (0 : Int32)), (.int (2 : Int32))] below meth c s₁ [] 0 0 := Stand.of_body Bd
  have e0 : s₁.heap = h0 := by rw [← hh, Bd.state]; rfl
  have N0 := Fr.nil n0
  have K0 : Keep h0 h0 [] := Keep.refl _ _
  refine own_enter (P := (Done s ({ frames := 1, cells := 1, slots := 2, locals := 18 } : Room).cells ({ frames := 1, cells := 1, slots := 2, locals := 18 } : Room).slots (Qcpr2 Z ca ck sc0 sc1 h0 n0))) (Ls := #[.val (.ref ca), .val (.int (0 : Int32)), .val (.int (2 : Int32)), .unset, .unset, .unset]) (by first | (simp [entryFrame, mkF, argsToLocals, Value.category]; done) | rfl) ?_
  refine own_iloadN X0 hx 1 rfl (hb hby own_d8_0) rfl ?_
  obtain ⟨T1, h1, k1, X1, e1, E1, A1, st1⟩ := newP X0 hx hZ (hw _ (List.mem_of_getElem? (i := 44) rfl)) e0 (g := (mkF m 1 #[.val (.ref ca), .val (.int (0 : Int32)), .val (.int (2 : Int32)), .unset, .unset, .unset] [(.int (2 : Int32))])) rfl (hb hby own_d8_1) rfl (by decide) (cap := 2) (by decide) (by decide) (by decide) (by decide)
  obtain ⟨b1, g1⟩ : ∃ z, z = h0.size := ⟨_, rfl⟩
  rw [← g1] at A1 st1
  have ne2 : ca ≠ b1 := own_lt_ne Ac.lt g1
  have G1 : n0 ≤ b1 := Nat.le_trans Z0 (Nat.le_of_eq g1.symm)
  have H1 : h0.size ≤ b1 := Nat.le_trans K0.1 (Nat.le_of_eq g1.symm)
  have f3 := Ac.ext E1
  have K1 := K0.ext E1
  have Z1 := Nat.le_trans Z0 E1.1
  have V1 : Arv Z h1 b1 k1 .byte (2 : Int32) [(.int (0 : Int32)), (.int (0 : Int32))] (.int (0 : Int32)) := (Arv.new A1 (by decide)).pad (pad_rep [] (.int (0 : Int32)) 2)
  refine Goes.go st1 ?_
  show Goes p e below _ T1 (mkF m 3 #[.val (.ref ca), .val (.int (0 : Int32)), .val (.int (2 : Int32)), .unset, .unset, .unset] [(.ref b1)])
  refine own_astoreN X1 hx 4 rfl #[.val (.ref ca), .val (.int (0 : Int32)), .val (.int (2 : Int32)), .val (.ref b1), .unset, .unset] (hb hby own_d8_3) rfl rfl ?_
  refine own_aloadN X1 hx 5 rfl (hb hby own_d8_4) rfl rfl ?_
  refine own_iloadN X1 hx 6 rfl (hb hby own_d8_5) rfl ?_
  refine own_aloadN X1 hx 7 rfl (hb hby own_d8_6) rfl rfl ?_
  refine own_iconst X1 hx 8 rfl (0 : Int32) (hb hby own_d8_7) (by decide) ?_
  refine own_iloadN X1 hx 9 rfl (hb hby own_d8_8) rfl ?_
  obtain ⟨_, _, ⟨T4, L4, k4, n4⟩, -, X4, ⟨Lc4, hQ4, l4, y4, z4⟩, st4⟩ := Jvm.LawKit.callS X1 hx (y := (⟨"java/lang/StringUTF16", "compress", "([CI[BII)I"⟩ : MethodName)) hown (mvT hZ (hw _ (List.mem_of_getElem? (i := 45) rfl))) (mvT hZ (hw _ (List.mem_of_getElem? (i := 46) rfl))) (mvT hZ (hw _ (List.mem_of_getElem? (i := 42) rfl))) (mvT hZ (hw _ (List.mem_of_getElem? (i := 47) rfl))) (by decide) (backOf (W := 0) (rmcmp2 l Z a0 hw [] ca b1 ck sc0 sc1 k1 h1 n0 Z1 f3 V1 G1 ne2 hc0 hc1) hZ (hw _ (List.mem_of_getElem? (i := 47) rfl)) (hw _ (List.mem_of_getElem? (i := 42) rfl)) (by decide) (by decide)) (g := (mkF m 9 #[.val (.ref ca), .val (.int (0 : Int32)), .val (.int (2 : Int32)), .val (.ref b1), .unset, .unset] [(.int (2 : Int32)), (.int (0 : Int32)), (.ref b1), (.int (0 : Int32)), (.ref ca)])) rfl (by rw [hml]; rfl) (argsL := [(.ref ca), (.int (0 : Int32)), (.ref b1), (.int (0 : Int32)), (.int (2 : Int32))]) (rest := []) (lenOf own_pd0 rfl) rfl (by show 2 * 0 + _ ≤ _; exact Nat.le_of_eq rfl) (hb hby own_d8_9) (fun _ _ => ⟨rfl, e1, (by decide : 1 + 0 ≤ _), (by decide : 2 + 0 ≤ _)⟩)
  dsimp only [Pt.U, Pt.locs, Pt.cells, Pt.slots] at X4 l4 y4 z4 st4 hQ4
  subst l4 y4 z4
  obtain ⟨rfl, N4q, K4q, f4_0⟩ := hQ4
  have N4 := Fr.app N0 N4q
  have f5 := f3.keep K4q (ninS ne2 nin0)
  have K4 := K1.trans K4q (allS (Or.inr H1) all0)
  have Z4 := Nat.le_trans Z1 K4q.1
  refine Goes.go st4 ?_
  show Goes p e below _ T4 (mkF m 12 #[.val (.ref ca), .val (.int (0 : Int32)), .val (.int (2 : Int32)), .val (.ref b1), .unset, .unset] [(.int (2 : Int32))])
  refine own_istore X4 hx 14 rfl #[.val (.ref ca), .val (.int (0 : Int32)), .val (.int (2 : Int32)), .val (.ref b1), .val (.int (2 : Int32)), .unset] (hb hby own_d8_12) rfl ?_
  refine own_iload X4 hx 16 rfl (hb hby own_d8_14) rfl ?_
  refine own_iloadN X4 hx 17 rfl (hb hby own_d8_16) rfl ?_
  refine own_icmpY X4 hx 57 (hb hby own_d8_17) (teq ((by decide) : (2 : Int32) = (2 : Int32))).1 (by decide) (by decide) ?_
  refine own_aloadN X4 hx 58 rfl (hb hby own_d8_57) rfl rfl ?_
  refine own_retR X4 hx hlk Bd.returns rfl rfl (hb hby own_d8_58) (by decide) (by decide) rfl ?_
  exact ⟨b1, k1, rfl, N4, K4, H1, f4_0⟩
theorem own_d10_0 : decode jdk_52_method_15_code 0 = .ok (.iload_n 1, 1) := by decide +kernel
theorem own_d10_1 : decode jdk_52_method_15_code 1 = .ok (.aload_n 0, 1) := by decide +kernel
theorem own_d10_2 : decode jdk_52_method_15_code 2 = .ok (.arraylength, 1) := by decide +kernel
theorem own_d10_3 : decode jdk_52_method_15_code 3 = .ok (.isub, 1) := by decide +kernel
theorem own_d10_4 : decode jdk_52_method_15_code 4 = .ok (.bipush 31, 2) := by decide +kernel
theorem own_d10_6 : decode jdk_52_method_15_code 6 = .ok (.iushr, 1) := by decide +kernel
theorem own_d10_7 : decode jdk_52_method_15_code 7 = .ok (.i2b, 1) := by decide +kernel
theorem own_d10_8 : decode jdk_52_method_15_code 8 = .ok (.ireturn, 1) := by decide +kernel
def Qcod2 (Z : State) (ba : Addr) (bk : ClassId) (sc0 : Int32) (sc1 : Int32) (h0 : Heap) (n0 : Nat) (v : Option Value) (h : Heap) (L : List Loc) : Prop := v = some (.int (0 : Int32)) ∧ Fr n0 L ∧ h = h0
set_option maxRecDepth 65536 in
set_option maxHeartbeats 40000000 in
theorem rmcod2 (l : Launch) (Z : State) (a0 : Array Value) (hw : ∀ d ∈ tables_1, d.before a0 Z = true) (ws : List Jvm.Cond) (ba : Addr) (bk : ClassId) (sc0 : Int32) (sc1 : Int32) (h0 : Heap) (n0 : Nat) (Z0 : n0 ≤ h0.size) (Ab : Arv Z h0 ba bk .byte (2 : Int32) [(.int sc0), (.int sc1)] (.int (0 : Int32))) :
    MetFree l (⟨"java/lang/StringUTF16", "coderFromArrayLen", "([BI)B"⟩ : MethodName) (head1 (Jvm.Cond.code (⟨"java/lang/StringUTF16", "coderFromArrayLen", "([BI)B"⟩ : MethodName) jdk_52_method_15_code 2 (some .byte) :: ws) ({ frames := 0, cells := 0, slots := 0, locals := 0 } : Room)) (fun a U => a = #[(.ref ba), (.int (2 : Int32))] ∧ Z.Warmed39 U.vm ∧ U.heap = h0) (fun _ _ _ _ _ => True) (fun _ U o U' => ∃ v L, o = .returned v ∧ Qcod2 Z ba bk sc0 sc1 h0 n0 v U'.heap L ∧ FrameEnd U o U' L ({ frames := 0, cells := 0, slots := 0, locals := 0 } : Room).cells ({ frames := 0, cells := 0, slots := 0, locals := 0 } : Room).slots) := by
  refine MetFree.of_bodySF (plainFor_of_name own_pn_java_lang_StringUTF16) hisR ?_
  intro p e s m args below meth c s₁ Bd hml0 hP hK
  obtain ⟨rfl, hZ, hh⟩ := hP
  have hx := Bd.exec
  have hby := Bd.bytes
  have hml : c.maxLocals = 2 := hml0
  have hlk := Bd.notSynchronized
  have hown : s.vm.findClass "java/lang/StringUTF16" = some m.cls := findClass_of_methodNamed Bd.named
  have hnm := (name_of_methodNamed Bd.named Bd.method).1
  have X0 : Stand p l e ({ frames := 0, cells := 0, slots := 0, locals := 0 } : Room) s m #[(.ref ba), (.int (2 : Int32))] below meth c s₁ [] 0 0 := Stand.of_body Bd
  have e0 : s₁.heap = h0 := by rw [← hh, Bd.state]; rfl
  have N0 := Fr.nil n0
  refine own_enter (P := (Done s ({ frames := 0, cells := 0, slots := 0, locals := 0 } : Room).cells ({ frames := 0, cells := 0, slots := 0, locals := 0 } : Room).slots (Qcod2 Z ba bk sc0 sc1 h0 n0))) (Ls := #[.val (.ref ba), .val (.int (2 : Int32))]) (by first | (simp [entryFrame, mkF, argsToLocals, Value.category]; done) | rfl) ?_
  refine own_iloadN X0 hx 1 rfl (hb hby own_d10_0) rfl ?_
  refine own_aloadN X0 hx 2 rfl (hb hby own_d10_1) rfl rfl ?_
  obtain ⟨cl1, Ar1, qq1, S1, NN1, HH1, GG1⟩ := id Ab
  refine Goes.go (X0.arraylength hx (by rw [e0]; exact Ar1.1) (State.isArrayOf_alike hZ.alike Ar1.2.1) (g := (mkF m 2 #[.val (.ref ba), .val (.int (2 : Int32))] [(.ref ba), (.int (2 : Int32))])) rfl rfl (hb hby own_d10_2)) ?_
  show Goes p e below _ s₁ (mkF m 3 #[.val (.ref ba), .val (.int (2 : Int32))] [(.int (cl1.slots.size.toInt32)), (.int (2 : Int32))])
  rw [len_of S1 NN1]
  refine own_isub X0 hx 4 rfl (z := (0 : Int32)) (hb hby own_d10_3) (by decide) ?_
  refine own_bipush X0 hx 6 rfl (31 : Int32) (hb hby own_d10_4) (by decide) ?_
  refine own_iushr X0 hx 7 rfl (z := (0 : Int32)) (hb hby own_d10_6) (by decide) ?_
  refine own_i2b X0 hx 8 rfl (z := (0 : Int32)) (hb hby own_d10_7) (by decide) ?_
  refine own_ret X0 hx hlk Bd.returns (by decide) (Or.inl ⟨rfl, by simp, _, rfl⟩) (hb hby own_d10_8) (by decide) (by decide) e0 ?_
  exact ⟨rfl, N0, rfl⟩
theorem own_pd1 : parseMethodDescriptor "([CII)[B" = some ⟨[(.array .char), .int, .int], some (.array .byte)⟩ := by decide +kernel
theorem own_pd2 : parseMethodDescriptor "([BI)B" = some ⟨[(.array .byte), .int], some .byte⟩ := by decide +kernel
theorem own_d7_0 : decode jdk_42_method_149_code 0 = .ok (.aload_n 0, 1) := by decide +kernel
theorem own_d7_1 : decode jdk_42_method_149_code 1 = .ok (.invokespecial 1, 3) := by decide +kernel
theorem own_d7_4 : decode jdk_42_method_149_code 4 = .ok (.iload_n 3, 1) := by decide +kernel
theorem own_d7_5 : decode jdk_42_method_149_code 5 = .ok (.ifCond .ne 22, 3) := by decide +kernel
theorem own_d7_27 : decode jdk_42_method_149_code 27 = .ok (.getstatic 38, 3) := by decide +kernel
theorem own_d7_30 : decode jdk_42_method_149_code 30 = .ok (.ifCond .eq 28, 3) := by decide +kernel
theorem own_d7_33 : decode jdk_42_method_149_code 33 = .ok (.aload_n 1, 1) := by decide +kernel
theorem own_d7_34 : decode jdk_42_method_149_code 34 = .ok (.iload_n 2, 1) := by decide +kernel
theorem own_d7_35 : decode jdk_42_method_149_code 35 = .ok (.iload_n 3, 1) := by decide +kernel
theorem own_d7_36 : decode jdk_42_method_149_code 36 = .ok (.invokestatic 177, 3) := by decide +kernel
theorem own_d7_39 : decode jdk_42_method_149_code 39 = .ok (.astore 5, 2) := by decide +kernel
theorem own_d7_41 : decode jdk_42_method_149_code 41 = .ok (.aload_n 0, 1) := by decide +kernel
theorem own_d7_42 : decode jdk_42_method_149_code 42 = .ok (.aload 5, 2) := by decide +kernel
theorem own_d7_44 : decode jdk_42_method_149_code 44 = .ok (.iload_n 3, 1) := by decide +kernel
theorem own_d7_45 : decode jdk_42_method_149_code 45 = .ok (.invokestatic 47, 3) := by decide +kernel
theorem own_d7_48 : decode jdk_42_method_149_code 48 = .ok (.putfield 15, 3) := by decide +kernel
theorem own_d7_51 : decode jdk_42_method_149_code 51 = .ok (.aload_n 0, 1) := by decide +kernel
theorem own_d7_52 : decode jdk_42_method_149_code 52 = .ok (.aload 5, 2) := by decide +kernel
theorem own_d7_54 : decode jdk_42_method_149_code 54 = .ok (.putfield 9, 3) := by decide +kernel
theorem own_d7_57 : decode jdk_42_method_149_code 57 = .ok (.return_, 1) := by decide +kernel
theorem own_pn_java_lang_String : plainName "java/lang/String" = true := by first | (simp [plainName, overriddenIn]; done) | decide +kernel
def Qini2 (Z : State) (st : Addr) (ca : Addr) (ck : ClassId) (sc0 : Int32) (sc1 : Int32) (cs : Int32) (h0 : Heap) (n0 : Nat) (v : Option Value) (h : Heap) (L : List Loc) : Prop := ∃ rb : Addr, ∃ rk : ClassId, v = none ∧ Fr n0 L ∧ Keep h0 h [st] ∧ h0.size ≤ rb ∧ Fld Z h st "java/lang/String" "value" "[B" (.ref rb) ∧ Fld Z h st "java/lang/String" "coder" "B" (.int (0 : Int32)) ∧ Arv Z h rb rk .byte (2 : Int32) [(.int ((sc0.toInt8.toInt32).toInt8.toInt32)), (.int ((sc1.toInt8.toInt32).toInt8.toInt32))] (.int (0 : Int32))
set_option maxRecDepth 65536 in
set_option maxHeartbeats 40000000 in
theorem rmini2 (l : Launch) (Z : State) (a0 : Array Value) (hw : ∀ d ∈ tables_1, d.before a0 Z = true) (ws : List Jvm.Cond) (st : Addr) (ca : Addr) (ck : ClassId) (sc0 : Int32) (sc1 : Int32) (cs : Int32) (h0 : Heap) (n0 : Nat) (Z0 : n0 ≤ h0.size) (ES : Exa Z h0 st "java/lang/String") (gs : n0 ≤ st) (Fv : Fld Z h0 st "java/lang/String" "value" "[B" .null) (Fc : Fld Z h0 st "java/lang/String" "coder" "B" (.int (0 : Int32))) (Ac : Arv Z h0 ca ck .char (2 : Int32) [(.int sc0), (.int sc1)] (.int (0 : Int32))) (Sc : Sta Z h0 "java/lang/String" "COMPACT_STRINGS" "Z" (.int cs)) (hcs : ¬ (cs = (0 : Int32))) (ncs : ca ≠ st) (hc0 : ¬ ((255 : Int32) < sc0)) (hc1 : ¬ ((255 : Int32) < sc1)) :
    MetFree l (⟨"java/lang/String", "<init>", "([CIILjava/lang/Void;)V"⟩ : MethodName) (head1 (Jvm.Cond.code (⟨"java/lang/String", "<init>", "([CIILjava/lang/Void;)V"⟩ : MethodName) jdk_42_method_149_code 6 none :: ws) ({ frames := 2, cells := 1, slots := 2, locals := 35 } : Room)) (fun a U => a = #[(.ref st), (.ref ca), (.int (0 : Int32)), (.int (2 : Int32)), .null] ∧ Z.Warmed39 U.vm ∧ U.heap = h0) (fun _ _ _ _ _ => True) (fun _ U o U' => ∃ v L, o = .returned v ∧ Qini2 Z st ca ck sc0 sc1 cs h0 n0 v U'.heap L ∧ FrameEnd U o U' L ({ frames := 2, cells := 1, slots := 2, locals := 35 } : Room).cells ({ frames := 2, cells := 1, slots := 2, locals := 35 } : Room).slots) := by
  refine MetFree.of_bodySF (plainFor_of_name own_pn_java_lang_String) hisR ?_
  intro p e s m args below meth c s₁ Bd hml0 hP hK
  obtain ⟨rfl, hZ, hh⟩ := hP
  have hx := Bd.exec
  have hby := Bd.bytes
  have hml : c.maxLocals = 6 := hml0
  have hlk := Bd.notSynchronized
  have hown : s.vm.findClass "java/lang/String" = some m.cls := findClass_of_methodNamed Bd.named
  have hnm := (name_of_methodNamed Bd.named Bd.method).1
  have X0 : Stand p l e ({ frames := 2, cells := 1, slots := 2, locals := 35 } : Room) s m #[(.ref st), (.ref ca), (.int (0 : Int32)), (.int (2 : Int32)), .null] below meth c s₁ [] 0 0 := Stand.of_body Bd
  have e0 : s₁.heap = h0 := by rw [← hh, Bd.state]; rfl
  have N0 := Fr.nil n0
  have K0 : Keep h0 h0 [st] := Keep.refl _ _
  refine own_enter (P := (Done s ({ frames := 2, cells := 1, slots := 2, locals := 35 } : Room).cells ({ frames := 2, cells := 1, slots := 2, locals := 35 } : Room).slots (Qini2 Z st ca ck sc0 sc1 cs h0 n0))) (Ls := #[.val (.ref st), .val (.ref ca), .val (.int (0 : Int32)), .val (.int (2 : Int32)), .val .null, .unset]) (by first | (simp [entryFrame, mkF, argsToLocals, Value.category]; done) | rfl) ?_
  refine own_aloadN X0 hx 1 rfl (hb hby own_d7_0) rfl rfl ?_
  obtain ⟨T1, X1, e1, st1⟩ := initO X0 hx hZ hown (hw _ (List.mem_of_getElem? (i := 38) rfl)) (hw _ (List.mem_of_getElem? (i := 16) rfl)) (hw _ (List.mem_of_getElem? (i := 17) rfl)) e0 (g := (mkF m 1 #[.val (.ref st), .val (.ref ca), .val (.int (0 : Int32)), .val (.int (2 : Int32)), .val .null, .unset] [(.ref st)])) rfl (by rw [hml]; rfl) rfl (hb hby own_d7_1) (by decide) (W := 0) (by show 2 * 0 + _ ≤ _; exact Nat.le_of_eq rfl) (by decide)
  refine Goes.go st1 ?_
  show Goes p e below _ T1 (mkF m 4 #[.val (.ref st), .val (.ref ca), .val (.int (0 : Int32)), .val (.int (2 : Int32)), .val .null, .unset] [])
  refine own_iloadN X1 hx 5 rfl (hb hby own_d7_4) rfl ?_
  refine own_ifY X1 hx 27 (hb hby own_d7_5) ((if0 _ _).trans (feq ((by decide) : ¬ ((2 : Int32) = (0 : Int32)))).2) (by decide) (by decide) ?_
  obtain ⟨T2, X2, e2, st2⟩ := getS2 X1 hx hZ hown (host := "") (Or.inl (hw _ (List.mem_of_getElem? (i := 39) rfl))) Via.refl e1 Sc (g := (mkF m 27 #[.val (.ref st), .val (.ref ca), .val (.int (0 : Int32)), .val (.int (2 : Int32)), .val .null, .unset] [])) rfl (hb hby own_d7_27)
  refine Goes.go st2 ?_
  show Goes p e below _ T2 (mkF m 30 #[.val (.ref st), .val (.ref ca), .val (.int (0 : Int32)), .val (.int (2 : Int32)), .val .null, .unset] [(.int cs)])
  refine own_ifN X2 hx 33 (hb hby own_d7_30) ((if0 _ _).trans (feq (hcs : ¬ (cs = (0 : Int32)))).1) rfl ?_
  refine own_aloadN X2 hx 34 rfl (hb hby own_d7_33) rfl rfl ?_
  refine own_iloadN X2 hx 35 rfl (hb hby own_d7_34) rfl ?_
  refine own_iloadN X2 hx 36 rfl (hb hby own_d7_35) rfl ?_
  obtain ⟨_, _, ⟨T3, L3, k3, n3⟩, -, X3, ⟨Lc3, hQ3, l3, y3, z3⟩, st3⟩ := Jvm.LawKit.callS X2 hx (y := (⟨"java/lang/StringUTF16", "compress", "([CII)[B"⟩ : MethodName)) hown (mvT hZ (hw _ (List.mem_of_getElem? (i := 40) rfl))) (mvT hZ (hw _ (List.mem_of_getElem? (i := 41) rfl))) (mvT hZ (hw _ (List.mem_of_getElem? (i := 42) rfl))) (mvT hZ (hw _ (List.mem_of_getElem? (i := 43) rfl))) (by decide) (backOf (W := 0) (rmcpr2 l Z a0 hw [] ca ck sc0 sc1 h0 n0 Z0 Ac hc0 hc1) hZ (hw _ (List.mem_of_getElem? (i := 43) rfl)) (hw _ (List.mem_of_getElem? (i := 42) rfl)) (by decide) (by decide)) (g := (mkF m 36 #[.val (.ref st), .val (.ref ca), .val (.int (0 : Int32)), .val (.int (2 : Int32)), .val .null, .unset] [(.int (2 : Int32)), (.int (0 : Int32)), (.ref ca)])) rfl (by rw [hml]; rfl) (argsL := [(.ref ca), (.int (0 : Int32)), (.int (2 : Int32))]) (rest := []) (lenOf own_pd1 rfl) rfl (by show 2 * 0 + _ ≤ _; exact Nat.le_of_eq rfl) (hb hby own_d7_36) (fun _ _ => ⟨rfl, e2, (by decide : 0 + 1 ≤ _), (by decide : 0 + 2 ≤ _)⟩)
  dsimp only [Pt.U, Pt.locs, Pt.cells, Pt.slots] at X3 l3 y3 z3 st3 hQ3
  subst l3 y3 z3
  obtain ⟨rb_3, rk_3, rfl, N3q, K3q, f3_0, f3_1⟩ := hQ3
  have N3 := Fr.app N0 N3q
  have ne4 : st ≠ rb_3 := Nat.ne_of_lt (Nat.lt_of_lt_of_le ES.lt f3_0)
  have ne5 : ca ≠ rb_3 := Nat.ne_of_lt (Nat.lt_of_lt_of_le Ac.lt f3_0)
  have GG6 : n0 ≤ rb_3 := Nat.le_trans Z0 f3_0
  have HG6 : h0.size ≤ rb_3 := Nat.le_trans K0.1 f3_0
  have f7 := ES.keep K3q
  have f8 := Fv.keep K3q nin0
  have f9 := Fc.keep K3q nin0
  have f10 := Ac.keep K3q nin0
  have f11 := own_sta_keep Sc K3q all0
  have K3 := K0.trans K3q all0
  have Z3 := Nat.le_trans Z0 K3q.1
  refine Goes.go st3 ?_
  show Goes p e below _ T3 (mkF m 39 #[.val (.ref st), .val (.ref ca), .val (.int (0 : Int32)), .val (.int (2 : Int32)), .val .null, .unset] [(.ref rb_3)])
  refine own_astore X3 hx 41 rfl #[.val (.ref st), .val (.ref ca), .val (.int (0 : Int32)), .val (.int (2 : Int32)), .val .null, .val (.ref rb_3)] (hb hby own_d7_39) rfl rfl ?_
  refine own_aloadN X3 hx 42 rfl (hb hby own_d7_41) rfl rfl ?_
  refine own_aload X3 hx 44 rfl (hb hby own_d7_42) rfl rfl ?_
  refine own_iloadN X3 hx 45 rfl (hb hby own_d7_44) rfl ?_
  obtain ⟨_, _, ⟨T12, L12, k12, n12⟩, -, X12, ⟨Lc12, hQ12, l12, y12, z12⟩, st12⟩ := Jvm.LawKit.callS X3 hx (y := (⟨"java/lang/StringUTF16", "coderFromArrayLen", "([BI)B"⟩ : MethodName)) hown (mvT hZ (hw _ (List.mem_of_getElem? (i := 48) rfl))) (mvT hZ (hw _ (List.mem_of_getElem? (i := 49) rfl))) (mvT hZ (hw _ (List.mem_of_getElem? (i := 42) rfl))) (mvT hZ (hw _ (List.mem_of_getElem? (i := 50) rfl))) (by decide) (backOf (W := 1) (rmcod2 l Z a0 hw [] rb_3 rk_3 ((sc0.toInt8.toInt32).toInt8.toInt32) ((sc1.toInt8.toInt32).toInt8.toInt32) T3.heap n0 Z3 f3_1) hZ (hw _ (List.mem_of_getElem? (i := 50) rfl)) (hw _ (List.mem_of_getElem? (i := 42) rfl)) (by decide) (by decide)) (g := (mkF m 45 #[.val (.ref st), .val (.ref ca), .val (.int (0 : Int32)), .val (.int (2 : Int32)), .val .null, .val (.ref rb_3)] [(.int (2 : Int32)), (.ref rb_3), (.ref st)])) rfl (by rw [hml]; rfl) (argsL := [(.ref rb_3), (.int (2 : Int32))]) (rest := [(.ref st)]) (lenOf own_pd2 rfl) rfl (by show 2 * 0 + _ ≤ _; exact Nat.le_of_eq rfl) (hb hby own_d7_45) (fun _ _ => ⟨rfl, rfl, (by decide : 1 + 0 ≤ _), (by decide : 2 + 0 ≤ _)⟩)
  dsimp only [Pt.U, Pt.locs, Pt.cells, Pt.slots] at X12 l12 y12 z12 st12 hQ12
  subst l12 y12 z12
  obtain ⟨rfl, N12q, eh12⟩ := hQ12
  have N12 := Fr.app N3 N12q
  refine Goes.go st12 ?_
  show Goes p e below _ T12 (mkF m 48 #[.val (.ref st), .val (.ref ca), .val (.int (0 : Int32)), .val (.int (2 : Int32)), .val .null, .val (.ref rb_3)] [(.int (0 : Int32)), (.ref st)])
  obtain ⟨T13, h13, X13, e13, W13, st13⟩ := putFN X12 hx hZ hown (hw _ (List.mem_of_getElem? (i := 51) rfl)) Via.refl eh12 f9 f7 (Or.inr ⟨(hw _ (List.mem_of_getElem? (i := 52) rfl)), rfl, hnm⟩) (hw _ (List.mem_of_getElem? (i := 29) rfl)) (ty := .byte) (v' := (.int (0 : Int32))) (by decide) rfl (by decide) (g := (mkF m 48 #[.val (.ref st), .val (.ref ca), .val (.int (0 : Int32)), .val (.int (2 : Int32)), .val .null, .val (.ref rb_3)] [(.int (0 : Int32)), (.ref st)])) rfl rfl (hb hby own_d7_48)
  have N13 := Fr.snoc X13 N12 gs
  have f14 := f7.wr W13
  have f15 := f8.other W13 (Or.inr (slot_ne (Or.inr (hw _ (List.mem_of_getElem? (i := 54) rfl))) (Or.inr (hw _ (List.mem_of_getElem? (i := 52) rfl))) (by decide) (t := (.array .byte)) (t' := .byte) (by decide) (by decide)))
  have f16 := f9.same W13
  have f17 := f10.other W13 ncs
  have f18 := f11.wr W13
  have f19 := f3_1.other W13 (Ne.symm ne4)
  have K13 := K3.wr W13 (Or.inl (List.mem_of_getElem? (i := 0) rfl))
  have Z13 := Nat.le_trans Z3 (Nat.le_of_eq W13.size.symm)
  refine Goes.go st13 ?_
  show Goes p e below _ T13 (mkF m 51 #[.val (.ref st), .val (.ref ca), .val (.int (0 : Int32)), .val (.int (2 : Int32)), .val .null, .val (.ref rb_3)] [])
  refine own_aloadN X13 hx 52 rfl (hb hby own_d7_51) rfl rfl ?_
  refine own_aload X13 hx 54 rfl (hb hby own_d7_52) rfl rfl ?_
  obtain ⟨T20, h20, X20, e20, W20, st20⟩ := putF X13 hx hZ hown (host := "") (Or.inl (hw _ (List.mem_of_getElem? (i := 53) rfl))) Via.refl e13 f15 f14 (Or.inr ⟨(hw _ (List.mem_of_getElem? (i := 54) rfl)), rfl, hnm⟩) (hw _ (List.mem_of_getElem? (i := 29) rfl)) (ty := (.array .byte)) (by decide) rfl rfl (g := (mkF m 54 #[.val (.ref st), .val (.ref ca), .val (.int (0 : Int32)), .val (.int (2 : Int32)), .val .null, .val (.ref rb_3)] [(.ref rb_3), (.ref st)])) rfl rfl (hb hby own_d7_54)
  have N20 := Fr.snoc X20 N13 gs
  have f21 := f14.wr W20
  have f22 := f15.same W20
  have f23 := f16.other W20 (Or.inr (slot_ne (Or.inr (hw _ (List.mem_of_getElem? (i := 52) rfl))) (Or.inr (hw _ (List.mem_of_getElem? (i := 54) rfl))) (by decide) (t := .byte) (t' := (.array .byte)) (by decide) (by decide)))
  have f24 := f17.other W20 ncs
  have f25 := f18.wr W20
  have f26 := f19.other W20 (Ne.symm ne4)
  have K20 := K13.wr W20 (Or.inl (List.mem_of_getElem? (i := 0) rfl))
  have Z20 := Nat.le_trans Z13 (Nat.le_of_eq W20.size.symm)
  refine Goes.go st20 ?_
  show Goes p e below _ T20 (mkF m 57 #[.val (.ref st), .val (.ref ca), .val (.int (0 : Int32)), .val (.int (2 : Int32)), .val .null, .val (.ref rb_3)] [])
  refine own_retV X20 hx hlk Bd.returns (hb hby own_d7_57) (by decide) (by decide) e20 ?_
  exact ⟨rb_3, rk_3, rfl, N20, K20, HG6, f22, f23, f26⟩
theorem own_pd3 : parseMethodDescriptor "([CIILjava/lang/Void;)V" = some ⟨[(.array .char), .int, .int, (.object "java/lang/Void")], none⟩ := by decide +kernel
theorem own_d6_0 : decode jdk_42_method_3_code 0 = .ok (.aload_n 0, 1) := by decide +kernel
theorem own_d6_1 : decode jdk_42_method_3_code 1 = .ok (.aload_n 1, 1) := by decide +kernel
theorem own_d6_2 : decode jdk_42_method_3_code 2 = .ok (.iconst 0, 1) := by decide +kernel
theorem own_d6_3 : decode jdk_42_method_3_code 3 = .ok (.aload_n 1, 1) := by decide +kernel
theorem own_d6_4 : decode jdk_42_method_3_code 4 = .ok (.arraylength, 1) := by decide +kernel
theorem own_d6_5 : decode jdk_42_method_3_code 5 = .ok (.aconst_null, 1) := by decide +kernel
theorem own_d6_6 : decode jdk_42_method_3_code 6 = .ok (.invokespecial 27, 3) := by decide +kernel
theorem own_d6_9 : decode jdk_42_method_3_code 9 = .ok (.return_, 1) := by decide +kernel
def Qnew2 (Z : State) (st : Addr) (ca : Addr) (ck : ClassId) (sc0 : Int32) (sc1 : Int32) (cs : Int32) (h0 : Heap) (n0 : Nat) (v : Option Value) (h : Heap) (L : List Loc) : Prop := ∃ rb : Addr, ∃ rk : ClassId, v = none ∧ Fr n0 L ∧ Keep h0 h [st] ∧ h0.size ≤ rb ∧ Fld Z h st "java/lang/String" "value" "[B" (.ref rb) ∧ Fld Z h st "java/lang/String" "coder" "B" (.int (0 : Int32)) ∧ Arv Z h rb rk .byte (2 : Int32) [(.int ((sc0.toInt8.toInt32).toInt8.toInt32)), (.int ((sc1.toInt8.toInt32).toInt8.toInt32))] (.int (0 : Int32))
set_option maxRecDepth 65536 in
set_option maxHeartbeats 40000000 in
theorem rmnew2 (l : Launch) (Z : State) (a0 : Array Value) (hw : ∀ d ∈ tables_1, d.before a0 Z = true) (ws : List Jvm.Cond) (st : Addr) (ca : Addr) (ck : ClassId) (sc0 : Int32) (sc1 : Int32) (cs : Int32) (h0 : Heap) (n0 : Nat) (Z0 : n0 ≤ h0.size) (ES : Exa Z h0 st "java/lang/String") (gs : n0 ≤ st) (Fv : Fld Z h0 st "java/lang/String" "value" "[B" .null) (Fc : Fld Z h0 st "java/lang/String" "coder" "B" (.int (0 : Int32))) (Ac : Arv Z h0 ca ck .char (2 : Int32) [(.int sc0), (.int sc1)] (.int (0 : Int32))) (Sc : Sta Z h0 "java/lang/String" "COMPACT_STRINGS" "Z" (.int cs)) (hcs : ¬ (cs = (0 : Int32))) (ncs : ca ≠ st) (hc0 : ¬ ((255 : Int32) < sc0)) (hc1 : ¬ ((255 : Int32) < sc1)) :
    MetFree l (⟨"java/lang/String", "<init>", "([C)V"⟩ : MethodName) (head1 (Jvm.Cond.code (⟨"java/lang/String", "<init>", "([C)V"⟩ : MethodName) jdk_42_method_3_code 2 none :: ws) ({ frames := 3, cells := 1, slots := 2, locals := 52 } : Room)) (fun a U => a = #[(.ref st), (.ref ca)] ∧ Z.Warmed39 U.vm ∧ U.heap = h0) (fun _ _ _ _ _ => True) (fun _ U o U' => ∃ v L, o = .returned v ∧ Qnew2 Z st ca ck sc0 sc1 cs h0 n0 v U'.heap L ∧ FrameEnd U o U' L ({ frames := 3, cells := 1, slots := 2, locals := 52 } : Room).cells ({ frames := 3, cells := 1, slots := 2, locals := 52 } : Room).slots) := by
  refine MetFree.of_bodySF (plainFor_of_name own_pn_java_lang_String) hisR ?_
  intro p e s m args below meth c s₁ Bd hml0 hP hK
  obtain ⟨rfl, hZ, hh⟩ := hP
  have hx := Bd.exec
  have hby := Bd.bytes
  have hml : c.maxLocals = 2 := hml0
  have hlk := Bd.notSynchronized
  have hown : s.vm.findClass "java/lang/String" = some m.cls := findClass_of_methodNamed Bd.named
  have hnm := (name_of_methodNamed Bd.named Bd.method).1
  have X0 : Stand p l e ({ frames := 3, cells := 1, slots := 2, locals := 52 } : Room) s m #[(.ref st), (.ref ca)] below meth c s₁ [] 0 0 := Stand.of_body Bd
  have e0 : s₁.heap = h0 := by rw [← hh, Bd.state]; rfl
  have N0 := Fr.nil n0
  have K0 : Keep h0 h0 [st] := Keep.refl _ _
  refine own_enter (P := (Done s ({ frames := 3, cells := 1, slots := 2, locals := 52 } : Room).cells ({ frames := 3, cells := 1, slots := 2, locals := 52 } : Room).slots (Qnew2 Z st ca ck sc0 sc1 cs h0 n0))) (Ls := #[.val (.ref st), .val (.ref ca)]) (by first | (simp [entryFrame, mkF, argsToLocals, Value.category]; done) | rfl) ?_
  refine own_aloadN X0 hx 1 rfl (hb hby own_d6_0) rfl rfl ?_
  refine own_aloadN X0 hx 2 rfl (hb hby own_d6_1) rfl rfl ?_
  refine own_iconst X0 hx 3 rfl (0 : Int32) (hb hby own_d6_2) (by decide) ?_
  refine own_aloadN X0 hx 4 rfl (hb hby own_d6_3) rfl rfl ?_
  obtain ⟨cl1, Ar1, qq1, S1, NN1, HH1, GG1⟩ := id Ac
  refine Goes.go (X0.arraylength hx (by rw [e0]; exact Ar1.1) (State.isArrayOf_alike hZ.alike Ar1.2.1) (g := (mkF m 4 #[.val (.ref st), .val (.ref ca)] [(.ref ca), (.int (0 : Int32)), (.ref ca), (.ref st)])) rfl rfl (hb hby own_d6_4)) ?_
  show Goes p e below _ s₁ (mkF m 5 #[.val (.ref st), .val (.ref ca)] [(.int (cl1.slots.size.toInt32)), (.int (0 : Int32)), (.ref ca), (.ref st)])
  rw [len_of S1 NN1]
  refine own_aconst_null X0 hx 6 rfl (hb hby own_d6_5) ?_
  obtain ⟨_, _, ⟨T2, L2, k2, n2⟩, -, X2, ⟨Lc2, hQ2, l2, y2, z2⟩, st2⟩ := X0.specialBack hx (y := (⟨"java/lang/String", "<init>", "([CIILjava/lang/Void;)V"⟩ : MethodName)) rfl hown (mvT hZ (hw _ (List.mem_of_getElem? (i := 34) rfl))) (mvT hZ (hw _ (List.mem_of_getElem? (i := 35) rfl))) (mvT hZ (hw _ (List.mem_of_getElem? (i := 37) rfl))) (by decide) (backOf (W := 0) (rmini2 l Z a0 hw [] st ca ck sc0 sc1 cs h0 n0 Z0 ES gs Fv Fc Ac Sc hcs ncs hc0 hc1) hZ (hw _ (List.mem_of_getElem? (i := 37) rfl)) (hw _ (List.mem_of_getElem? (i := 30) rfl)) (by decide) (by decide)) (g := (mkF m 6 #[.val (.ref st), .val (.ref ca)] [.null, (.int (2 : Int32)), (.int (0 : Int32)), (.ref ca), (.ref st)])) rfl (by rw [hml]; rfl) (Steps.refl _) (a := st) (argsL := [(.ref ca), (.int (0 : Int32)), (.int (2 : Int32)), .null]) (rest := []) (lenOf own_pd3 rfl) rfl (by show 2 * 0 + _ ≤ _; exact Nat.le_of_eq rfl) (hb hby own_d6_6) (fun _ _ => ⟨rfl, e0, (by decide : 0 + 1 ≤ _), (by decide : 0 + 2 ≤ _)⟩)
  dsimp only [Pt.U, Pt.locs, Pt.cells, Pt.slots] at X2 l2 y2 z2 st2 hQ2
  subst l2 y2 z2
  obtain ⟨rb_2, rk_2, rfl, N2q, K2q, f2_0, f2_1, f2_2, f2_3⟩ := hQ2
  have N2 := Fr.app N0 N2q
  have ne3 : st ≠ rb_2 := Nat.ne_of_lt (Nat.lt_of_lt_of_le ES.lt f2_0)
  have ne4 : ca ≠ rb_2 := Nat.ne_of_lt (Nat.lt_of_lt_of_le Ac.lt f2_0)
  have GG5 : n0 ≤ rb_2 := Nat.le_trans Z0 f2_0
  have HG5 : h0.size ≤ rb_2 := Nat.le_trans K0.1 f2_0
  have f6 := ES.keep K2q
  have f7 := Ac.keep K2q (ninS ncs nin0)
  have f8 := own_sta_keep Sc K2q (allS (own_eplain ES) all0)
  have K2 := K0.trans K2q (allS (Or.inl (List.mem_of_getElem? (i := 0) rfl)) all0)
  have Z2 := Nat.le_trans Z0 K2q.1
  refine Goes.tr st2 ?_
  show Goes p e below _ T2 (mkF m 9 #[.val (.ref st), .val (.ref ca)] [])
  refine own_retV X2 hx hlk Bd.returns (hb hby own_d6_9) (by decide) (by decide) rfl ?_
  exact ⟨rb_2, rk_2, rfl, N2, K2, HG5, f2_1, f2_2, f2_3⟩
theorem own_d3_0 : decode jdk_30_method_1_code 0 = .ok (.aload_n 0, 1) := by decide +kernel
theorem own_d3_1 : decode jdk_30_method_1_code 1 = .ok (.invokespecial 1, 3) := by decide +kernel
theorem own_d3_4 : decode jdk_30_method_1_code 4 = .ok (.return_, 1) := by decide +kernel
theorem own_pn_java_lang_Record : plainName "java/lang/Record" = true := by first | (simp [plainName, overriddenIn]; done) | decide +kernel
def Q3 (Z : State) (rt : Addr) (h0 : Heap) (n0 : Nat) (v : Option Value) (h : Heap) (L : List Loc) : Prop := v = none ∧ Fr n0 L ∧ h = h0
set_option maxRecDepth 65536 in
set_option maxHeartbeats 40000000 in
theorem rm3 (l : Launch) (Z : State) (a0 : Array Value) (hw : ∀ d ∈ tables_1, d.before a0 Z = true) (ws : List Jvm.Cond) (rt : Addr) (h0 : Heap) (n0 : Nat) (Z0 : n0 ≤ h0.size)  :
    MetFree l (⟨"java/lang/Record", "<init>", "()V"⟩ : MethodName) (head1 (Jvm.Cond.code (⟨"java/lang/Record", "<init>", "()V"⟩ : MethodName) jdk_30_method_1_code 1 none :: ws) ({ frames := 1, cells := 0, slots := 0, locals := 12 } : Room)) (fun a U => a = #[(.ref rt)] ∧ Z.Warmed39 U.vm ∧ U.heap = h0) (fun _ _ _ _ _ => True) (fun _ U o U' => ∃ v L, o = .returned v ∧ Q3 Z rt h0 n0 v U'.heap L ∧ FrameEnd U o U' L ({ frames := 1, cells := 0, slots := 0, locals := 12 } : Room).cells ({ frames := 1, cells := 0, slots := 0, locals := 12 } : Room).slots) := by
  refine MetFree.of_bodySF (plainFor_of_name own_pn_java_lang_Record) hisR ?_
  intro p e s m args below meth c s₁ Bd hml0 hP hK
  obtain ⟨rfl, hZ, hh⟩ := hP
  have hx := Bd.exec
  have hby := Bd.bytes
  have hml : c.maxLocals = 1 := hml0
  have hlk := Bd.notSynchronized
  have hown : s.vm.findClass "java/lang/Record" = some m.cls := findClass_of_methodNamed Bd.named
  have hnm := (name_of_methodNamed Bd.named Bd.method).1
  have X0 : Stand p l e ({ frames := 1, cells := 0, slots := 0, locals := 12 } : Room) s m #[(.ref rt)] below meth c s₁ [] 0 0 := Stand.of_body Bd
  have e0 : s₁.heap = h0 := by rw [← hh, Bd.state]; rfl
  have N0 := Fr.nil n0
  refine own_enter (P := (Done s ({ frames := 1, cells := 0, slots := 0, locals := 12 } : Room).cells ({ frames := 1, cells := 0, slots := 0, locals := 12 } : Room).slots (Q3 Z rt h0 n0))) (Ls := #[.val (.ref rt)]) (by first | (simp [entryFrame, mkF, argsToLocals, Value.category]; done) | rfl) ?_
  refine own_aloadN X0 hx 1 rfl (hb hby own_d3_0) rfl rfl ?_
  obtain ⟨T1, X1, e1, st1⟩ := initO X0 hx hZ hown (hw _ (List.mem_of_getElem? (i := 15) rfl)) (hw _ (List.mem_of_getElem? (i := 16) rfl)) (hw _ (List.mem_of_getElem? (i := 17) rfl)) e0 (g := (mkF m 1 #[.val (.ref rt)] [(.ref rt)])) rfl (by rw [hml]; rfl) rfl (hb hby own_d3_1) (by decide) (W := 0) (by show 2 * 0 + _ ≤ _; exact Nat.le_of_eq rfl) (by decide)
  refine Goes.go st1 ?_
  show Goes p e below _ T1 (mkF m 4 #[.val (.ref rt)] [])
  refine own_retV X1 hx hlk Bd.returns (hb hby own_d3_4) (by decide) (by decide) e1 ?_
  exact ⟨rfl, N0, rfl⟩
theorem own_pd4 : parseMethodDescriptor "([C)V" = some ⟨[(.array .char)], none⟩ := by decide +kernel
theorem own_d1_0 : decode method_2_code 0 = .ok (.iload_n 0, 1) := by decide +kernel
theorem own_d1_1 : decode method_2_code 1 = .ok (.ifCond .ne 5, 3) := by decide +kernel
theorem own_d1_4 : decode method_2_code 4 = .ok (.aconst_null, 1) := by decide +kernel
theorem own_d1_5 : decode method_2_code 5 = .ok (.areturn, 1) := by decide +kernel
theorem own_d1_6 : decode method_2_code 6 = .ok (.iload_n 1, 1) := by decide +kernel
theorem own_d1_7 : decode method_2_code 7 = .ok (.ifCond .eq 6, 3) := by decide +kernel
theorem own_d1_10 : decode method_2_code 10 = .ok (.ldc 7, 2) := by decide +kernel
theorem own_d1_12 : decode method_2_code 12 = .ok (.areturn, 1) := by decide +kernel
theorem own_d1_13 : decode method_2_code 13 = .ok (.iconst 2, 1) := by decide +kernel
theorem own_d1_14 : decode method_2_code 14 = .ok (.newarray .char, 2) := by decide +kernel
theorem own_d1_16 : decode method_2_code 16 = .ok (.astore 4, 2) := by decide +kernel
theorem own_d1_18 : decode method_2_code 18 = .ok (.aload 4, 2) := by decide +kernel
theorem own_d1_20 : decode method_2_code 20 = .ok (.iconst 0, 1) := by decide +kernel
theorem own_d1_21 : decode method_2_code 21 = .ok (.iload_n 2, 1) := by decide +kernel
theorem own_d1_22 : decode method_2_code 22 = .ok (.sipush 255, 3) := by decide +kernel
theorem own_d1_25 : decode method_2_code 25 = .ok (.iand, 1) := by decide +kernel
theorem own_d1_26 : decode method_2_code 26 = .ok (.i2c, 1) := by decide +kernel
theorem own_d1_27 : decode method_2_code 27 = .ok (.castore, 1) := by decide +kernel
theorem own_d1_28 : decode method_2_code 28 = .ok (.aload 4, 2) := by decide +kernel
theorem own_d1_30 : decode method_2_code 30 = .ok (.iconst 1, 1) := by decide +kernel
theorem own_d1_31 : decode method_2_code 31 = .ok (.iload_n 3, 1) := by decide +kernel
theorem own_d1_32 : decode method_2_code 32 = .ok (.sipush 255, 3) := by decide +kernel
theorem own_d1_35 : decode method_2_code 35 = .ok (.iand, 1) := by decide +kernel
theorem own_d1_36 : decode method_2_code 36 = .ok (.i2c, 1) := by decide +kernel
theorem own_d1_37 : decode method_2_code 37 = .ok (.castore, 1) := by decide +kernel
theorem own_d1_38 : decode method_2_code 38 = .ok (.new 9, 3) := by decide +kernel
theorem own_d1_41 : decode method_2_code 41 = .ok (.dup, 1) := by decide +kernel
theorem own_d1_42 : decode method_2_code 42 = .ok (.aload 4, 2) := by decide +kernel
theorem own_d1_44 : decode method_2_code 44 = .ok (.invokespecial 11, 3) := by decide +kernel
theorem own_d1_47 : decode method_2_code 47 = .ok (.areturn, 1) := by decide +kernel
theorem own_pn_com_example_tidings_tidings_engine_SendOutcomeIsStoredPinLaw : plainName "com/example/tidings/tidings/engine/SendOutcomeIsStoredPinLaw" = true := by first | (simp [plainName, overriddenIn]; done) | decide +kernel
def Q1 (Z : State) (dp : Int32) (de : Int32) (d0 : Int32) (d1 : Int32) (cs : Int32) (h0 : Heap) (n0 : Nat) (v : Option Value) (h : Heap) (L : List Loc) : Prop := ∃ dv : Value, v = some dv ∧ Fr n0 L ∧ Keep h0 h [] ∧ (dv.isRef = true) ∧ ((dv = .null ∧ dp = (0 : Int32)) ∨ (¬ dv = .null ∧ ¬ dp = (0 : Int32)))
set_option maxRecDepth 65536 in
set_option maxHeartbeats 40000000 in
theorem rm1 (l : Launch) (Z : State) (a0 : Array Value) (hw : ∀ d ∈ tables_1, d.before a0 Z = true) (ws : List Jvm.Cond) (dp : Int32) (de : Int32) (d0 : Int32) (d1 : Int32) (cs : Int32) (h0 : Heap) (n0 : Nat) (Z0 : n0 ≤ h0.size) (Sc : Sta Z h0 "java/lang/String" "COMPACT_STRINGS" "Z" (.int cs)) (hcs : ¬ (cs = (0 : Int32))) :
    MetFree l (⟨"com/example/tidings/tidings/engine/SendOutcomeIsStoredPinLaw", "drawn", "(IIII)Ljava/lang/String;"⟩ : MethodName) (head1 (Jvm.Cond.code (⟨"com/example/tidings/tidings/engine/SendOutcomeIsStoredPinLaw", "drawn", "(IIII)Ljava/lang/String;"⟩ : MethodName) method_2_code 5 (some (.object "java/lang/String")) :: ws) ({ frames := 4, cells := 3, slots := 8, locals := 66 } : Room)) (fun a U => a = #[(.int dp), (.int de), (.int d0), (.int d1)] ∧ Z.Warmed39 U.vm ∧ U.heap = h0) (fun _ _ _ _ _ => True) (fun _ U o U' => ∃ v L, o = .returned v ∧ Q1 Z dp de d0 d1 cs h0 n0 v U'.heap L ∧ ReturnedEndW U o U' L ({ frames := 4, cells := 3, slots := 8, locals := 66 } : Room).cells ({ frames := 4, cells := 3, slots := 8, locals := 66 } : Room).slots) := by
  refine MetFree.of_bodySF (plainFor_of_name own_pn_com_example_tidings_tidings_engine_SendOutcomeIsStoredPinLaw) hisR ?_
  intro p e s m args below meth c s₁ Bd hml0 hP hK
  obtain ⟨rfl, hZ, hh⟩ := hP
  have hx := Bd.exec
  have hby := Bd.bytes
  have hml : c.maxLocals = 5 := hml0
  have hlk := Bd.notSynchronized
  have hown : s.vm.findClass "com/example/tidings/tidings/engine/SendOutcomeIsStoredPinLaw" = some m.cls := findClass_of_methodNamed Bd.named
  have hnm := (name_of_methodNamed Bd.named Bd.method).1
  have X0 : Stand p l e ({ frames := 4, cells := 3, slots := 8, locals := 66 } : Room) (s.setVm s.vm) m #[(.int dp), (.int de), (.int d0), (.int d1)] below meth c s₁ [] 0 0 := Stand.of_body Bd
  have e0 : s₁.heap = h0 := by rw [← hh, Bd.state]; rfl
  have N0 := Fr.nil n0
  have hS0 : s.Since s.vm 0 := (State.WarmedH.refl s).since 0
  have hk0 : 0 ≤ h0.size := Nat.zero_le _
  have K0 : Keep h0 h0 [] := Keep.refl _ _
  refine own_enter (P := (DoneW s ({ frames := 4, cells := 3, slots := 8, locals := 66 } : Room).cells ({ frames := 4, cells := 3, slots := 8, locals := 66 } : Room).slots (Q1 Z dp de d0 d1 cs h0 n0))) (Ls := #[.val (.int dp), .val (.int de), .val (.int d0), .val (.int d1), .unset]) (by first | (simp [entryFrame, mkF, argsToLocals, Value.category]; done) | rfl) ?_
  refine own_iloadN X0 hx 1 rfl (hb hby own_d1_0) rfl ?_
  by_cases hc1_1 : dp = (0 : Int32)
  · refine own_ifN X0 hx 4 (hb hby own_d1_1) ((if0 _ _).trans (teq hc1_1).2) rfl ?_
    refine own_aconst_null X0 hx 5 rfl (hb hby own_d1_4) ?_
    refine own_retWR X0 hx hS0 hlk Bd.returns rfl rfl (hb hby own_d1_5) (by decide) (by decide) e0 hk0 ?_
    exact ⟨.null, rfl, N0, K0, rfl, (Or.inl ⟨rfl, hc1_1⟩)⟩
  · refine own_ifY X0 hx 6 (hb hby own_d1_1) ((if0 _ _).trans (feq hc1_1).2) (by decide) (by decide) ?_
    refine own_iloadN X0 hx 7 rfl (hb hby own_d1_6) rfl ?_
    by_cases hc7_2 : de = (0 : Int32)
    · refine own_ifY X0 hx 13 (hb hby own_d1_7) ((if0 _ _).trans (teq hc7_2).1) (by decide) (by decide) ?_
      refine own_iconst X0 hx 14 rfl (2 : Int32) (hb hby own_d1_13) (by decide) ?_
      obtain ⟨T3, h3, k3, X3, e3, E3, A3, st3⟩ := newP X0 hx hZ (hw _ (List.mem_of_getElem? (i := 27) rfl)) e0 (g := (mkF m 14 #[.val (.int dp), .val (.int de), .val (.int d0), .val (.int d1), .unset] [(.int (2 : Int32))])) rfl (hb hby own_d1_14) rfl (by decide) (cap := 2) (by decide) (by decide) (by decide) (by decide)
      obtain ⟨b3, g3⟩ : ∃ z, z = h0.size := ⟨_, rfl⟩
      rw [← g3] at A3 st3
      have G3 : n0 ≤ b3 := Nat.le_trans Z0 (Nat.le_of_eq g3.symm)
      have H3 : h0.size ≤ b3 := Nat.le_trans K0.1 (Nat.le_of_eq g3.symm)
      have f4 := Sc.ext E3
      have K3 := K0.ext E3
      have Z3 := Nat.le_trans Z0 E3.1
      have hk3 := Nat.le_trans hk0 E3.1
      have V3 : Arv Z h3 b3 k3 .char (2 : Int32) [(.int (0 : Int32)), (.int (0 : Int32))] (.int (0 : Int32)) := (Arv.new A3 (by decide)).pad (pad_rep [] (.int (0 : Int32)) 2)
      refine Goes.go st3 ?_
      show Goes p e below _ T3 (mkF m 16 #[.val (.int dp), .val (.int de), .val (.int d0), .val (.int d1), .unset] [(.ref b3)])
      refine own_astore X3 hx 18 rfl #[.val (.int dp), .val (.int de), .val (.int d0), .val (.int d1), .val (.ref b3)] (hb hby own_d1_16) rfl rfl ?_
      refine own_aload X3 hx 20 rfl (hb hby own_d1_18) rfl rfl ?_
      refine own_iconst X3 hx 21 rfl (0 : Int32) (hb hby own_d1_20) (by decide) ?_
      refine own_iloadN X3 hx 22 rfl (hb hby own_d1_21) rfl ?_
      refine own_sipush X3 hx 25 rfl (255 : Int32) (hb hby own_d1_22) (by decide) ?_
      refine own_iand X3 hx 26 rfl (hb hby own_d1_25) rfl ?_
      refine own_i2c X3 hx 27 rfl (hb hby own_d1_26) rfl ?_
      obtain ⟨cl5, Ar5, qq5, S5, NN5, HH5, GG5⟩ := id V3
      have hin5 : ¬ ((0 : Int32) < 0 ∨ cl5.slots.size ≤ ((0 : Int32)).toNatClampNeg) := inb_of S5 ⟨by decide, by decide⟩
      obtain ⟨T5, h5, X5, e5, W5, st5⟩ := stC X3 hx hZ e3 Ar5 (j := (0 : Int32)) hin5 (g := (mkF m 27 #[.val (.int dp), .val (.int de), .val (.int d0), .val (.int d1), .val (.ref b3)] [(.int ((d0 &&& (255 : Int32)).toUInt32.toUInt16.toUInt32.toInt32)), (.int (0 : Int32)), (.ref b3)])) rfl rfl (hb hby own_d1_27)
      have V5 : Arv Z h5 b3 k3 .char (2 : Int32) [(.int (((d0 &&& (255 : Int32)).toUInt32.toUInt16.toUInt32.toInt32).toUInt32.toUInt16.toUInt32.toInt32)), (.int (0 : Int32))] (.int (0 : Int32)) := Arv.set Ar5 qq5 S5 NN5 HH5 GG5 (fits_nar_char _) W5 0 rfl (Nat.le_of_ble_eq_true rfl)
      have N5 := Fr.snoc X5 N0 G3
      have f6 := f4.wr W5
      have K5 := K3.wr W5 (Or.inr H3)
      have Z5 := Nat.le_trans Z3 (Nat.le_of_eq W5.size.symm)
      have hk5 := Nat.le_trans hk3 (Nat.le_of_eq W5.size.symm)
      refine Goes.go st5 ?_
      show Goes p e below _ T5 (mkF m 28 #[.val (.int dp), .val (.int de), .val (.int d0), .val (.int d1), .val (.ref b3)] [])
      refine own_aload X5 hx 30 rfl (hb hby own_d1_28) rfl rfl ?_
      refine own_iconst X5 hx 31 rfl (1 : Int32) (hb hby own_d1_30) (by decide) ?_
      refine own_iloadN X5 hx 32 rfl (hb hby own_d1_31) rfl ?_
      refine own_sipush X5 hx 35 rfl (255 : Int32) (hb hby own_d1_32) (by decide) ?_
      refine own_iand X5 hx 36 rfl (hb hby own_d1_35) rfl ?_
      refine own_i2c X5 hx 37 rfl (hb hby own_d1_36) rfl ?_
      obtain ⟨cl7, Ar7, qq7, S7, NN7, HH7, GG7⟩ := id V5
      have hin7 : ¬ ((1 : Int32) < 0 ∨ cl7.slots.size ≤ ((1 : Int32)).toNatClampNeg) := inb_of S7 ⟨by decide, by decide⟩
      obtain ⟨T7, h7, X7, e7, W7, st7⟩ := stC X5 hx hZ e5 Ar7 (j := (1 : Int32)) hin7 (g := (mkF m 37 #[.val (.int dp), .val (.int de), .val (.int d0), .val (.int d1), .val (.ref b3)] [(.int ((d1 &&& (255 : Int32)).toUInt32.toUInt16.toUInt32.toInt32)), (.int (1 : Int32)), (.ref b3)])) rfl rfl (hb hby own_d1_37)
      have V7 : Arv Z h7 b3 k3 .char (2 : Int32) [(.int (((d0 &&& (255 : Int32)).toUInt32.toUInt16.toUInt32.toInt32).toUInt32.toUInt16.toUInt32.toInt32)), (.int (((d1 &&& (255 : Int32)).toUInt32.toUInt16.toUInt32.toInt32).toUInt32.toUInt16.toUInt32.toInt32))] (.int (0 : Int32)) := Arv.set Ar7 qq7 S7 NN7 HH7 GG7 (fits_nar_char _) W7 1 rfl (Nat.le_of_ble_eq_true rfl)
      have N7 := Fr.snoc X7 N5 G3
      have f8 := f6.wr W7
      have K7 := K5.wr W7 (Or.inr H3)
      have Z7 := Nat.le_trans Z5 (Nat.le_of_eq W7.size.symm)
      have hk7 := Nat.le_trans hk5 (Nat.le_of_eq W7.size.symm)
      refine Goes.go st7 ?_
      show Goes p e below _ T7 (mkF m 38 #[.val (.int dp), .val (.int de), .val (.int d0), .val (.int d1), .val (.ref b3)] [])
      obtain ⟨T9, h9, X9, e9, E9, A9, D9, -, st9⟩ := newO X7 hx hZ hown (hw _ (List.mem_of_getElem? (i := 28) rfl)) (hw _ (List.mem_of_getElem? (i := 29) rfl)) (hw _ (List.mem_of_getElem? (i := 30) rfl)) e7 (g := (mkF m 38 #[.val (.int dp), .val (.int de), .val (.int d0), .val (.int d1), .val (.ref b3)] [])) rfl (hb hby own_d1_38) (by decide) (by decide)
      obtain ⟨b9, g9⟩ : ∃ z, z = h7.size := ⟨_, rfl⟩
      rw [← g9] at A9 D9 st9
      have ne10 : b3 ≠ b9 := own_lt_ne V7.lt g9
      have G9 : n0 ≤ b9 := Nat.le_trans Z7 (Nat.le_of_eq g9.symm)
      have H9 : h0.size ≤ b9 := Nat.le_trans K7.1 (Nat.le_of_eq g9.symm)
      have f11 := f8.ext E9
      have f12 := V7.ext E9
      have K9 := K7.ext E9
      have Z9 := Nat.le_trans Z7 E9.1
      have hk9 := Nat.le_trans hk7 E9.1
      have f13 : Fld Z h9 b9 "java/lang/String" "coder" "B" (.int (0 : Int32)) := D9 (Or.inr (hw _ (List.mem_of_getElem? (i := 52) rfl))) (ty := .byte) (by decide)
      have f14 : Fld Z h9 b9 "java/lang/String" "value" "[B" .null := D9 (Or.inr (hw _ (List.mem_of_getElem? (i := 54) rfl))) (ty := (.array .byte)) (by decide)
      refine Goes.go st9 ?_
      show Goes p e below _ T9 (mkF m 41 #[.val (.int dp), .val (.int de), .val (.int d0), .val (.int d1), .val (.ref b3)] [(.ref b9)])
      refine own_dup X9 hx 42 rfl (hb hby own_d1_41) rfl ?_
      refine own_aload X9 hx 44 rfl (hb hby own_d1_42) rfl rfl ?_
      obtain ⟨_, _, ⟨T15, L15, k15, n15⟩, -, X15, ⟨Lc15, hQ15, l15, y15, z15⟩, st15⟩ := X9.specialBack hx (y := (⟨"java/lang/String", "<init>", "([C)V"⟩ : MethodName)) rfl hown (mvT hZ (hw _ (List.mem_of_getElem? (i := 31) rfl))) (mvT hZ (hw _ (List.mem_of_getElem? (i := 32) rfl))) (mvT hZ (hw _ (List.mem_of_getElem? (i := 33) rfl))) (by decide) (backOf (W := 1) (rmnew2 l Z a0 hw [] b9 b3 k3 (((d0 &&& (255 : Int32)).toUInt32.toUInt16.toUInt32.toInt32).toUInt32.toUInt16.toUInt32.toInt32) (((d1 &&& (255 : Int32)).toUInt32.toUInt16.toUInt32.toInt32).toUInt32.toUInt16.toUInt32.toInt32) cs h9 n0 Z9 A9 G9 f14 f13 f12 f11 hcs ne10 (own_c255 _) (own_c255 _)) hZ (hw _ (List.mem_of_getElem? (i := 33) rfl)) (hw _ (List.mem_of_getElem? (i := 30) rfl)) (by decide) (by decide)) (g := (mkF m 44 #[.val (.int dp), .val (.int de), .val (.int d0), .val (.int d1), .val (.ref b3)] [(.ref b3), (.ref b9), (.ref b9)])) rfl (by rw [hml]; rfl) (Steps.refl _) (a := b9) (argsL := [(.ref b3)]) (rest := [(.ref b9)]) (lenOf own_pd4 rfl) rfl (by show 2 * 0 + _ ≤ _; exact Nat.le_of_eq rfl) (hb hby own_d1_44) (fun _ _ => ⟨rfl, e9, (by decide : 2 + 1 ≤ _), (by decide : 6 + 2 ≤ _)⟩)
      dsimp only [Pt.U, Pt.locs, Pt.cells, Pt.slots] at X15 l15 y15 z15 st15 hQ15
      subst l15 y15 z15
      obtain ⟨rb_15, rk_15, rfl, N15q, K15q, f15_0, f15_1, f15_2, f15_3⟩ := hQ15
      have N15 := Fr.app N7 N15q
      have ne16 : b3 ≠ rb_15 := Nat.ne_of_lt (Nat.lt_of_lt_of_le f12.lt f15_0)
      have ne17 : b9 ≠ rb_15 := Nat.ne_of_lt (Nat.lt_of_lt_of_le A9.lt f15_0)
      have GG18 : n0 ≤ rb_15 := Nat.le_trans Z9 f15_0
      have HG18 : h0.size ≤ rb_15 := Nat.le_trans K9.1 f15_0
      have f19 := own_sta_keep f11 K15q (allS (own_eplain A9) all0)
      have f20 := f12.keep K15q (ninS ne10 nin0)
      have f21 := A9.keep K15q
      have K15 := K9.trans K15q (allS (Or.inr H9) all0)
      have Z15 := Nat.le_trans Z9 K15q.1
      have hk15 := Nat.le_trans hk9 K15q.1
      refine Goes.tr st15 ?_
      show Goes p e below _ T15 (mkF m 47 #[.val (.int dp), .val (.int de), .val (.int d0), .val (.int d1), .val (.ref b3)] [(.ref b9)])
      refine own_retWR X15 hx hS0 hlk Bd.returns rfl rfl (hb hby own_d1_47) (by decide) (by decide) rfl hk15 ?_
      exact ⟨(.ref b9), rfl, N15, K15, rfl, (Or.inr ⟨(by intro q; cases q), hc1_1⟩)⟩
    · refine own_ifN X0 hx 10 (hb hby own_d1_7) ((if0 _ _).trans (feq hc7_2).1) rfl ?_
      obtain ⟨sa22, T22, h22, k122, X22, e22, E22, hS22, hk22, hZ22, ho22, st22⟩ := ldcS X0 hx hZ hown (hw _ (List.mem_of_getElem? (i := 55) rfl)) (own_wS hw) e0 hS0 hk0 (g := (mkF m 10 #[.val (.int dp), .val (.int de), .val (.int d0), .val (.int d1), .unset] [])) rfl (hb hby own_d1_10) (n := 0) (by decide) (by decide) (by decide) (by decide)
      have f23 := Sc.ext E22
      have K22 := K0.ext E22
      have Z22 := Nat.le_trans Z0 E22.1
      refine Goes.go st22 ?_
      show Goes p e below _ T22 (mkF m 12 #[.val (.int dp), .val (.int de), .val (.int d0), .val (.int d1), .unset] [(.ref sa22)])
      refine own_retWR X22 hx hS22 hlk Bd.returns rfl rfl (hb hby own_d1_12) (by decide) (by decide) e22 hk22 ?_
      exact ⟨(.ref sa22), rfl, N0, K22, rfl, (Or.inr ⟨(by intro q; cases q), hc1_1⟩)⟩
theorem own_pd5 : parseMethodDescriptor "()V" = some ⟨[], none⟩ := by decide +kernel
theorem own_d2_0 : decode prog_13_method_1_code 0 = .ok (.aload_n 0, 1) := by decide +kernel
theorem own_d2_1 : decode prog_13_method_1_code 1 = .ok (.invokespecial 1, 3) := by decide +kernel
theorem own_d2_4 : decode prog_13_method_1_code 4 = .ok (.aload_n 0, 1) := by decide +kernel
theorem own_d2_5 : decode prog_13_method_1_code 5 = .ok (.aload_n 1, 1) := by decide +kernel
theorem own_d2_6 : decode prog_13_method_1_code 6 = .ok (.putfield 7, 3) := by decide +kernel
theorem own_d2_9 : decode prog_13_method_1_code 9 = .ok (.aload_n 0, 1) := by decide +kernel
theorem own_d2_10 : decode prog_13_method_1_code 10 = .ok (.aload_n 2, 1) := by decide +kernel
theorem own_d2_11 : decode prog_13_method_1_code 11 = .ok (.putfield 13, 3) := by decide +kernel
theorem own_d2_14 : decode prog_13_method_1_code 14 = .ok (.return_, 1) := by decide +kernel
theorem own_pn_com_example_tidings_tidings_engine_MessageQueue_SendOutcome : plainName "com/example/tidings/tidings/engine/MessageQueue$SendOutcome" = true := by first | (simp [plainName, overriddenIn]; done) | decide +kernel
def Q2 (Z : State) (so : Addr) (mi : Value) (mr : Value) (h0 : Heap) (n0 : Nat) (v : Option Value) (h : Heap) (L : List Loc) : Prop := v = none ∧ Fr n0 L ∧ Keep h0 h [so] ∧ Fld Z h so "com/example/tidings/tidings/engine/MessageQueue$SendOutcome" "messageId" "Ljava/lang/String;" mi
set_option maxRecDepth 65536 in
set_option maxHeartbeats 40000000 in
theorem rm2 (l : Launch) (Z : State) (a0 : Array Value) (hw : ∀ d ∈ tables_1, d.before a0 Z = true) (ws : List Jvm.Cond) (so : Addr) (mi : Value) (mr : Value) (h0 : Heap) (n0 : Nat) (Z0 : n0 ≤ h0.size) (ES : Exa Z h0 so "com/example/tidings/tidings/engine/MessageQueue$SendOutcome") (gs : n0 ≤ so) (F1 : Fld Z h0 so "com/example/tidings/tidings/engine/MessageQueue$SendOutcome" "messageId" "Ljava/lang/String;" .null) (F2 : Fld Z h0 so "com/example/tidings/tidings/engine/MessageQueue$SendOutcome" "refusal" "Ljava/lang/String;" .null) (hi : mi.isRef = true) (hr : mr.isRef = true) :
    MetFree l (⟨"com/example/tidings/tidings/engine/MessageQueue$SendOutcome", "<init>", "(Ljava/lang/String;Ljava/lang/String;)V"⟩ : MethodName) (head1 (Jvm.Cond.code (⟨"com/example/tidings/tidings/engine/MessageQueue$SendOutcome", "<init>", "(Ljava/lang/String;Ljava/lang/String;)V"⟩ : MethodName) prog_13_method_1_code 3 none :: ws) ({ frames := 2, cells := 0, slots := 0, locals := 24 } : Room)) (fun a U => a = #[(.ref so), mi, mr] ∧ Z.Warmed39 U.vm ∧ U.heap = h0) (fun _ _ _ _ _ => True) (fun _ U o U' => ∃ v L, o = .returned v ∧ Q2 Z so mi mr h0 n0 v U'.heap L ∧ FrameEnd U o U' L ({ frames := 2, cells := 0, slots := 0, locals := 24 } : Room).cells ({ frames := 2, cells := 0, slots := 0, locals := 24 } : Room).slots) := by
  refine MetFree.of_bodySF (plainFor_of_name own_pn_com_example_tidings_tidings_engine_MessageQueue_SendOutcome) hisR ?_
  intro p e s m args below meth c s₁ Bd hml0 hP hK
  obtain ⟨rfl, hZ, hh⟩ := hP
  have hx := Bd.exec
  have hby := Bd.bytes
  have hml : c.maxLocals = 3 := hml0
  have hlk := Bd.notSynchronized
  have hown : s.vm.findClass "com/example/tidings/tidings/engine/MessageQueue$SendOutcome" = some m.cls := findClass_of_methodNamed Bd.named
  have hnm := (name_of_methodNamed Bd.named Bd.method).1
  have X0 : Stand p l e ({ frames := 2, cells := 0, slots := 0, locals := 24 } : Room) s m #[(.ref so), mi, mr] below meth c s₁ [] 0 0 := Stand.of_body Bd
  have e0 : s₁.heap = h0 := by rw [← hh, Bd.state]; rfl
  have N0 := Fr.nil n0
  have K0 : Keep h0 h0 [so] := Keep.refl _ _
  refine own_enter (P := (Done s ({ frames := 2, cells := 0, slots := 0, locals := 24 } : Room).cells ({ frames := 2, cells := 0, slots := 0, locals := 24 } : Room).slots (Q2 Z so mi mr h0 n0))) (Ls := #[.val (.ref so), .val mi, .val mr]) (by rcases ref_cases hi with rfl | ⟨_, rfl⟩ <;> rcases ref_cases hr with rfl | ⟨_, rfl⟩ <;> first | (simp [entryFrame, mkF, argsToLocals, Value.category]; done) | rfl) ?_
  refine own_aloadN X0 hx 1 rfl (hb hby own_d2_0) rfl rfl ?_
  obtain ⟨_, _, ⟨T1, L1, k1, n1⟩, -, X1, ⟨Lc1, hQ1, l1, y1, z1⟩, st1⟩ := X0.specialBack hx (y := (⟨"java/lang/Record", "<init>", "()V"⟩ : MethodName)) rfl hown (mvT hZ (hw _ (List.mem_of_getElem? (i := 10) rfl))) (mvT hZ (hw _ (List.mem_of_getElem? (i := 11) rfl))) (mvT hZ (hw _ (List.mem_of_getElem? (i := 14) rfl))) (by decide) (backOf (W := 0) (rm3 l Z a0 hw [] so h0 n0 Z0 ) hZ (hw _ (List.mem_of_getElem? (i := 14) rfl)) (hw _ (List.mem_of_getElem? (i := 13) rfl)) (by decide) (by decide)) (g := (mkF m 1 #[.val (.ref so), .val mi, .val mr] [(.ref so)])) rfl (by rw [hml]; rfl) (Steps.refl _) (a := so) (argsL := []) (rest := []) (lenOf own_pd5 rfl) rfl (by show 2 * 0 + _ ≤ _; exact Nat.le_of_eq rfl) (hb hby own_d2_1) (fun _ _ => ⟨rfl, e0, (by decide : 0 + 0 ≤ _), (by decide : 0 + 0 ≤ _)⟩)
  dsimp only [Pt.U, Pt.locs, Pt.cells, Pt.slots] at X1 l1 y1 z1 st1 hQ1
  subst l1 y1 z1
  obtain ⟨rfl, N1q, eh1⟩ := hQ1
  have N1 := Fr.app N0 N1q
  refine Goes.tr st1 ?_
  show Goes p e below _ T1 (mkF m 4 #[.val (.ref so), .val mi, .val mr] [])
  refine own_aloadN X1 hx 5 rfl (hb hby own_d2_4) rfl rfl ?_
  refine own_aloadN X1 hx 6 rfl (hb hby own_d2_5) rfl hi ?_
  obtain ⟨T2, h2, X2, e2, W2, st2⟩ := putF X1 hx hZ hown (host := "") (Or.inl (hw _ (List.mem_of_getElem? (i := 18) rfl))) Via.refl eh1 F1 ES (Or.inr ⟨(hw _ (List.mem_of_getElem? (i := 19) rfl)), rfl, hnm⟩) (hw _ (List.mem_of_getElem? (i := 5) rfl)) (ty := (.object "java/lang/String")) (by decide) (own_narR hi) (own_fitsR hi rfl) (g := (mkF m 6 #[.val (.ref so), .val mi, .val mr] [mi, (.ref so)])) rfl rfl (hb hby own_d2_6)
  have N2 := Fr.snoc X2 N1 gs
  have f3 := ES.wr W2
  have f4 := F1.same W2
  have f5 := F2.other W2 (Or.inr (slot_ne (Or.inr (hw _ (List.mem_of_getElem? (i := 21) rfl))) (Or.inr (hw _ (List.mem_of_getElem? (i := 19) rfl))) (by decide) (t := (.object "java/lang/String")) (t' := (.object "java/lang/String")) (by decide) (by decide)))
  have K2 := K0.wr W2 (Or.inl (List.mem_of_getElem? (i := 0) rfl))
  have Z2 := Nat.le_trans Z0 (Nat.le_of_eq W2.size.symm)
  refine Goes.go st2 ?_
  show Goes p e below _ T2 (mkF m 9 #[.val (.ref so), .val mi, .val mr] [])
  refine own_aloadN X2 hx 10 rfl (hb hby own_d2_9) rfl rfl ?_
  refine own_aloadN X2 hx 11 rfl (hb hby own_d2_10) rfl hr ?_
  obtain ⟨T6, h6, X6, e6, W6, st6⟩ := putF X2 hx hZ hown (host := "") (Or.inl (hw _ (List.mem_of_getElem? (i := 20) rfl))) Via.refl e2 f5 f3 (Or.inr ⟨(hw _ (List.mem_of_getElem? (i := 21) rfl)), rfl, hnm⟩) (hw _ (List.mem_of_getElem? (i := 5) rfl)) (ty := (.object "java/lang/String")) (by decide) (own_narR hr) (own_fitsR hr rfl) (g := (mkF m 11 #[.val (.ref so), .val mi, .val mr] [mr, (.ref so)])) rfl rfl (hb hby own_d2_11)
  have N6 := Fr.snoc X6 N2 gs
  have f7 := f3.wr W6
  have f8 := f4.other W6 (Or.inr (slot_ne (Or.inr (hw _ (List.mem_of_getElem? (i := 19) rfl))) (Or.inr (hw _ (List.mem_of_getElem? (i := 21) rfl))) (by decide) (t := (.object "java/lang/String")) (t' := (.object "java/lang/String")) (by decide) (by decide)))
  have f9 := f5.same W6
  have K6 := K2.wr W6 (Or.inl (List.mem_of_getElem? (i := 0) rfl))
  have Z6 := Nat.le_trans Z2 (Nat.le_of_eq W6.size.symm)
  refine Goes.go st6 ?_
  show Goes p e below _ T6 (mkF m 14 #[.val (.ref so), .val mi, .val mr] [])
  refine own_retV X6 hx hlk Bd.returns (hb hby own_d2_14) (by decide) (by decide) e6 ?_
  exact ⟨rfl, N6, K6, f8⟩
theorem own_d5_0 : decode prog_13_method_2_code 0 = .ok (.aload_n 0, 1) := by decide +kernel
theorem own_d5_1 : decode prog_13_method_2_code 1 = .ok (.getfield 7, 3) := by decide +kernel
theorem own_d5_4 : decode prog_13_method_2_code 4 = .ok (.ifnull 7, 3) := by decide +kernel
theorem own_d5_7 : decode prog_13_method_2_code 7 = .ok (.iconst 1, 1) := by decide +kernel
theorem own_d5_8 : decode prog_13_method_2_code 8 = .ok (.goto 4, 3) := by decide +kernel
theorem own_d5_11 : decode prog_13_method_2_code 11 = .ok (.iconst 0, 1) := by decide +kernel
theorem own_d5_12 : decode prog_13_method_2_code 12 = .ok (.ireturn, 1) := by decide +kernel
def Q5 (Z : State) (so : Addr) (mv : Value) (h0 : Heap) (n0 : Nat) (v : Option Value) (h : Heap) (L : List Loc) : Prop := ∃ ir : Int32, v = some (.int ir) ∧ Fr n0 L ∧ h = h0 ∧ ((ir = (1 : Int32) ∧ ¬ mv = .null) ∨ (ir = (0 : Int32) ∧ mv = .null))
set_option maxRecDepth 65536 in
set_option maxHeartbeats 40000000 in
theorem rm5 (l : Launch) (Z : State) (a0 : Array Value) (hw : ∀ d ∈ tables_1, d.before a0 Z = true) (ws : List Jvm.Cond) (so : Addr) (mv : Value) (h0 : Heap) (n0 : Nat) (Z0 : n0 ≤ h0.size) (Fv : Fld Z h0 so "com/example/tidings/tidings/engine/MessageQueue$SendOutcome" "messageId" "Ljava/lang/String;" mv) (hv : mv.isRef = true) :
    MetFree l (⟨"com/example/tidings/tidings/engine/MessageQueue$SendOutcome", "isStored", "()Z"⟩ : MethodName) (head1 (Jvm.Cond.code (⟨"com/example/tidings/tidings/engine/MessageQueue$SendOutcome", "isStored", "()Z"⟩ : MethodName) prog_13_method_2_code 1 (some .boolean) :: ws) ({ frames := 0, cells := 0, slots := 0, locals := 0 } : Room)) (fun a U => a = #[(.ref so)] ∧ Z.Warmed39 U.vm ∧ U.heap = h0) (fun _ _ _ _ _ => True) (fun _ U o U' => ∃ v L, o = .returned v ∧ Q5 Z so mv h0 n0 v U'.heap L ∧ FrameEnd U o U' L ({ frames := 0, cells := 0, slots := 0, locals := 0 } : Room).cells ({ frames := 0, cells := 0, slots := 0, locals := 0 } : Room).slots) := by
  refine MetFree.of_bodySF (plainFor_of_name own_pn_com_example_tidings_tidings_engine_MessageQueue_SendOutcome) hisR ?_
  intro p e s m args below meth c s₁ Bd hml0 hP hK
  obtain ⟨rfl, hZ, hh⟩ := hP
  have hx := Bd.exec
  have hby := Bd.bytes
  have hml : c.maxLocals = 1 := hml0
  have hlk := Bd.notSynchronized
  have hown : s.vm.findClass "com/example/tidings/tidings/engine/MessageQueue$SendOutcome" = some m.cls := findClass_of_methodNamed Bd.named
  have hnm := (name_of_methodNamed Bd.named Bd.method).1
  have X0 : Stand p l e ({ frames := 0, cells := 0, slots := 0, locals := 0 } : Room) s m #[(.ref so)] below meth c s₁ [] 0 0 := Stand.of_body Bd
  have e0 : s₁.heap = h0 := by rw [← hh, Bd.state]; rfl
  have N0 := Fr.nil n0
  refine own_enter (P := (Done s ({ frames := 0, cells := 0, slots := 0, locals := 0 } : Room).cells ({ frames := 0, cells := 0, slots := 0, locals := 0 } : Room).slots (Q5 Z so mv h0 n0))) (Ls := #[.val (.ref so)]) (by first | (simp [entryFrame, mkF, argsToLocals, Value.category]; done) | rfl) ?_
  refine own_aloadN X0 hx 1 rfl (hb hby own_d5_0) rfl rfl ?_
  obtain ⟨T1, X1, e1, st1⟩ := getF X0 hx hZ hown (host := "") (Or.inl (hw _ (List.mem_of_getElem? (i := 18) rfl))) Via.refl e0 Fv (g := (mkF m 1 #[.val (.ref so)] [(.ref so)])) rfl rfl (hb hby own_d5_1)
  refine Goes.go st1 ?_
  show Goes p e below _ T1 (mkF m 4 #[.val (.ref so)] [mv])
  rcases ref_cases hv with hv4 | ⟨av4, hv4⟩
  · rw [hv4]
    refine own_ifnullY X1 hx 11 (hb hby own_d5_4) (by decide) (by decide) ?_
    refine own_iconst X1 hx 12 rfl (0 : Int32) (hb hby own_d5_11) (by decide) ?_
    refine own_retZ X1 hx hlk Bd.returns (by decide) (hb hby own_d5_12) (by decide) (by decide) e1 ?_
    exact ⟨(0 : Int32), rfl, N0, rfl, (by first | exact Or.inr ⟨rfl, rfl⟩ | exact Or.inr ⟨rfl, hv4⟩ | exact Or.inl ⟨rfl, by intro q; cases q⟩ | exact Or.inl ⟨rfl, by rw [hv4]; intro q; cases q⟩)⟩
  · rw [hv4]
    refine own_ifnullN X1 hx 7 (hb hby own_d5_4) rfl ?_
    refine own_iconst X1 hx 8 rfl (1 : Int32) (hb hby own_d5_7) (by decide) ?_
    refine own_goto X1 hx 12 (hb hby own_d5_8) (by decide) (by decide) ?_
    refine own_retZ X1 hx hlk Bd.returns (by decide) (hb hby own_d5_12) (by decide) (by decide) e1 ?_
    exact ⟨(1 : Int32), rfl, N0, rfl, (by first | exact Or.inr ⟨rfl, rfl⟩ | exact Or.inr ⟨rfl, hv4⟩ | exact Or.inl ⟨rfl, by intro q; cases q⟩ | exact Or.inl ⟨rfl, by rw [hv4]; intro q; cases q⟩)⟩
theorem own_pd6 : parseMethodDescriptor "(IIII)Ljava/lang/String;" = some ⟨[.int, .int, .int, .int], some (.object "java/lang/String")⟩ := by decide +kernel
theorem own_pd7 : parseMethodDescriptor "(Ljava/lang/String;Ljava/lang/String;)V" = some ⟨[(.object "java/lang/String"), (.object "java/lang/String")], none⟩ := by decide +kernel
theorem own_pd8 : parseMethodDescriptor "()Z" = some ⟨[], some .boolean⟩ := by decide +kernel
def Q0 (Z : State) (x0 : Int32) (x1 : Int32) (x2 : Int32) (x3 : Int32) (x4 : Int32) (cs : Int32) (h0 : Heap) (n0 : Nat) (v : Option Value) (h : Heap) (L : List Loc) : Prop := v = some (.int 1) ∧ Fr n0 L
set_option maxRecDepth 65536 in
set_option maxHeartbeats 40000000 in
theorem rm0 (l : Launch) (Z : State) (a0 : Array Value) (hw : ∀ d ∈ tables_1, d.before a0 Z = true) (ws : List Jvm.Cond) (x0 : Int32) (x1 : Int32) (x2 : Int32) (x3 : Int32) (x4 : Int32) (cs : Int32) (h0 : Heap) (n0 : Nat) (Z0 : n0 ≤ h0.size) (Sc : Sta Z h0 "java/lang/String" "COMPACT_STRINGS" "Z" (.int cs)) (hcs : ¬ (cs = (0 : Int32))) :
    MetFree l x (head1 (Jvm.Cond.code x code maxLocals ret :: ws) room_1) (fun a U => a = #[(.int x0), (.int x1), (.int x2), (.int x3), (.int x4)] ∧ Z.Warmed39 U.vm ∧ U.heap = h0) (fun _ _ _ _ _ => True) (fun _ U o U' => ∃ v L, o = .returned v ∧ Q0 Z x0 x1 x2 x3 x4 cs h0 n0 v U'.heap L ∧ ReturnedEndW U o U' L 7 18) := by
  refine MetFree.of_bodySF (plainFor_of_name own_pn_com_example_tidings_tidings_engine_SendOutcomeIsStoredPinLaw) hisR ?_
  intro p e s m args below meth c s₁ Bd hml0 hP hK
  obtain ⟨rfl, hZ, hh⟩ := hP
  have hx := Bd.exec
  have hby := Bd.bytes
  have hml : c.maxLocals = 9 := hml0
  have hlk := Bd.notSynchronized
  have hown : s.vm.findClass "com/example/tidings/tidings/engine/SendOutcomeIsStoredPinLaw" = some m.cls := findClass_of_methodNamed Bd.named
  have hnm := (name_of_methodNamed Bd.named Bd.method).1
  have X0 : Stand p l e room_1 (s.setVm s.vm) m #[(.int x0), (.int x1), (.int x2), (.int x3), (.int x4)] below meth c s₁ [] 0 0 := Stand.of_body Bd
  have e0 : s₁.heap = h0 := by rw [← hh, Bd.state]; rfl
  have N0 := Fr.nil n0
  have hS0 : s.Since s.vm 0 := (State.WarmedH.refl s).since 0
  have hk0 : 0 ≤ h0.size := Nat.zero_le _
  have K0 : Keep h0 h0 [] := Keep.refl _ _
  refine own_enter (P := (DoneW s 7 18 (Q0 Z x0 x1 x2 x3 x4 cs h0 n0))) (Ls := #[.val (.int x0), .val (.int x1), .val (.int x2), .val (.int x3), .val (.int x4), .unset, .unset, .unset, .unset]) (by first | (simp [entryFrame, mkF, argsToLocals, Value.category, maxLocals]; done) | rfl) ?_
  refine own_iloadN X0 hx 1 rfl (hb hby at_0) rfl ?_
  refine own_iconst X0 hx 2 rfl (1 : Int32) (hb hby at_1) (by decide) ?_
  refine own_iand X0 hx 3 rfl (hb hby at_2) rfl ?_
  refine own_iloadN X0 hx 4 rfl (hb hby at_3) rfl ?_
  refine own_iconst X0 hx 5 rfl (4 : Int32) (hb hby at_4) (by decide) ?_
  refine own_iand X0 hx 6 rfl (hb hby at_5) rfl ?_
  refine own_iloadN X0 hx 7 rfl (hb hby at_6) rfl ?_
  refine own_iloadN X0 hx 8 rfl (hb hby at_7) rfl ?_
  obtain ⟨_, _, ⟨T1, L1, k1, n1⟩, -, X1, Sx1, gr1, ⟨Lc1, hQ1, l1, y1, z1⟩, st1⟩ := callSS X0 hx (y := (⟨"com/example/tidings/tidings/engine/SendOutcomeIsStoredPinLaw", "drawn", "(IIII)Ljava/lang/String;"⟩ : MethodName)) hown (mvT hZ (hw _ (List.mem_of_getElem? (i := 0) rfl))) (mvT hZ (hw _ (List.mem_of_getElem? (i := 1) rfl))) (mvT hZ (hw _ (List.mem_of_getElem? (i := 2) rfl))) (mvT hZ (hw _ (List.mem_of_getElem? (i := 3) rfl))) (by decide) (backOfS (W := 0) (rm1 l Z a0 hw [] (x0 &&& (1 : Int32)) (x0 &&& (4 : Int32)) x1 x2 cs h0 n0 Z0 Sc hcs) hZ (hw _ (List.mem_of_getElem? (i := 3) rfl)) (hw _ (List.mem_of_getElem? (i := 2) rfl)) (by decide) (by decide)) (g := (mkF m 8 #[.val (.int x0), .val (.int x1), .val (.int x2), .val (.int x3), .val (.int x4), .unset, .unset, .unset, .unset] [(.int x2), (.int x1), (.int (x0 &&& (4 : Int32))), (.int (x0 &&& (1 : Int32)))])) rfl (by rw [hml]; rfl) (argsL := [(.int (x0 &&& (1 : Int32))), (.int (x0 &&& (4 : Int32))), (.int x1), (.int x2)]) (rest := []) (lenOf own_pd6 rfl) rfl (by show 2 * 0 + _ ≤ _; exact Nat.le_of_eq rfl) (hb hby at_8) (fun _ _ => ⟨rfl, e0, (by decide : 0 + 3 ≤ _), (by decide : 0 + 8 ≤ _)⟩)
  dsimp only [Pt.U, Pt.locs, Pt.cells, Pt.slots] at X1 l1 y1 z1 st1 hQ1 Sx1 gr1
  subst l1 y1 z1
  obtain ⟨Y1, hS1, hZ1, ho1⟩ := rebS hS0 (Nat.le_trans hk0 (Nat.le_of_eq (congrArg Array.size (Eq.symm e0)))) X1 Sx1 gr1 hZ hown
  obtain ⟨dv_1, rfl, N1q, K1q, pr1_0, pr1_1⟩ := hQ1
  have N1 := Fr.app N0 N1q
  have f2 := own_sta_keep Sc K1q all0
  have K1 := K0.trans K1q all0
  have Z1 := Nat.le_trans Z0 K1q.1
  refine Goes.tr st1 ?_
  show Goes p e below _ T1 (mkF m 11 #[.val (.int x0), .val (.int x1), .val (.int x2), .val (.int x3), .val (.int x4), .unset, .unset, .unset, .unset] [dv_1])
  refine own_astore Y1 hx 13 rfl #[.val (.int x0), .val (.int x1), .val (.int x2), .val (.int x3), .val (.int x4), .val dv_1, .unset, .unset, .unset] (hb hby at_11) (by rcases ref_cases pr1_0 with rfl | ⟨_, rfl⟩ <;> rfl) pr1_0 ?_
  refine own_iloadN Y1 hx 14 rfl (hb hby at_13) rfl ?_
  refine own_iconst Y1 hx 15 rfl (2 : Int32) (hb hby at_14) (by decide) ?_
  refine own_iand Y1 hx 16 rfl (hb hby at_15) rfl ?_
  refine own_iloadN Y1 hx 17 rfl (hb hby at_16) rfl ?_
  refine own_bipush Y1 hx 19 rfl (8 : Int32) (hb hby at_17) (by decide) ?_
  refine own_iand Y1 hx 20 rfl (hb hby at_19) rfl ?_
  refine own_iloadN Y1 hx 21 rfl (hb hby at_20) rfl ?_
  refine own_iload Y1 hx 23 rfl (hb hby at_21) rfl ?_
  obtain ⟨_, _, ⟨T3, L3, k3, n3⟩, -, X3, Sx3, gr3, ⟨Lc3, hQ3, l3, y3, z3⟩, st3⟩ := callSS Y1 hx (y := (⟨"com/example/tidings/tidings/engine/SendOutcomeIsStoredPinLaw", "drawn", "(IIII)Ljava/lang/String;"⟩ : MethodName)) ho1 (mvT hZ1 (hw _ (List.mem_of_getElem? (i := 0) rfl))) (mvT hZ1 (hw _ (List.mem_of_getElem? (i := 1) rfl))) (mvT hZ1 (hw _ (List.mem_of_getElem? (i := 2) rfl))) (mvT hZ1 (hw _ (List.mem_of_getElem? (i := 3) rfl))) (by decide) (backOfS (W := 0) (rm1 l Z a0 hw [] (x0 &&& (2 : Int32)) (x0 &&& (8 : Int32)) x3 x4 cs T1.heap n0 Z1 f2 hcs) hZ1 (hw _ (List.mem_of_getElem? (i := 3) rfl)) (hw _ (List.mem_of_getElem? (i := 2) rfl)) (by decide) (by decide)) (g := (mkF m 23 #[.val (.int x0), .val (.int x1), .val (.int x2), .val (.int x3), .val (.int x4), .val dv_1, .unset, .unset, .unset] [(.int x4), (.int x3), (.int (x0 &&& (8 : Int32))), (.int (x0 &&& (2 : Int32)))])) rfl (by rw [hml]; rfl) (argsL := [(.int (x0 &&& (2 : Int32))), (.int (x0 &&& (8 : Int32))), (.int x3), (.int x4)]) (rest := []) (lenOf own_pd6 rfl) rfl (by show 2 * 0 + _ ≤ _; exact Nat.le_of_eq rfl) (hb hby at_23) (fun _ _ => ⟨rfl, rfl, (by decide : 3 + 3 ≤ _), (by decide : 8 + 8 ≤ _)⟩)
  dsimp only [Pt.U, Pt.locs, Pt.cells, Pt.slots] at X3 l3 y3 z3 st3 hQ3 Sx3 gr3
  subst l3 y3 z3
  obtain ⟨Y3, hS3, hZ3, ho3⟩ := rebS hS1 (Nat.le_trans (Nat.le_refl T1.heap.size) (Nat.le_of_eq (congrArg Array.size (Eq.symm rfl)))) X3 Sx3 gr3 hZ1 ho1
  obtain ⟨dv_3, rfl, N3q, K3q, pr3_0, pr3_1⟩ := hQ3
  have N3 := Fr.app N1 N3q
  have f4 := own_sta_keep f2 K3q all0
  have K3 := K1.trans K3q all0
  have Z3 := Nat.le_trans Z1 K3q.1
  refine Goes.tr st3 ?_
  show Goes p e below _ T3 (mkF m 26 #[.val (.int x0), .val (.int x1), .val (.int x2), .val (.int x3), .val (.int x4), .val dv_1, .unset, .unset, .unset] [dv_3])
  refine own_astore Y3 hx 28 rfl #[.val (.int x0), .val (.int x1), .val (.int x2), .val (.int x3), .val (.int x4), .val dv_1, .val dv_3, .unset, .unset] (hb hby at_26) (by rcases ref_cases pr1_0 with rfl | ⟨_, rfl⟩ <;> rcases ref_cases pr3_0 with rfl | ⟨_, rfl⟩ <;> rfl) pr3_0 ?_
  obtain ⟨T5, h5, X5, e5, E5, A5, D5, -, st5⟩ := newO Y3 hx hZ3 ho3 (hw _ (List.mem_of_getElem? (i := 4) rfl)) (hw _ (List.mem_of_getElem? (i := 5) rfl)) (hw _ (List.mem_of_getElem? (i := 6) rfl)) rfl (g := (mkF m 28 #[.val (.int x0), .val (.int x1), .val (.int x2), .val (.int x3), .val (.int x4), .val dv_1, .val dv_3, .unset, .unset] [])) rfl (hb hby at_28) (by decide) (by decide)
  obtain ⟨b5, g5⟩ : ∃ z, z = T3.heap.size := ⟨_, rfl⟩
  rw [← g5] at A5 D5 st5
  have G5 : n0 ≤ b5 := Nat.le_trans Z3 (Nat.le_of_eq g5.symm)
  have H5 : h0.size ≤ b5 := Nat.le_trans K3.1 (Nat.le_of_eq g5.symm)
  have f6 := f4.ext E5
  have K5 := K3.ext E5
  have Z5 := Nat.le_trans Z3 E5.1
  have hk5 := Nat.le_trans (Nat.le_refl T3.heap.size) E5.1
  have f7 : Fld Z h5 b5 "com/example/tidings/tidings/engine/MessageQueue$SendOutcome" "messageId" "Ljava/lang/String;" .null := D5 (Or.inr (hw _ (List.mem_of_getElem? (i := 19) rfl))) (ty := (.object "java/lang/String")) (by decide)
  have f8 : Fld Z h5 b5 "com/example/tidings/tidings/engine/MessageQueue$SendOutcome" "refusal" "Ljava/lang/String;" .null := D5 (Or.inr (hw _ (List.mem_of_getElem? (i := 21) rfl))) (ty := (.object "java/lang/String")) (by decide)
  refine Goes.go st5 ?_
  show Goes p e below _ T5 (mkF m 31 #[.val (.int x0), .val (.int x1), .val (.int x2), .val (.int x3), .val (.int x4), .val dv_1, .val dv_3, .unset, .unset] [(.ref b5)])
  refine own_dup X5 hx 32 rfl (hb hby at_31) rfl ?_
  refine own_aload X5 hx 34 rfl (hb hby at_32) rfl pr1_0 ?_
  refine own_aload X5 hx 36 rfl (hb hby at_34) rfl pr3_0 ?_
  obtain ⟨_, _, ⟨T9, L9, k9, n9⟩, -, X9, ⟨Lc9, hQ9, l9, y9, z9⟩, st9⟩ := X5.specialBack hx (y := (⟨"com/example/tidings/tidings/engine/MessageQueue$SendOutcome", "<init>", "(Ljava/lang/String;Ljava/lang/String;)V"⟩ : MethodName)) rfl ho3 (mvT hZ3 (hw _ (List.mem_of_getElem? (i := 7) rfl))) (mvT hZ3 (hw _ (List.mem_of_getElem? (i := 8) rfl))) (mvT hZ3 (hw _ (List.mem_of_getElem? (i := 9) rfl))) (by decide) (backOf (W := 1) (rm2 l Z a0 hw [] b5 dv_1 dv_3 h5 n0 Z5 A5 G5 f7 f8 pr1_0 pr3_0) hZ3 (hw _ (List.mem_of_getElem? (i := 9) rfl)) (hw _ (List.mem_of_getElem? (i := 6) rfl)) (by decide) (by decide)) (g := (mkF m 36 #[.val (.int x0), .val (.int x1), .val (.int x2), .val (.int x3), .val (.int x4), .val dv_1, .val dv_3, .unset, .unset] [dv_3, dv_1, (.ref b5), (.ref b5)])) rfl (by rw [hml]; rfl) (Steps.refl _) (a := b5) (argsL := [dv_1, dv_3]) (rest := [(.ref b5)]) (lenOf own_pd7 rfl) rfl (by show 2 * 0 + _ ≤ _; exact Nat.le_of_eq rfl) (hb hby at_36) (fun _ _ => ⟨rfl, e5, (by decide : 7 + 0 ≤ _), (by decide : 18 + 0 ≤ _)⟩)
  dsimp only [Pt.U, Pt.locs, Pt.cells, Pt.slots] at X9 l9 y9 z9 st9 hQ9
  subst l9 y9 z9
  obtain ⟨rfl, N9q, K9q, f9_0⟩ := hQ9
  have N9 := Fr.app N3 N9q
  have f10 := own_sta_keep f6 K9q (allS (own_eplain A5) all0)
  have f11 := A5.keep K9q
  have K9 := K5.trans K9q (allS (Or.inr H5) all0)
  have Z9 := Nat.le_trans Z5 K9q.1
  have hk9 := Nat.le_trans hk5 K9q.1
  refine Goes.tr st9 ?_
  show Goes p e below _ T9 (mkF m 39 #[.val (.int x0), .val (.int x1), .val (.int x2), .val (.int x3), .val (.int x4), .val dv_1, .val dv_3, .unset, .unset] [(.ref b5)])
  refine own_astore X9 hx 41 rfl #[.val (.int x0), .val (.int x1), .val (.int x2), .val (.int x3), .val (.int x4), .val dv_1, .val dv_3, .val (.ref b5), .unset] (hb hby at_39) (by rcases ref_cases pr1_0 with rfl | ⟨_, rfl⟩ <;> rcases ref_cases pr3_0 with rfl | ⟨_, rfl⟩ <;> rfl) rfl ?_
  refine own_aload X9 hx 43 rfl (hb hby at_41) rfl pr1_0 ?_
  rcases ref_cases pr1_0 with hv43 | ⟨av43, hv43⟩
  · rw [hv43]
    refine own_ifnullY X9 hx 50 (hb hby at_43) (by decide) (by decide) ?_
    refine own_iconst X9 hx 51 rfl (0 : Int32) (hb hby at_50) (by decide) ?_
    refine own_istore X9 hx 53 rfl #[.val (.int x0), .val (.int x1), .val (.int x2), .val (.int x3), .val (.int x4), .val .null, .val dv_3, .val (.ref b5), .val (.int (0 : Int32))] (hb hby at_51) (by rcases ref_cases pr3_0 with rfl | ⟨_, rfl⟩ <;> rfl) ?_
    refine own_aload X9 hx 55 rfl (hb hby at_53) rfl rfl ?_
    obtain ⟨cq12, kq12, q12a, q12b, q12c⟩ := isOf hZ3 rfl f11
    obtain ⟨_, _, ⟨T12, L12, k12, n12⟩, -, X12, ⟨Lc12, hQ12, l12, y12, z12⟩, st12⟩ := X9.virtualBack hx (y := (⟨"com/example/tidings/tidings/engine/MessageQueue$SendOutcome", "isStored", "()Z"⟩ : MethodName)) (z := (⟨"com/example/tidings/tidings/engine/MessageQueue$SendOutcome", "isStored", "()Z"⟩ : MethodName)) ho3 (mvT hZ3 (hw _ (List.mem_of_getElem? (i := 22) rfl))) (mvT hZ3 (hw _ (List.mem_of_getElem? (i := 23) rfl))) (notFace_of_selects (args := #[]) (mvT hZ3 (hw _ (List.mem_of_getElem? (i := 25) rfl)))) (mvT hZ3 (hw _ (List.mem_of_getElem? (i := 25) rfl))) (mvT hZ3 (hw _ (List.mem_of_getElem? (i := 24) rfl))) (by decide) (backOf (W := 0) (rm5 l Z a0 hw [] b5 .null T9.heap n0 Z9 (hv43 ▸ f9_0) rfl) hZ3 (hw _ (List.mem_of_getElem? (i := 26) rfl)) (hw _ (List.mem_of_getElem? (i := 6) rfl)) (by decide) (by decide)) q12a q12c (g := (mkF m 55 #[.val (.int x0), .val (.int x1), .val (.int x2), .val (.int x3), .val (.int x4), .val .null, .val dv_3, .val (.ref b5), .val (.int (0 : Int32))] [(.ref b5)])) rfl (by rw [hml]; rfl) (Steps.refl _) (argsL := []) (rest := []) (lenOf own_pd8 rfl) rfl (by show 2 * 0 + _ ≤ _; exact Nat.le_of_eq rfl) (hb hby at_55) (fun _ _ => ⟨rfl, rfl, (by decide : 7 + 0 ≤ _), (by decide : 18 + 0 ≤ _)⟩)
    dsimp only [Pt.U, Pt.locs, Pt.cells, Pt.slots] at X12 l12 y12 z12 st12 hQ12
    subst l12 y12 z12
    obtain ⟨ir_12, rfl, N12q, eh12, pr12_0⟩ := hQ12
    have N12 := Fr.app N9 N12q
    refine Goes.tr st12 ?_
    show Goes p e below _ T12 (mkF m 58 #[.val (.int x0), .val (.int x1), .val (.int x2), .val (.int x3), .val (.int x4), .val .null, .val dv_3, .val (.ref b5), .val (.int (0 : Int32))] [(.int ir_12)])
    refine own_iload X12 hx 60 rfl (hb hby at_58) rfl ?_
    refine own_icmpN X12 hx 63 (hb hby at_60) (teq ((own_st pr12_0).1 rfl : ir_12 = (0 : Int32))).2 rfl ?_
    refine own_iconst X12 hx 64 rfl (1 : Int32) (hb hby at_63) (by decide) ?_
    refine own_goto X12 hx 68 (hb hby at_64) (by decide) (by decide) ?_
    refine own_retWZ X12 hx hS3 hlk Bd.returns (by decide) (hb hby at_68) (by decide) (by decide) eh12 hk9 ?_
    exact ⟨rfl, N12⟩
  · rw [hv43]
    refine own_ifnullN X9 hx 46 (hb hby at_43) rfl ?_
    refine own_iconst X9 hx 47 rfl (1 : Int32) (hb hby at_46) (by decide) ?_
    refine own_goto X9 hx 51 (hb hby at_47) (by decide) (by decide) ?_
    refine own_istore X9 hx 53 rfl #[.val (.int x0), .val (.int x1), .val (.int x2), .val (.int x3), .val (.int x4), .val (.ref av43), .val dv_3, .val (.ref b5), .val (.int (1 : Int32))] (hb hby at_51) (by rcases ref_cases pr3_0 with rfl | ⟨_, rfl⟩ <;> rfl) ?_
    refine own_aload X9 hx 55 rfl (hb hby at_53) rfl rfl ?_
    obtain ⟨cq13, kq13, q13a, q13b, q13c⟩ := isOf hZ3 rfl f11
    obtain ⟨_, _, ⟨T13, L13, k13, n13⟩, -, X13, ⟨Lc13, hQ13, l13, y13, z13⟩, st13⟩ := X9.virtualBack hx (y := (⟨"com/example/tidings/tidings/engine/MessageQueue$SendOutcome", "isStored", "()Z"⟩ : MethodName)) (z := (⟨"com/example/tidings/tidings/engine/MessageQueue$SendOutcome", "isStored", "()Z"⟩ : MethodName)) ho3 (mvT hZ3 (hw _ (List.mem_of_getElem? (i := 22) rfl))) (mvT hZ3 (hw _ (List.mem_of_getElem? (i := 23) rfl))) (notFace_of_selects (args := #[]) (mvT hZ3 (hw _ (List.mem_of_getElem? (i := 25) rfl)))) (mvT hZ3 (hw _ (List.mem_of_getElem? (i := 25) rfl))) (mvT hZ3 (hw _ (List.mem_of_getElem? (i := 24) rfl))) (by decide) (backOf (W := 0) (rm5 l Z a0 hw [] b5 (.ref av43) T9.heap n0 Z9 (hv43 ▸ f9_0) rfl) hZ3 (hw _ (List.mem_of_getElem? (i := 26) rfl)) (hw _ (List.mem_of_getElem? (i := 6) rfl)) (by decide) (by decide)) q13a q13c (g := (mkF m 55 #[.val (.int x0), .val (.int x1), .val (.int x2), .val (.int x3), .val (.int x4), .val (.ref av43), .val dv_3, .val (.ref b5), .val (.int (1 : Int32))] [(.ref b5)])) rfl (by rw [hml]; rfl) (Steps.refl _) (argsL := []) (rest := []) (lenOf own_pd8 rfl) rfl (by show 2 * 0 + _ ≤ _; exact Nat.le_of_eq rfl) (hb hby at_55) (fun _ _ => ⟨rfl, rfl, (by decide : 7 + 0 ≤ _), (by decide : 18 + 0 ≤ _)⟩)
    dsimp only [Pt.U, Pt.locs, Pt.cells, Pt.slots] at X13 l13 y13 z13 st13 hQ13
    subst l13 y13 z13
    obtain ⟨ir_13, rfl, N13q, eh13, pr13_0⟩ := hQ13
    have N13 := Fr.app N9 N13q
    refine Goes.tr st13 ?_
    show Goes p e below _ T13 (mkF m 58 #[.val (.int x0), .val (.int x1), .val (.int x2), .val (.int x3), .val (.int x4), .val (.ref av43), .val dv_3, .val (.ref b5), .val (.int (1 : Int32))] [(.int ir_13)])
    refine own_iload X13 hx 60 rfl (hb hby at_58) rfl ?_
    refine own_icmpN X13 hx 63 (hb hby at_60) (teq ((own_st pr13_0).2 (by intro q; cases q) : ir_13 = (1 : Int32))).2 rfl ?_
    refine own_iconst X13 hx 64 rfl (1 : Int32) (hb hby at_63) (by decide) ?_
    refine own_goto X13 hx 68 (hb hby at_64) (by decide) (by decide) ?_
    refine own_retWZ X13 hx hS3 hlk Bd.returns (by decide) (hb hby at_68) (by decide) (by decide) eh13 hk9 ?_
    exact ⟨rfl, N13⟩
set_option maxRecDepth 65536 in
set_option maxHeartbeats 40000000 in
theorem comes_1 {Post : Tables → Env → Array Value → State → Outcome → State → Prop} (hpost : ∀ tb e args s v u, (limb_1_1.after args s (.returned v) u = true ∧ limb_1_2.after args s (.returned v) u = true ∧ True) → ReturnedEndW s (.returned v) u (Jvm.fieldLocs frame_1_writes args s ++ Jvm.arrayLocs frame_1_arrays args s ++ Jvm.staticLocs frame_1_statics s) 24 1152 → Post tb e args s (.returned v) u) :
    ArmFor flags0 classFile x code maxLocals ret World_1 tables_1 room_1 Calls_1 rest_1 Pre_1 Post := by
  intro l hfl _ _ p e ha hc hk s m args below hf hA hF happ hP
  obtain ⟨hcalls, hrest, hpre⟩ := hP
  obtain ⟨-, -, -, hnamed, -, -, -, hat⟩ := (Spec.applies_iff hf).mp happ
  obtain ⟨hg, hn⟩ := and_e (Cond.before_iff.mp (show (Jvm.Cond.and given_1 narrow_1).before args s = true from hpre))
  obtain ⟨gg1, gg2⟩ := and_e hg
  obtain ⟨gg3, gg4⟩ := and_e gg2
  obtain ⟨gg5, gg6⟩ := and_e gg4
  obtain ⟨gg7, gg8⟩ := and_e gg6
  obtain ⟨gg9, gg10⟩ := and_e gg8
  obtain ⟨w0, w1, w2, w3, w4, rfl⟩ : ∃ w0 w1 w2 w3 w4 : Value, args = #[w0, w1, w2, w3, w4] := by
    have hs : args.size = 5 := by simpa [Cond.value, given_1] using gg1
    obtain ⟨L⟩ := args
    match L, hs with
    | [w0, w1, w2, w3, w4], _ => exact ⟨w0, w1, w2, w3, w4, rfl⟩
  have hw := fun d (hd : d ∈ tables_1) => atoms_spec (ws := Jvm.Cond.code x code maxLocals ret :: tables_1) hat d (List.mem_cons_of_mem _ hd)
  have hfit : Fit s := fun {y c} hc i hi => by
    obtain ⟨ha, rfl⟩ := Array.getElem?_eq_some_iff.mp hc
    have q := List.all_eq_true.mp ((Array.all_eq_true_iff_forall_mem.mp hF) _ (Array.getElem_mem ha)) i (List.mem_range.mpr hi)
    simpa [Array.getElem?_eq_getElem hi] using q
  obtain ⟨i0, ei0⟩ := is_v gg3
  obtain rfl : w0 = (.int i0) := Option.some.inj ei0
  obtain ⟨i1, ei1⟩ := is_v gg5
  obtain rfl : w1 = (.int i1) := Option.some.inj ei1
  obtain ⟨i2, ei2⟩ := is_v gg7
  obtain rfl : w2 = (.int i2) := Option.some.inj ei2
  obtain ⟨i3, ei3⟩ := is_v gg9
  obtain rfl : w3 = (.int i3) := Option.some.inj ei3
  obtain ⟨i4, ei4⟩ := is_v gg10
  obtain rfl : w4 = (.int i4) := Option.some.inj ei4
  obtain ⟨hsets, hown0⟩ := atoms_of _ (rest_1_c_eq ▸ (show rest_1_c.before _ s = true from hrest))
  obtain ⟨cs, evc⟩ := is_v (Cond.before_iff.mp (hsets _ (List.mem_of_getElem? (i := 1) rfl)))
  have Sc := Sta.start evc (Or.inl (hsets _ (List.mem_of_getElem? (i := 0) rfl)))
  have hcs := own_nz evc (hsets _ (List.mem_of_getElem? (i := 2) rfl))
  obtain ⟨n, o, h1, h2, h3, _, L, rfl, ⟨rfl, N⟩, hq⟩ := rm0 l s _ hw tables_1 i0 i1 i2 i3 i4 cs s.heap s.heap.size (Nat.le_refl _) Sc hcs p e ha hc hk s m _ below hf ((Spec.applies_iff_loose hf).mp happ).1 ⟨rfl, State.Warmed39.refl s, rfl⟩ trivial
  refine ⟨n, _, h1, h2, h3, hpost _ _ _ _ _ _ ⟨Cond.after_iff.mpr rfl, Cond.after_iff.mpr (eq_i res_at (Term.int_eval (1)) rfl), trivial⟩ ⟨hq.1, hq.2.1, hq.2.2.1, (hq.2.2.2.sift fun y hy => Or.inr (N y hy)).mono (by decide) (by decide)⟩⟩
theorem main_1_1 : Claimed_1_1 := comes_1 fun _ _ _ _ _ _ h hF => ⟨h.1, hF⟩
theorem main_1_2 : Claimed_1_2 := comes_1 fun _ _ _ _ _ _ h hF => ⟨h.2.1, hF⟩
end Jvm.Pilot.@@N@@
namespace Jvm.Pilot.@@N@@
open Jvm Jvm.ClassFile Sem Op Lib Jvm.Free Jvm.Stand Jvm.Pilot.@@N@@.Jvm.D
/-! MADE BY PROGRAM (witnessworld.py) out of the Statement's table words and the real class files: 21 classes; the members and pool entries that the words name. The judged class is class 1, her method 2. -/
namespace start1
open Jvm.ClassFile
def u (s : String) : CpInfo := .utf8 (stringToUtf16 s)
/-- a pool by its gaps: so many unusable entries, then the entry; so many at the end -/
def gap : Nat → List CpInfo → List CpInfo
  | 0, r => r
  | n + 1, r => .unusable :: gap n r
def poolList (es : List (Nat × CpInfo)) (last : Nat) : List CpInfo := es.foldr (fun e r => gap e.1 (e.2 :: r)) (gap last [])
def pool (es : List (Nat × CpInfo)) (last : Nat) : Array CpInfo := ⟨poolList es last⟩
def fileOf (pool : Array CpInfo) (this : Nat) (attrs : Array Attribute := #[]) (ms : Array MethodInfo := #[]) (fl : Nat := 33) (sup : Nat := 0) (ifs : Array Nat := #[]) (fds : Array FieldInfo := #[]) : ClassFile where
  minorVersion := 0
  majorVersion := 65
  constantPool := pool
  accessFlags := fl
  thisClass := this
  superClass := sup
  interfaces := ifs
  fields := fds
  methods := ms
  attributes := attrs
def plain (name : String) (sup : Option ClassId) : Class where
  name := name
  kind := .ordinary
  loader := none
  accessFlags := 33
  super := sup
  interfaces := #[]
  cf := none
  fields := #[]
  methods := #[]
  instanceTypes := #[]
  staticTypes := #[]
  resolved := #[]
  callSites := []
  init := .initialized
  statics := none
  mirror := none

def pool0 : Array CpInfo := pool [(5, u "<init>"), (0, u "()V"), (1, .class_ 10), (1, u "java/lang/Object")] 113

def k0c0 : Code := { maxStack := 0, maxLocals := 1, code := object_method_1_code, exceptionTable := #[], attributes := #[] }
def k0m0 : Method := { name := "<init>", desc := "()V", sig := { parameters := [], returnType := none }, accessFlags := 1, code := some k0c0 }
/-- java/lang/Object -/
def k0 : Class := { plain "java/lang/Object" none with
  accessFlags := 33
  interfaces := #[]
  cf := some (fileOf pool0 8 #[] #[{ accessFlags := 1, nameIndex := 5, descriptorIndex := 6, attributes := #[] }] 33 0 #[] #[])
  fields := #[]
  methods := #[k0m0]
  instanceTypes := #[]
  staticTypes := #[]
  resolved := Array.replicate 124 none
  statics := none }

def pool1 : Array CpInfo := pool [(2, .class_ 4), (1, u "java/lang/Object"), (0, u "<init>"), (0, u "()V"), (0, .string 8), (0, u ""), (0, .class_ 10), (0, u "java/lang/String"), (0, .methodref 9 12), (0, .nameAndType 5 13), (0, u "([C)V"), (0, .methodref 15 16), (0, .class_ 17), (0, .nameAndType 18 19), (0, u "com/example/tidings/tidings/engine/SendOutcomeIsStoredPinLaw"), (0, u "drawn"), (0, u "(IIII)Ljava/lang/String;"), (0, .class_ 21), (0, u "com/example/tidings/tidings/engine/MessageQueue$SendOutcome"), (0, .methodref 20 23), (0, .nameAndType 5 24), (0, u "(Ljava/lang/String;Ljava/lang/String;)V"), (0, .methodref 20 26), (0, .nameAndType 27 28), (0, u "isStored"), (0, u "()Z"), (3, u "law"), (0, u "(IIIII)Z")] 6

def k1m0 : Method := { name := "<init>", desc := "()V", sig := { parameters := [], returnType := none }, accessFlags := 2, code := none }
def k1c1 : Code := { maxStack := 4, maxLocals := 5, code := method_2_code, exceptionTable := #[], attributes := #[] }
def k1m1 : Method := { name := "drawn", desc := "(IIII)Ljava/lang/String;", sig := { parameters := [.int, .int, .int, .int], returnType := some (.object "java/lang/String") }, accessFlags := 10, code := some k1c1 }
def k1c2 : Code := { maxStack := 4, maxLocals := 9, code := code, exceptionTable := #[], attributes := #[] }
def k1m2 : Method := { name := "law", desc := "(IIIII)Z", sig := { parameters := [.int, .int, .int, .int, .int], returnType := some .boolean }, accessFlags := 9, code := some k1c2 }
/-- com/example/tidings/tidings/engine/SendOutcomeIsStoredPinLaw -/
def k1 : Class := { plain "com/example/tidings/tidings/engine/SendOutcomeIsStoredPinLaw" (some 0) with
  accessFlags := 49
  interfaces := #[]
  cf := some (fileOf pool1 15 #[] #[{ accessFlags := 2, nameIndex := 5, descriptorIndex := 6, attributes := #[] }, { accessFlags := 10, nameIndex := 18, descriptorIndex := 19, attributes := #[] }, { accessFlags := 9, nameIndex := 32, descriptorIndex := 33, attributes := #[] }] 49 2 #[] #[])
  fields := #[]
  methods := #[k1m0, k1m1, k1m2]
  instanceTypes := #[]
  staticTypes := #[]
  resolved := Array.replicate 40 none
  statics := none }

def pool2 : Array CpInfo := pool [(1, .methodref 2 3), (0, .class_ 4), (0, .nameAndType 5 6), (0, u "java/lang/Object"), (0, u "<init>"), (0, u "()V"), (0, .class_ 8), (0, u "java/lang/Record")] 13

def k2c0 : Code := { maxStack := 1, maxLocals := 1, code := jdk_30_method_1_code, exceptionTable := #[], attributes := #[] }
def k2m0 : Method := { name := "<init>", desc := "()V", sig := { parameters := [], returnType := none }, accessFlags := 4, code := some k2c0 }
/-- java/lang/Record -/
def k2 : Class := { plain "java/lang/Record" (some 0) with
  accessFlags := 1057
  interfaces := #[]
  cf := some (fileOf pool2 7 #[] #[{ accessFlags := 4, nameIndex := 5, descriptorIndex := 6, attributes := #[] }] 1057 2 #[] #[])
  fields := #[]
  methods := #[k2m0]
  instanceTypes := #[]
  staticTypes := #[]
  resolved := Array.replicate 22 none
  statics := none }

def pool3 : Array CpInfo := pool [(1, .methodref 2 3), (0, .class_ 4), (0, .nameAndType 5 6), (0, u "java/lang/Record"), (0, u "<init>"), (0, u "()V"), (0, .fieldref 8 9), (0, .class_ 10), (0, .nameAndType 11 12), (0, u "com/example/tidings/tidings/engine/MessageQueue$SendOutcome"), (0, u "messageId"), (0, u "Ljava/lang/String;"), (0, .fieldref 8 14), (0, .nameAndType 15 12), (0, u "refusal"), (12, u "(Ljava/lang/String;Ljava/lang/String;)V"), (3, u "isStored"), (0, u "()Z"), (7, .class_ 42), (0, u "com/example/tidings/tidings/engine/MessageQueue")] 20

def k3c0 : Code := { maxStack := 2, maxLocals := 3, code := prog_13_method_1_code, exceptionTable := #[], attributes := #[] }
def k3m0 : Method := { name := "<init>", desc := "(Ljava/lang/String;Ljava/lang/String;)V", sig := { parameters := [(.object "java/lang/String"), (.object "java/lang/String")], returnType := none }, accessFlags := 1, code := some k3c0 }
def k3c1 : Code := { maxStack := 1, maxLocals := 1, code := prog_13_method_2_code, exceptionTable := #[], attributes := #[] }
def k3m1 : Method := { name := "isStored", desc := "()Z", sig := { parameters := [], returnType := some .boolean }, accessFlags := 1, code := some k3c1 }
/-- com/example/tidings/tidings/engine/MessageQueue$SendOutcome -/
def k3 : Class := { plain "com/example/tidings/tidings/engine/MessageQueue$SendOutcome" (some 2) with
  accessFlags := 49
  interfaces := #[]
  cf := some (fileOf pool3 8 #[.nestHost 41] #[{ accessFlags := 1, nameIndex := 5, descriptorIndex := 28, attributes := #[] }, { accessFlags := 1, nameIndex := 32, descriptorIndex := 33, attributes := #[] }] 49 2 #[] #[{ accessFlags := 18, nameIndex := 11, descriptorIndex := 12, attributes := #[] }, { accessFlags := 18, nameIndex := 15, descriptorIndex := 12, attributes := #[] }])
  fields := #[{ name := "messageId", type := (.object "java/lang/String"), accessFlags := 18, slot := 0, constantValue := 0 }, { name := "refusal", type := (.object "java/lang/String"), accessFlags := 18, slot := 1, constantValue := 0 }]
  methods := #[k3m0, k3m1]
  instanceTypes := #[(.object "java/lang/String"), (.object "java/lang/String")]
  staticTypes := #[]
  resolved := Array.replicate 63 none
  statics := none }

def pool4 : Array CpInfo := pool [(1, .class_ 2), (0, u "java/io/Serializable"), (0, .class_ 4), (0, u "java/lang/Object")] 2

/-- java/io/Serializable -/
def k4 : Class := { plain "java/io/Serializable" (some 0) with
  accessFlags := 1537
  interfaces := #[]
  cf := some (fileOf pool4 1 #[] #[] 1537 3 #[] #[])
  fields := #[]
  methods := #[]
  instanceTypes := #[]
  staticTypes := #[]
  resolved := Array.replicate 7 none
  statics := none }

def pool5 : Array CpInfo := pool [(1, .class_ 2), (0, u "java/lang/Comparable"), (0, .class_ 4), (0, u "java/lang/Object")] 7

/-- java/lang/Comparable -/
def k5 : Class := { plain "java/lang/Comparable" (some 0) with
  accessFlags := 1537
  interfaces := #[]
  cf := some (fileOf pool5 1 #[] #[] 1537 3 #[] #[])
  fields := #[]
  methods := #[]
  instanceTypes := #[]
  staticTypes := #[]
  resolved := Array.replicate 12 none
  statics := none }

def pool6 : Array CpInfo := pool [(2, .class_ 4), (1, u "java/lang/CharSequence"), (42, .class_ 48), (0, u "java/lang/CharSequence$1CodePointIterator"), (10, .class_ 60), (0, u "java/lang/CharSequence$1CharIterator"), (5, .class_ 67), (0, u "java/lang/Object")] 63

/-- java/lang/CharSequence -/
def k6 : Class := { plain "java/lang/CharSequence" (some 0) with
  accessFlags := 1537
  interfaces := #[]
  cf := some (fileOf pool6 2 #[.nestMembers #[47, 59]] #[] 1537 66 #[] #[])
  fields := #[]
  methods := #[]
  instanceTypes := #[]
  staticTypes := #[]
  resolved := Array.replicate 131 none
  statics := none }

def pool7 : Array CpInfo := pool [(1, .class_ 2), (0, u "java/lang/constant/Constable"), (0, .class_ 4), (0, u "java/lang/Object")] 6

/-- java/lang/constant/Constable -/
def k7 : Class := { plain "java/lang/constant/Constable" (some 0) with
  accessFlags := 1537
  interfaces := #[]
  cf := some (fileOf pool7 1 #[] #[] 1537 3 #[] #[])
  fields := #[]
  methods := #[]
  instanceTypes := #[]
  staticTypes := #[]
  resolved := Array.replicate 11 none
  statics := none }

def pool8 : Array CpInfo := pool [(1, .class_ 2), (0, u "java/lang/constant/ConstantDesc"), (0, .class_ 4), (0, u "java/lang/Object")] 32

/-- java/lang/constant/ConstantDesc -/
def k8 : Class := { plain "java/lang/constant/ConstantDesc" (some 0) with
  accessFlags := 1537
  interfaces := #[]
  cf := some (fileOf pool8 1 #[] #[] 1537 3 #[] #[])
  fields := #[]
  methods := #[]
  instanceTypes := #[]
  staticTypes := #[]
  resolved := Array.replicate 37 none
  statics := none }

def pool9 : Array CpInfo := pool [(1, .methodref 2 3), (0, .class_ 4), (0, .nameAndType 5 6), (0, u "java/lang/Object"), (0, u "<init>"), (0, u "()V"), (2, .fieldref 10 11), (0, .class_ 12), (0, .nameAndType 13 14), (0, u "java/lang/String"), (0, u "value"), (0, u "[B"), (0, .fieldref 10 16), (0, .nameAndType 17 18), (0, u "coder"), (0, u "B"), (2, u "hash"), (0, u "I"), (2, u "hashIsZero"), (0, u "Z"), (0, .methodref 10 28), (0, .nameAndType 5 29), (0, u "([CIILjava/lang/Void;)V"), (8, .fieldref 10 39), (0, .nameAndType 40 26), (0, u "COMPACT_STRINGS"), (1, .class_ 44), (1, u "java/lang/StringUTF16"), (0, u "compress"), (1, .methodref 42 48), (0, .nameAndType 49 50), (0, u "coderFromArrayLen"), (0, u "([BI)B"), (126, .methodref 42 178), (0, .nameAndType 45 179), (0, u "([CII)[B"), (395, .class_ 576), (0, u "java/lang/CharSequence"), (22, u "CASE_INSENSITIVE_ORDER"), (0, u "Ljava/util/Comparator;"), (409, u "([C)V"), (90, u "serialPersistentFields"), (0, u "[Ljava/io/ObjectStreamField;"), (0, .class_ 1104), (0, u "java/lang/String$CaseInsensitiveComparator"), (1, .class_ 1107), (0, u "java/io/Serializable"), (0, .class_ 1109), (0, u "java/lang/Comparable"), (0, .class_ 1111), (0, u "java/lang/constant/Constable"), (0, .class_ 1113), (0, u "java/lang/constant/ConstantDesc"), (2, u "serialVersionUID"), (0, u "J"), (3, u "REPL"), (0, u "C"), (2, u "LATIN1"), (1, u "UTF16")] 323

def k9m0 : Method := { name := "<init>", desc := "()V", sig := { parameters := [], returnType := none }, accessFlags := 1, code := none }
def k9c1 : Code := { maxStack := 5, maxLocals := 2, code := jdk_42_method_3_code, exceptionTable := #[], attributes := #[] }
def k9m1 : Method := { name := "<init>", desc := "([C)V", sig := { parameters := [(.array .char)], returnType := none }, accessFlags := 1, code := some k9c1 }
def k9c2 : Code := { maxStack := 4, maxLocals := 6, code := jdk_42_method_149_code, exceptionTable := #[], attributes := #[] }
def k9m2 : Method := { name := "<init>", desc := "([CIILjava/lang/Void;)V", sig := { parameters := [(.array .char), .int, .int, (.object "java/lang/Void")], returnType := none }, accessFlags := 2, code := some k9c2 }
/-- java/lang/String -/
def k9 : Class := { plain "java/lang/String" (some 0) with
  accessFlags := 49
  interfaces := #[4, 5, 6, 7, 8]
  cf := some (fileOf pool9 10 #[.nestMembers #[1103]] #[{ accessFlags := 1, nameIndex := 5, descriptorIndex := 6, attributes := #[] }, { accessFlags := 1, nameIndex := 5, descriptorIndex := 1010, attributes := #[] }, { accessFlags := 2, nameIndex := 5, descriptorIndex := 29, attributes := #[] }] 49 2 #[1106, 1108, 575, 1110, 1112] #[{ accessFlags := 18, nameIndex := 13, descriptorIndex := 14, attributes := #[] }, { accessFlags := 18, nameIndex := 17, descriptorIndex := 18, attributes := #[] }, { accessFlags := 2, nameIndex := 21, descriptorIndex := 22, attributes := #[] }, { accessFlags := 2, nameIndex := 25, descriptorIndex := 26, attributes := #[] }, { accessFlags := 26, nameIndex := 1116, descriptorIndex := 1117, attributes := #[] }, { accessFlags := 24, nameIndex := 40, descriptorIndex := 26, attributes := #[] }, { accessFlags := 26, nameIndex := 1101, descriptorIndex := 1102, attributes := #[] }, { accessFlags := 26, nameIndex := 1121, descriptorIndex := 1122, attributes := #[] }, { accessFlags := 25, nameIndex := 599, descriptorIndex := 600, attributes := #[] }, { accessFlags := 24, nameIndex := 1125, descriptorIndex := 18, attributes := #[] }, { accessFlags := 24, nameIndex := 1127, descriptorIndex := 18, attributes := #[] }])
  fields := #[{ name := "value", type := (.array .byte), accessFlags := 18, slot := 0, constantValue := 0 }, { name := "coder", type := .byte, accessFlags := 18, slot := 1, constantValue := 0 }, { name := "hash", type := .int, accessFlags := 2, slot := 2, constantValue := 0 }, { name := "hashIsZero", type := .boolean, accessFlags := 2, slot := 3, constantValue := 0 }, { name := "serialVersionUID", type := .long, accessFlags := 26, slot := 0, constantValue := 0 }, { name := "COMPACT_STRINGS", type := .boolean, accessFlags := 24, slot := 1, constantValue := 0 }, { name := "serialPersistentFields", type := (.array (.object "java/io/ObjectStreamField")), accessFlags := 26, slot := 2, constantValue := 0 }, { name := "REPL", type := .char, accessFlags := 26, slot := 3, constantValue := 0 }, { name := "CASE_INSENSITIVE_ORDER", type := (.object "java/util/Comparator"), accessFlags := 25, slot := 4, constantValue := 0 }, { name := "LATIN1", type := .byte, accessFlags := 24, slot := 5, constantValue := 0 }, { name := "UTF16", type := .byte, accessFlags := 24, slot := 6, constantValue := 0 }]
  methods := #[k9m0, k9m1, k9m2]
  instanceTypes := #[(.array .byte), .byte, .int, .boolean]
  staticTypes := #[.long, .boolean, (.array (.object "java/io/ObjectStreamField")), .char, (.object "java/util/Comparator"), .byte, .byte]
  resolved := Array.replicate 1451 none
  statics := some 0 }

def pool10 : Array CpInfo := pool [(6, .class_ 8), (1, u "java/lang/Object"), (0, u "<init>"), (0, u "()V"), (1, .class_ 14), (1, u "java/lang/StringUTF16"), (31, u "$assertionsDisabled"), (0, u "Z"), (13, u "HI_BYTE_SHIFT"), (0, u "I"), (2, u "LO_BYTE_SHIFT"), (49, .methodref 12 116), (0, .nameAndType 117 118), (0, u "compress"), (0, u "([CI[BII)I"), (3, u "([CII)[B"), (138, u "coderFromArrayLen"), (0, u "([BI)B"), (106, .class_ 371), (1, u "java/lang/StringUTF16$LinesSpliterator"), (58, u "MAX_LENGTH"), (196, .class_ 628), (0, u "java/lang/StringUTF16$CodePointsSpliterator"), (0, .class_ 630), (0, u "java/lang/StringUTF16$CharsSpliterator")] 4

def k10m0 : Method := { name := "<init>", desc := "()V", sig := { parameters := [], returnType := none }, accessFlags := 0, code := none }
def k10c1 : Code := { maxStack := 2, maxLocals := 2, code := jdk_52_method_15_code, exceptionTable := #[], attributes := #[] }
def k10m1 : Method := { name := "coderFromArrayLen", desc := "([BI)B", sig := { parameters := [(.array .byte), .int], returnType := some .byte }, accessFlags := 8, code := some k10c1 }
def k10c2 : Code := { maxStack := 5, maxLocals := 6, code := jdk_52_method_16_code, exceptionTable := #[], attributes := #[] }
def k10m2 : Method := { name := "compress", desc := "([CII)[B", sig := { parameters := [(.array .char), .int, .int], returnType := some (.array .byte) }, accessFlags := 9, code := some k10c2 }
def k10c3 : Code := { maxStack := 3, maxLocals := 7, code := jdk_52_method_21_code, exceptionTable := #[], attributes := #[] }
def k10m3 : Method := { name := "compress", desc := "([CI[BII)I", sig := { parameters := [(.array .char), .int, (.array .byte), .int, .int], returnType := some .int }, accessFlags := 9, code := some k10c3 }
/-- java/lang/StringUTF16 -/
def k10 : Class := { plain "java/lang/StringUTF16" (some 0) with
  accessFlags := 48
  interfaces := #[]
  cf := some (fileOf pool10 12 #[.nestMembers #[627, 629, 369]] #[{ accessFlags := 0, nameIndex := 9, descriptorIndex := 10, attributes := #[] }, { accessFlags := 8, nameIndex := 261, descriptorIndex := 262, attributes := #[] }, { accessFlags := 9, nameIndex := 117, descriptorIndex := 122, attributes := #[] }, { accessFlags := 9, nameIndex := 117, descriptorIndex := 118, attributes := #[] }] 48 6 #[] #[{ accessFlags := 26, nameIndex := 61, descriptorIndex := 62, attributes := #[] }, { accessFlags := 26, nameIndex := 65, descriptorIndex := 62, attributes := #[] }, { accessFlags := 24, nameIndex := 430, descriptorIndex := 62, attributes := #[] }, { accessFlags := 4120, nameIndex := 46, descriptorIndex := 47, attributes := #[] }])
  fields := #[{ name := "HI_BYTE_SHIFT", type := .int, accessFlags := 26, slot := 0, constantValue := 0 }, { name := "LO_BYTE_SHIFT", type := .int, accessFlags := 26, slot := 1, constantValue := 0 }, { name := "MAX_LENGTH", type := .int, accessFlags := 24, slot := 2, constantValue := 0 }, { name := "$assertionsDisabled", type := .boolean, accessFlags := 4120, slot := 3, constantValue := 0 }]
  methods := #[k10m0, k10m1, k10m2, k10m3]
  instanceTypes := #[]
  staticTypes := #[.int, .int, .int, .boolean]
  resolved := Array.replicate 635 none
  statics := none }

def pool11 : Array CpInfo := pool [(4, .class_ 6), (1, u "java/lang/Object"), (0, u "<init>"), (0, u "()V"), (5, .class_ 16), (1, u "java/lang/StringLatin1"), (104, u "$assertionsDisabled"), (0, u "Z"), (98, .class_ 223), (1, u "java/lang/StringLatin1$LinesSpliterator"), (166, .class_ 391), (0, u "java/lang/StringLatin1$CharsSpliterator")] 3

def k11m0 : Method := { name := "<init>", desc := "()V", sig := { parameters := [], returnType := none }, accessFlags := 0, code := none }
/-- java/lang/StringLatin1 -/
def k11 : Class := { plain "java/lang/StringLatin1" (some 0) with
  accessFlags := 48
  interfaces := #[]
  cf := some (fileOf pool11 14 #[.nestMembers #[390, 221]] #[{ accessFlags := 0, nameIndex := 7, descriptorIndex := 8, attributes := #[] }] 48 4 #[] #[{ accessFlags := 4120, nameIndex := 121, descriptorIndex := 122, attributes := #[] }])
  fields := #[{ name := "$assertionsDisabled", type := .boolean, accessFlags := 4120, slot := 0, constantValue := 0 }]
  methods := #[k11m0]
  instanceTypes := #[]
  staticTypes := #[.boolean]
  resolved := Array.replicate 395 none
  statics := none }

def pool12 : Array CpInfo := pool [(2, .class_ 4), (1, u "java/lang/Object"), (0, u "<init>"), (0, u "()V"), (17, .class_ 26), (1, u "jdk/internal/util/Preconditions"), (28, .class_ 56), (0, u "jdk/internal/util/Preconditions$4"), (57, .class_ 115), (0, u "jdk/internal/util/Preconditions$1"), (7, u "SIOOBE_FORMATTER"), (0, u "Ljava/util/function/BiFunction;"), (0, .class_ 126), (0, u "jdk/internal/util/Preconditions$2"), (3, u "AIOOBE_FORMATTER"), (0, .class_ 132), (0, u "jdk/internal/util/Preconditions$3"), (3, u "IOOBE_FORMATTER")] 57

def k12m0 : Method := { name := "<init>", desc := "()V", sig := { parameters := [], returnType := none }, accessFlags := 1, code := none }
/-- jdk/internal/util/Preconditions -/
def k12 : Class := { plain "jdk/internal/util/Preconditions" (some 0) with
  accessFlags := 33
  interfaces := #[]
  cf := some (fileOf pool12 24 #[.nestMembers #[55, 131, 125, 114]] #[{ accessFlags := 1, nameIndex := 5, descriptorIndex := 6, attributes := #[] }] 33 2 #[] #[{ accessFlags := 25, nameIndex := 123, descriptorIndex := 124, attributes := #[] }, { accessFlags := 25, nameIndex := 130, descriptorIndex := 124, attributes := #[] }, { accessFlags := 25, nameIndex := 136, descriptorIndex := 124, attributes := #[] }])
  fields := #[{ name := "SIOOBE_FORMATTER", type := (.object "java/util/function/BiFunction"), accessFlags := 25, slot := 0, constantValue := 0 }, { name := "AIOOBE_FORMATTER", type := (.object "java/util/function/BiFunction"), accessFlags := 25, slot := 1, constantValue := 0 }, { name := "IOOBE_FORMATTER", type := (.object "java/util/function/BiFunction"), accessFlags := 25, slot := 2, constantValue := 0 }]
  methods := #[k12m0]
  instanceTypes := #[]
  staticTypes := #[(.object "java/util/function/BiFunction"), (.object "java/util/function/BiFunction"), (.object "java/util/function/BiFunction")]
  resolved := Array.replicate 194 none
  statics := some 1 }

def pool13 : Array CpInfo := pool [(9, u "<init>"), (6, .class_ 18), (1, u "java/lang/Object"), (0, u "()V"), (1, .class_ 23), (1, u "jdk/internal/util/ArraysSupport"), (0, u "LOG2_ARRAY_LONG_INDEX_SCALE"), (0, u "I"), (2, u "U"), (0, u "Ljdk/internal/misc/Unsafe;"), (8, u "BIG_ENDIAN"), (0, u "Z"), (8, u "LOG2_BYTE_BIT_SIZE"), (4, u "LOG2_ARRAY_INT_INDEX_SCALE"), (54, u "JLA"), (0, u "Ljdk/internal/access/JavaLangAccess;"), (11, u "LOG2_ARRAY_BOOLEAN_INDEX_SCALE"), (9, u "LOG2_ARRAY_BYTE_INDEX_SCALE"), (5, u "LOG2_ARRAY_CHAR_INDEX_SCALE"), (5, u "LOG2_ARRAY_SHORT_INDEX_SCALE"), (18, u "LOG2_ARRAY_FLOAT_INDEX_SCALE"), (24, u "LOG2_ARRAY_DOUBLE_INDEX_SCALE"), (89, u "T_BOOLEAN"), (2, u "T_CHAR"), (1, u "T_FLOAT"), (1, u "T_DOUBLE"), (1, u "T_BYTE"), (1, u "T_SHORT"), (1, u "T_INT"), (1, u "T_LONG"), (1, u "SOFT_MAX_ARRAY_LENGTH")] 83

def k13m0 : Method := { name := "<init>", desc := "()V", sig := { parameters := [], returnType := none }, accessFlags := 2, code := none }
/-- jdk/internal/util/ArraysSupport -/
def k13 : Class := { plain "jdk/internal/util/ArraysSupport" (some 0) with
  accessFlags := 33
  interfaces := #[]
  cf := some (fileOf pool13 21 #[] #[{ accessFlags := 2, nameIndex := 9, descriptorIndex := 19, attributes := #[] }] 33 16 #[] #[{ accessFlags := 24, nameIndex := 28, descriptorIndex := 29, attributes := #[] }, { accessFlags := 26, nameIndex := 38, descriptorIndex := 39, attributes := #[] }, { accessFlags := 25, nameIndex := 121, descriptorIndex := 25, attributes := #[] }, { accessFlags := 25, nameIndex := 131, descriptorIndex := 25, attributes := #[] }, { accessFlags := 25, nameIndex := 137, descriptorIndex := 25, attributes := #[] }, { accessFlags := 25, nameIndex := 143, descriptorIndex := 25, attributes := #[] }, { accessFlags := 25, nameIndex := 53, descriptorIndex := 25, attributes := #[] }, { accessFlags := 25, nameIndex := 24, descriptorIndex := 25, attributes := #[] }, { accessFlags := 25, nameIndex := 162, descriptorIndex := 25, attributes := #[] }, { accessFlags := 25, nameIndex := 187, descriptorIndex := 25, attributes := #[] }, { accessFlags := 26, nameIndex := 48, descriptorIndex := 25, attributes := #[] }, { accessFlags := 25, nameIndex := 277, descriptorIndex := 25, attributes := #[] }, { accessFlags := 25, nameIndex := 280, descriptorIndex := 25, attributes := #[] }, { accessFlags := 25, nameIndex := 282, descriptorIndex := 25, attributes := #[] }, { accessFlags := 25, nameIndex := 284, descriptorIndex := 25, attributes := #[] }, { accessFlags := 25, nameIndex := 286, descriptorIndex := 25, attributes := #[] }, { accessFlags := 25, nameIndex := 288, descriptorIndex := 25, attributes := #[] }, { accessFlags := 25, nameIndex := 290, descriptorIndex := 25, attributes := #[] }, { accessFlags := 25, nameIndex := 292, descriptorIndex := 25, attributes := #[] }, { accessFlags := 26, nameIndex := 108, descriptorIndex := 109, attributes := #[] }, { accessFlags := 25, nameIndex := 294, descriptorIndex := 25, attributes := #[] }])
  fields := #[{ name := "U", type := (.object "jdk/internal/misc/Unsafe"), accessFlags := 24, slot := 0, constantValue := 0 }, { name := "BIG_ENDIAN", type := .boolean, accessFlags := 26, slot := 1, constantValue := 0 }, { name := "LOG2_ARRAY_BOOLEAN_INDEX_SCALE", type := .int, accessFlags := 25, slot := 2, constantValue := 0 }, { name := "LOG2_ARRAY_BYTE_INDEX_SCALE", type := .int, accessFlags := 25, slot := 3, constantValue := 0 }, { name := "LOG2_ARRAY_CHAR_INDEX_SCALE", type := .int, accessFlags := 25, slot := 4, constantValue := 0 }, { name := "LOG2_ARRAY_SHORT_INDEX_SCALE", type := .int, accessFlags := 25, slot := 5, constantValue := 0 }, { name := "LOG2_ARRAY_INT_INDEX_SCALE", type := .int, accessFlags := 25, slot := 6, constantValue := 0 }, { name := "LOG2_ARRAY_LONG_INDEX_SCALE", type := .int, accessFlags := 25, slot := 7, constantValue := 0 }, { name := "LOG2_ARRAY_FLOAT_INDEX_SCALE", type := .int, accessFlags := 25, slot := 8, constantValue := 0 }, { name := "LOG2_ARRAY_DOUBLE_INDEX_SCALE", type := .int, accessFlags := 25, slot := 9, constantValue := 0 }, { name := "LOG2_BYTE_BIT_SIZE", type := .int, accessFlags := 26, slot := 10, constantValue := 0 }, { name := "T_BOOLEAN", type := .int, accessFlags := 25, slot := 11, constantValue := 0 }, { name := "T_CHAR", type := .int, accessFlags := 25, slot := 12, constantValue := 0 }, { name := "T_FLOAT", type := .int, accessFlags := 25, slot := 13, constantValue := 0 }, { name := "T_DOUBLE", type := .int, accessFlags := 25, slot := 14, constantValue := 0 }, { name := "T_BYTE", type := .int, accessFlags := 25, slot := 15, constantValue := 0 }, { name := "T_SHORT", type := .int, accessFlags := 25, slot := 16, constantValue := 0 }, { name := "T_INT", type := .int, accessFlags := 25, slot := 17, constantValue := 0 }, { name := "T_LONG", type := .int, accessFlags := 25, slot := 18, constantValue := 0 }, { name := "JLA", type := (.object "jdk/internal/access/JavaLangAccess"), accessFlags := 26, slot := 19, constantValue := 0 }, { name := "SOFT_MAX_ARRAY_LENGTH", type := .int, accessFlags := 25, slot := 20, constantValue := 0 }]
  methods := #[k13m0]
  instanceTypes := #[]
  staticTypes := #[(.object "jdk/internal/misc/Unsafe"), .boolean, .int, .int, .int, .int, .int, .int, .int, .int, .int, .int, .int, .int, .int, .int, .int, .int, .int, (.object "jdk/internal/access/JavaLangAccess"), .int]
  resolved := Array.replicate 378 none
  statics := none }

def pool14 : Array CpInfo := pool [(1, u "java/lang/Cloneable"), (0, .class_ 1), (0, u "java/lang/Object"), (0, .class_ 3)] 3

/-- java/lang/Cloneable -/
def k14 : Class := { plain "java/lang/Cloneable" (some 0) with
  accessFlags := 1537
  interfaces := #[]
  cf := some (fileOf pool14 2 #[] #[] 1537 4 #[] #[])
  fields := #[]
  methods := #[]
  instanceTypes := #[]
  staticTypes := #[]
  resolved := Array.replicate 8 none
  statics := none }

/-- the primitive byte -/
def k15 : Class := { plain "byte" none with kind := .primitive 'B', accessFlags := 0x411 }
/-- [B -/
def k16 : Class := { plain "[B" (some 0) with kind := .array 15 .byte, interfaces := #[14, 4], accessFlags := 1041 }

/-- the primitive char -/
def k17 : Class := { plain "char" none with kind := .primitive 'C', accessFlags := 0x411 }
/-- [C -/
def k18 : Class := { plain "[C" (some 0) with kind := .array 17 .char, interfaces := #[14, 4], accessFlags := 1041 }

/-- the primitive int -/
def k19 : Class := { plain "int" none with kind := .primitive 'I', accessFlags := 0x411 }
/-- [I -/
def k20 : Class := { plain "[I" (some 0) with kind := .array 19 .int, interfaces := #[14, 4], accessFlags := 1041 }

def heap : Heap := #[{ cls := 9, slots := #[.long 0, .int 1, .null, .int 0, .null, .int 0, .int 0], vm := .statics 9 },
  { cls := 12, slots := #[.null, .null, .null], vm := .statics 12 }]
def classes : Array Class := #[k0, k1, k2, k3, k4, k5, k6, k7, k8, k9, k10, k11, k12, k13, k14, k15, k16, k17, k18, k19, k20]
def interned : List (Array UInt16 × Addr) := []
def slotsUsed : Nat := 10
def theMethod : MethodId := ⟨1, 2⟩
def args0 : Array Value := #[.int 0, .int 1, .int 2, .int 3, .int 4]
def aboutOver (below : List Frame) : State where
  vm := { classes := classes, interned := interned.toArray }
  heap := heap
  slotsUsed := slotsUsed
  threads := #[{ frames := .invoking theMethod args0 :: below }]
def below0 : List Frame := [.native { method := ⟨0, 0⟩, args := #[] }]
def about1 : State := aboutOver below0
def p0 : Program := .bare "" "" ""
def e0 : Env := launch0.env 0 0 0
theorem w_frames : about1.frames = Frame.invoking theMethod args0 :: below0 := rfl
set_option maxRecDepth 65536 in
theorem w_args : argsFit about1.vm theMethod args0 = true := by decide +kernel
set_option maxRecDepth 65536 in
theorem w_heap : heapFits about1 = true := by decide +kernel
set_option maxRecDepth 65536 in
theorem w_runnable : about1.curStatus? = some .runnable := by decide +kernel
set_option maxRecDepth 65536 in
theorem w_alone : about1.alone = true := by decide +kernel
set_option maxRecDepth 65536 in
theorem w_named : about1.methodNamed? x = some theMethod := by decide +kernel
set_option maxRecDepth 65536 in
theorem w_hears : about1.hears theMethod below0 = true := by decide +kernel
set_option maxRecDepth 65536 in
theorem w_ripe : about1.ripe theMethod args0 below0 = true := by decide +kernel
theorem w_running : about1.status = .running := rfl
set_option maxRecDepth 65536 in
theorem w_room : about1.hasRoom e0.platform room_1 = true :=
  launch0.hasRoom_least _ room_1 (by decide +kernel) (by decide +kernel) (by decide +kernel) (by decide +kernel) (by decide +kernel) (by decide +kernel)
theorem allAtoms_all (ts : List Jvm.Cond) (a : Array Jvm.Value) (st : Jvm.State) : (allAtoms ts).before a st = ts.all (fun c => c.before a st) := by
  induction ts with
  | nil => rfl
  | cons c t ih =>
    show (Jvm.Cond.and c (allAtoms t)).before a st = _
    rw [Jvm.Cond.before_and, ih, List.all_cons]
def words1 : List Jvm.Cond := Jvm.Cond.code x code maxLocals ret :: tables_1
/-- a 'code' word, met by the world's own term for the bytes: nothing is compared byte by byte -/
theorem code_word {y : MethodName} {bytes : ByteArray} {mx : Nat} {rt : Option FieldType} {a : Array Value} {s : State} {m : MethodId} {meth : Method} {c : Code} (h1 : s.methodNamed? y = some m) (h2 : s.vm.method? m = some meth) (h3 : meth.code = some c) (h4 : c.code = bytes)
    (h5 : (c.maxLocals == mx && c.exceptionTable.isEmpty && decide (c.maxStack ≤ mostOperands) && decide (meth.sig.returnType = rt) && !meth.locks && decide (parseMethodDescriptor y.desc = some meth.sig)) = true) : (Jvm.Cond.code y bytes mx rt).before a s = true := by
  simp only [Bool.and_eq_true, beq_iff_eq, Bool.not_eq_true', decide_eq_true_eq] at h5
  obtain ⟨⟨⟨⟨⟨g1, g2⟩, g3⟩, g4⟩, g5⟩, g6⟩ := h5
  simp [Cond.before, Cond.holds, Cond.value, h1, h2, h3, h4, g1, g2, g3, g4, g5, g6]
def isCode : Jvm.Cond → Bool
  | .code _ _ _ _ => true
  | _ => false
theorem all_split {L : List Jvm.Cond} {P : Jvm.Cond → Bool} (h1 : L.all (fun c => isCode c || P c) = true) (h2 : ∀ c ∈ L.filter isCode, P c = true) : L.all P = true := by
  refine List.all_eq_true.mpr fun c hc => ?_
  have h := List.all_eq_true.mp h1 c hc
  rcases Bool.eq_false_or_eq_true (isCode c) with hi | hi
  · exact h2 c (List.mem_filter.mpr ⟨hc, hi⟩)
  · simpa [hi] using h
set_option maxRecDepth 65536 in
theorem w_c0 : (Jvm.Cond.code x code maxLocals ret).before args0 about1 = true := code_word (m := ⟨1, 2⟩) (meth := k1m2) (c := k1c2) (by decide +kernel) rfl rfl rfl (by decide +kernel)
set_option maxRecDepth 65536 in
theorem w_c1 : (Jvm.Cond.code ({ cls := "com/example/tidings/tidings/engine/SendOutcomeIsStoredPinLaw", name := "drawn", desc := "(IIII)Ljava/lang/String;" } : Jvm.MethodName) method_2_code (5 : Nat) (Option.some (Jvm.ClassFile.FieldType.object "java/lang/String"))).before args0 about1 = true := code_word (m := ⟨1, 1⟩) (meth := k1m1) (c := k1c1) (by decide +kernel) rfl rfl rfl (by decide +kernel)
set_option maxRecDepth 65536 in
theorem w_c2 : (Jvm.Cond.code ({ cls := "com/example/tidings/tidings/engine/MessageQueue$SendOutcome", name := "<init>", desc := "(Ljava/lang/String;Ljava/lang/String;)V" } : Jvm.MethodName) prog_13_method_1_code (3 : Nat) (Option.none : Option Jvm.ClassFile.FieldType)).before args0 about1 = true := code_word (m := ⟨3, 0⟩) (meth := k3m0) (c := k3c0) (by decide +kernel) rfl rfl rfl (by decide +kernel)
set_option maxRecDepth 65536 in
theorem w_c3 : (Jvm.Cond.code ({ cls := "java/lang/Record", name := "<init>", desc := "()V" } : Jvm.MethodName) jdk_30_method_1_code (1 : Nat) (Option.none : Option Jvm.ClassFile.FieldType)).before args0 about1 = true := code_word (m := ⟨2, 0⟩) (meth := k2m0) (c := k2c0) (by decide +kernel) rfl rfl rfl (by decide +kernel)
set_option maxRecDepth 65536 in
theorem w_c4 : (Jvm.Cond.code ({ cls := "java/lang/Object", name := "<init>", desc := "()V" } : Jvm.MethodName) object_method_1_code (1 : Nat) (Option.none : Option Jvm.ClassFile.FieldType)).before args0 about1 = true := code_word (m := ⟨0, 0⟩) (meth := k0m0) (c := k0c0) (by decide +kernel) rfl rfl rfl (by decide +kernel)
set_option maxRecDepth 65536 in
theorem w_c5 : (Jvm.Cond.code ({ cls := "com/example/tidings/tidings/engine/MessageQueue$SendOutcome", name := "isStored", desc := "()Z" } : Jvm.MethodName) prog_13_method_2_code (1 : Nat) (Option.some Jvm.ClassFile.FieldType.boolean)).before args0 about1 = true := code_word (m := ⟨3, 1⟩) (meth := k3m1) (c := k3c1) (by decide +kernel) rfl rfl rfl (by decide +kernel)
set_option maxRecDepth 65536 in
theorem w_c6 : (Jvm.Cond.code ({ cls := "java/lang/String", name := "<init>", desc := "([C)V" } : Jvm.MethodName) jdk_42_method_3_code (2 : Nat) (Option.none : Option Jvm.ClassFile.FieldType)).before args0 about1 = true := code_word (m := ⟨9, 1⟩) (meth := k9m1) (c := k9c1) (by decide +kernel) rfl rfl rfl (by decide +kernel)
set_option maxRecDepth 65536 in
theorem w_c7 : (Jvm.Cond.code ({ cls := "java/lang/String", name := "<init>", desc := "([CIILjava/lang/Void;)V" } : Jvm.MethodName) jdk_42_method_149_code (6 : Nat) (Option.none : Option Jvm.ClassFile.FieldType)).before args0 about1 = true := code_word (m := ⟨9, 2⟩) (meth := k9m2) (c := k9c2) (by decide +kernel) rfl rfl rfl (by decide +kernel)
set_option maxRecDepth 65536 in
theorem w_c8 : (Jvm.Cond.code ({ cls := "java/lang/StringUTF16", name := "compress", desc := "([CII)[B" } : Jvm.MethodName) jdk_52_method_16_code (6 : Nat) (Option.some (Jvm.ClassFile.FieldType.array Jvm.ClassFile.FieldType.byte))).before args0 about1 = true := code_word (m := ⟨10, 2⟩) (meth := k10m2) (c := k10c2) (by decide +kernel) rfl rfl rfl (by decide +kernel)
set_option maxRecDepth 65536 in
theorem w_c9 : (Jvm.Cond.code ({ cls := "java/lang/StringUTF16", name := "compress", desc := "([CI[BII)I" } : Jvm.MethodName) jdk_52_method_21_code (7 : Nat) (Option.some Jvm.ClassFile.FieldType.int)).before args0 about1 = true := code_word (m := ⟨10, 3⟩) (meth := k10m3) (c := k10c3) (by decide +kernel) rfl rfl rfl (by decide +kernel)
set_option maxRecDepth 65536 in
theorem w_c10 : (Jvm.Cond.code ({ cls := "java/lang/StringUTF16", name := "coderFromArrayLen", desc := "([BI)B" } : Jvm.MethodName) jdk_52_method_15_code (2 : Nat) (Option.some Jvm.ClassFile.FieldType.byte)).before args0 about1 = true := code_word (m := ⟨10, 1⟩) (meth := k10m1) (c := k10c1) (by decide +kernel) rfl rfl rfl (by decide +kernel)
def codes1 : List Jvm.Cond := [Jvm.Cond.code x code maxLocals ret, Jvm.Cond.code ({ cls := "com/example/tidings/tidings/engine/SendOutcomeIsStoredPinLaw", name := "drawn", desc := "(IIII)Ljava/lang/String;" } : Jvm.MethodName) method_2_code (5 : Nat) (Option.some (Jvm.ClassFile.FieldType.object "java/lang/String")), Jvm.Cond.code ({ cls := "com/example/tidings/tidings/engine/MessageQueue$SendOutcome", name := "<init>", desc := "(Ljava/lang/String;Ljava/lang/String;)V" } : Jvm.MethodName) prog_13_method_1_code (3 : Nat) (Option.none : Option Jvm.ClassFile.FieldType), Jvm.Cond.code ({ cls := "java/lang/Record", name := "<init>", desc := "()V" } : Jvm.MethodName) jdk_30_method_1_code (1 : Nat) (Option.none : Option Jvm.ClassFile.FieldType), Jvm.Cond.code ({ cls := "java/lang/Object", name := "<init>", desc := "()V" } : Jvm.MethodName) object_method_1_code (1 : Nat) (Option.none : Option Jvm.ClassFile.FieldType), Jvm.Cond.code ({ cls := "com/example/tidings/tidings/engine/MessageQueue$SendOutcome", name := "isStored", desc := "()Z" } : Jvm.MethodName) prog_13_method_2_code (1 : Nat) (Option.some Jvm.ClassFile.FieldType.boolean), Jvm.Cond.code ({ cls := "java/lang/String", name := "<init>", desc := "([C)V" } : Jvm.MethodName) jdk_42_method_3_code (2 : Nat) (Option.none : Option Jvm.ClassFile.FieldType), Jvm.Cond.code ({ cls := "java/lang/String", name := "<init>", desc := "([CIILjava/lang/Void;)V" } : Jvm.MethodName) jdk_42_method_149_code (6 : Nat) (Option.none : Option Jvm.ClassFile.FieldType), Jvm.Cond.code ({ cls := "java/lang/StringUTF16", name := "compress", desc := "([CII)[B" } : Jvm.MethodName) jdk_52_method_16_code (6 : Nat) (Option.some (Jvm.ClassFile.FieldType.array Jvm.ClassFile.FieldType.byte)), Jvm.Cond.code ({ cls := "java/lang/StringUTF16", name := "compress", desc := "([CI[BII)I" } : Jvm.MethodName) jdk_52_method_21_code (7 : Nat) (Option.some Jvm.ClassFile.FieldType.int), Jvm.Cond.code ({ cls := "java/lang/StringUTF16", name := "coderFromArrayLen", desc := "([BI)B" } : Jvm.MethodName) jdk_52_method_15_code (2 : Nat) (Option.some Jvm.ClassFile.FieldType.byte)]
set_option maxRecDepth 65536 in
theorem codes_eq : words1.filter isCode = codes1 := rfl
theorem w_codes : ∀ c ∈ words1.filter isCode, c.before args0 about1 = true := by
  rw [codes_eq]
  intro c hc
  simp only [codes1, List.mem_cons, List.not_mem_nil, or_false] at hc
  rcases hc with rfl | rfl | rfl | rfl | rfl | rfl | rfl | rfl | rfl | rfl | rfl
  · exact w_c0
  · exact w_c1
  · exact w_c2
  · exact w_c3
  · exact w_c4
  · exact w_c5
  · exact w_c6
  · exact w_c7
  · exact w_c8
  · exact w_c9
  · exact w_c10
set_option maxRecDepth 65536 in
theorem w_t1 : (words1.take 24).all (fun c => isCode c || c.before args0 about1) = true := by decide +kernel
set_option maxRecDepth 65536 in
theorem w_t2 : ((words1.drop 24).take 24).all (fun c => isCode c || c.before args0 about1) = true := by decide +kernel
set_option maxRecDepth 65536 in
theorem w_t3 : ((words1.drop 24).drop 24).all (fun c => isCode c || c.before args0 about1) = true := by decide +kernel
theorem w_tables : (allAtoms (Jvm.Cond.code x code maxLocals ret :: tables_1)).before args0 about1 = true := by
  rw [allAtoms_all]
  show words1.all (fun c => c.before args0 about1) = true
  refine all_split ?_ w_codes
  rw [← List.take_append_drop 24 words1, List.all_append, w_t1, ← List.take_append_drop 24 (words1.drop 24), List.all_append, w_t2, w_t3]
  rfl
set_option maxRecDepth 65536 in
theorem w_rest : rest_1_c.before args0 about1 = true := by decide +kernel
set_option maxRecDepth 65536 in
theorem w_case : (Jvm.Cond.and given_1 narrow_1).before args0 about1 = true := by decide +kernel
theorem w_applies : (headSpec (Jvm.Cond.code x code maxLocals ret :: tables_1) room_1).applies x e0.platform about1 = true :=
  (Spec.applies_iff w_frames).mpr ⟨w_running, w_runnable, w_alone, w_named, w_hears, w_ripe, w_room, w_tables⟩
theorem atStart : AtStart classFile x code maxLocals ret World_1 tables_1 room_1 Calls_1 rest_1 Pre_1 launch0 p0 e0 about1 theMethod args0 below0 :=
  ⟨lists_1, trivial, launch0.admits_env _ _ _, launch0.least_env, fairChoices_fair.cas, fairChoices_fair.clock, w_frames, w_args, w_heap, w_applies, trivial, w_rest, w_case⟩
end start1
theorem witness_1 : WitnessClaimed_1 := ⟨start1.p0, start1.e0, start1.about1, start1.theMethod, start1.args0, start1.below0, start1.atStart⟩
end Jvm.Pilot.@@N@@
