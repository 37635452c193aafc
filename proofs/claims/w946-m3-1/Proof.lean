import JvmDerived
import JvmDerived.Pilot.@@N@@Statement
import JvmDerived.Pilot.@@N@@Code
set_option linter.unusedVariables false
set_option linter.unusedSimpArgs false
namespace Jvm.OwnW
open Sem ClassFile Op Lib Jvm.Stand Jvm.Free Jvm.LawKit Jvm.RoadKit
/-- false: nothing may have been interned; true: the wide word -/
def Md (P : Vm → Heap → Prop) (w : Bool) (s : State) (vm0 : Vm) (h : Heap) : Prop := (w = false → vm0 = s.vm) ∧ (∃ k0, s.Since vm0 k0 ∧ k0 ≤ h.size) ∧ P vm0 h
theorem Md.mono {P : Vm → Heap → Prop} {w : Bool} {s : State} {vm0 : Vm} {h h' : Heap} (m : Md P w s vm0 h) (q : h.size ≤ h'.size) (hP : P vm0 h → P vm0 h') : Md P w s vm0 h' := ⟨m.1, m.2.1.imp fun _ r => ⟨r.1, Nat.le_trans r.2 q⟩, hP m.2.2⟩
theorem Md.start {P : Vm → Heap → Prop} (w : Bool) (s : State) (h : Heap) (hP : P s.vm h) : Md P w s s.vm h := ⟨fun _ => rfl, ⟨0, (State.WarmedH.refl s).since 0, Nat.zero_le _⟩, hP⟩
def EndF (w : Bool) (s : State) (o : Outcome) (t : State) (L : List Loc) (k n : Nat) : Prop := match w with
  | false => FrameEnd s o t L k n
  | true => ReturnedEndW s o t L k n
abbrev Kx : Type := Bool × Program × Launch × Env × Room × State × MethodId × Array Value × List Frame × Method × Code × State × String × Nat × (Option Value → Heap → Vm → Prop) × (Vm → Heap → Prop)
abbrev Kx.w (κ : Kx) : Bool := κ.1
abbrev Kx.p (κ : Kx) : Program := κ.2.1
abbrev Kx.l (κ : Kx) : Launch := κ.2.2.1
abbrev Kx.e (κ : Kx) : Env := κ.2.2.2.1
abbrev Kx.R (κ : Kx) : Room := κ.2.2.2.2.1
abbrev Kx.s (κ : Kx) : State := κ.2.2.2.2.2.1
abbrev Kx.m (κ : Kx) : MethodId := κ.2.2.2.2.2.2.1
abbrev Kx.a (κ : Kx) : Array Value := κ.2.2.2.2.2.2.2.1
abbrev Kx.below (κ : Kx) : List Frame := κ.2.2.2.2.2.2.2.2.1
abbrev Kx.meth (κ : Kx) : Method := κ.2.2.2.2.2.2.2.2.2.1
abbrev Kx.c (κ : Kx) : Code := κ.2.2.2.2.2.2.2.2.2.2.1
abbrev Kx.Z (κ : Kx) : State := κ.2.2.2.2.2.2.2.2.2.2.2.1
abbrev Kx.own (κ : Kx) : String := κ.2.2.2.2.2.2.2.2.2.2.2.2.1
abbrev Kx.n0 (κ : Kx) : Nat := κ.2.2.2.2.2.2.2.2.2.2.2.2.2.1
abbrev Kx.Q (κ : Kx) : Option Value → Heap → Vm → Prop := κ.2.2.2.2.2.2.2.2.2.2.2.2.2.2.1
abbrev Kx.P (κ : Kx) : Vm → Heap → Prop := κ.2.2.2.2.2.2.2.2.2.2.2.2.2.2.2
/-- the body's run from T with the frame g ends as κ.Q says -/
def Ends (κ : Kx) (T : State) (g : JFrame) : Prop := ∃ (t : State) (o : Outcome), Steps κ.p.tables κ.e κ.below (T.setTop g) t ∧ t.status = .running ∧ Ended t κ.below o ∧ ∃ v L, o = .returned v ∧ (κ.Q v t.heap t.vm ∧ Fr κ.n0 L) ∧ EndF κ.w κ.s o t L κ.R.cells κ.R.slots
def WP (κ : Kx) (h : Heap) (k n : Nat) (g : JFrame) : Prop :=
  ∀ (T : State) (locs : List Loc) (vm0 : Vm), Stand κ.p κ.l κ.e κ.R (κ.s.setVm vm0) κ.m κ.a κ.below κ.meth κ.c T locs k n → T.heap = h → Md κ.P κ.w κ.s vm0 h → κ.Z.Warmed39 vm0 → vm0.findClass κ.own = some κ.m.cls → Fr κ.n0 locs → Ends κ T g
/-- what stands fast through a body's walk -/
def Cx (κ : Kx) (w : Bool) (l : Launch) (Z : State) (own : String) (n0 : Nat) (rm : Room) (bytes : ByteArray) (maxL : Nat) (ret : Option FieldType) (nm : String) (Q : Option Value → Heap → Vm → Prop) : Prop :=
  κ.p.tables.exec = Jvm.exec ∧ κ.c.code = bytes ∧ κ.c.maxLocals = maxL ∧ κ.meth.sig.returnType = ret ∧ κ.meth.locks = false ∧ κ.meth.name = nm ∧ κ.w = w ∧ κ.l = l ∧ κ.Z = Z ∧ κ.own = own ∧ κ.n0 = n0 ∧ κ.R = rm ∧ κ.Q = Q
/-- a body's contract -/
def Met (w : Bool) (l : Launch) (Z : State) (y : MethodName) (bytes : ByteArray) (maxL : Nat) (ret : Option FieldType) (ws : List Cond) (rm : Room) (as' : Array Value) (h0 : Heap) (n0 : Nat) (Q : Option Value → Heap → Prop) : Prop :=
  MetFree l y (head1 (Cond.code y bytes maxL ret :: ws) rm) (fun a U => a = as' ∧ Z.Warmed39 U.vm ∧ U.heap = h0) (fun _ _ _ _ _ => True) (fun _ U o U' => ∃ v L, o = .returned v ∧ (Q v U'.heap ∧ Fr n0 L) ∧ EndF w U o U' L rm.cells rm.slots)
theorem Met.of {w : Bool} {l : Launch} {Z : State} {y : MethodName} {bytes : ByteArray} {maxL : Nat} {ret : Option FieldType} {ws : List Cond} {rm : Room} {as' : Array Value} {h0 : Heap} {n0 : Nat} {Q : Option Value → Heap → Prop} (hp : plainFor y = true)
    (body : ∀ κ : Kx, Cx κ w l Z y.cls n0 rm bytes maxL ret y.name (fun v h _ => Q v h) → κ.P = (fun _ _ => True) → WP κ h0 0 0 (entryFrame κ.m as' maxL)) : Met w l Z y bytes maxL ret ws rm as' h0 n0 Q := by
  refine MetFree.of_bodySF hp hisR ?_
  intro p e s m args below meth c s₁ Bd hml0 hP hK
  obtain ⟨rfl, hZ, hh⟩ := hP
  exact body (w, p, l, e, rm, s, m, args, below, meth, c, Z, y.cls, n0, (fun v h _ => Q v h), (fun _ _ => True)) ⟨Bd.exec, Bd.bytes, hml0, Bd.returns, Bd.notSynchronized, (name_of_methodNamed Bd.named Bd.method).1, rfl, rfl, rfl, rfl, rfl, rfl, rfl⟩ rfl s₁ [] s.vm (Stand.of_body Bd) (by rw [← hh, Bd.state]; rfl) (Md.start _ _ _ trivial) hZ (findClass_of_methodNamed Bd.named) (Fr.nil n0)
/-- a contract that rests on, and keeps, a premise on the tables -/
def MetP (l : Launch) (Z : State) (y : MethodName) (bytes : ByteArray) (maxL : Nat) (ret : Option FieldType) (ws : List Cond) (rm : Room) (as' : Array Value) (h0 : Heap) (n0 : Nat) (P : Vm → Heap → Prop) (Q : Option Value → Heap → Vm → Prop) : Prop :=
  MetFree l y (head1 (Cond.code y bytes maxL ret :: ws) rm) (fun a U => a = as' ∧ Z.Warmed39 U.vm ∧ U.heap = h0 ∧ P U.vm h0) (fun _ _ _ _ _ => True) (fun _ U o U' => ∃ v L, o = .returned v ∧ (Q v U'.heap U'.vm ∧ Fr n0 L) ∧ EndF true U o U' L rm.cells rm.slots)
theorem MetP.of {l : Launch} {Z : State} {y : MethodName} {bytes : ByteArray} {maxL : Nat} {ret : Option FieldType} {ws : List Cond} {rm : Room} {as' : Array Value} {h0 : Heap} {n0 : Nat} {P : Vm → Heap → Prop} {Q : Option Value → Heap → Vm → Prop} (hp : plainFor y = true)
    (body : ∀ κ : Kx, Cx κ true l Z y.cls n0 rm bytes maxL ret y.name Q → κ.P = P → WP κ h0 0 0 (entryFrame κ.m as' maxL)) : MetP l Z y bytes maxL ret ws rm as' h0 n0 P Q := by
  refine MetFree.of_bodySF hp hisR ?_
  intro p e s m args below meth c s₁ Bd hml0 hP hK
  obtain ⟨rfl, hZ, hh, hPP⟩ := hP
  exact body (true, p, l, e, rm, s, m, args, below, meth, c, Z, y.cls, n0, Q, P) ⟨Bd.exec, Bd.bytes, hml0, Bd.returns, Bd.notSynchronized, (name_of_methodNamed Bd.named Bd.method).1, rfl, rfl, rfl, rfl, rfl, rfl, rfl⟩ rfl s₁ [] s.vm (Stand.of_body Bd) (by rw [← hh, Bd.state]; rfl) (Md.start _ _ _ hPP) hZ (findClass_of_methodNamed Bd.named) (Fr.nil n0)
theorem EndF.widen {w : Bool} {s : State} {o : Outcome} {t : State} {L : List Loc} {k n : Nat} (h : EndF w s o t L k n) : ReturnedEndW s o t L k n := by
  cases w
  · exact ReturnedEndW.of_narrow h.1 h.2.1 h.2.2
  · exact h
section Rules
variable {κ : Kx} {w : Bool} {l : Launch} {Z : State} {own nm : String} {n0 : Nat} {rm : Room} {bytes : ByteArray} {maxL : Nat} {ret : Option FieldType} {Q : Option Value → Heap → Vm → Prop} {h h' : Heap} {k n k' n' : Nat} {pc pc' : Nat} {L L' : Array Slot} {S : List Value} {a0 : Array Value}
theorem WP.go {g g' : JFrame} (st : ∀ (T : State) (locs : List Loc) (vm0 : Vm), Stand κ.p κ.l κ.e κ.R (κ.s.setVm vm0) κ.m κ.a κ.below κ.meth κ.c T locs k n → T.heap = h → κ.Z.Warmed39 vm0 → vm0.findClass κ.own = some κ.m.cls → ∀ t, Steps κ.p.tables κ.e κ.below (T.setTop g') t → Steps κ.p.tables κ.e κ.below (T.setTop g) t)
    (H : WP κ h k n g') : WP κ h k n g := fun T locs vm0 X e M hZ ho N => by
  obtain ⟨t, o, h1, r⟩ := H T locs vm0 X e M hZ ho N
  exact ⟨t, o, st T locs vm0 X e hZ ho t h1, r⟩
theorem WP.frame {g g' : JFrame} (q : g = g') (H : WP κ h k n g') : WP κ h k n g := q ▸ H
theorem WP.more {g : JFrame} (H : WP κ h k' n' g) (hk : k ≤ k') (hn : n ≤ n') : WP κ h k n g := fun T locs vm0 X e M hZ ho N => H T locs vm0 (X.mono hk hn) e M hZ ho N
/-- a pure stretch with several roads that meet again -/
theorem WP.meet {g g' : JFrame} (H : WP κ h k n g' → WP κ h k n g) (K : WP κ h k n g') : WP κ h k n g := H K
theorem WP.iadd (K : Cx κ w l Z own n0 rm bytes maxL ret nm Q) {x y : Int32} (hd : decode bytes pc = .ok (.iadd, 1))  (hp : pc + 1 = pc') (H : WP κ h k n (mkF κ.m pc' L (.int (x + y) :: S))) : WP κ h k n (mkF κ.m pc L (.int y :: .int x :: S)) := by
  obtain ⟨hx, hby, -⟩ := K
  subst hp
  exact WP.go (fun T locs vm0 X e hZ ho t k => XS.iadd X.here hx rfl (hb hby hd) rfl k) H
theorem WP.isub (K : Cx κ w l Z own n0 rm bytes maxL ret nm Q) {x y : Int32} (hd : decode bytes pc = .ok (.isub, 1))  (hp : pc + 1 = pc') (H : WP κ h k n (mkF κ.m pc' L (.int (x - y) :: S))) : WP κ h k n (mkF κ.m pc L (.int y :: .int x :: S)) := by
  obtain ⟨hx, hby, -⟩ := K
  subst hp
  exact WP.go (fun T locs vm0 X e hZ ho t k => XS.isub X.here hx rfl (hb hby hd) rfl k) H
theorem WP.imul (K : Cx κ w l Z own n0 rm bytes maxL ret nm Q) {x y : Int32} (hd : decode bytes pc = .ok (.imul, 1))  (hp : pc + 1 = pc') (H : WP κ h k n (mkF κ.m pc' L (.int (x * y) :: S))) : WP κ h k n (mkF κ.m pc L (.int y :: .int x :: S)) := by
  obtain ⟨hx, hby, -⟩ := K
  subst hp
  exact WP.go (fun T locs vm0 X e hZ ho t k => XS.imul X.here hx rfl (hb hby hd) rfl k) H
theorem WP.iand (K : Cx κ w l Z own n0 rm bytes maxL ret nm Q) {x y : Int32} (hd : decode bytes pc = .ok (.iand, 1))  (hp : pc + 1 = pc') (H : WP κ h k n (mkF κ.m pc' L (.int (x &&& y) :: S))) : WP κ h k n (mkF κ.m pc L (.int y :: .int x :: S)) := by
  obtain ⟨hx, hby, -⟩ := K
  subst hp
  exact WP.go (fun T locs vm0 X e hZ ho t k => XS.iand X.here hx rfl (hb hby hd) rfl k) H
theorem WP.ixor (K : Cx κ w l Z own n0 rm bytes maxL ret nm Q) {x y : Int32} (hd : decode bytes pc = .ok (.ixor, 1))  (hp : pc + 1 = pc') (H : WP κ h k n (mkF κ.m pc' L (.int (x ^^^ y) :: S))) : WP κ h k n (mkF κ.m pc L (.int y :: .int x :: S)) := by
  obtain ⟨hx, hby, -⟩ := K
  subst hp
  exact WP.go (fun T locs vm0 X e hZ ho t k => XS.ixor X.here hx rfl (hb hby hd) rfl k) H
theorem WP.ior (K : Cx κ w l Z own n0 rm bytes maxL ret nm Q) {x y : Int32} (hd : decode bytes pc = .ok (.ior, 1))  (hp : pc + 1 = pc') (H : WP κ h k n (mkF κ.m pc' L (.int (x ||| y) :: S))) : WP κ h k n (mkF κ.m pc L (.int y :: .int x :: S)) := by
  obtain ⟨hx, hby, -⟩ := K
  subst hp
  exact WP.go (fun T locs vm0 X e hZ ho t k => XS.ior X.here hx rfl (hb hby hd) rfl k) H
theorem WP.ishl (K : Cx κ w l Z own n0 rm bytes maxL ret nm Q) {x y : Int32} (hd : decode bytes pc = .ok (.ishl, 1))  (hp : pc + 1 = pc') (H : WP κ h k n (mkF κ.m pc' L (.int (x <<< (y &&& 31)) :: S))) : WP κ h k n (mkF κ.m pc L (.int y :: .int x :: S)) := by
  obtain ⟨hx, hby, -⟩ := K
  subst hp
  exact WP.go (fun T locs vm0 X e hZ ho t k => XS.ishl X.here hx rfl (hb hby hd) rfl k) H
theorem WP.ishr (K : Cx κ w l Z own n0 rm bytes maxL ret nm Q) {x y : Int32} (hd : decode bytes pc = .ok (.ishr, 1))  (hp : pc + 1 = pc') (H : WP κ h k n (mkF κ.m pc' L (.int (x >>> (y &&& 31)) :: S))) : WP κ h k n (mkF κ.m pc L (.int y :: .int x :: S)) := by
  obtain ⟨hx, hby, -⟩ := K
  subst hp
  exact WP.go (fun T locs vm0 X e hZ ho t k => XS.ishr X.here hx rfl (hb hby hd) rfl k) H
theorem WP.iushr (K : Cx κ w l Z own n0 rm bytes maxL ret nm Q) {x y : Int32} (hd : decode bytes pc = .ok (.iushr, 1))  (hp : pc + 1 = pc') (H : WP κ h k n (mkF κ.m pc' L (.int ((x.toUInt32 >>> (y &&& 31).toUInt32).toInt32) :: S))) : WP κ h k n (mkF κ.m pc L (.int y :: .int x :: S)) := by
  obtain ⟨hx, hby, -⟩ := K
  subst hp
  exact WP.go (fun T locs vm0 X e hZ ho t k => XS.iushr X.here hx rfl (hb hby hd) rfl k) H
theorem WP.ladd (K : Cx κ w l Z own n0 rm bytes maxL ret nm Q) {x y : Int64} (hd : decode bytes pc = .ok (.ladd, 1))  (hp : pc + 1 = pc') (H : WP κ h k n (mkF κ.m pc' L (.long (x + y) :: S))) : WP κ h k n (mkF κ.m pc L (.long y :: .long x :: S)) := by
  obtain ⟨hx, hby, -⟩ := K
  subst hp
  exact WP.go (fun T locs vm0 X e hZ ho t k => XS.ladd X.here hx rfl (hb hby hd) rfl k) H
theorem WP.lsub (K : Cx κ w l Z own n0 rm bytes maxL ret nm Q) {x y : Int64} (hd : decode bytes pc = .ok (.lsub, 1))  (hp : pc + 1 = pc') (H : WP κ h k n (mkF κ.m pc' L (.long (x - y) :: S))) : WP κ h k n (mkF κ.m pc L (.long y :: .long x :: S)) := by
  obtain ⟨hx, hby, -⟩ := K
  subst hp
  exact WP.go (fun T locs vm0 X e hZ ho t k => XS.lsub X.here hx rfl (hb hby hd) rfl k) H
theorem WP.lmul (K : Cx κ w l Z own n0 rm bytes maxL ret nm Q) {x y : Int64} (hd : decode bytes pc = .ok (.lmul, 1))  (hp : pc + 1 = pc') (H : WP κ h k n (mkF κ.m pc' L (.long (x * y) :: S))) : WP κ h k n (mkF κ.m pc L (.long y :: .long x :: S)) := by
  obtain ⟨hx, hby, -⟩ := K
  subst hp
  exact WP.go (fun T locs vm0 X e hZ ho t k => XS.lmul X.here hx rfl (hb hby hd) rfl k) H
theorem WP.land (K : Cx κ w l Z own n0 rm bytes maxL ret nm Q) {x y : Int64} (hd : decode bytes pc = .ok (.land, 1))  (hp : pc + 1 = pc') (H : WP κ h k n (mkF κ.m pc' L (.long (x &&& y) :: S))) : WP κ h k n (mkF κ.m pc L (.long y :: .long x :: S)) := by
  obtain ⟨hx, hby, -⟩ := K
  subst hp
  exact WP.go (fun T locs vm0 X e hZ ho t k => XS.land X.here hx rfl (hb hby hd) rfl k) H
theorem WP.lor (K : Cx κ w l Z own n0 rm bytes maxL ret nm Q) {x y : Int64} (hd : decode bytes pc = .ok (.lor, 1))  (hp : pc + 1 = pc') (H : WP κ h k n (mkF κ.m pc' L (.long (x ||| y) :: S))) : WP κ h k n (mkF κ.m pc L (.long y :: .long x :: S)) := by
  obtain ⟨hx, hby, -⟩ := K
  subst hp
  exact WP.go (fun T locs vm0 X e hZ ho t k => XS.lor X.here hx rfl (hb hby hd) rfl k) H
theorem WP.lxor (K : Cx κ w l Z own n0 rm bytes maxL ret nm Q) {x y : Int64} (hd : decode bytes pc = .ok (.lxor, 1))  (hp : pc + 1 = pc') (H : WP κ h k n (mkF κ.m pc' L (.long (x ^^^ y) :: S))) : WP κ h k n (mkF κ.m pc L (.long y :: .long x :: S)) := by
  obtain ⟨hx, hby, -⟩ := K
  subst hp
  exact WP.go (fun T locs vm0 X e hZ ho t k => XS.lxor X.here hx rfl (hb hby hd) rfl k) H
theorem WP.idiv (K : Cx κ w l Z own n0 rm bytes maxL ret nm Q) {x y : Int32} (hd : decode bytes pc = .ok (.idiv, 1)) (hy : y ≠ 0) (hp : pc + 1 = pc') (H : WP κ h k n (mkF κ.m pc' L (.int (x / y) :: S))) : WP κ h k n (mkF κ.m pc L (.int y :: .int x :: S)) := by
  obtain ⟨hx, hby, -⟩ := K
  subst hp
  exact WP.go (fun T locs vm0 X e hZ ho t k => XS.idiv X.here hx rfl (hb hby hd) rfl hy k) H
theorem WP.irem (K : Cx κ w l Z own n0 rm bytes maxL ret nm Q) {x y : Int32} (hd : decode bytes pc = .ok (.irem, 1)) (hy : y ≠ 0) (hp : pc + 1 = pc') (H : WP κ h k n (mkF κ.m pc' L (.int (x % y) :: S))) : WP κ h k n (mkF κ.m pc L (.int y :: .int x :: S)) := by
  obtain ⟨hx, hby, -⟩ := K
  subst hp
  exact WP.go (fun T locs vm0 X e hZ ho t k => iremM X hx rfl (hb hby hd) rfl hy k) H
theorem WP.ldiv (K : Cx κ w l Z own n0 rm bytes maxL ret nm Q) {x y : Int64} (hd : decode bytes pc = .ok (.ldiv, 1)) (hy : y ≠ 0) (hp : pc + 1 = pc') (H : WP κ h k n (mkF κ.m pc' L (.long (x / y) :: S))) : WP κ h k n (mkF κ.m pc L (.long y :: .long x :: S)) := by
  obtain ⟨hx, hby, -⟩ := K
  subst hp
  exact WP.go (fun T locs vm0 X e hZ ho t k => XT.ldiv X.here hx rfl (hb hby hd) rfl hy k) H
theorem WP.lrem (K : Cx κ w l Z own n0 rm bytes maxL ret nm Q) {x y : Int64} (hd : decode bytes pc = .ok (.lrem, 1)) (hy : y ≠ 0) (hp : pc + 1 = pc') (H : WP κ h k n (mkF κ.m pc' L (.long (x % y) :: S))) : WP κ h k n (mkF κ.m pc L (.long y :: .long x :: S)) := by
  obtain ⟨hx, hby, -⟩ := K
  subst hp
  exact WP.go (fun T locs vm0 X e hZ ho t k => XT.lrem X.here hx rfl (hb hby hd) rfl hy (by rw [lrem_mod]; exact k)) H
theorem WP.ineg (K : Cx κ w l Z own n0 rm bytes maxL ret nm Q) {x : Int32} (hd : decode bytes pc = .ok (.ineg, 1))  (hp : pc + 1 = pc') (H : WP κ h k n (mkF κ.m pc' L (.int (-x) :: S))) : WP κ h k n (mkF κ.m pc L (.int x :: S)) := by
  obtain ⟨hx, hby, -⟩ := K
  subst hp
  exact WP.go (fun T locs vm0 X e hZ ho t k => XS.ineg X.here hx rfl (hb hby hd) rfl k) H
theorem WP.lneg (K : Cx κ w l Z own n0 rm bytes maxL ret nm Q) {x : Int64} (hd : decode bytes pc = .ok (.lneg, 1))  (hp : pc + 1 = pc') (H : WP κ h k n (mkF κ.m pc' L (.long (-x) :: S))) : WP κ h k n (mkF κ.m pc L (.long x :: S)) := by
  obtain ⟨hx, hby, -⟩ := K
  subst hp
  exact WP.go (fun T locs vm0 X e hZ ho t k => XT.lneg X.here hx rfl (hb hby hd) rfl k) H
theorem WP.lshl (K : Cx κ w l Z own n0 rm bytes maxL ret nm Q) {x : Int64} {y : Int32} (hd : decode bytes pc = .ok (.lshl, 1))  (hp : pc + 1 = pc') (H : WP κ h k n (mkF κ.m pc' L (.long (x <<< (y &&& 0x3f).toInt64) :: S))) : WP κ h k n (mkF κ.m pc L (.int y :: .long x :: S)) := by
  obtain ⟨hx, hby, -⟩ := K
  subst hp
  exact WP.go (fun T locs vm0 X e hZ ho t k => XS.lshl X.here hx rfl (hb hby hd) rfl k) H
theorem WP.lshr (K : Cx κ w l Z own n0 rm bytes maxL ret nm Q) {x : Int64} {y : Int32} (hd : decode bytes pc = .ok (.lshr, 1))  (hp : pc + 1 = pc') (H : WP κ h k n (mkF κ.m pc' L (.long (x >>> (y &&& 0x3f).toInt64) :: S))) : WP κ h k n (mkF κ.m pc L (.int y :: .long x :: S)) := by
  obtain ⟨hx, hby, -⟩ := K
  subst hp
  exact WP.go (fun T locs vm0 X e hZ ho t k => XS.lshr X.here hx rfl (hb hby hd) rfl k) H
theorem WP.lushr (K : Cx κ w l Z own n0 rm bytes maxL ret nm Q) {x : Int64} {y : Int32} (hd : decode bytes pc = .ok (.lushr, 1))  (hp : pc + 1 = pc') (H : WP κ h k n (mkF κ.m pc' L (.long ((x.toUInt64 >>> (y &&& 0x3f).toInt64.toUInt64).toInt64) :: S))) : WP κ h k n (mkF κ.m pc L (.int y :: .long x :: S)) := by
  obtain ⟨hx, hby, -⟩ := K
  subst hp
  exact WP.go (fun T locs vm0 X e hZ ho t k => XS.lushr X.here hx rfl (hb hby hd) rfl k) H
theorem WP.i2l (K : Cx κ w l Z own n0 rm bytes maxL ret nm Q) {x : Int32} (hd : decode bytes pc = .ok (.i2l, 1))  (hp : pc + 1 = pc') (H : WP κ h k n (mkF κ.m pc' L (.long (x.toInt64) :: S))) : WP κ h k n (mkF κ.m pc L (.int x :: S)) := by
  obtain ⟨hx, hby, -⟩ := K
  subst hp
  exact WP.go (fun T locs vm0 X e hZ ho t k => XS.i2l X.here hx rfl (hb hby hd) rfl k) H
theorem WP.l2i (K : Cx κ w l Z own n0 rm bytes maxL ret nm Q) {x : Int64} (hd : decode bytes pc = .ok (.l2i, 1))  (hp : pc + 1 = pc') (H : WP κ h k n (mkF κ.m pc' L (.int (x.toInt32) :: S))) : WP κ h k n (mkF κ.m pc L (.long x :: S)) := by
  obtain ⟨hx, hby, -⟩ := K
  subst hp
  exact WP.go (fun T locs vm0 X e hZ ho t k => XS.l2i X.here hx rfl (hb hby hd) rfl k) H
theorem WP.i2b (K : Cx κ w l Z own n0 rm bytes maxL ret nm Q) {x : Int32} (hd : decode bytes pc = .ok (.i2b, 1))  (hp : pc + 1 = pc') (H : WP κ h k n (mkF κ.m pc' L (.int (x.toInt8.toInt32) :: S))) : WP κ h k n (mkF κ.m pc L (.int x :: S)) := by
  obtain ⟨hx, hby, -⟩ := K
  subst hp
  exact WP.go (fun T locs vm0 X e hZ ho t k => XS.i2b X.here hx rfl (hb hby hd) rfl k) H
theorem WP.i2c (K : Cx κ w l Z own n0 rm bytes maxL ret nm Q) {x : Int32} (hd : decode bytes pc = .ok (.i2c, 1))  (hp : pc + 1 = pc') (H : WP κ h k n (mkF κ.m pc' L (.int (x.toUInt32.toUInt16.toUInt32.toInt32) :: S))) : WP κ h k n (mkF κ.m pc L (.int x :: S)) := by
  obtain ⟨hx, hby, -⟩ := K
  subst hp
  exact WP.go (fun T locs vm0 X e hZ ho t k => XS.i2c X.here hx rfl (hb hby hd) rfl k) H
theorem WP.i2s (K : Cx κ w l Z own n0 rm bytes maxL ret nm Q) {x : Int32} (hd : decode bytes pc = .ok (.i2s, 1))  (hp : pc + 1 = pc') (H : WP κ h k n (mkF κ.m pc' L (.int (x.toInt16.toInt32) :: S))) : WP κ h k n (mkF κ.m pc L (.int x :: S)) := by
  obtain ⟨hx, hby, -⟩ := K
  subst hp
  exact WP.go (fun T locs vm0 X e hZ ho t k => XS.i2s X.here hx rfl (hb hby hd) rfl k) H
theorem WP.lcmp (K : Cx κ w l Z own n0 rm bytes maxL ret nm Q) {x y : Int64} (hd : decode bytes pc = .ok (.lcmp, 1))  (hp : pc + 1 = pc') (H : WP κ h k n (mkF κ.m pc' L (.int (lcmpW x y) :: S))) : WP κ h k n (mkF κ.m pc L (.long y :: .long x :: S)) := by
  obtain ⟨hx, hby, -⟩ := K
  subst hp
  exact WP.go (fun T locs vm0 X e hZ ho t k => XS.lcmp X.here hx rfl (hb hby hd) rfl k) H
theorem WP.iconst (K : Cx κ w l Z own n0 rm bytes maxL ret nm Q) {i : Int} {v : Int32} (hd : decode bytes pc = .ok (.iconst i, 1)) (hv : Int32.ofInt i = v) (hp : pc + 1 = pc') (H : WP κ h k n (mkF κ.m pc' L (.int v :: S))) : WP κ h k n (mkF κ.m pc L (S)) := by
  obtain ⟨hx, hby, -⟩ := K
  subst hp
  exact WP.go (fun T locs vm0 X e hZ ho t k => XT.iconstV X.here hx rfl v (hb hby hd) hv k) H
theorem WP.bipush (K : Cx κ w l Z own n0 rm bytes maxL ret nm Q) {i : Int} {v : Int32} (hd : decode bytes pc = .ok (.bipush i, 2)) (hv : (Int8.ofInt i).toInt32 = v) (hp : pc + 2 = pc') (H : WP κ h k n (mkF κ.m pc' L (.int v :: S))) : WP κ h k n (mkF κ.m pc L (S)) := by
  obtain ⟨hx, hby, -⟩ := K
  subst hp
  exact WP.go (fun T locs vm0 X e hZ ho t k => XT.bipushV X.here hx rfl v (hb hby hd) hv k) H
theorem WP.sipush (K : Cx κ w l Z own n0 rm bytes maxL ret nm Q) {i : Int} {v : Int32} (hd : decode bytes pc = .ok (.sipush i, 3)) (hv : (Int16.ofInt i).toInt32 = v) (hp : pc + 3 = pc') (H : WP κ h k n (mkF κ.m pc' L (.int v :: S))) : WP κ h k n (mkF κ.m pc L (S)) := by
  obtain ⟨hx, hby, -⟩ := K
  subst hp
  exact WP.go (fun T locs vm0 X e hZ ho t k => XT.sipushV X.here hx rfl v (hb hby hd) hv k) H
theorem WP.lconst (K : Cx κ w l Z own n0 rm bytes maxL ret nm Q) {i : Fin 2} {v : Int64} (hd : decode bytes pc = .ok (.lconst i, 1)) (hv : Int64.ofNat i = v) (hp : pc + 1 = pc') (H : WP κ h k n (mkF κ.m pc' L (.long v :: S))) : WP κ h k n (mkF κ.m pc L (S)) := by
  obtain ⟨hx, hby, -⟩ := K
  subst hp
  exact WP.go (fun T locs vm0 X e hZ ho t k => XT.lconstV X.here hx rfl v (hb hby hd) hv k) H
theorem WP.aconst_null (K : Cx κ w l Z own n0 rm bytes maxL ret nm Q)  (hd : decode bytes pc = .ok (.aconst_null, 1))  (hp : pc + 1 = pc') (H : WP κ h k n (mkF κ.m pc' L (.null :: S))) : WP κ h k n (mkF κ.m pc L (S)) := by
  obtain ⟨hx, hby, -⟩ := K
  subst hp
  exact WP.go (fun T locs vm0 X e hZ ho t k => XS.aconstNull X.here hx rfl (hb hby hd) k) H
theorem WP.iloadN (K : Cx κ w l Z own n0 rm bytes maxL ret nm Q) {j : Fin 4} {v : Int32} (hd : decode bytes pc = .ok (.iload_n j, 1)) (hl : L[j.val]? = some (.val (.int v))) (hp : pc + 1 = pc') (H : WP κ h k n (mkF κ.m pc' L (.int v :: S))) : WP κ h k n (mkF κ.m pc L (S)) := by
  obtain ⟨hx, hby, -⟩ := K
  subst hp
  exact WP.go (fun T locs vm0 X e hZ ho t k => XS.iloadN X.here hx rfl (hb hby hd) hl k) H
theorem WP.iload (K : Cx κ w l Z own n0 rm bytes maxL ret nm Q) {j : Nat} {v : Int32} (hd : decode bytes pc = .ok (.iload j, 2)) (hl : L[j]? = some (.val (.int v))) (hp : pc + 2 = pc') (H : WP κ h k n (mkF κ.m pc' L (.int v :: S))) : WP κ h k n (mkF κ.m pc L (S)) := by
  obtain ⟨hx, hby, -⟩ := K
  subst hp
  exact WP.go (fun T locs vm0 X e hZ ho t k => XS.iload X.here hx rfl (hb hby hd) hl k) H
theorem WP.lloadN (K : Cx κ w l Z own n0 rm bytes maxL ret nm Q) {j : Fin 4} {v : Int64} (hd : decode bytes pc = .ok (.lload_n j, 1)) (hl : L[j.val]? = some (.val (.long v))) (hp : pc + 1 = pc') (H : WP κ h k n (mkF κ.m pc' L (.long v :: S))) : WP κ h k n (mkF κ.m pc L (S)) := by
  obtain ⟨hx, hby, -⟩ := K
  subst hp
  exact WP.go (fun T locs vm0 X e hZ ho t k => XT.lloadN X.here hx rfl (hb hby hd) hl k) H
theorem WP.lload (K : Cx κ w l Z own n0 rm bytes maxL ret nm Q) {j : Nat} {v : Int64} (hd : decode bytes pc = .ok (.lload j, 2)) (hl : L[j]? = some (.val (.long v))) (hp : pc + 2 = pc') (H : WP κ h k n (mkF κ.m pc' L (.long v :: S))) : WP κ h k n (mkF κ.m pc L (S)) := by
  obtain ⟨hx, hby, -⟩ := K
  subst hp
  exact WP.go (fun T locs vm0 X e hZ ho t k => XT.lload X.here hx rfl (hb hby hd) hl k) H
theorem WP.aloadN (K : Cx κ w l Z own n0 rm bytes maxL ret nm Q) {j : Fin 4} {v : Value} (hd : decode bytes pc = .ok (.aload_n j, 1)) (hl : L[j.val]? = some (.val v)) (hv : v.isRef = true) (hp : pc + 1 = pc') (H : WP κ h k n (mkF κ.m pc' L (v :: S))) : WP κ h k n (mkF κ.m pc L (S)) := by
  obtain ⟨hx, hby, -⟩ := K
  subst hp
  exact WP.go (fun T locs vm0 X e hZ ho t k => XS.aloadN X.here hx rfl (hb hby hd) hl hv k) H
theorem WP.aload (K : Cx κ w l Z own n0 rm bytes maxL ret nm Q) {j : Nat} {v : Value} (hd : decode bytes pc = .ok (.aload j, 2)) (hl : L[j]? = some (.val v)) (hv : v.isRef = true) (hp : pc + 2 = pc') (H : WP κ h k n (mkF κ.m pc' L (v :: S))) : WP κ h k n (mkF κ.m pc L (S)) := by
  obtain ⟨hx, hby, -⟩ := K
  subst hp
  exact WP.go (fun T locs vm0 X e hZ ho t k => XS.aload X.here hx rfl (hb hby hd) hl hv k) H
theorem WP.dloadN (K : Cx κ w l Z own n0 rm bytes maxL ret nm Q) {j : Fin 4} {v : UInt64} (hd : decode bytes pc = .ok (.dload_n j, 1)) (hl : L[j.val]? = some (.val (.double v))) (hp : pc + 1 = pc') (H : WP κ h k n (mkF κ.m pc' L (.double v :: S))) : WP κ h k n (mkF κ.m pc L (S)) := by
  obtain ⟨hx, hby, -⟩ := K
  subst hp
  exact WP.go (fun T locs vm0 X e hZ ho t k => XT.dloadN X.here hx rfl (hb hby hd) hl k) H
theorem WP.dload (K : Cx κ w l Z own n0 rm bytes maxL ret nm Q) {j : Nat} {v : UInt64} (hd : decode bytes pc = .ok (.dload j, 2)) (hl : L[j]? = some (.val (.double v))) (hp : pc + 2 = pc') (H : WP κ h k n (mkF κ.m pc' L (.double v :: S))) : WP κ h k n (mkF κ.m pc L (S)) := by
  obtain ⟨hx, hby, -⟩ := K
  subst hp
  exact WP.go (fun T locs vm0 X e hZ ho t k => XT.dload X.here hx rfl (hb hby hd) hl k) H
theorem WP.dup (K : Cx κ w l Z own n0 rm bytes maxL ret nm Q) {x : Value} (hd : decode bytes pc = .ok (.dup, 1)) (hc : x.category = 1) (hp : pc + 1 = pc') (H : WP κ h k n (mkF κ.m pc' L (x :: x :: S))) : WP κ h k n (mkF κ.m pc L (x :: S)) := by
  obtain ⟨hx, hby, -⟩ := K
  subst hp
  exact WP.go (fun T locs vm0 X e hZ ho t k => XS.dup X.here hx rfl (hb hby hd) rfl hc k) H
theorem WP.pop (K : Cx κ w l Z own n0 rm bytes maxL ret nm Q) {x : Value} (hd : decode bytes pc = .ok (.pop, 1)) (hc : x.category = 1) (hp : pc + 1 = pc') (H : WP κ h k n (mkF κ.m pc' L (S))) : WP κ h k n (mkF κ.m pc L (x :: S)) := by
  obtain ⟨hx, hby, -⟩ := K
  subst hp
  exact WP.go (fun T locs vm0 X e hZ ho t k => XT.pop X.here hx rfl (hb hby hd) rfl hc k) H
theorem WP.dup_x1 (K : Cx κ w l Z own n0 rm bytes maxL ret nm Q) {x y : Value} (hd : decode bytes pc = .ok (.dup_x1, 1)) (hc : x.category = 1) (hc' : y.category = 1) (hp : pc + 1 = pc') (H : WP κ h k n (mkF κ.m pc' L (x :: y :: x :: S))) : WP κ h k n (mkF κ.m pc L (x :: y :: S)) := by
  obtain ⟨hx, hby, -⟩ := K
  subst hp
  exact WP.go (fun T locs vm0 X e hZ ho t k => XT.dupX1 X.here hx rfl (hb hby hd) rfl hc hc' k) H
theorem WP.dup2 (K : Cx κ w l Z own n0 rm bytes maxL ret nm Q) {x y : Value} (hd : decode bytes pc = .ok (.dup2, 1)) (hc : x.category = 1) (hc' : y.category = 1) (hp : pc + 1 = pc') (H : WP κ h k n (mkF κ.m pc' L (x :: y :: x :: y :: S))) : WP κ h k n (mkF κ.m pc L (x :: y :: S)) := by
  obtain ⟨hx, hby, -⟩ := K
  subst hp
  exact WP.go (fun T locs vm0 X e hZ ho t k => XT.dup2 X.here hx rfl (hb hby hd) rfl hc hc' k) H
theorem WP.dup2L (K : Cx κ w l Z own n0 rm bytes maxL ret nm Q) {x : Int64} (hd : decode bytes pc = .ok (.dup2, 1))  (hp : pc + 1 = pc') (H : WP κ h k n (mkF κ.m pc' L (.long x :: .long x :: S))) : WP κ h k n (mkF κ.m pc L (.long x :: S)) := by
  obtain ⟨hx, hby, -⟩ := K
  subst hp
  exact WP.go (fun T locs vm0 X e hZ ho t k => XT.dup2L X.here hx rfl (hb hby hd) rfl k) H
theorem WP.i2d (K : Cx κ w l Z own n0 rm bytes maxL ret nm Q) {x : Int32} (hd : decode bytes pc = .ok (.i2d, 1))  (hp : pc + 1 = pc') (H : WP κ h k n (mkF κ.m pc' L (.double (FP.i2d x) :: S))) : WP κ h k n (mkF κ.m pc L (.int x :: S)) := by
  obtain ⟨hx, hby, -⟩ := K
  subst hp
  exact WP.go (fun T locs vm0 X e hZ ho t k => Jvm.Free.XS.i2dS X.here hx rfl (hb hby hd) rfl rfl k) H
theorem WP.l2d (K : Cx κ w l Z own n0 rm bytes maxL ret nm Q) {x : Int64} (hd : decode bytes pc = .ok (.l2d, 1))  (hp : pc + 1 = pc') (H : WP κ h k n (mkF κ.m pc' L (.double (FP.l2d x) :: S))) : WP κ h k n (mkF κ.m pc L (.long x :: S)) := by
  obtain ⟨hx, hby, -⟩ := K
  subst hp
  exact WP.go (fun T locs vm0 X e hZ ho t k => Jvm.Free.XS.l2dS X.here hx rfl (hb hby hd) rfl rfl k) H
theorem WP.dcmp (K : Cx κ w l Z own n0 rm bytes maxL ret nm Q) {o : CmpOp} {x y : UInt64} (hd : decode bytes pc = .ok (.dcmp o, 1))  (hp : pc + 1 = pc') (H : WP κ h k n (mkF κ.m pc' L (.int (cmpValue (FP.dcmp x y) o) :: S))) : WP κ h k n (mkF κ.m pc L (.double y :: .double x :: S)) := by
  obtain ⟨hx, hby, -⟩ := K
  subst hp
  exact WP.go (fun T locs vm0 X e hZ ho t k => Jvm.Free.XS.dcmpS X.here hx rfl (hb hby hd) rfl rfl k) H
theorem WP.dconst0 (K : Cx κ w l Z own n0 rm bytes maxL ret nm Q) {v : UInt64} (hd : decode bytes pc = .ok (.dconst 0, 1)) (hv : FP.dconst0 = v) (hp : pc + 1 = pc') (H : WP κ h k n (mkF κ.m pc' L (.double v :: S))) : WP κ h k n (mkF κ.m pc L (S)) := by
  obtain ⟨hx, hby, -⟩ := K
  subst hp
  exact WP.go (fun T locs vm0 X e hZ ho t k => Jvm.Free.XS.dconst0 X.here hx rfl (hb hby hd) hv k) H
theorem WP.dconst1 (K : Cx κ w l Z own n0 rm bytes maxL ret nm Q) {v : UInt64} (hd : decode bytes pc = .ok (.dconst 1, 1)) (hv : FP.dconst1 = v) (hp : pc + 1 = pc') (H : WP κ h k n (mkF κ.m pc' L (.double v :: S))) : WP κ h k n (mkF κ.m pc L (S)) := by
  obtain ⟨hx, hby, -⟩ := K
  subst hp
  exact WP.go (fun T locs vm0 X e hZ ho t k => Jvm.Free.XS.dconst1 X.here hx rfl (hb hby hd) hv k) H
theorem WP.ddiv (K : Cx κ w l Z own n0 rm bytes maxL ret nm Q) {x y : UInt64} (hd : decode bytes pc = .ok (.ddiv, 1)) (hn : Jvm.Free.Fl.NoNaN64 (FP.ddiv x y)) (hp : pc + 1 = pc') (H : WP κ h k n (mkF κ.m pc' L (.double (FP.ddiv x y) :: S))) : WP κ h k n (mkF κ.m pc L (.double y :: .double x :: S)) := by
  obtain ⟨hx, hby, -⟩ := K
  subst hp
  exact WP.go (fun T locs vm0 X e hZ ho t k => Jvm.Free.XS.ddivS X.here hx rfl (hb hby hd) rfl hn rfl k) H
theorem WP.istoreN (K : Cx κ w l Z own n0 rm bytes maxL ret nm Q) {j : Fin 4} {x : Int32} (hd : decode bytes pc = .ok (.istore_n j, 1))  (hl : storeLocals L j.val (.int x) = some L') (hp : pc + 1 = pc') (H : WP κ h k n (mkF κ.m pc' L' S)) : WP κ h k n (mkF κ.m pc L ((.int x) :: S)) := by
  obtain ⟨hx, hby, -⟩ := K
  subst hp
  exact WP.go (fun T locs vm0 X e hZ ho t k => XS.istoreN X.here hx rfl (hb hby hd) rfl hl k) H
theorem WP.istore (K : Cx κ w l Z own n0 rm bytes maxL ret nm Q) {j : Nat} {x : Int32} (hd : decode bytes pc = .ok (.istore j, 2))  (hl : storeLocals L j (.int x) = some L') (hp : pc + 2 = pc') (H : WP κ h k n (mkF κ.m pc' L' S)) : WP κ h k n (mkF κ.m pc L ((.int x) :: S)) := by
  obtain ⟨hx, hby, -⟩ := K
  subst hp
  exact WP.go (fun T locs vm0 X e hZ ho t k => XS.istore X.here hx rfl (hb hby hd) rfl hl k) H
theorem WP.lstoreN (K : Cx κ w l Z own n0 rm bytes maxL ret nm Q) {j : Fin 4} {x : Int64} (hd : decode bytes pc = .ok (.lstore_n j, 1))  (hl : storeLocals L j.val (.long x) = some L') (hp : pc + 1 = pc') (H : WP κ h k n (mkF κ.m pc' L' S)) : WP κ h k n (mkF κ.m pc L ((.long x) :: S)) := by
  obtain ⟨hx, hby, -⟩ := K
  subst hp
  exact WP.go (fun T locs vm0 X e hZ ho t k => XT.lstoreN X.here hx rfl (hb hby hd) rfl hl k) H
theorem WP.lstore (K : Cx κ w l Z own n0 rm bytes maxL ret nm Q) {j : Nat} {x : Int64} (hd : decode bytes pc = .ok (.lstore j, 2))  (hl : storeLocals L j (.long x) = some L') (hp : pc + 2 = pc') (H : WP κ h k n (mkF κ.m pc' L' S)) : WP κ h k n (mkF κ.m pc L ((.long x) :: S)) := by
  obtain ⟨hx, hby, -⟩ := K
  subst hp
  exact WP.go (fun T locs vm0 X e hZ ho t k => XT.lstore X.here hx rfl (hb hby hd) rfl hl k) H
theorem WP.astoreN (K : Cx κ w l Z own n0 rm bytes maxL ret nm Q) {j : Fin 4} {x : Value} (hd : decode bytes pc = .ok (.astore_n j, 1)) (hv : x.isRef = true) (hl : storeLocals L j.val x = some L') (hp : pc + 1 = pc') (H : WP κ h k n (mkF κ.m pc' L' S)) : WP κ h k n (mkF κ.m pc L (x :: S)) := by
  obtain ⟨hx, hby, -⟩ := K
  subst hp
  exact WP.go (fun T locs vm0 X e hZ ho t k => XS.astoreN X.here hx rfl (hb hby hd) rfl hv hl k) H
theorem WP.astore (K : Cx κ w l Z own n0 rm bytes maxL ret nm Q) {j : Nat} {x : Value} (hd : decode bytes pc = .ok (.astore j, 2)) (hv : x.isRef = true) (hl : storeLocals L j x = some L') (hp : pc + 2 = pc') (H : WP κ h k n (mkF κ.m pc' L' S)) : WP κ h k n (mkF κ.m pc L (x :: S)) := by
  obtain ⟨hx, hby, -⟩ := K
  subst hp
  exact WP.go (fun T locs vm0 X e hZ ho t k => XS.astore X.here hx rfl (hb hby hd) rfl hv hl k) H
theorem WP.dstoreN (K : Cx κ w l Z own n0 rm bytes maxL ret nm Q) {j : Fin 4} {x : UInt64} (hd : decode bytes pc = .ok (.dstore_n j, 1))  (hl : storeLocals L j.val (.double x) = some L') (hp : pc + 1 = pc') (H : WP κ h k n (mkF κ.m pc' L' S)) : WP κ h k n (mkF κ.m pc L ((.double x) :: S)) := by
  obtain ⟨hx, hby, -⟩ := K
  subst hp
  exact WP.go (fun T locs vm0 X e hZ ho t k => Jvm.Free.XS.dstoreN X.here hx rfl (hb hby hd) rfl hl k) H
theorem WP.dstore (K : Cx κ w l Z own n0 rm bytes maxL ret nm Q) {j : Nat} {x : UInt64} (hd : decode bytes pc = .ok (.dstore j, 2))  (hl : storeLocals L j (.double x) = some L') (hp : pc + 2 = pc') (H : WP κ h k n (mkF κ.m pc' L' S)) : WP κ h k n (mkF κ.m pc L ((.double x) :: S)) := by
  obtain ⟨hx, hby, -⟩ := K
  subst hp
  exact WP.go (fun T locs vm0 X e hZ ho t k => Jvm.Free.XS.dstore X.here hx rfl (hb hby hd) rfl hl k) H
theorem WP.iinc (K : Cx κ w l Z own n0 rm bytes maxL ret nm Q) {j : Nat} {cst : Int} {x v : Int32} (hd : decode bytes pc = .ok (.iinc j cst, 3)) (hv : Int32.ofInt cst = v) (hl : L[j]? = some (.val (.int x))) (hl' : storeLocals L j (.int (x + v)) = some L') (hp : pc + 3 = pc') (H : WP κ h k n (mkF κ.m pc' L' S)) : WP κ h k n (mkF κ.m pc L S) := by
  obtain ⟨hx, hby, -⟩ := K
  subst hp
  exact WP.go (fun T locs vm0 X e hZ ho t k => XT.iincV X.here hx rfl v (hb hby hd) hv hl hl' k) H
theorem WP.goto (K : Cx κ w l Z own n0 rm bytes maxL ret nm Q) {o : Int} (hd : decode bytes pc = .ok (.goto o, 3)) (ho : 0 ≤ (pc : Int) + o) (hp : ((pc : Int) + o).toNat = pc') (H : WP κ h k n (mkF κ.m pc' L S)) : WP κ h k n (mkF κ.m pc L S) := by
  obtain ⟨hx, hby, -⟩ := K
  exact WP.go (fun T locs vm0 X e hZ ho' t k => XS.goto X.here hx rfl rfl (hb hby hd) ho hp k) H
theorem WP.if0T (K : Cx κ w l Z own n0 rm bytes maxL ret nm Q) {cd : ClassFile.Cond} {x : Int32} {o : Int} (hd : decode bytes pc = .ok (.ifCond cd o, 3)) (hc : ifCond.holds cd x = true) (ho : 0 ≤ (pc : Int) + o) (hp : ((pc : Int) + o).toNat = pc') (H : WP κ h k n (mkF κ.m pc' L S)) : WP κ h k n (mkF κ.m pc L (.int x :: S)) := by
  obtain ⟨hx, hby, -⟩ := K
  exact WP.go (fun T locs vm0 X e hZ ho' t k => XS.ifYes X.here hx rfl rfl (hb hby hd) rfl hc ho hp k) H
theorem WP.if0F (K : Cx κ w l Z own n0 rm bytes maxL ret nm Q) {cd : ClassFile.Cond} {x : Int32} {o : Int} (hd : decode bytes pc = .ok (.ifCond cd o, 3)) (hc : ifCond.holds cd x = false) (hp : pc + 3 = pc') (H : WP κ h k n (mkF κ.m pc' L S)) : WP κ h k n (mkF κ.m pc L (.int x :: S)) := by
  obtain ⟨hx, hby, -⟩ := K
  subst hp
  exact WP.go (fun T locs vm0 X e hZ ho' t k => XS.ifNo X.here hx rfl (hb hby hd) rfl hc k) H
theorem WP.icmpT (K : Cx κ w l Z own n0 rm bytes maxL ret nm Q) {cd : ClassFile.Cond} {x y : Int32} {o : Int} (hd : decode bytes pc = .ok (.if_icmp cd o, 3)) (hc : if_icmp.holds cd x y = true) (ho : 0 ≤ (pc : Int) + o) (hp : ((pc : Int) + o).toNat = pc') (H : WP κ h k n (mkF κ.m pc' L S)) : WP κ h k n (mkF κ.m pc L (.int y :: .int x :: S)) := by
  obtain ⟨hx, hby, -⟩ := K
  exact WP.go (fun T locs vm0 X e hZ ho' t k => XS.icmpYes X.here hx rfl rfl (hb hby hd) rfl hc ho hp k) H
theorem WP.icmpF (K : Cx κ w l Z own n0 rm bytes maxL ret nm Q) {cd : ClassFile.Cond} {x y : Int32} {o : Int} (hd : decode bytes pc = .ok (.if_icmp cd o, 3)) (hc : if_icmp.holds cd x y = false) (hp : pc + 3 = pc') (H : WP κ h k n (mkF κ.m pc' L S)) : WP κ h k n (mkF κ.m pc L (.int y :: .int x :: S)) := by
  obtain ⟨hx, hby, -⟩ := K
  subst hp
  exact WP.go (fun T locs vm0 X e hZ ho' t k => XS.icmpNo X.here hx rfl (hb hby hd) rfl hc k) H
theorem WP.acmpT (K : Cx κ w l Z own n0 rm bytes maxL ret nm Q) {cd : ClassFile.ACond} {x y : Value} {o : Int} (hd : decode bytes pc = .ok (.if_acmp cd o, 3)) (h1 : x.isRef = true) (h2 : y.isRef = true) (hc : XT.acmp cd x y = true) (ho : 0 ≤ (pc : Int) + o) (hp : ((pc : Int) + o).toNat = pc') (H : WP κ h k n (mkF κ.m pc' L S)) : WP κ h k n (mkF κ.m pc L (y :: x :: S)) := by
  obtain ⟨hx, hby, -⟩ := K
  exact WP.go (fun T locs vm0 X e hZ ho' t k => XT.acmpYes X.here hx rfl rfl (hb hby hd) rfl h1 h2 hc ho hp k) H
theorem WP.acmpF (K : Cx κ w l Z own n0 rm bytes maxL ret nm Q) {cd : ClassFile.ACond} {x y : Value} {o : Int} (hd : decode bytes pc = .ok (.if_acmp cd o, 3)) (h1 : x.isRef = true) (h2 : y.isRef = true) (hc : XT.acmp cd x y = false) (hp : pc + 3 = pc') (H : WP κ h k n (mkF κ.m pc' L S)) : WP κ h k n (mkF κ.m pc L (y :: x :: S)) := by
  obtain ⟨hx, hby, -⟩ := K
  subst hp
  exact WP.go (fun T locs vm0 X e hZ ho' t k => XT.acmpNo X.here hx rfl (hb hby hd) rfl h1 h2 hc k) H
theorem WP.ifnullT (K : Cx κ w l Z own n0 rm bytes maxL ret nm Q) {o : Int} {b : Addr} (hd : decode bytes pc = .ok (.ifnull o, 3)) (ho : 0 ≤ (pc : Int) + o) (hp : ((pc : Int) + o).toNat = pc') (H : WP κ h k n (mkF κ.m pc' L S)) : WP κ h k n (mkF κ.m pc L (.null :: S)) := by
  obtain ⟨hx, hby, -⟩ := K
  exact WP.go (fun T locs vm0 X e hZ ho' t k => XS.ifnullYes X.here hx rfl rfl (hb hby hd) rfl ho hp k) H
theorem WP.ifnullF (K : Cx κ w l Z own n0 rm bytes maxL ret nm Q) {o : Int} {b : Addr} (hd : decode bytes pc = .ok (.ifnull o, 3)) (hp : pc + 3 = pc') (H : WP κ h k n (mkF κ.m pc' L S)) : WP κ h k n (mkF κ.m pc L (.ref b :: S)) := by
  obtain ⟨hx, hby, -⟩ := K
  subst hp
  exact WP.go (fun T locs vm0 X e hZ ho' t k => XS.ifnullNo X.here hx rfl (hb hby hd) rfl k) H
theorem WP.ifnonnullT (K : Cx κ w l Z own n0 rm bytes maxL ret nm Q) {o : Int} {b : Addr} (hd : decode bytes pc = .ok (.ifnonnull o, 3)) (ho : 0 ≤ (pc : Int) + o) (hp : ((pc : Int) + o).toNat = pc') (H : WP κ h k n (mkF κ.m pc' L S)) : WP κ h k n (mkF κ.m pc L (.ref b :: S)) := by
  obtain ⟨hx, hby, -⟩ := K
  exact WP.go (fun T locs vm0 X e hZ ho' t k => XT.ifnonnullYes X.here hx rfl rfl (hb hby hd) rfl ho hp k) H
theorem WP.ifnonnullF (K : Cx κ w l Z own n0 rm bytes maxL ret nm Q) {o : Int} {b : Addr} (hd : decode bytes pc = .ok (.ifnonnull o, 3)) (hp : pc + 3 = pc') (H : WP κ h k n (mkF κ.m pc' L S)) : WP κ h k n (mkF κ.m pc L (.null :: S)) := by
  obtain ⟨hx, hby, -⟩ := K
  subst hp
  exact WP.go (fun T locs vm0 X e hZ ho' t k => XT.ifnonnullNo X.here hx rfl (hb hby hd) rfl k) H
theorem WP.ldcI (K : Cx κ w l Z own n0 rm bytes maxL ret nm Q) {i : Nat} {v : Int32} (wc : (Cond.constant own i v).before a0 Z = true) (hd : decode bytes pc = .ok (.ldc i, 2)) (hp : pc + 2 = pc') (H : WP κ h k n (mkF κ.m pc' L (.int v :: S))) : WP κ h k n (mkF κ.m pc L S) := by
  obtain ⟨hx, hby, -, -, -, -, -, -, rfl, rfl, -⟩ := K
  subst hp
  exact WP.go (fun T locs vm0 X e hZ ho t k => X.ldcInt hx (own := κ.own) ho (mvT (args := κ.a) (s := κ.s.setVm vm0) hZ wc) (g := mkF κ.m pc L S) rfl (hb hby hd) t k) H
theorem WP.ldcwI (K : Cx κ w l Z own n0 rm bytes maxL ret nm Q) {i : Nat} {v : Int32} (wc : (Cond.constant own i v).before a0 Z = true) (hd : decode bytes pc = .ok (.ldc_w i, 3)) (hp : pc + 3 = pc') (H : WP κ h k n (mkF κ.m pc' L (.int v :: S))) : WP κ h k n (mkF κ.m pc L S) := by
  obtain ⟨hx, hby, -, -, -, -, -, -, rfl, rfl, -⟩ := K
  subst hp
  exact WP.go (fun T locs vm0 X e hZ ho t k => X.ldcwInt hx (own := κ.own) ho (mvT (args := κ.a) (s := κ.s.setVm vm0) hZ wc) (g := mkF κ.m pc L S) rfl (hb hby hd) t k) H
theorem WP.ldc2J (K : Cx κ w l Z own n0 rm bytes maxL ret nm Q) {i : Nat} {v : Int64} (wc : (Cond.constantLong own i v).before a0 Z = true) (hd : decode bytes pc = .ok (.ldc2_w i, 3)) (hp : pc + 3 = pc') (H : WP κ h k n (mkF κ.m pc' L (.long v :: S))) : WP κ h k n (mkF κ.m pc L S) := by
  obtain ⟨hx, hby, -, -, -, -, -, -, rfl, rfl, -⟩ := K
  subst hp
  exact WP.go (fun T locs vm0 X e hZ ho t k => X.ldc2Long hx (own := κ.own) ho (mvT (args := κ.a) (s := κ.s.setVm vm0) hZ wc) (g := mkF κ.m pc L S) rfl (hb hby hd) t k) H
theorem WP.ldc2D (K : Cx κ w l Z own n0 rm bytes maxL ret nm Q) {i : Nat} {v : UInt64} (wc : (Cond.constantDouble own i v).before a0 Z = true) (hd : decode bytes pc = .ok (.ldc2_w i, 3)) (hp : pc + 3 = pc') (H : WP κ h k n (mkF κ.m pc' L (.double v :: S))) : WP κ h k n (mkF κ.m pc L S) := by
  obtain ⟨hx, hby, -, -, -, -, -, -, rfl, rfl, -⟩ := K
  subst hp
  exact WP.go (fun T locs vm0 X e hZ ho t k => X.ldc2DoubleC hx (own := κ.own) ho (mvT (args := κ.a) (s := κ.s.setVm vm0) hZ wc) (g := mkF κ.m pc L S) rfl (hb hby hd) t k) H
theorem Ends.of {T : State} {locs : List Loc} {vm0 : Vm} {v : Option Value} {g : JFrame} (X : Stand κ.p κ.l κ.e κ.R (κ.s.setVm vm0) κ.m κ.a κ.below κ.meth κ.c T locs k n) (M : Md κ.P κ.w κ.s vm0 T.heap) (N : Fr κ.n0 locs) (hv : κ.meth.sig.returnType = none → v = none) (hlk : κ.meth.locks = false) (hk : k ≤ κ.R.cells) (hn : n ≤ κ.R.slots) (hq : κ.Q v T.heap T.vm)
    (st : ∀ fs, (∀ (f : JFrame) (acts : List Action), f.method = κ.m → f.locked = none → f.entered = [] → (doReturn κ.e (T.setTop f) acts v).1 = T.setFrames fs) → Steps κ.p.tables κ.e κ.below (T.setTop g) (T.setFrames fs)) : Ends κ T g := by
  obtain ⟨k0, hS, hk0⟩ := M.2.1
  by_cases hw : κ.w = true
  · obtain ⟨fs, h1, h2, h3, h4⟩ := (X.mono hk hn).leaveW hS hk0 hv hlk
    exact ⟨_, _, st fs h1, h2, h3, v, locs, rfl, ⟨hq, N⟩, by rw [hw]; exact h4⟩
  · have hw' : κ.w = false := by simpa using hw
    have e := M.1 hw'
    subst e
    obtain ⟨fs, h1, h2, h3, h4, h5⟩ := (X.mono hk hn).leave hv hlk
    exact ⟨_, _, st fs h1, h2, h3, v, locs, rfl, ⟨hq, N⟩, by rw [hw']; exact ⟨⟨v, rfl⟩, h4, h5⟩⟩
theorem WP.ret0 (K : Cx κ w l Z own n0 rm bytes maxL none nm Q) (hd : decode bytes pc = .ok (.return_, 1)) (hk : k ≤ rm.cells) (hn : n ≤ rm.slots) (hq : ∀ vm0 vm1 : Vm, Z.Warmed39 vm0 → κ.P vm0 h → (κ.s.setVm vm0).WarmedH vm1 → Q none h vm1) : WP κ h k n (mkF κ.m pc L ([])) := by
  obtain ⟨hx, hby, -, hr, hlk, -, -, -, rfl, rfl, rfl, rfl, rfl⟩ := K
  intro T locs vm0 X e M hZ ho N
  subst e
  exact Ends.of X M N (fun _ => rfl) hlk hk hn (hq vm0 _ hZ M.2.2 X.warmed) fun fs hl => X.returnOut hx hr (hb hby hd) hl
theorem WP.retI (K : Cx κ w l Z own n0 rm bytes maxL (some .int) nm Q) {z : Int32} (hd : decode bytes pc = .ok (.ireturn, 1)) (hk : k ≤ rm.cells) (hn : n ≤ rm.slots) (hq : ∀ vm0 vm1 : Vm, Z.Warmed39 vm0 → κ.P vm0 h → (κ.s.setVm vm0).WarmedH vm1 → Q (some (.int z)) h vm1) : WP κ h k n (mkF κ.m pc L (.int z :: S)) := by
  obtain ⟨hx, hby, -, hr, hlk, -, -, -, rfl, rfl, rfl, rfl, rfl⟩ := K
  intro T locs vm0 X e M hZ ho N
  subst e
  exact Ends.of X M N (fun q => by rw [hr] at q; cases q) hlk hk hn (hq vm0 _ hZ M.2.2 X.warmed) fun fs hl => retOut X hx hr rfl (Or.inl ⟨rfl, Or.inl rfl, z, rfl⟩) (hb hby hd) hl
theorem WP.retJ (K : Cx κ w l Z own n0 rm bytes maxL (some .long) nm Q) {z : Int64} (hd : decode bytes pc = .ok (.lreturn, 1)) (hk : k ≤ rm.cells) (hn : n ≤ rm.slots) (hq : ∀ vm0 vm1 : Vm, Z.Warmed39 vm0 → κ.P vm0 h → (κ.s.setVm vm0).WarmedH vm1 → Q (some (.long z)) h vm1) : WP κ h k n (mkF κ.m pc L (.long z :: S)) := by
  obtain ⟨hx, hby, -, hr, hlk, -, -, -, rfl, rfl, rfl, rfl, rfl⟩ := K
  intro T locs vm0 X e M hZ ho N
  subst e
  exact Ends.of X M N (fun q => by rw [hr] at q; cases q) hlk hk hn (hq vm0 _ hZ M.2.2 X.warmed) fun fs hl => retOut X hx hr rfl (Or.inr (Or.inl ⟨rfl, rfl, z, rfl⟩)) (hb hby hd) hl
theorem WP.retD (K : Cx κ w l Z own n0 rm bytes maxL (some .double) nm Q) {z : UInt64} (hd : decode bytes pc = .ok (.dreturn, 1)) (hk : k ≤ rm.cells) (hn : n ≤ rm.slots) (hq : ∀ vm0 vm1 : Vm, Z.Warmed39 vm0 → κ.P vm0 h → (κ.s.setVm vm0).WarmedH vm1 → Q (some (.double z)) h vm1) : WP κ h k n (mkF κ.m pc L (.double z :: S)) := by
  obtain ⟨hx, hby, -, hr, hlk, -, -, -, rfl, rfl, rfl, rfl, rfl⟩ := K
  intro T locs vm0 X e M hZ ho N
  subst e
  exact Ends.of X M N (fun q => by rw [hr] at q; cases q) hlk hk hn (hq vm0 _ hZ M.2.2 X.warmed) fun fs hl => retOut X hx hr rfl (Or.inr (Or.inr (Or.inl ⟨rfl, rfl, z, rfl⟩))) (hb hby hd) hl
theorem WP.retR {ty : FieldType} (K : Cx κ w l Z own n0 rm bytes maxL (some ty) nm Q) {v : Value} (ht : ty.isReference = true) (hv : v.isRef = true) (hd : decode bytes pc = .ok (.areturn, 1)) (hk : k ≤ rm.cells) (hn : n ≤ rm.slots) (hq : ∀ vm0 vm1 : Vm, Z.Warmed39 vm0 → κ.P vm0 h → (κ.s.setVm vm0).WarmedH vm1 → Q (some v) h vm1) : WP κ h k n (mkF κ.m pc L (v :: S)) := by
  obtain ⟨hx, hby, -, hr, hlk, -, -, -, rfl, rfl, rfl, rfl, rfl⟩ := K
  intro T locs vm0 X e M hZ ho N
  subst e
  exact Ends.of X M N (fun q => by rw [hr] at q; cases q) hlk hk hn (hq vm0 _ hZ M.2.2 X.warmed) fun fs hl => retOut X hx hr (by cases ty <;> first | rfl | (cases ht) | (rcases ref_cases hv with rfl | ⟨_, rfl⟩ <;> rfl)) (Or.inr (Or.inr (Or.inr (Or.inr ⟨rfl, ht, hv⟩)))) (hb hby hd) hl
theorem WP.retN {ty : FieldType} (K : Cx κ w l Z own n0 rm bytes maxL (some ty) nm Q) {z : Int32} (ht : ty = .boolean ∨ ty = .byte ∨ ty = .char ∨ ty = .short) (hd : decode bytes pc = .ok (.ireturn, 1)) (hk : k ≤ rm.cells) (hn : n ≤ rm.slots) (hq : ∀ vm0 vm1 : Vm, Z.Warmed39 vm0 → κ.P vm0 h → (κ.s.setVm vm0).WarmedH vm1 → Q (some (.int (nar ty z))) h vm1) : WP κ h k n (mkF κ.m pc L (.int z :: S)) := by
  obtain ⟨hx, hby, -, hr, hlk, -, -, -, rfl, rfl, rfl, rfl, rfl⟩ := K
  intro T locs vm0 X e M hZ ho N
  subst e
  exact Ends.of X M N (fun q => by rw [hr] at q; cases q) hlk hk hn (hq vm0 _ hZ M.2.2 X.warmed) fun fs hl => RoadKit.retN X hx hr ht (hb hby hd) hl
theorem WP.getF (K : Cx κ w l Z own n0 rm bytes maxL ret nm Q) {i : Nat} {R0 O f d : String} {a : Addr} {v : Value} (wl : (Cond.fieldLink own i R0 f d).before a0 Z = true) (via : Via Z R0 O f d) (F : Fld Z h a O f d v) (hd : decode bytes pc = .ok (.getfield i, 3)) (hp : pc + 3 = pc') (H : WP κ h k n (mkF κ.m pc' L (v :: S))) : WP κ h k n (mkF κ.m pc L (.ref a :: S)) := by
  obtain ⟨hx, hby, -, -, -, hnm, -, -, rfl, rfl, rfl, rfl, -⟩ := K
  subst hp
  intro T locs vm0 X e M hZ ho N
  obtain ⟨T', X', e', st⟩ := RoadKit.getF X hx (s := κ.s.setVm vm0) hZ ho (host := "") (Or.inl wl) via e F (g := mkF κ.m pc L (.ref a :: S)) rfl rfl (hb hby hd)
  obtain ⟨t, o, h1, r⟩ := H T' locs vm0 X' e' M hZ ho N
  exact ⟨t, o, st _ h1, r⟩
theorem WP.getS (K : Cx κ w l Z own n0 rm bytes maxL ret nm Q) {i : Nat} {R0 O f d : String} {v : Value} (wl : (Cond.fieldLink own i R0 f d).before a0 Z = true) (via : Via Z R0 O f d) (F : Sta Z h O f d v) (hd : decode bytes pc = .ok (.getstatic i, 3)) (hp : pc + 3 = pc') (H : WP κ h k n (mkF κ.m pc' L (v :: S))) : WP κ h k n (mkF κ.m pc L S) := by
  obtain ⟨hx, hby, -, -, -, hnm, -, -, rfl, rfl, rfl, rfl, -⟩ := K
  subst hp
  intro T locs vm0 X e M hZ ho N
  obtain ⟨T', X', e', st⟩ := RoadKit.getS (host := "") X hx (s := κ.s.setVm vm0) hZ ho wl via e F (g := mkF κ.m pc L S) rfl (hb hby hd)
  obtain ⟨t, o, h1, r⟩ := H T' locs vm0 X' e' M hZ ho N
  exact ⟨t, o, st _ h1, r⟩
theorem WP.putF (K : Cx κ w l Z own n0 rm bytes maxL ret nm Q) {i kk : Nat} {R0 O f d C : String} {ty : FieldType} {a : Addr} {v old : Value} (hE : ∀ (vm : Vm) (h' : Heap) (sl : Nat) (v : Value), Z.vm.Alike vm → Wr h h' a sl v → κ.P vm h → κ.P vm h') (wl : (Cond.fieldLink own i R0 f d).before a0 Z = true) (via : Via Z R0 O f d) (F : Fld Z h a O f d old) (E : Exa Z h a C) (la : (Cond.lays C O f d).before a0 Z = true ∨ ((Cond.laysFinal C O f d).before a0 Z = true ∧ own = O ∧ nm = "<init>")) (wi : (Cond.instantiable C kk).before a0 Z = true)
    (hty : parseFieldDescriptor d = some ty) (hn1 : narrow ty v = v) (hf : fits ty v = true) (ha : n0 ≤ a) (hd : decode bytes pc = .ok (.putfield i, 3)) (hp : pc + 3 = pc') (H : ∀ h', Wr h h' a (Jvm.RoadKit.slotOf Z O f d) v → WP κ h' k n (mkF κ.m pc' L S)) : WP κ h k n (mkF κ.m pc L (v :: .ref a :: S)) := by
  obtain ⟨hx, hby, -, -, -, hnm, -, -, rfl, rfl, rfl, rfl, -⟩ := K
  subst hp
  intro T locs vm0 X e M hZ ho N
  obtain ⟨T', h', X', e', W, st⟩ := RoadKit.putF X hx (s := κ.s.setVm vm0) hZ ho (host := "") (Or.inl wl) via e F E (la.imp id fun q => ⟨q.1, q.2.1, hnm.trans q.2.2⟩) wi hty hn1 hf (g := mkF κ.m pc L (v :: .ref a :: S)) rfl rfl (hb hby hd)
  obtain ⟨t, o, h1, r⟩ := H h' W T' _ vm0 X' e' (M.mono (Nat.le_of_eq W.size.symm) (hE _ _ _ _ hZ.alike W)) hZ ho (Fr.snoc X' N ha)
  exact ⟨t, o, st _ h1, r⟩
theorem WP.putFN (K : Cx κ w l Z own n0 rm bytes maxL ret nm Q) {i kk : Nat} {R0 O f d C : String} {ty : FieldType} {a : Addr} {v v' old : Value} (hE : ∀ (vm : Vm) (h' : Heap) (sl : Nat) (v : Value), Z.vm.Alike vm → Wr h h' a sl v → κ.P vm h → κ.P vm h') (wl : (Cond.fieldLink own i R0 f d).before a0 Z = true) (via : Via Z R0 O f d) (F : Fld Z h a O f d old) (E : Exa Z h a C) (la : (Cond.lays C O f d).before a0 Z = true ∨ ((Cond.laysFinal C O f d).before a0 Z = true ∧ own = O ∧ nm = "<init>")) (wi : (Cond.instantiable C kk).before a0 Z = true)
    (hty : parseFieldDescriptor d = some ty) (hn1 : narrow ty v = v') (hf : fits ty v' = true) (ha : n0 ≤ a) (hd : decode bytes pc = .ok (.putfield i, 3)) (hp : pc + 3 = pc') (H : ∀ h', Wr h h' a (Jvm.RoadKit.slotOf Z O f d) v' → WP κ h' k n (mkF κ.m pc' L S)) : WP κ h k n (mkF κ.m pc L (v :: .ref a :: S)) := by
  obtain ⟨hx, hby, -, -, -, hnm, -, -, rfl, rfl, rfl, rfl, -⟩ := K
  subst hp
  intro T locs vm0 X e M hZ ho N
  obtain ⟨T', h', X', e', W, st⟩ := RoadKit.putFN X hx (s := κ.s.setVm vm0) hZ ho wl via e F E (la.imp id fun q => ⟨q.1, q.2.1, hnm.trans q.2.2⟩) wi hty hn1 hf (g := mkF κ.m pc L (v :: .ref a :: S)) rfl rfl (hb hby hd)
  obtain ⟨t, o, h1, r⟩ := H h' W T' _ vm0 X' e' (M.mono (Nat.le_of_eq W.size.symm) (hE _ _ _ _ hZ.alike W)) hZ ho (Fr.snoc X' N ha)
  exact ⟨t, o, st _ h1, r⟩
theorem WP.new (K : Cx κ w l Z own n0 rm bytes maxL ret nm Q) (hE : ∀ (vm : Vm) (h' : Heap), Ext h h' → κ.P vm h → κ.P vm h') {i sl : Nat} {C : String} (w1 : (Cond.classLink own i C).before a0 Z = true) (w2 : (Cond.instantiable C sl).before a0 Z = true) (w3 : (Cond.initialized C).before a0 Z = true) (hd : decode bytes pc = .ok (.new i, 3)) (hk : k + 1 = k') (hn : n + sl = n') (hk' : k' ≤ rm.cells) (hn' : n' ≤ rm.slots) (hp : pc + 3 = pc')
    (H : ∀ (h' : Heap) (a : Addr), @Eq Nat h.size a → Ext h h' → Exa Z h' a C → (∀ {O f d : String} {ty : FieldType}, Laid Z a0 C O f d → parseFieldDescriptor d = some ty → Fld Z h' a O f d (defaultValue ty)) → WP κ h' k' n' (mkF κ.m pc' L (.ref a :: S))) : WP κ h k n (mkF κ.m pc L S) := by
  obtain ⟨hx, hby, -, -, -, hnm, -, -, rfl, rfl, rfl, rfl, -⟩ := K
  subst hp hk hn
  intro T locs vm0 X e M hZ ho N
  obtain ⟨T', h', X', e', E, A, D, -, st⟩ := newO X hx (s := κ.s.setVm vm0) hZ ho w1 w2 w3 e (g := mkF κ.m pc L S) rfl (hb hby hd) hk' hn'
  obtain ⟨t, o, h1, r⟩ := H h' _ rfl E A D T' _ vm0 X' e' (M.mono E.1 (hE _ _ E)) hZ ho N
  exact ⟨t, o, st _ h1, r⟩
theorem WP.initO (K : Cx κ w l Z own n0 rm bytes maxL ret nm Q) {i W : Nat} {a : Addr} (w1 : (Cond.methodLink own i Lib.objectInit).before a0 Z = true) (w2 : (Cond.instanceMethod Lib.objectInit).before a0 Z = true) (w3 : (Cond.code Lib.objectInit ⟨#[0xb1]⟩ 1 none).before a0 Z = true) (hd : decode bytes pc = .ok (.invokespecial i, 3)) (hL : L.size = maxL) (hf : 1 ≤ rm.frames) (hW : (S.map fun v => v.category).sum = W) (hl : W + 12 ≤ rm.locals) (hp : pc + 3 = pc')
    (H : WP κ h k n (mkF κ.m pc' L S)) : WP κ h k n (mkF κ.m pc L (.ref a :: S)) := by
  obtain ⟨hx, hby, hml, -, -, -, -, -, rfl, rfl, rfl, rfl, -⟩ := K
  subst hp
  intro T locs vm0 X e M hZ ho N
  obtain ⟨T', X', e', st⟩ := RoadKit.initO X hx (s := κ.s.setVm vm0) hZ ho w1 w2 w3 e (g := mkF κ.m pc L (.ref a :: S)) rfl (hL.trans hml.symm) rfl (hb hby hd) hf (W := W) (by show 2 * 0 + _ ≤ _; omega) hl
  obtain ⟨t, o, h1, r⟩ := H T' locs vm0 X' e' M hZ ho N
  exact ⟨t, o, st _ h1, r⟩
/-- an array: its class, its kind of component, its length, its components -/
def Ary (Z : State) (h : Heap) (a : Addr) (kA : ClassId) (ty : FieldType) (N : Nat) (f : Nat → Value) : Prop := ∃ c : Cell, Arr Z h a c ty ∧ c.cls = kA ∧ c.slots.size = N ∧ N < 2 ^ 31 ∧ (∀ i, i < N → c.slots[i]? = some (f i)) ∧ ∀ i, i < N → fits ty (f i) = true
def upd (f : Nat → Value) (i : Nat) (v : Value) : Nat → Value := fun j => if j = i then v else f j
theorem upd_same (f : Nat → Value) (i : Nat) (v : Value) : upd f i v i = v := if_pos rfl
theorem upd_ne (f : Nat → Value) {i j : Nat} (v : Value) (q : j ≠ i) : upd f i v j = f j := if_neg q
def fset {α : Type} (f : Nat → α) (i : Nat) (v : α) : Nat → α := fun j => if j = i then v else f j
theorem fset_same {α : Type} (f : Nat → α) (i : Nat) (v : α) : fset f i v i = v := if_pos rfl
theorem fset_ne {α : Type} (f : Nat → α) {i j : Nat} (v : α) (q : j ≠ i) : fset f i v j = f j := if_neg q
theorem upd_int (F : Nat → Int32) (i : Nat) (v : Int32) : upd (fun j => .int (F j)) i (.int v) = fun j => .int (fset F i v j) := by funext j; unfold upd fset; split <;> rfl
theorem upd_long (F : Nat → Int64) (i : Nat) (v : Int64) : upd (fun j => .long (F j)) i (.long v) = fun j => .long (fset F i v j) := by funext j; unfold upd fset; split <;> rfl
theorem upd_double (F : Nat → UInt64) (i : Nat) (v : UInt64) : upd (fun j => .double (F j)) i (.double v) = fun j => .double (fset F i v j) := by funext j; unfold upd fset; split <;> rfl
section Arrays
variable {a b : Addr} {kA : ClassId} {ty : FieldType} {N : Nat} {f f' : Nat → Value} {sl : Nat} {v : Value} {ws : List Addr}
theorem Ary.lt (A : Ary Z h a kA ty N f) : a < h.size := by obtain ⟨c, q, -⟩ := A; exact q.lt
theorem Ary.len (A : Ary Z h a kA ty N f) : N < 2 ^ 31 := by obtain ⟨c, -, -, -, q, -⟩ := A; exact q
theorem Ary.ext (E : Ext h h') (A : Ary Z h a kA ty N f) : Ary Z h' a kA ty N f := by obtain ⟨c, q, r⟩ := A; exact ⟨c, q.ext E, r⟩
theorem Ary.other (W : Wr h h' b sl v) (A : Ary Z h a kA ty N f) (q : a ≠ b) : Ary Z h' a kA ty N f := by obtain ⟨c, A, r⟩ := A; exact ⟨c, A.other W q, r⟩
theorem Ary.keep (K : Keep h h' ws) (A : Ary Z h a kA ty N f) (q : a ∉ ws) : Ary Z h' a kA ty N f := by obtain ⟨c, A, r⟩ := A; exact ⟨c, ⟨K.2.1 a c A.1 q, A.2⟩, r⟩
theorem Ary.congr (A : Ary Z h a kA ty N f) (q : ∀ i, i < N → f i = f' i) : Ary Z h a kA ty N f' := by obtain ⟨c, A, r1, r2, r3, r4, r5⟩ := A; exact ⟨c, A, r1, r2, r3, fun i hi => by rw [← q i hi]; exact r4 i hi, fun i hi => by rw [← q i hi]; exact r5 i hi⟩
theorem Ary.fits (A : Ary Z h a kA ty N f) {i : Nat} (hi : i < N) : Jvm.fits ty (f i) = true := by obtain ⟨c, -, -, -, -, -, q⟩ := A; exact q i hi
theorem Ary.set (W : Wr h h' a sl v) (A : Ary Z h a kA ty N f) (hv : Jvm.fits ty v = true) : Ary Z h' a kA ty N (upd f sl v) := by
  obtain ⟨c, A, r1, r2, r3, r4, r5⟩ := A
  refine ⟨_, A.same W, r1, by rw [sz_set]; exact r2, r3, fun i hi => ?_, fun i hi => ?_⟩
  · by_cases q : i = sl
    · subst q; rw [upd_same]; simp [Cell.setSlot, r2, hi]
    · rw [upd_ne f v q]; simp only [Cell.setSlot]; rw [Array.getElem?_setIfInBounds_ne (Ne.symm q)]; exact r4 i hi
  · by_cases q : i = sl
    · subst q; rw [upd_same]; exact hv
    · rw [upd_ne f v q]; exact r5 i hi
theorem Ary.ints (A : Ary Z h a kA ty N f) (ht : ty = .int ∨ ty = .boolean ∨ ty = .byte ∨ ty = .char ∨ ty = .short) : ∃ F : Nat → Int32, Ary Z h a kA ty N (fun i => .int (F i)) := by
  refine ⟨fun i => match f i with | .int x => x | _ => 0, A.congr fun i hi => ?_⟩
  obtain ⟨x, e⟩ := fit_I (A.fits hi) ht
  simp only [e]
theorem Ary.doubles (A : Ary Z h a kA .double N f) : ∃ F : Nat → UInt64, Ary Z h a kA .double N (fun i => .double (F i)) := by
  refine ⟨fun i => match f i with | .double x => x | _ => 0, A.congr fun i hi => ?_⟩
  obtain ⟨x, e⟩ := fit_D (A.fits hi)
  simp only [e]
theorem Ary.longs (A : Ary Z h a kA .long N f) : ∃ F : Nat → Int64, Ary Z h a kA .long N (fun i => .long (F i)) := by
  refine ⟨fun i => match f i with | .long x => x | _ => 0, A.congr fun i hi => ?_⟩
  obtain ⟨x, e⟩ := fit_J (A.fits hi)
  simp only [e]
theorem static_ary {s : State} {args : Array Value} {C nm d : String} {z : Int32} (hf : Fit s) (wl : (Cond.laysStatic C nm d).before args s = true) (wi : (Cond.initialized C).before args s = true) (hd : parseFieldDescriptor d = some (.array ty))
    (hA : (Cond.arrayOf (Term.static C nm d) ty).value args s none s [] = some true) (hL : (Cond.eq (Term.length (Term.static C nm d)) (Term.int z)).value args s none s [] = some true) (hz : z.toInt = (N : Int)) :
    ∃ (a : Addr) (kA : ClassId) (f : Nat → Value), Sta s s.heap C nm d (.ref a) ∧ Ary s s.heap a kA ty N f ∧ ∀ (i : Nat) (j v : Int32), j.toInt = (i : Int) → i < N → (Cond.eq (Term.elem (Term.static C nm d) (Term.int j)) (Term.int v)).value args s none s [] = some true → f i = .int v := by
  obtain ⟨v, ev, hv⟩ := static_fit hf wl hd
  have hr := fit_R hv rfl
  rcases ref_cases hr with rfl | ⟨a, rfl⟩
  · exfalso; simp [Cond.value, ev] at hA
  obtain ⟨c, A⟩ := Arr.start ev hA
  have hc := A.fin (Vm.Alike.refl _)
  have hs : c.slots.size < 2 ^ 31 ∧ c.slots.size.toInt32 = z := by
    obtain ⟨x, y, ex, ey⟩ := cmp_v (Or.inl hL)
    obtain ⟨a', c', ea, hc', rfl, q⟩ := Jvm.Free.SB.Term.length_small ex
    cases ev.symm.trans ea
    cases hc.symm.trans hc'
    exact ⟨q, by simpa [Cond.value, ex, Term.int_eval] using hL⟩
  have hN : c.slots.size = N := by have e := len_toInt hs.1; rw [hs.2, hz] at e; omega
  refine ⟨a, c.cls, fun i => c.slots.getD i .null, Sta.start ev (Or.inr ⟨wi, wl⟩), ⟨c, A, rfl, hN, by omega, fun i hi => ?_, fun i hi => ?_⟩, fun i j v hj hi he => ?_⟩
  · simp [Array.getD, hN, hi]
  · have q := hf A.1 (i := i) (by omega)
    obtain ⟨hst, k, hk, comp, hkind⟩ := A.2.1
    have e : s.slotType? c.cls c.vm i = some ty := by
      cases hq : c.vm <;> first | exact absurd hq (hst _) | simp [State.slotType?, hk, hkind]
    have hi' : i < c.slots.size := by omega
    simpa [State.fitsSlot, e, Array.getD, hi'] using q
  · have hi' : i < c.slots.size := by omega
    have hn : j.toNatClampNeg = i := by simp only [Int32.toNatClampNeg, hj]; omega
    obtain ⟨x, y, ex, ey⟩ := cmp_v (Or.inl he)
    obtain ⟨a', j', c', ea, ej, hc', -, hx⟩ := Term.elem_spec ex
    cases ev.symm.trans ea
    cases hc.symm.trans hc'
    cases (Term.int_eval j).symm.trans ej
    rw [hn] at hx
    have q : x = .int v := by
      have r := hf A.1 (i := i) hi'
      simp only [Cond.value, ex, Term.int_eval] at he
      cases x <;> simp at he
      rw [he]
    simp only [Array.getD, hi', dif_pos]
    rw [Array.getElem?_eq_getElem hi'] at hx
    exact (Option.some.inj hx).trans q
theorem Ary.of_new {cA : ClassId} {z : Int32} (A : Arr Z h a (newA cA ty z) ty) (hz : z.toInt = (N : Int)) : Ary Z h a cA ty N (fun _ => defaultValue ty) := by
  have e : z.toNatClampNeg = N := by simp only [Int32.toNatClampNeg]; omega
  have q := z.toInt_lt
  refine ⟨_, A, rfl, by rw [sz_new, e], by omega, fun i hi => ?_, fun i _ => by cases ty <;> rfl⟩
  simp [newA, e, hi]
theorem Ary.ne {a0 : Array Value} {C : String} {m : Nat} (E : Exa Z h b C) (A : Ary Z h a kA ty N f) (w : (Cond.instantiable C m).before a0 Z = true) : b ≠ a := by obtain ⟨c, q, -⟩ := A; exact ne_arr E w q
theorem in_of {c : Cell} {j : Int32} {i N : Nat} (S : c.slots.size = N) (hj : j.toInt = (i : Int)) (hi : i < N) : ¬ (j < 0 ∨ c.slots.size ≤ j.toNatClampNeg) := by
  rw [S, Int32.lt_iff_toInt_lt]; simp only [Int32.toNatClampNeg, hj]; have : (0 : Int32).toInt = 0 := rfl; omega
theorem nat_of {j : Int32} {i : Nat} (hj : j.toInt = (i : Int)) : j.toNatClampNeg = i := by simp only [Int32.toNatClampNeg, hj]; omega
end Arrays
theorem WP.iaload (K : Cx κ w l Z own n0 rm bytes maxL ret nm Q) {a : Addr} {kA : ClassId} {N i : Nat} {f : Nat → Value} {j : Int32} {v : Value} (A : Ary Z h a kA .int N f) (hj : j.toInt = (i : Int)) (hi : i < N) (hv : f i = v) (hd : decode bytes pc = .ok (.iaload, 1)) (hp : pc + 1 = pc') (H : WP κ h k n (mkF κ.m pc' L (v :: S))) : WP κ h k n (mkF κ.m pc L (.int j :: .ref a :: S)) := by
  obtain ⟨hx, hby, -, -, -, -, -, -, rfl, rfl, -⟩ := K
  subst hp hv
  obtain ⟨c, A, -, r2, -, r4, -⟩ := A
  refine WP.go (fun T locs vm0 X e hZ ho t k => ?_) H
  exact X.iaload hx (by rw [e]; exact A.1) (State.isArrayOf_alike (T := κ.s.setVm vm0) hZ.alike A.2.1) A.2.2 (in_of r2 hj hi) (by rw [nat_of hj]; exact r4 i hi) (g := mkF κ.m pc L (.int j :: .ref a :: S)) rfl rfl (hb hby hd) t k
theorem WP.laload (K : Cx κ w l Z own n0 rm bytes maxL ret nm Q) {a : Addr} {kA : ClassId} {N i : Nat} {f : Nat → Value} {j : Int32} {v : Value} (A : Ary Z h a kA .long N f) (hj : j.toInt = (i : Int)) (hi : i < N) (hv : f i = v) (hd : decode bytes pc = .ok (.laload, 1)) (hp : pc + 1 = pc') (H : WP κ h k n (mkF κ.m pc' L (v :: S))) : WP κ h k n (mkF κ.m pc L (.int j :: .ref a :: S)) := by
  obtain ⟨hx, hby, -, -, -, -, -, -, rfl, rfl, -⟩ := K
  subst hp hv
  obtain ⟨c, A, -, r2, -, r4, -⟩ := A
  refine WP.go (fun T locs vm0 X e hZ ho t k => ?_) H
  exact X.laload hx (by rw [e]; exact A.1) (State.isArrayOf_alike (T := κ.s.setVm vm0) hZ.alike A.2.1) A.2.2 (in_of r2 hj hi) (by rw [nat_of hj]; exact r4 i hi) (g := mkF κ.m pc L (.int j :: .ref a :: S)) rfl rfl (hb hby hd) t k
theorem WP.caload (K : Cx κ w l Z own n0 rm bytes maxL ret nm Q) {a : Addr} {kA : ClassId} {N i : Nat} {f : Nat → Value} {j : Int32} {v : Value} (A : Ary Z h a kA .char N f) (hj : j.toInt = (i : Int)) (hi : i < N) (hv : f i = v) (hd : decode bytes pc = .ok (.caload, 1)) (hp : pc + 1 = pc') (H : WP κ h k n (mkF κ.m pc' L (v :: S))) : WP κ h k n (mkF κ.m pc L (.int j :: .ref a :: S)) := by
  obtain ⟨hx, hby, -, -, -, -, -, -, rfl, rfl, -⟩ := K
  subst hp hv
  obtain ⟨c, A, -, r2, -, r4, -⟩ := A
  refine WP.go (fun T locs vm0 X e hZ ho t k => ?_) H
  exact X.caload hx (by rw [e]; exact A.1) (State.isArrayOf_alike (T := κ.s.setVm vm0) hZ.alike A.2.1) A.2.2 (in_of r2 hj hi) (by rw [nat_of hj]; exact r4 i hi) (g := mkF κ.m pc L (.int j :: .ref a :: S)) rfl rfl (hb hby hd) t k
theorem WP.baload (K : Cx κ w l Z own n0 rm bytes maxL ret nm Q) {a : Addr} {kA : ClassId} {N i : Nat} {f : Nat → Value} {j : Int32} {v : Value} (A : Ary Z h a kA .byte N f) (hj : j.toInt = (i : Int)) (hi : i < N) (hv : f i = v) (hd : decode bytes pc = .ok (.baload, 1)) (hp : pc + 1 = pc') (H : WP κ h k n (mkF κ.m pc' L (v :: S))) : WP κ h k n (mkF κ.m pc L (.int j :: .ref a :: S)) := by
  obtain ⟨hx, hby, -, -, -, -, -, -, rfl, rfl, -⟩ := K
  subst hp hv
  obtain ⟨c, A, -, r2, -, r4, -⟩ := A
  refine WP.go (fun T locs vm0 X e hZ ho t k => ?_) H
  exact X.baloadBytes hx (by rw [e]; exact A.1) (State.isArrayOf_alike (T := κ.s.setVm vm0) hZ.alike A.2.1) A.2.2 (in_of r2 hj hi) (by rw [nat_of hj]; exact r4 i hi) (g := mkF κ.m pc L (.int j :: .ref a :: S)) rfl rfl (hb hby hd) t k
theorem WP.baloadZ (K : Cx κ w l Z own n0 rm bytes maxL ret nm Q) {a : Addr} {kA : ClassId} {N i : Nat} {f : Nat → Value} {j : Int32} {v : Value} (A : Ary Z h a kA .boolean N f) (hj : j.toInt = (i : Int)) (hi : i < N) (hv : f i = v) (hd : decode bytes pc = .ok (.baload, 1)) (hp : pc + 1 = pc') (H : WP κ h k n (mkF κ.m pc' L (v :: S))) : WP κ h k n (mkF κ.m pc L (.int j :: .ref a :: S)) := by
  obtain ⟨hx, hby, -, -, -, -, -, -, rfl, rfl, -⟩ := K
  subst hp hv
  obtain ⟨c, A, -, r2, -, r4, -⟩ := A
  refine WP.go (fun T locs vm0 X e hZ ho t k => ?_) H
  exact X.baloadBooleans hx (by rw [e]; exact A.1) (State.isArrayOf_alike (T := κ.s.setVm vm0) hZ.alike A.2.1) A.2.2 (in_of r2 hj hi) (by rw [nat_of hj]; exact r4 i hi) (g := mkF κ.m pc L (.int j :: .ref a :: S)) rfl rfl (hb hby hd) t k
theorem WP.daload (K : Cx κ w l Z own n0 rm bytes maxL ret nm Q) {a : Addr} {kA : ClassId} {N i : Nat} {f : Nat → Value} {j : Int32} {v : Value} (A : Ary Z h a kA .double N f) (hj : j.toInt = (i : Int)) (hi : i < N) (hv : f i = v) (hd : decode bytes pc = .ok (.daload, 1)) (hp : pc + 1 = pc') (H : WP κ h k n (mkF κ.m pc' L (v :: S))) : WP κ h k n (mkF κ.m pc L (.int j :: .ref a :: S)) := by
  obtain ⟨hx, hby, -, -, -, -, -, -, rfl, rfl, -⟩ := K
  subst hp hv
  obtain ⟨c, A, -, r2, -, r4, -⟩ := A
  refine WP.go (fun T locs vm0 X e hZ ho t k => ?_) H
  exact X.daload hx (by rw [e]; exact A.1) (State.isArrayOf_alike (T := κ.s.setVm vm0) hZ.alike A.2.1) A.2.2 (in_of r2 hj hi) (by rw [nat_of hj]; exact r4 i hi) (g := mkF κ.m pc L (.int j :: .ref a :: S)) rfl rfl (hb hby hd) t k
theorem WP.aaload (K : Cx κ w l Z own n0 rm bytes maxL ret nm Q) {a : Addr} {kA : ClassId} {N i : Nat} {f : Nat → Value} {j : Int32} {v : Value} {ty : FieldType} (ht : ty.isReference = true) (A : Ary Z h a kA ty N f) (hj : j.toInt = (i : Int)) (hi : i < N) (hv : f i = v) (hd : decode bytes pc = .ok (.aaload, 1)) (hp : pc + 1 = pc') (H : WP κ h k n (mkF κ.m pc' L (v :: S))) : WP κ h k n (mkF κ.m pc L (.int j :: .ref a :: S)) := by
  obtain ⟨hx, hby, -, -, -, -, -, -, rfl, rfl, -⟩ := K
  subst hp hv
  obtain ⟨c, A, -, r2, -, r4, -⟩ := A
  refine WP.go (fun T locs vm0 X e hZ ho t k => ?_) H
  exact X.aaload hx (by rw [e]; exact A.1) (State.isArrayOf_alike (T := κ.s.setVm vm0) hZ.alike A.2.1) ht A.2.2 (in_of r2 hj hi) (by rw [nat_of hj]; exact r4 i hi) (g := mkF κ.m pc L (.int j :: .ref a :: S)) rfl rfl (hb hby hd) t k
theorem WP.arraylength (K : Cx κ w l Z own n0 rm bytes maxL ret nm Q) {a : Addr} {kA : ClassId} {ty : FieldType} {N : Nat} {f : Nat → Value} (A : Ary Z h a kA ty N f) (hd : decode bytes pc = .ok (.arraylength, 1)) (hp : pc + 1 = pc') (H : WP κ h k n (mkF κ.m pc' L (.int (Int32.ofNat N) :: S))) : WP κ h k n (mkF κ.m pc L (.ref a :: S)) := by
  obtain ⟨hx, hby, -, -, -, -, -, -, rfl, rfl, -⟩ := K
  subst hp
  obtain ⟨c, A, -, r2, -⟩ := A
  refine WP.go (fun T locs vm0 X e hZ ho t k => ?_) H
  exact X.arraylength hx (by rw [e]; exact A.1) (State.isArrayOf_alike (T := κ.s.setVm vm0) hZ.alike A.2.1) (g := mkF κ.m pc L (.ref a :: S)) rfl rfl (hb hby hd) t (by rw [r2]; exact k)
theorem WP.iastore (K : Cx κ w l Z own n0 rm bytes maxL ret nm Q) {a : Addr} {kA : ClassId} {N i : Nat} {f : Nat → Value} {j : Int32} {x : Int32} (hE : ∀ (vm : Vm) (h' : Heap) (sl : Nat) (v : Value), Z.vm.Alike vm → Wr h h' a sl v → κ.P vm h → κ.P vm h') (A : Ary Z h a kA .int N f) (hj : j.toInt = (i : Int)) (hi : i < N) (ha : n0 ≤ a) (hd : decode bytes pc = .ok (.iastore, 1)) (hp : pc + 1 = pc')
    (H : ∀ h', Wr h h' a i (.int x) → Ary Z h' a kA .int N (upd f i (.int x)) → WP κ h' k n (mkF κ.m pc' L S)) : WP κ h k n (mkF κ.m pc L (.int x :: .int j :: .ref a :: S)) := by
  obtain ⟨hx, hby, -, -, -, hnm, -, -, rfl, rfl, rfl, rfl, -⟩ := K
  subst hp
  have A0 := A
  obtain ⟨c, A, -, r2, -⟩ := A
  intro T locs vm0 X e M hZ ho N
  obtain ⟨T', h', X', e', W, st⟩ := RoadKit.stI X hx (s := κ.s.setVm vm0) hZ e A (in_of r2 hj hi) (g := mkF κ.m pc L (.int x :: .int j :: .ref a :: S)) rfl rfl (hb hby hd)
  rw [nat_of hj] at W
  obtain ⟨t, o, h1, r⟩ := H h' W (A0.set W rfl) T' _ vm0 X' e' (M.mono (Nat.le_of_eq W.size.symm) (hE _ _ _ _ hZ.alike W)) hZ ho (Fr.snoc X' N ha)
  exact ⟨t, o, st _ h1, r⟩
theorem WP.lastore (K : Cx κ w l Z own n0 rm bytes maxL ret nm Q) {a : Addr} {kA : ClassId} {N i : Nat} {f : Nat → Value} {j : Int32} {x : Int64} (hE : ∀ (vm : Vm) (h' : Heap) (sl : Nat) (v : Value), Z.vm.Alike vm → Wr h h' a sl v → κ.P vm h → κ.P vm h') (A : Ary Z h a kA .long N f) (hj : j.toInt = (i : Int)) (hi : i < N) (ha : n0 ≤ a) (hd : decode bytes pc = .ok (.lastore, 1)) (hp : pc + 1 = pc')
    (H : ∀ h', Wr h h' a i (.long x) → Ary Z h' a kA .long N (upd f i (.long x)) → WP κ h' k n (mkF κ.m pc' L S)) : WP κ h k n (mkF κ.m pc L (.long x :: .int j :: .ref a :: S)) := by
  obtain ⟨hx, hby, -, -, -, hnm, -, -, rfl, rfl, rfl, rfl, -⟩ := K
  subst hp
  have A0 := A
  obtain ⟨c, A, -, r2, -⟩ := A
  intro T locs vm0 X e M hZ ho N
  obtain ⟨T', h', X', e', W, st⟩ := RoadKit.stJ X hx (s := κ.s.setVm vm0) hZ e A (in_of r2 hj hi) (g := mkF κ.m pc L (.long x :: .int j :: .ref a :: S)) rfl rfl (hb hby hd)
  rw [nat_of hj] at W
  obtain ⟨t, o, h1, r⟩ := H h' W (A0.set W rfl) T' _ vm0 X' e' (M.mono (Nat.le_of_eq W.size.symm) (hE _ _ _ _ hZ.alike W)) hZ ho (Fr.snoc X' N ha)
  exact ⟨t, o, st _ h1, r⟩
theorem WP.castore (K : Cx κ w l Z own n0 rm bytes maxL ret nm Q) {a : Addr} {kA : ClassId} {N i : Nat} {f : Nat → Value} {j : Int32} {x : Int32} (hE : ∀ (vm : Vm) (h' : Heap) (sl : Nat) (v : Value), Z.vm.Alike vm → Wr h h' a sl v → κ.P vm h → κ.P vm h') (A : Ary Z h a kA .char N f) (hj : j.toInt = (i : Int)) (hi : i < N) (ha : n0 ≤ a) (hd : decode bytes pc = .ok (.castore, 1)) (hp : pc + 1 = pc')
    (H : ∀ h', Wr h h' a i (.int (nar .char x)) → Ary Z h' a kA .char N (upd f i (.int (nar .char x))) → WP κ h' k n (mkF κ.m pc' L S)) : WP κ h k n (mkF κ.m pc L (.int x :: .int j :: .ref a :: S)) := by
  obtain ⟨hx, hby, -, -, -, hnm, -, -, rfl, rfl, rfl, rfl, -⟩ := K
  subst hp
  have A0 := A
  obtain ⟨c, A, -, r2, -⟩ := A
  intro T locs vm0 X e M hZ ho N
  obtain ⟨T', h', X', e', W, st⟩ := RoadKit.stC X hx (s := κ.s.setVm vm0) hZ e A (in_of r2 hj hi) (g := mkF κ.m pc L (.int x :: .int j :: .ref a :: S)) rfl rfl (hb hby hd)
  rw [nat_of hj] at W
  obtain ⟨t, o, h1, r⟩ := H h' W (A0.set W (fits_nar_char x)) T' _ vm0 X' e' (M.mono (Nat.le_of_eq W.size.symm) (hE _ _ _ _ hZ.alike W)) hZ ho (Fr.snoc X' N ha)
  exact ⟨t, o, st _ h1, r⟩
theorem WP.bastore (K : Cx κ w l Z own n0 rm bytes maxL ret nm Q) {a : Addr} {kA : ClassId} {N i : Nat} {f : Nat → Value} {j : Int32} {x : Int32} (hE : ∀ (vm : Vm) (h' : Heap) (sl : Nat) (v : Value), Z.vm.Alike vm → Wr h h' a sl v → κ.P vm h → κ.P vm h') (A : Ary Z h a kA .byte N f) (hj : j.toInt = (i : Int)) (hi : i < N) (ha : n0 ≤ a) (hd : decode bytes pc = .ok (.bastore, 1)) (hp : pc + 1 = pc')
    (H : ∀ h', Wr h h' a i (.int (nar .byte x)) → Ary Z h' a kA .byte N (upd f i (.int (nar .byte x))) → WP κ h' k n (mkF κ.m pc' L S)) : WP κ h k n (mkF κ.m pc L (.int x :: .int j :: .ref a :: S)) := by
  obtain ⟨hx, hby, -, -, -, hnm, -, -, rfl, rfl, rfl, rfl, -⟩ := K
  subst hp
  have A0 := A
  obtain ⟨c, A, -, r2, -⟩ := A
  intro T locs vm0 X e M hZ ho N
  obtain ⟨T', h', X', e', W, st⟩ := RoadKit.stB X hx (s := κ.s.setVm vm0) hZ e A (in_of r2 hj hi) (g := mkF κ.m pc L (.int x :: .int j :: .ref a :: S)) rfl rfl (hb hby hd)
  rw [nat_of hj] at W
  obtain ⟨t, o, h1, r⟩ := H h' W (A0.set W (fits_nar_byte x)) T' _ vm0 X' e' (M.mono (Nat.le_of_eq W.size.symm) (hE _ _ _ _ hZ.alike W)) hZ ho (Fr.snoc X' N ha)
  exact ⟨t, o, st _ h1, r⟩
theorem WP.bastoreZ (K : Cx κ w l Z own n0 rm bytes maxL ret nm Q) {a : Addr} {kA : ClassId} {N i : Nat} {f : Nat → Value} {j : Int32} {x : Int32} (hE : ∀ (vm : Vm) (h' : Heap) (sl : Nat) (v : Value), Z.vm.Alike vm → Wr h h' a sl v → κ.P vm h → κ.P vm h') (A : Ary Z h a kA .boolean N f) (hj : j.toInt = (i : Int)) (hi : i < N) (ha : n0 ≤ a) (hd : decode bytes pc = .ok (.bastore, 1)) (hp : pc + 1 = pc')
    (H : ∀ h', Wr h h' a i (.int (nar .boolean x)) → Ary Z h' a kA .boolean N (upd f i (.int (nar .boolean x))) → WP κ h' k n (mkF κ.m pc' L S)) : WP κ h k n (mkF κ.m pc L (.int x :: .int j :: .ref a :: S)) := by
  obtain ⟨hx, hby, -, -, -, hnm, -, -, rfl, rfl, rfl, rfl, -⟩ := K
  subst hp
  have A0 := A
  obtain ⟨c, A, -, r2, -⟩ := A
  intro T locs vm0 X e M hZ ho N
  obtain ⟨T', h', X', e', W, st⟩ := RoadKit.stZ X hx (s := κ.s.setVm vm0) hZ e A (in_of r2 hj hi) (g := mkF κ.m pc L (.int x :: .int j :: .ref a :: S)) rfl rfl (hb hby hd)
  rw [nat_of hj] at W
  obtain ⟨t, o, h1, r⟩ := H h' W (A0.set W (fits_nar_bool x)) T' _ vm0 X' e' (M.mono (Nat.le_of_eq W.size.symm) (hE _ _ _ _ hZ.alike W)) hZ ho (Fr.snoc X' N ha)
  exact ⟨t, o, st _ h1, r⟩
theorem WP.dastore (K : Cx κ w l Z own n0 rm bytes maxL ret nm Q) {a : Addr} {kA : ClassId} {N i : Nat} {f : Nat → Value} {j : Int32} {x : UInt64} (hE : ∀ (vm : Vm) (h' : Heap) (sl : Nat) (v : Value), Z.vm.Alike vm → Wr h h' a sl v → κ.P vm h → κ.P vm h') (A : Ary Z h a kA .double N f) (hj : j.toInt = (i : Int)) (hi : i < N) (ha : n0 ≤ a) (hd : decode bytes pc = .ok (.dastore, 1)) (hp : pc + 1 = pc')
    (H : ∀ h', Wr h h' a i (.double x) → Ary Z h' a kA .double N (upd f i (.double x)) → WP κ h' k n (mkF κ.m pc' L S)) : WP κ h k n (mkF κ.m pc L (.double x :: .int j :: .ref a :: S)) := by
  obtain ⟨hx, hby, -, -, -, hnm, -, -, rfl, rfl, rfl, rfl, -⟩ := K
  subst hp
  have A0 := A
  obtain ⟨c, A, -, r2, -⟩ := A
  intro T locs vm0 X e M hZ ho N
  obtain ⟨T', h', X', e', W, st⟩ := RoadKit.stD X hx (s := κ.s.setVm vm0) hZ e A (in_of r2 hj hi) (g := mkF κ.m pc L (.double x :: .int j :: .ref a :: S)) rfl rfl (hb hby hd)
  rw [nat_of hj] at W
  obtain ⟨t, o, h1, r⟩ := H h' W (A0.set W rfl) T' _ vm0 X' e' (M.mono (Nat.le_of_eq W.size.symm) (hE _ _ _ _ hZ.alike W)) hZ ho (Fr.snoc X' N ha)
  exact ⟨t, o, st _ h1, r⟩
theorem WP.newarray (K : Cx κ w l Z own n0 rm bytes maxL ret nm Q) (hE : ∀ (vm : Vm) (h' : Heap), Ext h h' → κ.P vm h → κ.P vm h') {aty : ArrayType} {z : Int32} {N cap : Nat} (w1 : (Cond.arrayClass (newarray.typeOf aty)).before a0 Z = true) (hd : decode bytes pc = .ok (.newarray aty, 2)) (hz : z.toInt = (N : Int)) (hcap : N ≤ cap) (hbig : cap * 8 ≤ 536870912) (hk : k + 1 = k') (hn : n + cap = n') (hk' : k' ≤ rm.cells) (hn' : n' ≤ rm.slots) (hp : pc + 2 = pc')
    (H : ∀ (h' : Heap) (a : Addr) (kA : ClassId), @Eq Nat h.size a → Ext h h' → Ary Z h' a kA (newarray.typeOf aty) N (fun _ => defaultValue (newarray.typeOf aty)) → WP κ h' k' n' (mkF κ.m pc' L (.ref a :: S))) : WP κ h k n (mkF κ.m pc L (.int z :: S)) := by
  obtain ⟨hx, hby, -, -, -, hnm, -, -, rfl, rfl, rfl, rfl, -⟩ := K
  subst hp hk hn
  intro T locs vm0 X e M hZ ho N
  obtain ⟨T', h', cA, X', e', E, A, st⟩ := newP X hx (s := κ.s.setVm vm0) hZ w1 e (g := mkF κ.m pc L (.int z :: S)) rfl (hb hby hd) rfl (by rw [Int32.lt_iff_toInt_lt, hz]; show ¬ _ < (0 : Int); omega) (cap := cap) (by rw [nat_of hz]; exact hcap) hbig hk' hn'
  obtain ⟨t, o, h1, r⟩ := H h' _ cA rfl E (Ary.of_new A hz) T' _ vm0 X' e' (M.mono E.1 (hE _ _ E)) hZ ho N
  exact ⟨t, o, st _ h1, r⟩
/-- what a call's law hands back, in both modes -/
theorem Met.back {y : MethodName} {by' : ByteArray} {mL' : Nat} {rt' : Option FieldType} {rm' : Room} {as' : Array Value} {Q' : Option Value → Heap → Prop} {len W : Nat} {R : Room} {p : Program} {e : Env} {below : List Frame} {s : State} {args : Array Value}
    (hM : Met false l Z y by' mL' rt' [] rm' as' h n0 Q') (hZ : Z.Warmed39 s.vm) (wc : (Cond.code y by' mL' rt').before a0 Z = true) (wz : (Cond.initialized y.cls).before a0 Z = true) (hf : rm'.frames + 1 ≤ R.frames) (hl : W + (mL' + 11) + rm'.locals ≤ R.locals) :
    Back l R p e below s args y len W (fun A a => a = as' ∧ A.U.heap = h ∧ A.cells + rm'.cells ≤ R.cells ∧ A.slots + rm'.slots ≤ R.slots) (fun A _ v B => ∃ L, (Q' v B.U.heap ∧ Fr n0 L) ∧ B.locs = A.locs ++ L ∧ B.cells = A.cells + rm'.cells ∧ B.slots = A.slots + rm'.slots) :=
  backOf (Q := fun v h L => Q' v h ∧ Fr n0 L) hM hZ wc wz hf hl
theorem Met.backW {y : MethodName} {by' : ByteArray} {mL' : Nat} {rt' : Option FieldType} {rm' : Room} {as' : Array Value} {Q' : Option Value → Heap → Prop} {len W : Nat} {R : Room} {p : Program} {e : Env} {below : List Frame} {s : State} {args : Array Value}
    (hM : Met true l Z y by' mL' rt' [] rm' as' h n0 Q') (hZ : Z.Warmed39 s.vm) (wc : (Cond.code y by' mL' rt').before a0 Z = true) (wz : (Cond.initialized y.cls).before a0 Z = true) (hf : rm'.frames + 1 ≤ R.frames) (hl : W + (mL' + 11) + rm'.locals ≤ R.locals) :
    BackS l R p e below s args y len W (fun A a => a = as' ∧ A.U.heap = h ∧ A.cells + rm'.cells ≤ R.cells ∧ A.slots + rm'.slots ≤ R.slots) (fun A _ v B => ∃ L, (Q' v B.U.heap ∧ Fr n0 L) ∧ B.locs = A.locs ++ L ∧ B.cells = A.cells + rm'.cells ∧ B.slots = A.slots + rm'.slots) :=
  backOfS (Q := fun v h L => Q' v h ∧ Fr n0 L) hM hZ wc wz hf hl
theorem Ends.call {T : State} {locs : List Loc} {g g' : JFrame} {rm' : Room} {Q' : Option Value → Heap → Prop} {T1 B : Pt} {v : Option Value} (N : Fr κ.n0 locs) (hc : T1 = ⟨T1.1, locs, k, n⟩)
    (hpost : ∃ L, (Q' v B.U.heap ∧ Fr κ.n0 L) ∧ B.locs = T1.locs ++ L ∧ B.cells = T1.cells + rm'.cells ∧ B.slots = T1.slots + rm'.slots) (hk : k + rm'.cells = k') (hn : n + rm'.slots = n') {vm1 : Vm}
    (X' : Stand κ.p κ.l κ.e κ.R (κ.s.setVm vm1) κ.m κ.a κ.below κ.meth κ.c B.U B.locs B.cells B.slots) (M' : Md κ.P κ.w κ.s vm1 B.U.heap) (hZ : κ.Z.Warmed39 vm1) (ho : vm1.findClass κ.own = some κ.m.cls) (st : Steps κ.p.tables κ.e κ.below (T.setTop g) (B.U.setTop g'))
    (H : ∀ h', Q' v h' → WP κ h' k' n' g') : Ends κ T g := by
  obtain ⟨Lc, ⟨hQ, hN⟩, l1, l2, l3⟩ := hpost
  rw [hc] at l1 l2 l3
  dsimp only [Pt.U, Pt.locs, Pt.cells, Pt.slots] at l1 l2 l3 X' hQ M' st
  subst hk hn
  rw [l1, l2, l3] at X'
  obtain ⟨t, o, h1, r⟩ := H _ hQ _ _ vm1 X' rfl M' hZ ho (Fr.app N hN)
  exact ⟨t, o, st.trans h1, r⟩
theorem WP.callS (K : Cx κ w l Z own n0 rm bytes maxL ret nm Q) {y : MethodName} {by' : ByteArray} {mL' : Nat} {rt' : Option FieldType} {rm' : Room} {Q' : Option Value → Heap → Prop} {i W : Nat} {argsL : List Value} {S' : List Value} (hE : ∀ (vm : Vm) (v : Option Value) (h' : Heap), Q' v h' → h.size ≤ h'.size ∧ (κ.P vm h → κ.P vm h')) (w1 : (Cond.methodLink own i y).before a0 Z = true) (w2 : (Cond.static y).before a0 Z = true) (hM : Met false l Z y by' mL' rt' [] rm' argsL.toArray h n0 Q') (wc : (Cond.code y by' mL' rt').before a0 Z = true) (wz : (Cond.initialized y.cls).before a0 Z = true) (hy : y.cls ≠ "java/lang/invoke/MethodHandle" ∧ y.cls ≠ "java/lang/invoke/VarHandle")
    (hL : L.size = maxL) (hlen : ∀ sig, parseMethodDescriptor y.desc = some sig → argsL.length = sig.parameters.length) (hS : S' = argsL.reverse ++ S) (hW : (S.map fun v => v.category).sum = W) (hf : rm'.frames + 1 ≤ rm.frames) (hl : W + (mL' + 11) + rm'.locals ≤ rm.locals) (hk : k + rm'.cells = k') (hn : n + rm'.slots = n') (hk' : k' ≤ rm.cells) (hn' : n' ≤ rm.slots) (hd : decode bytes pc = .ok (.invokestatic i, 3)) (hp : pc + 3 = pc')
    (H : ∀ (v : Option Value) (h' : Heap), Q' v h' → WP κ h' k' n' (mkF κ.m pc' L (v.toList ++ S))) : WP κ h k n (mkF κ.m pc L S') := by
  obtain ⟨hx, hby, hml, -, -, -, rfl, rfl, rfl, rfl, rfl, rfl, -⟩ := K
  subst hp hS
  intro T locs vm0 X e M hZ ho N
  obtain ⟨v, vm₁, B, -, X', hpost, st⟩ := Jvm.LawKit.callS X hx (y := y) ho (mvT (s := κ.s.setVm vm0) hZ w1) (mvT (s := κ.s.setVm vm0) hZ w2) (mvT (s := κ.s.setVm vm0) hZ wz) (mvT (s := κ.s.setVm vm0) hZ wc) hy (Met.back (s := κ.s.setVm vm0) hM hZ wc wz hf hl) (g := mkF κ.m pc L (argsL.reverse ++ S)) rfl (hL.trans hml.symm) (argsL := argsL) (rest := S) hlen rfl (by show 2 * 0 + _ ≤ _; omega) (hb hby hd) (fun _ _ => ⟨rfl, e, by rw [← hk] at hk'; exact hk', by rw [← hn] at hn'; exact hn'⟩)
  refine Ends.call (Q' := Q') (T1 := ⟨T.setVm vm₁, locs, k, n⟩) N rfl hpost hk hn X' ?_ hZ ho (st _ (Steps.refl _)) (H v)
  obtain ⟨Lc, ⟨hQ, -⟩, -⟩ := hpost
  exact M.mono (hE vm0 _ _ hQ).1 (hE vm0 _ _ hQ).2
theorem WP.callI (K : Cx κ w l Z own n0 rm bytes maxL ret nm Q) {y : MethodName} {by' : ByteArray} {mL' : Nat}  {rm' : Room} {Q' : Option Value → Heap → Prop} {i W : Nat} {argsL : List Value} {S' : List Value} {a : Addr} (hE : ∀ (vm : Vm) (v : Option Value) (h' : Heap), Q' v h' → h.size ≤ h'.size ∧ (κ.P vm h → κ.P vm h')) (hy1 : y.name = "<init>") (w1 : (Cond.methodLink own i y).before a0 Z = true) (w2 : (Cond.instanceMethod y).before a0 Z = true) (hM : Met false l Z y by' mL' none [] rm' (.ref a :: argsL).toArray h n0 Q') (wc : (Cond.code y by' mL' none).before a0 Z = true) (wz : (Cond.initialized y.cls).before a0 Z = true) (hy : y.cls ≠ "java/lang/invoke/MethodHandle" ∧ y.cls ≠ "java/lang/invoke/VarHandle")
    (hL : L.size = maxL) (hlen : ∀ sig, parseMethodDescriptor y.desc = some sig → argsL.length = sig.parameters.length) (hS : S' = argsL.reverse ++ .ref a :: S) (hW : (S.map fun v => v.category).sum = W) (hf : rm'.frames + 1 ≤ rm.frames) (hl : W + (mL' + 11) + rm'.locals ≤ rm.locals) (hk : k + rm'.cells = k') (hn : n + rm'.slots = n') (hk' : k' ≤ rm.cells) (hn' : n' ≤ rm.slots) (hd : decode bytes pc = .ok (.invokespecial i, 3)) (hp : pc + 3 = pc')
    (H : ∀ (v : Option Value) (h' : Heap), Q' v h' → WP κ h' k' n' (mkF κ.m pc' L (v.toList ++ S))) : WP κ h k n (mkF κ.m pc L S') := by
  obtain ⟨hx, hby, hml, -, -, -, rfl, rfl, rfl, rfl, rfl, rfl, -⟩ := K
  subst hp hS
  intro T locs vm0 X e M hZ ho N
  obtain ⟨v, vm₁, B, -, X', hpost, st⟩ := X.specialBack hx (y := y) hy1 ho (mvT (s := κ.s.setVm vm0) hZ w1) (mvT (s := κ.s.setVm vm0) hZ w2) (mvT (s := κ.s.setVm vm0) hZ wc) hy (Met.back (s := κ.s.setVm vm0) hM hZ wc wz hf hl) (g := mkF κ.m pc L (argsL.reverse ++ .ref a :: S)) rfl (hL.trans hml.symm) (Steps.refl _) (a := a) (argsL := argsL) (rest := S) hlen rfl (by show 2 * 0 + _ ≤ _; omega) (hb hby hd) (fun _ _ => ⟨rfl, e, by rw [← hk] at hk'; exact hk', by rw [← hn] at hn'; exact hn'⟩)
  refine Ends.call (Q' := Q') (T1 := ⟨T.setVm vm₁, locs, k, n⟩) N rfl hpost hk hn X' ?_ hZ ho st (H v)
  obtain ⟨Lc, ⟨hQ, -⟩, -⟩ := hpost
  exact M.mono (hE vm0 _ _ hQ).1 (hE vm0 _ _ hQ).2
theorem WP.callV (K : Cx κ w l Z own n0 rm bytes maxL ret nm Q) {x y : MethodName} {by' : ByteArray} {mL' : Nat} {rt' : Option FieldType} {rm' : Room} {Q' : Option Value → Heap → Prop} {i W : Nat} {argsL : List Value} {S' : List Value} {a : Addr} {C : String} (hE : ∀ (vm : Vm) (v : Option Value) (h' : Heap), Q' v h' → h.size ≤ h'.size ∧ (κ.P vm h → κ.P vm h')) (w1 : (Cond.methodLink own i x).before a0 Z = true) (w2 : (Cond.declares x).before a0 Z = true) (nf : ∀ vm0 : Vm, Z.Warmed39 vm0 → NotFace (κ.s.setVm vm0) x) (w3 : (Cond.selects C x y).before a0 Z = true) (w4 : (Cond.instanceMethod y).before a0 Z = true) (hx' : x.cls ≠ "java/lang/invoke/MethodHandle" ∧ x.cls ≠ "java/lang/invoke/VarHandle") (E : Exa Z h a C) (hM : Met false l Z y by' mL' rt' [] rm' (.ref a :: argsL).toArray h n0 Q') (wc : (Cond.code y by' mL' rt').before a0 Z = true) (wz : (Cond.initialized y.cls).before a0 Z = true) (hy : y.cls ≠ "java/lang/invoke/MethodHandle" ∧ y.cls ≠ "java/lang/invoke/VarHandle")
    (hL : L.size = maxL) (hlen : ∀ sig, parseMethodDescriptor x.desc = some sig → argsL.length = sig.parameters.length) (hS : S' = argsL.reverse ++ .ref a :: S) (hW : (S.map fun v => v.category).sum = W) (hf : rm'.frames + 1 ≤ rm.frames) (hl : W + (mL' + 11) + rm'.locals ≤ rm.locals) (hk : k + rm'.cells = k') (hn : n + rm'.slots = n') (hk' : k' ≤ rm.cells) (hn' : n' ≤ rm.slots) (hd : decode bytes pc = .ok (.invokevirtual i, 3)) (hp : pc + 3 = pc')
    (H : ∀ (v : Option Value) (h' : Heap), Q' v h' → WP κ h' k' n' (mkF κ.m pc' L (v.toList ++ S))) : WP κ h k n (mkF κ.m pc L S') := by
  obtain ⟨hx, hby, hml, -, -, -, rfl, rfl, rfl, rfl, rfl, rfl, -⟩ := K
  subst hp hS
  intro T locs vm0 X e M hZ ho N
  obtain ⟨cB, kB, q1, q2, q3⟩ := isOf (s := κ.s.setVm vm0) hZ e E
  obtain ⟨v, vm₁, B, -, X', hpost, st⟩ := X.virtualBack hx (y := x) (z := y) ho (mvT (s := κ.s.setVm vm0) hZ w1) (mvT (s := κ.s.setVm vm0) hZ w2) (nf vm0 hZ) (mvT (s := κ.s.setVm vm0) hZ w3) (mvT (s := κ.s.setVm vm0) hZ w4) hx' (Met.back (s := κ.s.setVm vm0) hM hZ wc wz hf hl) q1 q3 (g := mkF κ.m pc L (argsL.reverse ++ .ref a :: S)) rfl (hL.trans hml.symm) (Steps.refl _) (argsL := argsL) (rest := S) hlen rfl (by show 2 * 0 + _ ≤ _; omega) (hb hby hd) (fun _ _ => ⟨rfl, e, by rw [← hk] at hk'; exact hk', by rw [← hn] at hn'; exact hn'⟩)
  refine Ends.call (Q' := Q') (T1 := ⟨T.setVm vm₁, locs, k, n⟩) N rfl hpost hk hn X' ?_ hZ ho st (H v)
  obtain ⟨Lc, ⟨hQ, -⟩, -⟩ := hpost
  exact M.mono (hE vm0 _ _ hQ).1 (hE vm0 _ _ hQ).2
theorem WP.callP (K : Cx κ w l Z own n0 rm bytes maxL ret nm Q) {y : MethodName} {by' : ByteArray} {mL' : Nat} {rt' : Option FieldType} {rm' : Room} {Q' : Option Value → Heap → Prop} {i W : Nat} {argsL : List Value} {S' : List Value} {a : Addr} {nI : Nat} {C : String} (hE : ∀ (vm : Vm) (v : Option Value) (h' : Heap), Q' v h' → h.size ≤ h'.size ∧ (κ.P vm h → κ.P vm h')) (w1 : (Cond.methodLink own i y).before a0 Z = true) (w2 : (Cond.instanceMethod y).before a0 Z = true) (wi : (Cond.instantiable y.cls nI).before a0 Z = true) (w3 : (Cond.privateMethod y).before a0 Z = true) (E : Exa Z h a C) (hM : Met false l Z y by' mL' rt' [] rm' (.ref a :: argsL).toArray h n0 Q') (wc : (Cond.code y by' mL' rt').before a0 Z = true) (wz : (Cond.initialized y.cls).before a0 Z = true) (hy : y.cls ≠ "java/lang/invoke/MethodHandle" ∧ y.cls ≠ "java/lang/invoke/VarHandle")
    (hL : L.size = maxL) (hlen : ∀ sig, parseMethodDescriptor y.desc = some sig → argsL.length = sig.parameters.length) (hS : S' = argsL.reverse ++ .ref a :: S) (hW : (S.map fun v => v.category).sum = W) (hf : rm'.frames + 1 ≤ rm.frames) (hl : W + (mL' + 11) + rm'.locals ≤ rm.locals) (hk : k + rm'.cells = k') (hn : n + rm'.slots = n') (hk' : k' ≤ rm.cells) (hn' : n' ≤ rm.slots) (hd : decode bytes pc = .ok (.invokevirtual i, 3)) (hp : pc + 3 = pc')
    (H : ∀ (v : Option Value) (h' : Heap), Q' v h' → WP κ h' k' n' (mkF κ.m pc' L (v.toList ++ S))) : WP κ h k n (mkF κ.m pc L S') := by
  obtain ⟨hx, hby, hml, -, -, -, rfl, rfl, rfl, rfl, rfl, rfl, -⟩ := K
  subst hp hS
  intro T locs vm0 X e M hZ ho N
  obtain ⟨cell, e1, e2⟩ := E.cell
  have hpr : (κ.s.setVm vm0).PrivateAt y := Cond.privateMethod_at (mvP (s := κ.s.setVm vm0) hZ w3 (args := #[]))
  have hsel : (Cond.selects y.cls y y).before κ.a (κ.s.setVm vm0) = true := by
    obtain ⟨c1, k1, i1, i2, i3, i4, -⟩ := Cond.instantiable_spec (mvT (args := κ.a) (s := κ.s.setVm vm0) hZ wi)
    rw [Bool.or_eq_false_iff] at i4
    exact Jvm.Stand.selects_self_of_private i1 i2 i4.1 hpr (mvT (s := κ.s.setVm vm0) hZ w2) hy
  obtain ⟨v, vm₁, B, -, X', hpost, st⟩ := X.privateBack hx (y := y) ho (mvT (s := κ.s.setVm vm0) hZ w1) (mvT (s := κ.s.setVm vm0) hZ w2) hsel hpr (mvT (s := κ.s.setVm vm0) hZ wc) hy (Met.back (s := κ.s.setVm vm0) hM hZ wc wz hf hl) (g := mkF κ.m pc L (argsL.reverse ++ .ref a :: S)) rfl (hL.trans hml.symm) (Steps.refl _) (a := a) (by rw [e]; exact e1) e2 (argsL := argsL) (rest := S) hlen rfl (by show 2 * 0 + _ ≤ _; omega) (hb hby hd) (fun _ _ => ⟨rfl, e, by rw [← hk] at hk'; exact hk', by rw [← hn] at hn'; exact hn'⟩)
  refine Ends.call (Q' := Q') (T1 := ⟨T.setVm vm₁, locs, k, n⟩) N rfl hpost hk hn X' ?_ hZ ho st (H v)
  obtain ⟨Lc, ⟨hQ, -⟩, -⟩ := hpost
  exact M.mono (hE vm0 _ _ hQ).1 (hE vm0 _ _ hQ).2
theorem Ary.arv {a : Addr} {kA : ClassId} {ty : FieldType} {N : Nat} {f : Nat → Value} (A : Ary Z h a kA ty N f) (dv : Value) : Arv Z h a kA ty (Int32.ofNat N) ((List.range N).map f) dv := by
  obtain ⟨c, A, r1, r2, r3, r4, r5⟩ := A
  have e : (Int32.ofNat N).toNatClampNeg = N := by simp only [Int32.toNatClampNeg, Int32.toInt_ofNat_small r3]; omega
  have g : ∀ i, i < N → ((List.range N).map f).getD i dv = f i := fun i hi => by simp [List.getD_eq_getElem?_getD, hi]
  refine ⟨c, A, r1, by rw [e]; exact r2, ?_, fun i hi => ?_, fun i hi => ?_⟩
  · rw [Int32.lt_iff_toInt_lt, Int32.toInt_ofNat_small r3]; show ¬ (N : Int) < 0; omega
  · rw [g i (by omega)]; exact r4 i (by omega)
  · rw [g i (by omega)]; exact r5 i (by omega)
theorem Arv.ary {a : Addr} {kA : ClassId} {ty : FieldType} {N : Nat} {vs : List Value} {dv : Value} (r3 : N < 2 ^ 31) (A : Arv Z h a kA ty (Int32.ofNat N) vs dv) : Ary Z h a kA ty N (fun i => vs.getD i dv) := by
  obtain ⟨c, A, r1, r2, -, H, G⟩ := A
  have e : (Int32.ofNat N).toNatClampNeg = N := by simp only [Int32.toNatClampNeg, Int32.toInt_ofNat_small r3]; omega
  rw [e] at r2
  exact ⟨c, A, r1, r2, r3, fun i hi => H i (by omega), fun i hi => G i (by omega)⟩
theorem cp_get {f g : Nat → Value} {N i j m : Nat} {dv : Value} (hj : j + m ≤ N) {x : Nat} (hx : x < N) : (((List.range N).map g).take j ++ ((List.range m).map fun t => f (i + t)) ++ ((List.range N).map g).drop (j + m)).getD x dv = if j ≤ x ∧ x < j + m then f (i + (x - j)) else g x := by
  simp only [List.getD_eq_getElem?_getD]
  by_cases h1 : x < j
  · rw [List.append_assoc, List.getElem?_append_left (by simp; omega), if_neg (by omega)]
    simp [List.getElem?_take, h1, hx]
  · by_cases h2 : x < j + m
    · rw [List.append_assoc, List.getElem?_append_right (by simp; omega), if_pos ⟨by omega, h2⟩]
      have e : (((List.range N).map g).take j).length = j := by simp; omega
      rw [e, List.getElem?_append_left (by simp; omega)]
      simp [show x - j < m by omega]
    · rw [List.getElem?_append_right (by simp; omega), if_neg (by omega)]
      have e : (((List.range N).map g).take j ++ ((List.range m).map fun t => f (i + t))).length = j + m := by simp; omega
      rw [e]
      simp [List.getElem?_drop, show j + m + (x - (j + m)) = x by omega, hx]
theorem WP.arraycopy (K : Cx κ w l Z own n0 rm bytes maxL ret nm Q) {i0 W : Nat} {a b : Addr} {kA kB : ClassId} {ty : FieldType} {N M i j m : Nat} {f g : Nat → Value} {sp dp nn : Int32} (hE : ∀ (vm : Vm) (h' : Heap), Keep h h' [b] → κ.P vm h → κ.P vm h') (w1 : (Cond.methodLink own i0 Jvm.Stand.acN).before a0 Z = true) (w2 : (Cond.native Jvm.Stand.acN).before a0 Z = true) (w3 : (Cond.static Jvm.Stand.acN).before a0 Z = true) (w4 : (Cond.initialized "java/lang/System").before a0 Z = true)
    (A : Ary Z h a kA ty N f) (B : Ary Z h b kB ty M g) (hp : refKind ty = false) (hsp : sp.toInt = (i : Int)) (hdp : dp.toInt = (j : Int)) (hnn : nn.toInt = (m : Int)) (h1 : i + m ≤ N) (h2 : j + m ≤ M) (ha : n0 ≤ b) (hd : decode bytes pc = .ok (.invokestatic i0, 3)) (hL : L.size = maxL) (hf : 1 ≤ rm.frames) (hW : (S.map fun v => v.category).sum = W) (hl : W + (nativeFrameWords "java/lang/System" "arraycopy" 5 + 11) ≤ rm.locals) (hpc : pc + 3 = pc')
    (H : ∀ h', Keep h h' [b] → Ary Z h' b kB ty M (fun x => if j ≤ x ∧ x < j + m then f (i + (x - j)) else g x) → WP κ h' k n (mkF κ.m pc' L S)) : WP κ h k n (mkF κ.m pc L (.int nn :: .int dp :: .ref b :: .int sp :: .ref a :: S)) := by
  obtain ⟨hx, hby, hml, -, -, hnm, -, -, rfl, rfl, rfl, rfl, -⟩ := K
  subst hpc
  intro T locs vm0 X e M' hZ ho N'
  have nA := A.len; have nB := B.len
  have eA : (Int32.ofNat N).toNatClampNeg = N := by simp only [Int32.toNatClampNeg, Int32.toInt_ofNat_small nA]; omega
  have eB : (Int32.ofNat M).toNatClampNeg = M := by simp only [Int32.toNatClampNeg, Int32.toInt_ofNat_small nB]; omega
  have nn0 : ∀ {z : Int32} {q : Nat}, z.toInt = (q : Int) → ¬ z < 0 := fun {z q} hz => by rw [Int32.lt_iff_toInt_lt, hz]; show ¬ (q : Int) < 0; omega
  obtain ⟨T', h', L', X', e', NF, K', A', st⟩ := cpA X hx (s := κ.s.setVm vm0) hZ ho w1 w2 w3 w4 e (A.arv .null) (B.arv .null) (Or.inl ⟨rfl, hp⟩) (nn0 hsp) (nn0 hdp) (nn0 hnn) (by rw [nat_of hsp, nat_of hnn, eA]; exact h1) (by rw [nat_of hdp, nat_of hnn, eB]; exact h2) rfl (by rw [nat_of hdp, nat_of hnn]; simpa using h2) N' ha (g := mkF κ.m pc L (.int nn :: .int dp :: .ref b :: .int sp :: .ref a :: S)) rfl (hL.trans hml.symm) rfl (hb hby hd) hf (W := W) (by show 2 * 0 + _ ≤ _; omega) hl
  have A2 := (Arv.ary nB A').congr (f' := fun x => if j ≤ x ∧ x < j + m then f (i + (x - j)) else g x) (fun x hx' => by
    rw [nat_of hdp, nat_of hnn, nat_of hsp]
    have q : (List.map (fun t => ((List.range N).map f).getD (i + t) Value.null) (List.range m)) = (List.range m).map fun t => f (i + t) := List.map_congr_left fun t ht => by
      have := List.mem_range.mp ht
      simp [List.getD_eq_getElem?_getD, show i + t < N by omega]
    rw [q]
    exact cp_get h2 hx')
  obtain ⟨t, o, h1', r⟩ := H h' K' A2 T' _ vm0 X' e' (M'.mono K'.1 (hE _ _ K')) hZ ho NF
  exact ⟨t, o, st _ h1', r⟩
theorem WP.callF (K : Cx κ w l Z own n0 rm bytes maxL ret nm Q) {x y : MethodName} {by' : ByteArray} {mL' : Nat} {rt' : Option FieldType} {rm' : Room} {Q' : Option Value → Heap → Prop} {i W : Nat} {argsL : List Value} {S' : List Value} {a : Addr} {C : String} {cnt : Nat} (hE : ∀ (vm : Vm) (v : Option Value) (h' : Heap), Q' v h' → h.size ≤ h'.size ∧ (κ.P vm h → κ.P vm h')) (w1 : (Cond.methodLink own i x).before a0 Z = true) (w2 : (Cond.declares x).before a0 Z = true) (w3 : ∀ vm0 : Vm, Z.Warmed39 vm0 → (Cond.interfaceMethod x.cls x.cls x.name x.desc).before κ.a (κ.s.setVm vm0) = true) (w4 : (Cond.selects C x y).before a0 Z = true) (w5 : (Cond.instanceMethod y).before a0 Z = true) (w6 : (Cond.publicMethod y).before a0 Z = true) (w7 : (Cond.unhidden C x.name x.desc).before a0 Z = true) (w8 : (Cond.castable C x.cls).before a0 Z = true) (hx' : x.cls ≠ "java/lang/invoke/MethodHandle" ∧ x.cls ≠ "java/lang/invoke/VarHandle") (E : Exa Z h a C) (hM : Met false l Z y by' mL' rt' [] rm' (.ref a :: argsL).toArray h n0 Q') (wc : (Cond.code y by' mL' rt').before a0 Z = true) (wz : (Cond.initialized y.cls).before a0 Z = true) (hy : y.cls ≠ "java/lang/invoke/MethodHandle" ∧ y.cls ≠ "java/lang/invoke/VarHandle")
    (hL : L.size = maxL) (hlen : ∀ sig, parseMethodDescriptor x.desc = some sig → argsL.length = sig.parameters.length) (hS : S' = argsL.reverse ++ .ref a :: S) (hW : (S.map fun v => v.category).sum = W) (hf : rm'.frames + 1 ≤ rm.frames) (hl : W + (mL' + 11) + rm'.locals ≤ rm.locals) (hk : k + rm'.cells = k') (hn : n + rm'.slots = n') (hk' : k' ≤ rm.cells) (hn' : n' ≤ rm.slots) (hd : decode bytes pc = .ok (.invokeinterface i cnt, 5)) (hp : pc + 5 = pc')
    (H : ∀ (v : Option Value) (h' : Heap), Q' v h' → WP κ h' k' n' (mkF κ.m pc' L (v.toList ++ S))) : WP κ h k n (mkF κ.m pc L S') := by
  obtain ⟨hx, hby, hml, -, -, -, rfl, rfl, rfl, rfl, rfl, rfl, -⟩ := K
  subst hp hS
  intro T locs vm0 X e M hZ ho N
  obtain ⟨cB, kB, q1, q2, q3⟩ := isOf (s := κ.s.setVm vm0) hZ e E
  obtain ⟨v, vm₁, B, -, X', hpost, st⟩ := X.interfaceBack hx (xi := x) (y := y) ho (mvT (s := κ.s.setVm vm0) hZ w1) (mvT (s := κ.s.setVm vm0) hZ w2) (w3 vm0 hZ) (mvT (s := κ.s.setVm vm0) hZ w4) (mvT (s := κ.s.setVm vm0) hZ w5) (mvT (s := κ.s.setVm vm0) hZ w6) (mvT (s := κ.s.setVm vm0) hZ w7) (mvT (s := κ.s.setVm vm0) hZ w8) hx' (Met.back (s := κ.s.setVm vm0) hM hZ wc wz hf hl) q1 q2 q3 (g := mkF κ.m pc L (argsL.reverse ++ .ref a :: S)) rfl (hL.trans hml.symm) (Steps.refl _) (argsL := argsL) (rest := S) hlen rfl (by show 2 * 0 + _ ≤ _; omega) (hb hby hd) (fun _ _ => ⟨rfl, e, by rw [← hk] at hk'; exact hk', by rw [← hn] at hn'; exact hn'⟩)
  refine Ends.call (Q' := Q') (T1 := ⟨T.setVm vm₁, locs, k, n⟩) N rfl hpost hk hn X' ?_ hZ ho st (H v)
  obtain ⟨Lc, ⟨hQ, -⟩, -⟩ := hpost
  exact M.mono (hE vm0 _ _ hQ).1 (hE vm0 _ _ hQ).2
theorem Ary.newR {cA : ClassId} {C : String} {z : Int32} {a : Addr} {N : Nat} (A : Arr Z h a (newA cA (.object C) z) (.object C)) (hz : z.toInt = (N : Int)) : Ary Z h a cA (.object C) N (fun _ => .null) := Ary.of_new (ty := .object C) A hz
theorem WP.anewarray (K : Cx κ w l Z own n0 rm bytes maxL ret nm Q) (hE : ∀ (vm : Vm) (h' : Heap), Ext h h' → κ.P vm h → κ.P vm h') {i : Nat} {C : String} {z : Int32} {N cap : Nat} (w1 : (Cond.classLink own i C).before a0 Z = true) (w2 : (Cond.arrayOver (.object C)).before a0 Z = true) (hd : decode bytes pc = .ok (.anewarray i, 3)) (hz : z.toInt = (N : Int)) (hcap : N ≤ cap) (hbig : cap * 8 ≤ 536870912) (hk : k + 1 = k') (hn : n + cap = n') (hk' : k' ≤ rm.cells) (hn' : n' ≤ rm.slots) (hp : pc + 3 = pc')
    (H : ∀ (h' : Heap) (a : Addr) (kA : ClassId), @Eq Nat h.size a → Ext h h' → Ary Z h' a kA (.object C) N (fun _ => .null) → Ovr Z kA C → WP κ h' k' n' (mkF κ.m pc' L (.ref a :: S))) : WP κ h k n (mkF κ.m pc L (.int z :: S)) := by
  obtain ⟨hx, hby, -, -, -, hnm, -, -, rfl, rfl, rfl, rfl, -⟩ := K
  subst hp hk hn
  intro T locs vm0 X e M hZ ho N
  obtain ⟨T', h', cA, X', e', E, A, O, st⟩ := RoadKit.newR X hx (s := κ.s.setVm vm0) hZ ho w1 w2 e (g := mkF κ.m pc L (.int z :: S)) rfl (hb hby hd) rfl (by rw [Int32.lt_iff_toInt_lt, hz]; show ¬ _ < (0 : Int); omega) (cap := cap) (by rw [nat_of hz]; exact hcap) hbig hk' hn'
  obtain ⟨t, o, h1, r⟩ := H h' _ cA rfl E (Ary.newR A hz) O T' _ vm0 X' e' (M.mono E.1 (hE _ _ E)) hZ ho N
  exact ⟨t, o, st _ h1, r⟩
theorem WP.aastore (K : Cx κ w l Z own n0 rm bytes maxL ret nm Q) {a y : Addr} {kA : ClassId} {ty : FieldType} {C : String} {N i : Nat} {f : Nat → Value} {j : Int32} (hE : ∀ (vm : Vm) (h' : Heap) (sl : Nat) (v : Value), Z.vm.Alike vm → Wr h h' a sl v → κ.P vm h → κ.P vm h') (A : Ary Z h a kA ty N f) (ht : ty.isReference = true) (O : Ovr Z kA C) (I : Ins Z h y C true) (hj : j.toInt = (i : Int)) (hi : i < N) (ha : n0 ≤ a) (hd : decode bytes pc = .ok (.aastore, 1)) (hp : pc + 1 = pc')
    (H : ∀ h', Wr h h' a i (.ref y) → Ary Z h' a kA ty N (upd f i (.ref y)) → WP κ h' k n (mkF κ.m pc' L S)) : WP κ h k n (mkF κ.m pc L (.ref y :: .int j :: .ref a :: S)) := by
  obtain ⟨hx, hby, -, -, -, hnm, -, -, rfl, rfl, rfl, rfl, -⟩ := K
  subst hp
  have A0 := A
  obtain ⟨c, A, q, r2, -⟩ := A
  intro T locs vm0 X e M hZ ho N
  obtain ⟨T', h', X', e', W, st⟩ := RoadKit.stR X hx (s := κ.s.setVm vm0) hZ e A (in_of r2 hj hi) ht (Sto.ofV A q O I) (g := mkF κ.m pc L (.ref y :: .int j :: .ref a :: S)) rfl rfl (hb hby hd)
  rw [nat_of hj] at W
  obtain ⟨t, o, h1, r⟩ := H h' W (A0.set W (by cases ty <;> first | rfl | (cases ht))) T' _ vm0 X' e' (M.mono (Nat.le_of_eq W.size.symm) (hE _ _ _ _ hZ.alike W)) hZ ho (Fr.snoc X' N ha)
  exact ⟨t, o, st _ h1, r⟩
theorem WP.checkcast (K : Cx κ w l Z own n0 rm bytes maxL ret nm Q) {i : Nat} {C : String} {a : Addr} (w1 : (Cond.classLink own i C).before a0 Z = true) (I : Ins Z h a C true) (hd : decode bytes pc = .ok (.checkcast i, 3)) (hp : pc + 3 = pc') (H : WP κ h k n (mkF κ.m pc' L (.ref a :: S))) : WP κ h k n (mkF κ.m pc L (.ref a :: S)) := by
  obtain ⟨hx, hby, -, -, -, hnm, -, -, rfl, rfl, rfl, rfl, -⟩ := K
  subst hp
  intro T locs vm0 X e M hZ ho N
  obtain ⟨T', X', e', st⟩ := castY X hx (s := κ.s.setVm vm0) hZ ho w1 e I (g := mkF κ.m pc L (.ref a :: S)) rfl rfl (hb hby hd)
  obtain ⟨t, o, h1, r⟩ := H T' locs vm0 X' e' M hZ ho N
  exact ⟨t, o, st _ h1, r⟩
theorem WP.instY (K : Cx κ w l Z own n0 rm bytes maxL ret nm Q) {i : Nat} {C : String} {a : Addr} (w1 : (Cond.classLink own i C).before a0 Z = true) (I : Ins Z h a C true) (hd : decode bytes pc = .ok (.instanceof i, 3)) (hp : pc + 3 = pc') (H : WP κ h k n (mkF κ.m pc' L (.int 1 :: S))) : WP κ h k n (mkF κ.m pc L (.ref a :: S)) := by
  obtain ⟨hx, hby, -, -, -, hnm, -, -, rfl, rfl, rfl, rfl, -⟩ := K
  subst hp
  intro T locs vm0 X e M hZ ho N
  obtain ⟨T', X', e', st⟩ := RoadKit.instY X hx (s := κ.s.setVm vm0) hZ ho w1 e I (g := mkF κ.m pc L (.ref a :: S)) rfl rfl (hb hby hd)
  obtain ⟨t, o, h1, r⟩ := H T' locs vm0 X' e' M hZ ho N
  exact ⟨t, o, st _ h1, r⟩

theorem WP.newarrayE (K : Cx κ w l Z own n0 rm bytes maxL ret nm Q) (hE : ∀ (vm : Vm) (h' : Heap), Ext h h' → κ.P vm h → κ.P vm h') {aty : ArrayType} {z : Int32} {N cap : Nat} {ad : String} (had : "[" ++ (newarray.typeOf aty).toString = ad) (w1 : (Cond.arrayClass (newarray.typeOf aty)).before a0 Z = true) (hd : decode bytes pc = .ok (.newarray aty, 2)) (hz : z.toInt = (N : Int)) (hcap : N ≤ cap) (hbig : cap * 8 ≤ 536870912) (hk : k + 1 = k') (hn : n + cap = n') (hk' : k' ≤ rm.cells) (hn' : n' ≤ rm.slots) (hp : pc + 2 = pc')
    (H : ∀ (h' : Heap) (a : Addr) (kA : ClassId), @Eq Nat h.size a → Ext h h' → Ary Z h' a kA (newarray.typeOf aty) N (fun _ => defaultValue (newarray.typeOf aty)) → Exa Z h' a ad → WP κ h' k' n' (mkF κ.m pc' L (.ref a :: S))) : WP κ h k n (mkF κ.m pc L (.int z :: S)) := by
  obtain ⟨hx, hby, -, -, -, hnm, -, -, rfl, rfl, rfl, rfl, -⟩ := K
  subst hp hk hn
  intro T locs vm0 X e M hZ ho N
  obtain ⟨T', h', cA, X', e', E, A, Ex, st⟩ := newPE X hx (s := κ.s.setVm vm0) hZ w1 e (g := mkF κ.m pc L (.int z :: S)) rfl (hb hby hd) rfl (by rw [Int32.lt_iff_toInt_lt, hz]; show ¬ _ < (0 : Int); omega) (cap := cap) (by rw [nat_of hz]; exact hcap) hbig hk' hn' had
  obtain ⟨t, o, h1, r⟩ := H h' _ cA rfl E (Ary.of_new A hz) Ex T' _ vm0 X' e' (M.mono E.1 (hE _ _ E)) hZ ho N
  exact ⟨t, o, st _ h1, r⟩
/-- the native clone of an array -/
theorem WP.cloneA (K : Cx κ w l Z own n0 rm bytes maxL ret nm Q) (hE : ∀ (vm : Vm) (h' : Heap), Ext h h' → κ.P vm h → κ.P vm h') {i W cap : Nat} {ad : String} {a : Addr} {kA : ClassId} {ty : FieldType} {N : Nat} {f : Nat → Value} (w1 : (Cond.methodLink own i ⟨ad, "clone", "()Ljava/lang/Object;"⟩).before a0 Z = true) (w2 : (Cond.sameMethod ad "java/lang/Object" "clone" "()Ljava/lang/Object;").before a0 Z = true) (w3 : (Cond.native ⟨"java/lang/Object", "clone", "()Ljava/lang/Object;"⟩).before a0 Z = true)
    (w4 : (Cond.instanceMethod ⟨"java/lang/Object", "clone", "()Ljava/lang/Object;"⟩).before a0 Z = true) (w5 : (Cond.selects ad ⟨ad, "clone", "()Ljava/lang/Object;"⟩ ⟨"java/lang/Object", "clone", "()Ljava/lang/Object;"⟩).before a0 Z = true) (w6 : (Cond.castable ad "java/lang/Cloneable").before a0 Z = true)
    (A : Ary Z h a kA ty N f) (E : Exa Z h a ad) (hd : decode bytes pc = .ok (.invokevirtual i, 3)) (hL : L.size = maxL) (hf : 1 ≤ rm.frames) (hW : (S.map fun v => v.category).sum = W) (hl : W + 14 ≤ rm.locals) (hcap : N ≤ cap) (hk : k + 1 = k') (hn : n + cap = n') (hk' : k' ≤ rm.cells) (hn' : n' ≤ rm.slots) (hp : pc + 3 = pc')
    (H : ∀ (h' : Heap) (b : Addr), @Eq Nat h.size b → Ext h h' → Ary Z h' b kA ty N f → Exa Z h' b ad → WP κ h' k' n' (mkF κ.m pc' L (.ref b :: S))) : WP κ h k n (mkF κ.m pc L (.ref a :: S)) := by
  obtain ⟨hx, hby, hml, -, -, -, -, -, rfl, rfl, rfl, rfl, -⟩ := K
  subst hp hk hn
  intro T locs vm0 X e M hZ ho N'
  obtain ⟨c, A, r1, r2, r3, r4, r5⟩ := A
  have FC : FitC κ.Z c := fitC_of A fun i hi v hv => by rw [r4 i (by omega)] at hv; cases hv; exact r5 i (by omega)
  obtain ⟨T', h', X', e', E', A', Ex, st⟩ := RoadKit.cloneA X hx (s := κ.s.setVm vm0) hZ ho w1 w2 w3 w4 w5 w6 e A E FC (g := mkF κ.m pc L (.ref a :: S)) rfl (hL.trans hml.symm) rfl (hb hby hd) hf (W := W) (by show 2 * 0 + _ ≤ _; omega) hl (cap := cap) (by rw [r2]; exact hcap) hk' hn'
  obtain ⟨t, o, h1, r⟩ := H h' _ rfl E' ⟨cloneOf c, A', r1, r2, r3, r4, r5⟩ Ex T' _ vm0 X' e' (M.mono E'.1 (hE _ _ E')) hZ ho N'
  exact ⟨t, o, st _ h1, r⟩
/-- a function object made at a site of the class C, that captured one reference -/
def Fun1 (Z : State) (h : Heap) (σ : Lambda.Shape) (C : String) (b a : Addr) : Prop := ∃ (cell : Cell) (d : ClassId) (dk : Class), h[b]? = some cell ∧ cell.vm = .none ∧ cell.slots[0]? = some (.ref a) ∧ Z.vm.classes[d]? = some dk ∧ dk.name = C ∧ Lambda.isMade { classPath := fun _ => none } Z.vm d σ cell.cls = true ∧ Z.lambdaCallable σ cell.cls = true
section Funs
variable {σ : Lambda.Shape} {C : String} {a b : Addr}
theorem Fun1.lt (F : Fun1 Z h σ C b a) : b < h.size := by obtain ⟨cell, _, _, q, _⟩ := F; exact (Array.getElem?_eq_some_iff.mp q).1
theorem Fun1.ext (E : Ext h h') (F : Fun1 Z h σ C b a) : Fun1 Z h' σ C b a := by obtain ⟨cell, d, dk, q, r⟩ := F; exact ⟨cell, d, dk, E.2 _ _ q, r⟩
theorem Fun1.keep {ws : List Addr} (K : Keep h h' ws) (F : Fun1 Z h σ C b a) (q : b ∉ ws) : Fun1 Z h' σ C b a := by obtain ⟨cell, d, dk, p, r⟩ := F; exact ⟨cell, d, dk, K.2.1 _ _ p q, r⟩
theorem Fun1.other {c : Addr} {sl : Nat} {v : Value} (W : Wr h h' c sl v) (F : Fun1 Z h σ C b a) (q : b ≠ c) : Fun1 Z h' σ C b a := Fun1.keep (Keep.wr (Keep.refl h [c]) W (Or.inl (List.mem_singleton.mpr rfl))) F (fun z => q (List.mem_singleton.mp z))
end Funs
/-- a lambda's site that captures one reference: a new function object -/
theorem WP.lambda1 (K : Cx κ w l Z own n0 rm bytes maxL ret nm Q) (hE : ∀ (vm : Vm) (h' : Heap), Ext h h' → κ.P vm h → κ.P vm h') {x : MethodName} {i W : Nat} {σ : Lambda.Shape} {C0 : String} {a : Addr} (hN : Z.methodNamed? x = some κ.m) (w1 : (Cond.lambdaSite x pc i σ).before a0 Z = true) (wO : (Cond.instantiable "java/lang/Object" 0).before a0 Z = true) (hcap : σ.captured = [.object C0]) (lays : ((σ.file x.cls).bind (layoutFields · 0)).map (·.2.1) = some #[.object C0])
    (hd : decode bytes pc = .ok (.invokedynamic i, 5)) (hL : L.size = maxL) (hW : (S.map fun v => v.category).sum = W) (hl : W + 1 + 3072 ≤ rm.locals) (hk : k + 1 = k') (hn : n + 1 = n') (hk' : k' ≤ rm.cells) (hn' : n' ≤ rm.slots) (hp : pc + 5 = pc')
    (H : ∀ (h' : Heap) (b : Addr), @Eq Nat h.size b → Ext h h' → Fun1 Z h' σ x.cls b a → WP κ h' k' n' (mkF κ.m pc' L (.ref b :: S))) : WP κ h k n (mkF κ.m pc L (.ref a :: S)) := by
  obtain ⟨hx, hby, hml, -, -, -, -, -, rfl, rfl, rfl, rfl, -⟩ := K
  subst hp hk hn
  intro T locs vm0 X e M hZ ho N'
  obtain ⟨cK, one, hat⟩ := Cond.lambdaSite_spec w1
  obtain ⟨m', kS, cfS, i0, p0, lk, hm', hkS, hcfS, hshape, -, hfind, hmade, hcan, hlk⟩ := State.lambdaAt?_spec hat
  cases hN.symm.trans hm'
  obtain ⟨rfl, rfl, -⟩ : lk = .makes cK ∧ one = none ∧ σ.captured ≠ [] := by
    rcases hlk with ⟨a, cell, -, -, h, -⟩ | h
    · rw [hcap] at h; cases h
    · exact h
  obtain ⟨kS', hkS', hnameS⟩ := className_of_methodNamed hN
  cases hkS.symm.trans hkS'
  obtain ⟨bsm, nt, desc, site, hc, hnt, hsite, hpar⟩ := Lambda.shapeOf?_site hshape
  obtain ⟨kK, hkK, htyK, hkindK, hhid⟩ := Lambda.made_types hmade hkS wO (by rw [hnameS]; exact lays)
  obtain ⟨k2, hk2, he2⟩ := hZ.alike.2.2 _ _ hkS
  obtain ⟨k3, hk3, he3⟩ := hZ.alike.2.2 _ _ hkK
  have hty3 : k3.instanceTypes = #[.object C0] := by rw [he3]; exact htyK
  have hkd3 : k3.kind = .ordinary := by rw [he3]; exact hkindK
  have hE : ((k3.instanceTypes.toList.zip [(Value.ref a)]).map fun (t, v) => narrow t v) = [Value.ref a] := by rw [hty3]; rfl
  obtain ⟨X', st⟩ := X.lambdaMakes hx (g := mkF κ.m pc L (.ref a :: S)) rfl (hL.trans hml.symm) (hb hby hd) (vals := [Value.ref a]) (rest := S) hk2 (by rw [he2]; exact hfind) (by rw [he2]; exact hcfS) hc hnt (parseLong_of_parse hsite) (by rw [hpar, hcap]; rfl) rfl hk3
    (by rw [X.admits.platform]; show 2 * 0 + (1 + (S.map fun v => v.category).sum) + 3072 ≤ _; omega) hk' (by rw [hE]; exact hn')
    (fun i v hv => by
      rw [hE] at hv
      match i, hv with
      | 0, hv => simp at hv; subst hv; simp [State.fitsSlot, State.slotType?, hk3, hkd3, hty3, fits]
      | k + 1, hv => simp at hv)
  rw [hE] at X' st
  subst e
  have E : Ext T.heap (T.pushCell { cls := cK, slots := [Value.ref a].toArray, vm := .none }).heap := ext_of fun a q => Array.getElem?_push_lt q |>.trans (Array.getElem?_eq_getElem q).symm
  have F : Fun1 κ.Z (T.pushCell { cls := cK, slots := [Value.ref a].toArray, vm := .none }).heap σ x.cls T.heap.size a := ⟨{ cls := cK, slots := [Value.ref a].toArray, vm := .none }, κ.m.cls, kS, Array.getElem?_push_size, rfl, rfl, hkS, hnameS, hmade, hcan⟩
  obtain ⟨t, o, h1, r⟩ := H _ _ rfl E F _ _ vm0 X' rfl (M.mono E.1 (hE _ _ E)) hZ ho N'
  exact ⟨t, o, st _ h1, r⟩
theorem MetP.backW {y : MethodName} {by' : ByteArray} {mL' : Nat} {rt' : Option FieldType} {rm' : Room} {as' : Array Value} {P : Vm → Heap → Prop} {Q' : Option Value → Heap → Vm → Prop} {len W : Nat} {R : Room} {p : Program} {e : Env} {below : List Frame} {s : State} {args : Array Value}
    (hM : MetP l Z y by' mL' rt' [] rm' as' h n0 P Q') (hZ : Z.Warmed39 s.vm) (wc : (Cond.code y by' mL' rt').before a0 Z = true) (wz : (Cond.initialized y.cls).before a0 Z = true) (hf : rm'.frames + 1 ≤ R.frames) (hl : W + (mL' + 11) + rm'.locals ≤ R.locals) :
    BackS l R p e below s args y len W (fun A a => a = as' ∧ A.U.heap = h ∧ A.cells + rm'.cells ≤ R.cells ∧ A.slots + rm'.slots ≤ R.slots ∧ P A.U.vm h) (fun A _ v B => ∃ L, (Q' v B.U.heap B.U.vm ∧ Fr n0 L) ∧ B.locs = A.locs ++ L ∧ B.cells = A.cells + rm'.cells ∧ B.slots = A.slots + rm'.slots) :=
  BackS.of_freeW (bytes := by') (maxL := mL') (ret := rt') (E := fun _ _ o t L k n => k = rm'.cells ∧ n = rm'.slots ∧ ∃ v, o = .returned v ∧ (Q' v t.heap t.vm ∧ Fr n0 L)) hM hf hl
    (fun m meth c A a Y hp => have hU : Z.Warmed39 A.U.vm := wtrans hZ Y.warmed
      ⟨by show (Cond.and _ .tt).before a A.U = true; rw [Cond.before_and, mv hU wc]; rfl, mv hU wc, mv hU wz, hp.2.2.1, hp.2.2.2.1⟩)
    (fun m meth c A a g mk Y hp => ⟨hp.1, wtrans hZ Y.warmed, hp.2.1, hp.2.2.2.2⟩) (fun _ _ _ _ _ _ _ _ _ => trivial)
    (fun _ _ _ _ ⟨v, L, h1, h2, h3⟩ => ⟨L, _, _, h3, rfl, rfl, v, h1, h2⟩)
    (fun m meth c A a g mk v t L k n Y hp _ _ ⟨e1, e2, v', e3, e4⟩ => by cases e3; subst e1 e2; exact ⟨L, e4, rfl, rfl, rfl⟩)
/-- another premise for the rest of the walk -/
def Kx.setP (κ : Kx) (P : Vm → Heap → Prop) : Kx := (κ.w, κ.p, κ.l, κ.e, κ.R, κ.s, κ.m, κ.a, κ.below, κ.meth, κ.c, κ.Z, κ.own, κ.n0, κ.Q, P)
theorem WP.toP (K : Cx κ w l Z own n0 rm bytes maxL ret nm Q) {P2 : Vm → Heap → Prop} {g : JFrame} (hP : ∀ vm, Z.vm.Alike vm → κ.P vm h → P2 vm h) (H : ∀ κ' : Kx, Cx κ' w l Z own n0 rm bytes maxL ret nm Q → κ'.m = κ.m → κ'.P = P2 → WP κ' h k n g) : WP κ h k n g := by
  have hZe : κ.Z = Z := K.2.2.2.2.2.2.2.2.1
  intro T locs vm0 X e M hZ ho N
  exact H (κ.setP P2) K rfl rfl T locs vm0 X e ⟨M.1, M.2.1, hP vm0 (by rw [← hZe]; exact hZ.alike) M.2.2⟩ hZ ho N
theorem Ends.callP {T : State} {locs : List Loc} {g g' : JFrame} {rm' : Room} {Q' : Option Value → Heap → Vm → Prop} {T1 B : Pt} {v : Option Value} (N : Fr κ.n0 locs) (hc : T1 = ⟨T1.1, locs, k, n⟩)
    (hpost : ∃ L, (Q' v B.U.heap B.U.vm ∧ Fr κ.n0 L) ∧ B.locs = T1.locs ++ L ∧ B.cells = T1.cells + rm'.cells ∧ B.slots = T1.slots + rm'.slots) (hk : k + rm'.cells = k') (hn : n + rm'.slots = n') (hQP : ∀ v h' vm, Q' v h' vm → κ.P vm h')
    (X' : Stand κ.p κ.l κ.e κ.R (κ.s.setVm B.U.vm) κ.m κ.a κ.below κ.meth κ.c B.U B.locs B.cells B.slots) (hw : κ.w = true) (hS : ∃ k0, κ.s.Since B.U.vm k0 ∧ k0 ≤ B.U.heap.size) (hZ : κ.Z.Warmed39 B.U.vm) (ho : B.U.vm.findClass κ.own = some κ.m.cls) (st : Steps κ.p.tables κ.e κ.below (T.setTop g) (B.U.setTop g'))
    (H : ∀ h', (∃ vm, Q' v h' vm) → WP κ h' k' n' g') : Ends κ T g := by
  obtain ⟨Lc, ⟨hQ, hN⟩, l1, l2, l3⟩ := hpost
  rw [hc] at l1 l2 l3
  dsimp only [Pt.U, Pt.locs, Pt.cells, Pt.slots] at l1 l2 l3 X' hQ hS hZ ho st
  subst hk hn
  rw [l1, l2, l3] at X'
  obtain ⟨t, o, h1, r⟩ := H _ ⟨_, hQ⟩ _ _ _ X' rfl ⟨fun q => (by rw [hw] at q; cases q), hS, hQP _ _ _ hQ⟩ hZ ho (Fr.app N hN)
  exact ⟨t, o, st.trans h1, r⟩
theorem WP.callSP (K : Cx κ true l Z own n0 rm bytes maxL ret nm Q) {y : MethodName} {by' : ByteArray} {mL' : Nat} {rt' : Option FieldType} {rm' : Room} {Q' : Option Value → Heap → Vm → Prop} {i W : Nat} {argsL : List Value} {S' : List Value} {P2 : Vm → Heap → Prop} (w1 : (Cond.methodLink own i y).before a0 Z = true) (w2 : (Cond.static y).before a0 Z = true) (hE : ∀ vm0 vm1 : Vm, Z.Warmed39 vm0 → κ.P vm0 h → (κ.s.setVm vm0).WarmedH vm1 → P2 vm1 h) (hQP : ∀ v h' vm, Q' v h' vm → κ.P vm h') (hM : MetP l Z y by' mL' rt' [] rm' argsL.toArray h n0 P2 Q') (wc : (Cond.code y by' mL' rt').before a0 Z = true) (wz : (Cond.initialized y.cls).before a0 Z = true) (hy : y.cls ≠ "java/lang/invoke/MethodHandle" ∧ y.cls ≠ "java/lang/invoke/VarHandle")
    (hL : L.size = maxL) (hlen : ∀ sig, parseMethodDescriptor y.desc = some sig → argsL.length = sig.parameters.length) (hS : S' = argsL.reverse ++ S) (hW : (S.map fun v => v.category).sum = W) (hf : rm'.frames + 1 ≤ rm.frames) (hl : W + (mL' + 11) + rm'.locals ≤ rm.locals) (hk : k + rm'.cells = k') (hn : n + rm'.slots = n') (hk' : k' ≤ rm.cells) (hn' : n' ≤ rm.slots) (hd : decode bytes pc = .ok (.invokestatic i, 3)) (hp : pc + 3 = pc')
    (H : ∀ (v : Option Value) (h' : Heap), (∃ vm, Q' v h' vm) → WP κ h' k' n' (mkF κ.m pc' L (v.toList ++ S))) : WP κ h k n (mkF κ.m pc L S') := by
  obtain ⟨hx, hby, hml, -, -, -, hw, rfl, rfl, rfl, rfl, rfl, -⟩ := K
  subst hp hS
  intro T locs vm0 X e M hZ ho N
  obtain ⟨v, vm₁, B, -, X', hSi, hgr, hpost, st⟩ := callSS X hx (y := y) ho (mvT (s := κ.s.setVm vm0) hZ w1) (mvT (s := κ.s.setVm vm0) hZ w2) (mvT (s := κ.s.setVm vm0) hZ wz) (mvT (s := κ.s.setVm vm0) hZ wc) hy (MetP.backW (s := κ.s.setVm vm0) hM hZ wc wz hf hl) (g := mkF κ.m pc L (argsL.reverse ++ S)) rfl (hL.trans hml.symm) (argsL := argsL) (rest := S) hlen rfl (by show 2 * 0 + _ ≤ _; omega) (hb hby hd) (fun vm1 hW => ⟨rfl, e, by rw [← hk] at hk'; exact hk', by rw [← hn] at hn'; exact hn', hE vm0 vm1 hZ M.2.2 hW⟩)
  obtain ⟨k0, hS0, hk0⟩ := M.2.1
  obtain ⟨X'', hS1, hZ1, ho1⟩ := rebS hS0 hk0 X' hSi (e ▸ hgr) hZ ho
  exact Ends.callP (Q' := Q') (T1 := ⟨T.setVm vm₁, locs, k, n⟩) N rfl hpost hk hn hQP X'' hw ⟨_, hS1, Nat.le_refl _⟩ hZ1 ho1 st (H v)
theorem WP.callIP (K : Cx κ true l Z own n0 rm bytes maxL ret nm Q) {y : MethodName} {by' : ByteArray} {mL' : Nat}  {rm' : Room} {Q' : Option Value → Heap → Vm → Prop} {i W : Nat} {argsL : List Value} {S' : List Value} {a : Addr} {P2 : Vm → Heap → Prop} (hy1 : y.name = "<init>") (w1 : (Cond.methodLink own i y).before a0 Z = true) (w2 : (Cond.instanceMethod y).before a0 Z = true) (hE : ∀ vm0 vm1 : Vm, Z.Warmed39 vm0 → κ.P vm0 h → (κ.s.setVm vm0).WarmedH vm1 → P2 vm1 h) (hQP : ∀ v h' vm, Q' v h' vm → κ.P vm h') (hM : MetP l Z y by' mL' none [] rm' (.ref a :: argsL).toArray h n0 P2 Q') (wc : (Cond.code y by' mL' none).before a0 Z = true) (wz : (Cond.initialized y.cls).before a0 Z = true) (hy : y.cls ≠ "java/lang/invoke/MethodHandle" ∧ y.cls ≠ "java/lang/invoke/VarHandle")
    (hL : L.size = maxL) (hlen : ∀ sig, parseMethodDescriptor y.desc = some sig → argsL.length = sig.parameters.length) (hS : S' = argsL.reverse ++ .ref a :: S) (hW : (S.map fun v => v.category).sum = W) (hf : rm'.frames + 1 ≤ rm.frames) (hl : W + (mL' + 11) + rm'.locals ≤ rm.locals) (hk : k + rm'.cells = k') (hn : n + rm'.slots = n') (hk' : k' ≤ rm.cells) (hn' : n' ≤ rm.slots) (hd : decode bytes pc = .ok (.invokespecial i, 3)) (hp : pc + 3 = pc')
    (H : ∀ (v : Option Value) (h' : Heap), (∃ vm, Q' v h' vm) → WP κ h' k' n' (mkF κ.m pc' L (v.toList ++ S))) : WP κ h k n (mkF κ.m pc L S') := by
  obtain ⟨hx, hby, hml, -, -, -, hw, rfl, rfl, rfl, rfl, rfl, -⟩ := K
  subst hp hS
  intro T locs vm0 X e M hZ ho N
  obtain ⟨v, vm₁, B, -, X', hSi, hgr, hpost, st⟩ := X.specialBackS hx (y := y) hy1 ho (mvT (s := κ.s.setVm vm0) hZ w1) (mvT (s := κ.s.setVm vm0) hZ w2) (mvT (s := κ.s.setVm vm0) hZ wc) hy (MetP.backW (s := κ.s.setVm vm0) hM hZ wc wz hf hl) (g := mkF κ.m pc L (argsL.reverse ++ .ref a :: S)) rfl (hL.trans hml.symm) (Steps.refl _) (a := a) (argsL := argsL) (rest := S) hlen rfl (by show 2 * 0 + _ ≤ _; omega) (hb hby hd) (fun vm1 hW => ⟨rfl, e, by rw [← hk] at hk'; exact hk', by rw [← hn] at hn'; exact hn', hE vm0 vm1 hZ M.2.2 hW⟩)
  obtain ⟨k0, hS0, hk0⟩ := M.2.1
  obtain ⟨X'', hS1, hZ1, ho1⟩ := rebS hS0 hk0 X' hSi (e ▸ hgr) hZ ho
  exact Ends.callP (Q' := Q') (T1 := ⟨T.setVm vm₁, locs, k, n⟩) N rfl hpost hk hn hQP X'' hw ⟨_, hS1, Nat.le_refl _⟩ hZ1 ho1 st (H v)
/-- the literals of EL are held, and the addresses of Ls are none of theirs -/
def PS (Z : State) (EL : List (String × Nat)) (Ls : List Addr) (vm : Vm) (h : Heap) : Prop := CHv Z EL vm h ∧ ∀ x ∈ Ls, Safe Z EL vm h x
section PSs
variable {EL : List (String × Nat)} {Ls Ls' : List Addr} {vm vm1 : Vm}
theorem PS.ext (E : Ext h h') (p : PS Z EL Ls vm h) : PS Z EL Ls vm h' := ⟨p.1.ext E, fun x q => Safe.ext E p.1 (p.2 x q)⟩
theorem PS.wr {a : Addr} {sl : Nat} {v : Value} (W : Wr h h' a sl v) (S : Safe Z EL vm h a) (p : PS Z EL Ls vm h) : PS Z EL Ls vm h' := ⟨p.1.wr W S, fun x q => Safe.wr W S p.1 (p.2 x q)⟩
theorem PS.keep {ws : List Addr} (K : Keep h h' ws) (S : ∀ x ∈ ws, Safe Z EL vm h x) (p : PS Z EL Ls vm h) : PS Z EL Ls vm h' := ⟨p.1.keep K S, fun x q => Safe.keep K S p.1 (p.2 x q)⟩
theorem PS.sub (q : ∀ x ∈ Ls', x ∈ Ls) (p : PS Z EL Ls vm h) : PS Z EL Ls' vm h := ⟨p.1, fun x r => p.2 x (q x r)⟩
theorem PS.add (p : PS Z EL Ls vm h) : PS Z EL (h.size :: Ls) vm h := ⟨p.1, fun x q => by
  rcases List.mem_cons.mp q with rfl | q
  · exact Safe.new (Nat.le_refl _)
  · exact p.2 x q⟩
theorem PS.warm {s : State} (hZ : Z.Warmed39 vm) (w : EW Z a0 EL) (hlt : ∀ x ∈ Ls, x < h.size) (hW : (s.setVm vm).WarmedH vm1) (p : PS Z EL Ls vm h) : PS Z EL Ls vm1 h := by
  have q := CHv.later (h' := h) hZ (hW := (show (Wst Z vm h).Warmed39 vm1 from (State.Warmed39.of_rootvm (s := s.setVm vm) (u := Wst Z vm h) rfl hW.wide))) w ⟨Nat.le_refl _, fun _ _ q => q⟩ (Or.inl hW.interned_eq) p.1
  exact ⟨q.1, fun x r => fun B => (q.2 x B).elim (p.2 x r) (fun z => absurd (hlt x r) (Nat.not_lt.mpr z))⟩
end PSs
theorem tE (hP : κ.P = fun _ _ => True) : ∀ (vm : Vm) (h' : Heap), Ext h h' → κ.P vm h → κ.P vm h' := fun _ _ _ _ => by rw [hP]; trivial
theorem tW {a : Addr} (hP : κ.P = fun _ _ => True) : ∀ (vm : Vm) (h' : Heap) (sl : Nat) (v : Value), Z.vm.Alike vm → Wr h h' a sl v → κ.P vm h → κ.P vm h' := fun _ _ _ _ _ _ _ => by rw [hP]; trivial
theorem tK {b : Addr} (hP : κ.P = fun _ _ => True) : ∀ (vm : Vm) (h' : Heap), Keep h h' [b] → κ.P vm h → κ.P vm h' := fun _ _ _ _ => by rw [hP]; trivial
theorem tC {Q' : Option Value → Heap → Prop} (hP : κ.P = fun _ _ => True) (g : ∀ v h', Q' v h' → h.size ≤ h'.size) : ∀ (vm : Vm) (v : Option Value) (h' : Heap), Q' v h' → h.size ≤ h'.size ∧ (κ.P vm h → κ.P vm h') := fun _ v h' q => ⟨g v h' q, fun _ => by rw [hP]; trivial⟩
theorem pE {EL : List (String × Nat)} {Ls : List Addr} (hP : κ.P = PS Z EL Ls) : ∀ (vm : Vm) (h' : Heap), Ext h h' → κ.P vm h → κ.P vm h' := fun _ _ E p => by rw [hP] at p ⊢; exact PS.ext E p
theorem pWa {EL : List (String × Nat)} {Ls : List Addr} {a : Addr} {kA : ClassId} {ty : FieldType} {N : Nat} {f : Nat → Value} (hP : κ.P = PS Z EL Ls) (A : Ary Z h a kA ty N f) (ht : ty ≠ .byte) : ∀ (vm : Vm) (h' : Heap) (sl : Nat) (v : Value), Z.vm.Alike vm → Wr h h' a sl v → κ.P vm h → κ.P vm h' := fun _ _ _ _ al W p => by rw [hP] at p ⊢; obtain ⟨c, A, -⟩ := A; exact PS.wr W (Safe.arr al A ht) p
theorem pWl {EL : List (String × Nat)} {Ls : List Addr} {a : Addr} (hP : κ.P = PS Z EL Ls) (q : a ∈ Ls) : ∀ (vm : Vm) (h' : Heap) (sl : Nat) (v : Value), Z.vm.Alike vm → Wr h h' a sl v → κ.P vm h → κ.P vm h' := fun _ _ _ _ _ W p => by rw [hP] at p ⊢; exact PS.wr W (p.2 a q) p
theorem pC {EL : List (String × Nat)} {Ls ws : List Addr} {Q' : Option Value → Heap → Prop} (hP : κ.P = PS Z EL Ls) (g : ∀ v h', Q' v h' → Keep h h' ws) (q : ∀ x ∈ ws, x ∈ Ls) : ∀ (vm : Vm) (v : Option Value) (h' : Heap), Q' v h' → h.size ≤ h'.size ∧ (κ.P vm h → κ.P vm h') := fun _ v h' z => ⟨(g v h' z).1, fun p => by rw [hP] at p ⊢; exact PS.keep (g v h' z) (fun x r => p.2 x (q x r)) p⟩
/-- 'ldc' of a literal of EL -/
theorem WP.ldcH (K : Cx κ true l Z own n0 rm bytes maxL ret nm Q) {i cap : Nat} {text : String} {EL : List (String × Nat)} {Ls : List Addr} (hP : κ.P = PS Z EL Ls) (hlt : ∀ x ∈ Ls, x < h.size) (w1 : (Cond.stringLink own i text).before a0 Z = true) (wS : ∀ a ∈ Bundle.stringAtoms, a.before a0 Z = true) (hEL : EW Z a0 EL) (hmem : (own, i) ∈ EL)
    {vs : List Value} {z : Int32} (ht : (∀ c ∈ text.toList, c.toNat < 256) ∧ text.toList.map (fun c => Value.int (Jvm.Lit.byteI c.toNat.toUInt16)) = vs) (hz : ¬ z < 0) (hl : z.toNatClampNeg = vs.length)
    (hd : decode bytes pc = .ok (.ldc i, 2)) (hcap : 4 * text.toList.length ≤ cap) (hbig : cap ≤ 536870912) (hk : k + 2 = k') (hn : n + (cap + 4) = n') (hk' : k' ≤ rm.cells) (hn' : n' ≤ rm.slots) (hp : pc + 2 = pc')
    (H : ∀ (h' : Heap) (a b : Addr), Ext h h' → Exa Z h' a "java/lang/String" → Fld Z h' a "java/lang/String" "coder" "B" (.int 0) → Fld Z h' a "java/lang/String" "value" "[B" (.ref b) → WP κ h' k' n' (mkF κ.m pc' L (.ref a :: S))) : WP κ h k n (mkF κ.m pc L S) := by
  obtain ⟨hx, hby, -, -, -, -, hw, -, rfl, rfl, rfl, rfl, -⟩ := K
  subst hp hk hn
  intro T locs vm0 X e M hZ ho N
  obtain ⟨k0, hS, hk0⟩ := M.2.1
  have p := M.2.2
  rw [hP] at p
  obtain ⟨a, T', h', k1, b, kk, X', e', E, hS', hk1, hZ', ho', x1, x2, x3, -, -, -, C, -, -, st⟩ := RoadKit.ldcCH X hx hZ ho w1 wS e hS hk0 hEL hmem p.1 ht hz hl (g := mkF κ.m pc L S) rfl (hb hby hd) hcap hbig hk' hn'
  have p' : κ.P T'.vm h' := by rw [hP]; exact ⟨C.1, fun x q => C.safe (hlt x q) (p.2 x q)⟩
  obtain ⟨t, o, h1, r⟩ := H h' a b E x1 x2 x3 T' locs T'.vm X' e' ⟨fun q => (by rw [hw] at q; cases q), ⟨k1, hS', hk1⟩, p'⟩ hZ' ho' N
  exact ⟨t, o, st _ h1, r⟩
end Rules
end Jvm.OwnW
namespace Jvm.Pilot.@@N@@
open Jvm Jvm.ClassFile Sem Op Lib Jvm.Free Jvm.Stand Jvm.LawKit Jvm.RoadKit Bundle Jvm.OwnW Jvm.Pilot.@@N@@.Jvm.D

def own_EL : List (String × Nat) := [("java/lang/String", 7)]
theorem own_ch (y : Int32) : ¬ (255 : Int32) < (y &&& (255 : Int32)).toUInt32.toUInt16.toUInt32.toInt32 ∧ ¬ (255 : Int32) < nar .char (y &&& (255 : Int32)).toUInt32.toUInt16.toUInt32.toInt32 := by
  have e : (y &&& (255 : Int32)).toInt = y.toInt % 256 := c_mask y 255 8 (by decide) (by decide)
  have q := c_i2c (y &&& (255 : Int32))
  have q2 := c_i2c (y &&& (255 : Int32)).toUInt32.toUInt16.toUInt32.toInt32
  have k : (255 : Int32).toInt = 255 := by decide
  refine ⟨by rw [Int32.lt_iff_toInt_lt]; omega, ?_⟩
  show ¬ (255 : Int32) < (y &&& (255 : Int32)).toUInt32.toUInt16.toUInt32.toInt32.toUInt32.toUInt16.toUInt32.toInt32
  rw [Int32.lt_iff_toInt_lt]; omega
theorem w_0 {Z : State} {a0 : Array Value} (hw : ∀ d ∈ tables_1, d.before a0 Z = true) : (Jvm.Cond.methodLink "com/example/vestline/vestline/FigureTextPinLaw" (16 : Nat) ({ cls := "com/example/vestline/vestline/FigureTextPinLaw", name := "str", desc := "(I)Ljava/lang/String;" } : Jvm.MethodName)).before a0 Z = true := hw _ (List.mem_of_getElem? (i := 0) rfl)
theorem w_1 {Z : State} {a0 : Array Value} (hw : ∀ d ∈ tables_1, d.before a0 Z = true) : (Jvm.Cond.static ({ cls := "com/example/vestline/vestline/FigureTextPinLaw", name := "str", desc := "(I)Ljava/lang/String;" } : Jvm.MethodName)).before a0 Z = true := hw _ (List.mem_of_getElem? (i := 1) rfl)
theorem w_2 {Z : State} {a0 : Array Value} (hw : ∀ d ∈ tables_1, d.before a0 Z = true) : (Jvm.Cond.initialized "com/example/vestline/vestline/FigureTextPinLaw").before a0 Z = true := hw _ (List.mem_of_getElem? (i := 2) rfl)
theorem w_3 {Z : State} {a0 : Array Value} (hw : ∀ d ∈ tables_1, d.before a0 Z = true) : (Jvm.Cond.code ({ cls := "com/example/vestline/vestline/FigureTextPinLaw", name := "str", desc := "(I)Ljava/lang/String;" } : Jvm.MethodName) method_2_code (6 : Nat) (Option.some (Jvm.ClassFile.FieldType.object "java/lang/String"))).before a0 Z = true := hw _ (List.mem_of_getElem? (i := 3) rfl)
theorem w_4 {Z : State} {a0 : Array Value} (hw : ∀ d ∈ tables_1, d.before a0 Z = true) : (Jvm.Cond.arrayClass Jvm.ClassFile.FieldType.char).before a0 Z = true := hw _ (List.mem_of_getElem? (i := 4) rfl)
theorem w_5 {Z : State} {a0 : Array Value} (hw : ∀ d ∈ tables_1, d.before a0 Z = true) : (Jvm.Cond.classLink "com/example/vestline/vestline/FigureTextPinLaw" (7 : Nat) "java/lang/String").before a0 Z = true := hw _ (List.mem_of_getElem? (i := 5) rfl)
theorem w_6 {Z : State} {a0 : Array Value} (hw : ∀ d ∈ tables_1, d.before a0 Z = true) : (Jvm.Cond.instantiable "java/lang/String" (4 : Nat)).before a0 Z = true := hw _ (List.mem_of_getElem? (i := 6) rfl)
theorem w_7 {Z : State} {a0 : Array Value} (hw : ∀ d ∈ tables_1, d.before a0 Z = true) : (Jvm.Cond.initialized "java/lang/String").before a0 Z = true := hw _ (List.mem_of_getElem? (i := 7) rfl)
theorem w_8 {Z : State} {a0 : Array Value} (hw : ∀ d ∈ tables_1, d.before a0 Z = true) : (Jvm.Cond.methodLink "com/example/vestline/vestline/FigureTextPinLaw" (9 : Nat) ({ cls := "java/lang/String", name := "<init>", desc := "([C)V" } : Jvm.MethodName)).before a0 Z = true := hw _ (List.mem_of_getElem? (i := 8) rfl)
theorem w_9 {Z : State} {a0 : Array Value} (hw : ∀ d ∈ tables_1, d.before a0 Z = true) : (Jvm.Cond.instanceMethod ({ cls := "java/lang/String", name := "<init>", desc := "([C)V" } : Jvm.MethodName)).before a0 Z = true := hw _ (List.mem_of_getElem? (i := 9) rfl)
theorem w_10 {Z : State} {a0 : Array Value} (hw : ∀ d ∈ tables_1, d.before a0 Z = true) : (Jvm.Cond.code ({ cls := "java/lang/String", name := "<init>", desc := "([C)V" } : Jvm.MethodName) jdk_42_method_3_code (2 : Nat) (Option.none : Option Jvm.ClassFile.FieldType)).before a0 Z = true := hw _ (List.mem_of_getElem? (i := 10) rfl)
theorem w_11 {Z : State} {a0 : Array Value} (hw : ∀ d ∈ tables_1, d.before a0 Z = true) : (Jvm.Cond.methodLink "java/lang/String" (27 : Nat) ({ cls := "java/lang/String", name := "<init>", desc := "([CIILjava/lang/Void;)V" } : Jvm.MethodName)).before a0 Z = true := hw _ (List.mem_of_getElem? (i := 11) rfl)
theorem w_12 {Z : State} {a0 : Array Value} (hw : ∀ d ∈ tables_1, d.before a0 Z = true) : (Jvm.Cond.instanceMethod ({ cls := "java/lang/String", name := "<init>", desc := "([CIILjava/lang/Void;)V" } : Jvm.MethodName)).before a0 Z = true := hw _ (List.mem_of_getElem? (i := 12) rfl)
theorem w_14 {Z : State} {a0 : Array Value} (hw : ∀ d ∈ tables_1, d.before a0 Z = true) : (Jvm.Cond.code ({ cls := "java/lang/String", name := "<init>", desc := "([CIILjava/lang/Void;)V" } : Jvm.MethodName) jdk_42_method_149_code (6 : Nat) (Option.none : Option Jvm.ClassFile.FieldType)).before a0 Z = true := hw _ (List.mem_of_getElem? (i := 14) rfl)
theorem w_15 {Z : State} {a0 : Array Value} (hw : ∀ d ∈ tables_1, d.before a0 Z = true) : (Jvm.Cond.methodLink "java/lang/String" (1 : Nat) ({ cls := "java/lang/Object", name := "<init>", desc := "()V" } : Jvm.MethodName)).before a0 Z = true := hw _ (List.mem_of_getElem? (i := 15) rfl)
theorem w_16 {Z : State} {a0 : Array Value} (hw : ∀ d ∈ tables_1, d.before a0 Z = true) : (Jvm.Cond.instanceMethod ({ cls := "java/lang/Object", name := "<init>", desc := "()V" } : Jvm.MethodName)).before a0 Z = true := hw _ (List.mem_of_getElem? (i := 16) rfl)
theorem w_17 {Z : State} {a0 : Array Value} (hw : ∀ d ∈ tables_1, d.before a0 Z = true) : (Jvm.Cond.code ({ cls := "java/lang/Object", name := "<init>", desc := "()V" } : Jvm.MethodName) object_method_1_code (1 : Nat) (Option.none : Option Jvm.ClassFile.FieldType)).before a0 Z = true := hw _ (List.mem_of_getElem? (i := 17) rfl)
theorem w_18 {Z : State} {a0 : Array Value} (hw : ∀ d ∈ tables_1, d.before a0 Z = true) : (Jvm.Cond.stringLink "java/lang/String" (7 : Nat) "").before a0 Z = true := hw _ (List.mem_of_getElem? (i := 18) rfl)
theorem w_19 {Z : State} {a0 : Array Value} (hw : ∀ d ∈ tables_1, d.before a0 Z = true) : (Jvm.Cond.arrayClass Jvm.ClassFile.FieldType.byte).before a0 Z = true := hw _ (List.mem_of_getElem? (i := 19) rfl)
theorem w_20 {Z : State} {a0 : Array Value} (hw : ∀ d ∈ tables_1, d.before a0 Z = true) : (Jvm.Cond.laysFinal "java/lang/String" "java/lang/String" "value" "[B").before a0 Z = true := hw _ (List.mem_of_getElem? (i := 20) rfl)
theorem w_21 {Z : State} {a0 : Array Value} (hw : ∀ d ∈ tables_1, d.before a0 Z = true) : (Jvm.Cond.laysFinal "java/lang/String" "java/lang/String" "coder" "B").before a0 Z = true := hw _ (List.mem_of_getElem? (i := 21) rfl)
theorem w_22 {Z : State} {a0 : Array Value} (hw : ∀ d ∈ tables_1, d.before a0 Z = true) : (Jvm.Cond.soleField "java/lang/String" "value").before a0 Z = true := hw _ (List.mem_of_getElem? (i := 22) rfl)
theorem w_23 {Z : State} {a0 : Array Value} (hw : ∀ d ∈ tables_1, d.before a0 Z = true) : (Jvm.Cond.soleField "java/lang/String" "coder").before a0 Z = true := hw _ (List.mem_of_getElem? (i := 23) rfl)
theorem w_24 {Z : State} {a0 : Array Value} (hw : ∀ d ∈ tables_1, d.before a0 Z = true) : (Jvm.Cond.fieldLink "java/lang/String" (9 : Nat) "java/lang/String" "value" "[B").before a0 Z = true := hw _ (List.mem_of_getElem? (i := 24) rfl)
theorem w_25 {Z : State} {a0 : Array Value} (hw : ∀ d ∈ tables_1, d.before a0 Z = true) : (Jvm.Cond.fieldLink "java/lang/String" (15 : Nat) "java/lang/String" "coder" "B").before a0 Z = true := hw _ (List.mem_of_getElem? (i := 25) rfl)
theorem w_26 {Z : State} {a0 : Array Value} (hw : ∀ d ∈ tables_1, d.before a0 Z = true) : (Jvm.Cond.fieldLink "java/lang/String" (38 : Nat) "java/lang/String" "COMPACT_STRINGS" "Z").before a0 Z = true := hw _ (List.mem_of_getElem? (i := 26) rfl)
theorem w_27 {Z : State} {a0 : Array Value} (hw : ∀ d ∈ tables_1, d.before a0 Z = true) : (Jvm.Cond.methodLink "java/lang/String" (177 : Nat) ({ cls := "java/lang/StringUTF16", name := "compress", desc := "([CII)[B" } : Jvm.MethodName)).before a0 Z = true := hw _ (List.mem_of_getElem? (i := 27) rfl)
theorem w_28 {Z : State} {a0 : Array Value} (hw : ∀ d ∈ tables_1, d.before a0 Z = true) : (Jvm.Cond.static ({ cls := "java/lang/StringUTF16", name := "compress", desc := "([CII)[B" } : Jvm.MethodName)).before a0 Z = true := hw _ (List.mem_of_getElem? (i := 28) rfl)
theorem w_29 {Z : State} {a0 : Array Value} (hw : ∀ d ∈ tables_1, d.before a0 Z = true) : (Jvm.Cond.initialized "java/lang/StringUTF16").before a0 Z = true := hw _ (List.mem_of_getElem? (i := 29) rfl)
theorem w_30 {Z : State} {a0 : Array Value} (hw : ∀ d ∈ tables_1, d.before a0 Z = true) : (Jvm.Cond.code ({ cls := "java/lang/StringUTF16", name := "compress", desc := "([CII)[B" } : Jvm.MethodName) jdk_52_method_16_code (6 : Nat) (Option.some (Jvm.ClassFile.FieldType.array Jvm.ClassFile.FieldType.byte))).before a0 Z = true := hw _ (List.mem_of_getElem? (i := 30) rfl)
theorem w_31 {Z : State} {a0 : Array Value} (hw : ∀ d ∈ tables_1, d.before a0 Z = true) : (Jvm.Cond.methodLink "java/lang/StringUTF16" (115 : Nat) ({ cls := "java/lang/StringUTF16", name := "compress", desc := "([CI[BII)I" } : Jvm.MethodName)).before a0 Z = true := hw _ (List.mem_of_getElem? (i := 31) rfl)
theorem w_32 {Z : State} {a0 : Array Value} (hw : ∀ d ∈ tables_1, d.before a0 Z = true) : (Jvm.Cond.static ({ cls := "java/lang/StringUTF16", name := "compress", desc := "([CI[BII)I" } : Jvm.MethodName)).before a0 Z = true := hw _ (List.mem_of_getElem? (i := 32) rfl)
theorem w_33 {Z : State} {a0 : Array Value} (hw : ∀ d ∈ tables_1, d.before a0 Z = true) : (Jvm.Cond.code ({ cls := "java/lang/StringUTF16", name := "compress", desc := "([CI[BII)I" } : Jvm.MethodName) jdk_52_method_21_code (7 : Nat) (Option.some Jvm.ClassFile.FieldType.int)).before a0 Z = true := hw _ (List.mem_of_getElem? (i := 33) rfl)
theorem w_34 {Z : State} {a0 : Array Value} (hw : ∀ d ∈ tables_1, d.before a0 Z = true) : (Jvm.Cond.methodLink "java/lang/String" (47 : Nat) ({ cls := "java/lang/StringUTF16", name := "coderFromArrayLen", desc := "([BI)B" } : Jvm.MethodName)).before a0 Z = true := hw _ (List.mem_of_getElem? (i := 34) rfl)
theorem w_35 {Z : State} {a0 : Array Value} (hw : ∀ d ∈ tables_1, d.before a0 Z = true) : (Jvm.Cond.static ({ cls := "java/lang/StringUTF16", name := "coderFromArrayLen", desc := "([BI)B" } : Jvm.MethodName)).before a0 Z = true := hw _ (List.mem_of_getElem? (i := 35) rfl)
theorem w_36 {Z : State} {a0 : Array Value} (hw : ∀ d ∈ tables_1, d.before a0 Z = true) : (Jvm.Cond.code ({ cls := "java/lang/StringUTF16", name := "coderFromArrayLen", desc := "([BI)B" } : Jvm.MethodName) jdk_52_method_15_code (2 : Nat) (Option.some Jvm.ClassFile.FieldType.byte)).before a0 Z = true := hw _ (List.mem_of_getElem? (i := 36) rfl)
theorem w_37 {Z : State} {a0 : Array Value} (hw : ∀ d ∈ tables_1, d.before a0 Z = true) : (Jvm.Cond.methodLink "com/example/vestline/vestline/FigureTextPinLaw" (22 : Nat) ({ cls := "com/example/vestline/vestline/Figure", name := "text", desc := "(Ljava/lang/String;Ljava/lang/String;Ljava/lang/String;)Lcom/example/vestline/vestline/Figure;" } : Jvm.MethodName)).before a0 Z = true := hw _ (List.mem_of_getElem? (i := 37) rfl)
theorem w_38 {Z : State} {a0 : Array Value} (hw : ∀ d ∈ tables_1, d.before a0 Z = true) : (Jvm.Cond.static ({ cls := "com/example/vestline/vestline/Figure", name := "text", desc := "(Ljava/lang/String;Ljava/lang/String;Ljava/lang/String;)Lcom/example/vestline/vestline/Figure;" } : Jvm.MethodName)).before a0 Z = true := hw _ (List.mem_of_getElem? (i := 38) rfl)
theorem w_39 {Z : State} {a0 : Array Value} (hw : ∀ d ∈ tables_1, d.before a0 Z = true) : (Jvm.Cond.initialized "com/example/vestline/vestline/Figure").before a0 Z = true := hw _ (List.mem_of_getElem? (i := 39) rfl)
theorem w_40 {Z : State} {a0 : Array Value} (hw : ∀ d ∈ tables_1, d.before a0 Z = true) : (Jvm.Cond.code ({ cls := "com/example/vestline/vestline/Figure", name := "text", desc := "(Ljava/lang/String;Ljava/lang/String;Ljava/lang/String;)Lcom/example/vestline/vestline/Figure;" } : Jvm.MethodName) prog_13_method_5_code (3 : Nat) (Option.some (Jvm.ClassFile.FieldType.object "com/example/vestline/vestline/Figure"))).before a0 Z = true := hw _ (List.mem_of_getElem? (i := 40) rfl)
theorem w_41 {Z : State} {a0 : Array Value} (hw : ∀ d ∈ tables_1, d.before a0 Z = true) : (Jvm.Cond.classLink "com/example/vestline/vestline/Figure" (8 : Nat) "com/example/vestline/vestline/Figure").before a0 Z = true := hw _ (List.mem_of_getElem? (i := 41) rfl)
theorem w_42 {Z : State} {a0 : Array Value} (hw : ∀ d ∈ tables_1, d.before a0 Z = true) : (Jvm.Cond.instantiable "com/example/vestline/vestline/Figure" (7 : Nat)).before a0 Z = true := hw _ (List.mem_of_getElem? (i := 42) rfl)
theorem w_43 {Z : State} {a0 : Array Value} (hw : ∀ d ∈ tables_1, d.before a0 Z = true) : (Jvm.Cond.methodLink "com/example/vestline/vestline/Figure" (35 : Nat) ({ cls := "com/example/vestline/vestline/Figure", name := "<init>", desc := "(Ljava/lang/String;Ljava/lang/String;Lcom/example/vestline/vestline/Rational;Lcom/example/vestline/vestline/Money;Ljava/time/LocalDate;Ljava/lang/String;Ljava/util/List;)V" } : Jvm.MethodName)).before a0 Z = true := hw _ (List.mem_of_getElem? (i := 43) rfl)
theorem w_44 {Z : State} {a0 : Array Value} (hw : ∀ d ∈ tables_1, d.before a0 Z = true) : (Jvm.Cond.instanceMethod ({ cls := "com/example/vestline/vestline/Figure", name := "<init>", desc := "(Ljava/lang/String;Ljava/lang/String;Lcom/example/vestline/vestline/Rational;Lcom/example/vestline/vestline/Money;Ljava/time/LocalDate;Ljava/lang/String;Ljava/util/List;)V" } : Jvm.MethodName)).before a0 Z = true := hw _ (List.mem_of_getElem? (i := 44) rfl)
theorem w_45 {Z : State} {a0 : Array Value} (hw : ∀ d ∈ tables_1, d.before a0 Z = true) : (Jvm.Cond.code ({ cls := "com/example/vestline/vestline/Figure", name := "<init>", desc := "(Ljava/lang/String;Ljava/lang/String;Lcom/example/vestline/vestline/Rational;Lcom/example/vestline/vestline/Money;Ljava/time/LocalDate;Ljava/lang/String;Ljava/util/List;)V" } : Jvm.MethodName) prog_13_method_1_code (8 : Nat) (Option.none : Option Jvm.ClassFile.FieldType)).before a0 Z = true := hw _ (List.mem_of_getElem? (i := 45) rfl)
theorem w_46 {Z : State} {a0 : Array Value} (hw : ∀ d ∈ tables_1, d.before a0 Z = true) : (Jvm.Cond.methodLink "com/example/vestline/vestline/Figure" (1 : Nat) ({ cls := "java/lang/Object", name := "<init>", desc := "()V" } : Jvm.MethodName)).before a0 Z = true := hw _ (List.mem_of_getElem? (i := 46) rfl)
theorem w_47 {Z : State} {a0 : Array Value} (hw : ∀ d ∈ tables_1, d.before a0 Z = true) : (Jvm.Cond.fieldLink "com/example/vestline/vestline/Figure" (7 : Nat) "com/example/vestline/vestline/Figure" "name" "Ljava/lang/String;").before a0 Z = true := hw _ (List.mem_of_getElem? (i := 47) rfl)
theorem w_48 {Z : State} {a0 : Array Value} (hw : ∀ d ∈ tables_1, d.before a0 Z = true) : (Jvm.Cond.laysFinal "com/example/vestline/vestline/Figure" "com/example/vestline/vestline/Figure" "name" "Ljava/lang/String;").before a0 Z = true := hw _ (List.mem_of_getElem? (i := 48) rfl)
theorem w_49 {Z : State} {a0 : Array Value} (hw : ∀ d ∈ tables_1, d.before a0 Z = true) : (Jvm.Cond.fieldLink "com/example/vestline/vestline/Figure" (13 : Nat) "com/example/vestline/vestline/Figure" "section" "Ljava/lang/String;").before a0 Z = true := hw _ (List.mem_of_getElem? (i := 49) rfl)
theorem w_50 {Z : State} {a0 : Array Value} (hw : ∀ d ∈ tables_1, d.before a0 Z = true) : (Jvm.Cond.laysFinal "com/example/vestline/vestline/Figure" "com/example/vestline/vestline/Figure" "section" "Ljava/lang/String;").before a0 Z = true := hw _ (List.mem_of_getElem? (i := 50) rfl)
theorem w_51 {Z : State} {a0 : Array Value} (hw : ∀ d ∈ tables_1, d.before a0 Z = true) : (Jvm.Cond.fieldLink "com/example/vestline/vestline/Figure" (16 : Nat) "com/example/vestline/vestline/Figure" "number" "Lcom/example/vestline/vestline/Rational;").before a0 Z = true := hw _ (List.mem_of_getElem? (i := 51) rfl)
theorem w_52 {Z : State} {a0 : Array Value} (hw : ∀ d ∈ tables_1, d.before a0 Z = true) : (Jvm.Cond.laysFinal "com/example/vestline/vestline/Figure" "com/example/vestline/vestline/Figure" "number" "Lcom/example/vestline/vestline/Rational;").before a0 Z = true := hw _ (List.mem_of_getElem? (i := 52) rfl)
theorem w_53 {Z : State} {a0 : Array Value} (hw : ∀ d ∈ tables_1, d.before a0 Z = true) : (Jvm.Cond.fieldLink "com/example/vestline/vestline/Figure" (20 : Nat) "com/example/vestline/vestline/Figure" "dollars" "Lcom/example/vestline/vestline/Money;").before a0 Z = true := hw _ (List.mem_of_getElem? (i := 53) rfl)
theorem w_54 {Z : State} {a0 : Array Value} (hw : ∀ d ∈ tables_1, d.before a0 Z = true) : (Jvm.Cond.laysFinal "com/example/vestline/vestline/Figure" "com/example/vestline/vestline/Figure" "dollars" "Lcom/example/vestline/vestline/Money;").before a0 Z = true := hw _ (List.mem_of_getElem? (i := 54) rfl)
theorem w_55 {Z : State} {a0 : Array Value} (hw : ∀ d ∈ tables_1, d.before a0 Z = true) : (Jvm.Cond.fieldLink "com/example/vestline/vestline/Figure" (24 : Nat) "com/example/vestline/vestline/Figure" "date" "Ljava/time/LocalDate;").before a0 Z = true := hw _ (List.mem_of_getElem? (i := 55) rfl)
theorem w_56 {Z : State} {a0 : Array Value} (hw : ∀ d ∈ tables_1, d.before a0 Z = true) : (Jvm.Cond.laysFinal "com/example/vestline/vestline/Figure" "com/example/vestline/vestline/Figure" "date" "Ljava/time/LocalDate;").before a0 Z = true := hw _ (List.mem_of_getElem? (i := 56) rfl)
theorem w_57 {Z : State} {a0 : Array Value} (hw : ∀ d ∈ tables_1, d.before a0 Z = true) : (Jvm.Cond.fieldLink "com/example/vestline/vestline/Figure" (28 : Nat) "com/example/vestline/vestline/Figure" "text" "Ljava/lang/String;").before a0 Z = true := hw _ (List.mem_of_getElem? (i := 57) rfl)
theorem w_58 {Z : State} {a0 : Array Value} (hw : ∀ d ∈ tables_1, d.before a0 Z = true) : (Jvm.Cond.laysFinal "com/example/vestline/vestline/Figure" "com/example/vestline/vestline/Figure" "text" "Ljava/lang/String;").before a0 Z = true := hw _ (List.mem_of_getElem? (i := 58) rfl)
theorem w_59 {Z : State} {a0 : Array Value} (hw : ∀ d ∈ tables_1, d.before a0 Z = true) : (Jvm.Cond.fieldLink "com/example/vestline/vestline/Figure" (31 : Nat) "com/example/vestline/vestline/Figure" "years" "Ljava/util/List;").before a0 Z = true := hw _ (List.mem_of_getElem? (i := 59) rfl)
theorem w_60 {Z : State} {a0 : Array Value} (hw : ∀ d ∈ tables_1, d.before a0 Z = true) : (Jvm.Cond.laysFinal "com/example/vestline/vestline/Figure" "com/example/vestline/vestline/Figure" "years" "Ljava/util/List;").before a0 Z = true := hw _ (List.mem_of_getElem? (i := 60) rfl)
theorem w_61 {Z : State} {a0 : Array Value} (hw : ∀ d ∈ tables_1, d.before a0 Z = true) : (Jvm.Cond.methodLink "com/example/vestline/vestline/FigureTextPinLaw" (28 : Nat) ({ cls := "com/example/vestline/vestline/Figure", name := "name", desc := "()Ljava/lang/String;" } : Jvm.MethodName)).before a0 Z = true := hw _ (List.mem_of_getElem? (i := 61) rfl)
theorem w_62 {Z : State} {a0 : Array Value} (hw : ∀ d ∈ tables_1, d.before a0 Z = true) : (Jvm.Cond.declares ({ cls := "com/example/vestline/vestline/Figure", name := "name", desc := "()Ljava/lang/String;" } : Jvm.MethodName)).before a0 Z = true := hw _ (List.mem_of_getElem? (i := 62) rfl)
theorem w_63 {Z : State} {a0 : Array Value} (hw : ∀ d ∈ tables_1, d.before a0 Z = true) : (Jvm.Cond.instanceMethod ({ cls := "com/example/vestline/vestline/Figure", name := "name", desc := "()Ljava/lang/String;" } : Jvm.MethodName)).before a0 Z = true := hw _ (List.mem_of_getElem? (i := 63) rfl)
theorem w_64 {Z : State} {a0 : Array Value} (hw : ∀ d ∈ tables_1, d.before a0 Z = true) : (Jvm.Cond.selects "com/example/vestline/vestline/Figure" ({ cls := "com/example/vestline/vestline/Figure", name := "name", desc := "()Ljava/lang/String;" } : Jvm.MethodName) ({ cls := "com/example/vestline/vestline/Figure", name := "name", desc := "()Ljava/lang/String;" } : Jvm.MethodName)).before a0 Z = true := hw _ (List.mem_of_getElem? (i := 64) rfl)
theorem w_65 {Z : State} {a0 : Array Value} (hw : ∀ d ∈ tables_1, d.before a0 Z = true) : (Jvm.Cond.code ({ cls := "com/example/vestline/vestline/Figure", name := "name", desc := "()Ljava/lang/String;" } : Jvm.MethodName) prog_13_method_7_code (1 : Nat) (Option.some (Jvm.ClassFile.FieldType.object "java/lang/String"))).before a0 Z = true := hw _ (List.mem_of_getElem? (i := 65) rfl)
theorem w_66 {Z : State} {a0 : Array Value} (hw : ∀ d ∈ tables_1, d.before a0 Z = true) : (Jvm.Cond.methodLink "com/example/vestline/vestline/FigureTextPinLaw" (32 : Nat) ({ cls := "java/lang/String", name := "equals", desc := "(Ljava/lang/Object;)Z" } : Jvm.MethodName)).before a0 Z = true := hw _ (List.mem_of_getElem? (i := 66) rfl)
theorem w_67 {Z : State} {a0 : Array Value} (hw : ∀ d ∈ tables_1, d.before a0 Z = true) : (Jvm.Cond.declares ({ cls := "java/lang/String", name := "equals", desc := "(Ljava/lang/Object;)Z" } : Jvm.MethodName)).before a0 Z = true := hw _ (List.mem_of_getElem? (i := 67) rfl)
theorem w_68 {Z : State} {a0 : Array Value} (hw : ∀ d ∈ tables_1, d.before a0 Z = true) : (Jvm.Cond.instanceMethod ({ cls := "java/lang/String", name := "equals", desc := "(Ljava/lang/Object;)Z" } : Jvm.MethodName)).before a0 Z = true := hw _ (List.mem_of_getElem? (i := 68) rfl)
theorem w_69 {Z : State} {a0 : Array Value} (hw : ∀ d ∈ tables_1, d.before a0 Z = true) : (Jvm.Cond.selects "java/lang/String" ({ cls := "java/lang/String", name := "equals", desc := "(Ljava/lang/Object;)Z" } : Jvm.MethodName) ({ cls := "java/lang/String", name := "equals", desc := "(Ljava/lang/Object;)Z" } : Jvm.MethodName)).before a0 Z = true := hw _ (List.mem_of_getElem? (i := 69) rfl)
theorem w_70 {Z : State} {a0 : Array Value} (hw : ∀ d ∈ tables_1, d.before a0 Z = true) : (Jvm.Cond.code ({ cls := "java/lang/String", name := "equals", desc := "(Ljava/lang/Object;)Z" } : Jvm.MethodName) jdk_42_method_66_code (3 : Nat) (Option.some Jvm.ClassFile.FieldType.boolean)).before a0 Z = true := hw _ (List.mem_of_getElem? (i := 70) rfl)
theorem w_71 {Z : State} {a0 : Array Value} (hw : ∀ d ∈ tables_1, d.before a0 Z = true) : (Jvm.Cond.methodLink "com/example/vestline/vestline/FigureTextPinLaw" (36 : Nat) ({ cls := "com/example/vestline/vestline/Figure", name := "section", desc := "()Ljava/lang/String;" } : Jvm.MethodName)).before a0 Z = true := hw _ (List.mem_of_getElem? (i := 71) rfl)
theorem w_72 {Z : State} {a0 : Array Value} (hw : ∀ d ∈ tables_1, d.before a0 Z = true) : (Jvm.Cond.declares ({ cls := "com/example/vestline/vestline/Figure", name := "section", desc := "()Ljava/lang/String;" } : Jvm.MethodName)).before a0 Z = true := hw _ (List.mem_of_getElem? (i := 72) rfl)
theorem w_73 {Z : State} {a0 : Array Value} (hw : ∀ d ∈ tables_1, d.before a0 Z = true) : (Jvm.Cond.instanceMethod ({ cls := "com/example/vestline/vestline/Figure", name := "section", desc := "()Ljava/lang/String;" } : Jvm.MethodName)).before a0 Z = true := hw _ (List.mem_of_getElem? (i := 73) rfl)
theorem w_74 {Z : State} {a0 : Array Value} (hw : ∀ d ∈ tables_1, d.before a0 Z = true) : (Jvm.Cond.selects "com/example/vestline/vestline/Figure" ({ cls := "com/example/vestline/vestline/Figure", name := "section", desc := "()Ljava/lang/String;" } : Jvm.MethodName) ({ cls := "com/example/vestline/vestline/Figure", name := "section", desc := "()Ljava/lang/String;" } : Jvm.MethodName)).before a0 Z = true := hw _ (List.mem_of_getElem? (i := 74) rfl)
theorem w_75 {Z : State} {a0 : Array Value} (hw : ∀ d ∈ tables_1, d.before a0 Z = true) : (Jvm.Cond.code ({ cls := "com/example/vestline/vestline/Figure", name := "section", desc := "()Ljava/lang/String;" } : Jvm.MethodName) prog_13_method_8_code (1 : Nat) (Option.some (Jvm.ClassFile.FieldType.object "java/lang/String"))).before a0 Z = true := hw _ (List.mem_of_getElem? (i := 75) rfl)
theorem w_76 {Z : State} {a0 : Array Value} (hw : ∀ d ∈ tables_1, d.before a0 Z = true) : (Jvm.Cond.methodLink "com/example/vestline/vestline/FigureTextPinLaw" (39 : Nat) ({ cls := "com/example/vestline/vestline/Figure", name := "isText", desc := "()Z" } : Jvm.MethodName)).before a0 Z = true := hw _ (List.mem_of_getElem? (i := 76) rfl)
theorem w_77 {Z : State} {a0 : Array Value} (hw : ∀ d ∈ tables_1, d.before a0 Z = true) : (Jvm.Cond.declares ({ cls := "com/example/vestline/vestline/Figure", name := "isText", desc := "()Z" } : Jvm.MethodName)).before a0 Z = true := hw _ (List.mem_of_getElem? (i := 77) rfl)
theorem w_78 {Z : State} {a0 : Array Value} (hw : ∀ d ∈ tables_1, d.before a0 Z = true) : (Jvm.Cond.instanceMethod ({ cls := "com/example/vestline/vestline/Figure", name := "isText", desc := "()Z" } : Jvm.MethodName)).before a0 Z = true := hw _ (List.mem_of_getElem? (i := 78) rfl)
theorem w_79 {Z : State} {a0 : Array Value} (hw : ∀ d ∈ tables_1, d.before a0 Z = true) : (Jvm.Cond.selects "com/example/vestline/vestline/Figure" ({ cls := "com/example/vestline/vestline/Figure", name := "isText", desc := "()Z" } : Jvm.MethodName) ({ cls := "com/example/vestline/vestline/Figure", name := "isText", desc := "()Z" } : Jvm.MethodName)).before a0 Z = true := hw _ (List.mem_of_getElem? (i := 79) rfl)
theorem w_80 {Z : State} {a0 : Array Value} (hw : ∀ d ∈ tables_1, d.before a0 Z = true) : (Jvm.Cond.code ({ cls := "com/example/vestline/vestline/Figure", name := "isText", desc := "()Z" } : Jvm.MethodName) prog_13_method_9_code (1 : Nat) (Option.some Jvm.ClassFile.FieldType.boolean)).before a0 Z = true := hw _ (List.mem_of_getElem? (i := 80) rfl)
theorem w_81 {Z : State} {a0 : Array Value} (hw : ∀ d ∈ tables_1, d.before a0 Z = true) : (Jvm.Cond.methodLink "com/example/vestline/vestline/FigureTextPinLaw" (43 : Nat) ({ cls := "com/example/vestline/vestline/Figure", name := "isDate", desc := "()Z" } : Jvm.MethodName)).before a0 Z = true := hw _ (List.mem_of_getElem? (i := 81) rfl)
theorem w_82 {Z : State} {a0 : Array Value} (hw : ∀ d ∈ tables_1, d.before a0 Z = true) : (Jvm.Cond.declares ({ cls := "com/example/vestline/vestline/Figure", name := "isDate", desc := "()Z" } : Jvm.MethodName)).before a0 Z = true := hw _ (List.mem_of_getElem? (i := 82) rfl)
theorem w_83 {Z : State} {a0 : Array Value} (hw : ∀ d ∈ tables_1, d.before a0 Z = true) : (Jvm.Cond.instanceMethod ({ cls := "com/example/vestline/vestline/Figure", name := "isDate", desc := "()Z" } : Jvm.MethodName)).before a0 Z = true := hw _ (List.mem_of_getElem? (i := 83) rfl)
theorem w_84 {Z : State} {a0 : Array Value} (hw : ∀ d ∈ tables_1, d.before a0 Z = true) : (Jvm.Cond.selects "com/example/vestline/vestline/Figure" ({ cls := "com/example/vestline/vestline/Figure", name := "isDate", desc := "()Z" } : Jvm.MethodName) ({ cls := "com/example/vestline/vestline/Figure", name := "isDate", desc := "()Z" } : Jvm.MethodName)).before a0 Z = true := hw _ (List.mem_of_getElem? (i := 84) rfl)
theorem w_85 {Z : State} {a0 : Array Value} (hw : ∀ d ∈ tables_1, d.before a0 Z = true) : (Jvm.Cond.code ({ cls := "com/example/vestline/vestline/Figure", name := "isDate", desc := "()Z" } : Jvm.MethodName) prog_13_method_10_code (1 : Nat) (Option.some Jvm.ClassFile.FieldType.boolean)).before a0 Z = true := hw _ (List.mem_of_getElem? (i := 85) rfl)
theorem w_86 {Z : State} {a0 : Array Value} (hw : ∀ d ∈ tables_1, d.before a0 Z = true) : (Jvm.Cond.methodLink "com/example/vestline/vestline/FigureTextPinLaw" (46 : Nat) ({ cls := "com/example/vestline/vestline/Figure", name := "value", desc := "()Ljava/lang/String;" } : Jvm.MethodName)).before a0 Z = true := hw _ (List.mem_of_getElem? (i := 86) rfl)
theorem w_87 {Z : State} {a0 : Array Value} (hw : ∀ d ∈ tables_1, d.before a0 Z = true) : (Jvm.Cond.declares ({ cls := "com/example/vestline/vestline/Figure", name := "value", desc := "()Ljava/lang/String;" } : Jvm.MethodName)).before a0 Z = true := hw _ (List.mem_of_getElem? (i := 87) rfl)
theorem w_88 {Z : State} {a0 : Array Value} (hw : ∀ d ∈ tables_1, d.before a0 Z = true) : (Jvm.Cond.instanceMethod ({ cls := "com/example/vestline/vestline/Figure", name := "value", desc := "()Ljava/lang/String;" } : Jvm.MethodName)).before a0 Z = true := hw _ (List.mem_of_getElem? (i := 88) rfl)
theorem w_89 {Z : State} {a0 : Array Value} (hw : ∀ d ∈ tables_1, d.before a0 Z = true) : (Jvm.Cond.selects "com/example/vestline/vestline/Figure" ({ cls := "com/example/vestline/vestline/Figure", name := "value", desc := "()Ljava/lang/String;" } : Jvm.MethodName) ({ cls := "com/example/vestline/vestline/Figure", name := "value", desc := "()Ljava/lang/String;" } : Jvm.MethodName)).before a0 Z = true := hw _ (List.mem_of_getElem? (i := 89) rfl)
theorem w_90 {Z : State} {a0 : Array Value} (hw : ∀ d ∈ tables_1, d.before a0 Z = true) : (Jvm.Cond.code ({ cls := "com/example/vestline/vestline/Figure", name := "value", desc := "()Ljava/lang/String;" } : Jvm.MethodName) prog_13_method_15_code (2 : Nat) (Option.some (Jvm.ClassFile.FieldType.object "java/lang/String"))).before a0 Z = true := hw _ (List.mem_of_getElem? (i := 90) rfl)
theorem w_91 {Z : State} {a0 : Array Value} (hw : ∀ d ∈ tables_1, d.before a0 Z = true) : (Jvm.Cond.methodLink "com/example/vestline/vestline/Figure" (93 : Nat) ({ cls := "com/example/vestline/vestline/Figure", name := "isText", desc := "()Z" } : Jvm.MethodName)).before a0 Z = true := hw _ (List.mem_of_getElem? (i := 91) rfl)
theorem w_92 {Z : State} {a0 : Array Value} (hw : ∀ d ∈ tables_1, d.before a0 Z = true) : (Jvm.Cond.methodLink "com/example/vestline/vestline/FigureTextPinLaw" (49 : Nat) ({ cls := "com/example/vestline/vestline/Figure", name := "years", desc := "()Ljava/util/List;" } : Jvm.MethodName)).before a0 Z = true := hw _ (List.mem_of_getElem? (i := 92) rfl)
theorem w_93 {Z : State} {a0 : Array Value} (hw : ∀ d ∈ tables_1, d.before a0 Z = true) : (Jvm.Cond.declares ({ cls := "com/example/vestline/vestline/Figure", name := "years", desc := "()Ljava/util/List;" } : Jvm.MethodName)).before a0 Z = true := hw _ (List.mem_of_getElem? (i := 93) rfl)
theorem w_94 {Z : State} {a0 : Array Value} (hw : ∀ d ∈ tables_1, d.before a0 Z = true) : (Jvm.Cond.instanceMethod ({ cls := "com/example/vestline/vestline/Figure", name := "years", desc := "()Ljava/util/List;" } : Jvm.MethodName)).before a0 Z = true := hw _ (List.mem_of_getElem? (i := 94) rfl)
theorem w_95 {Z : State} {a0 : Array Value} (hw : ∀ d ∈ tables_1, d.before a0 Z = true) : (Jvm.Cond.selects "com/example/vestline/vestline/Figure" ({ cls := "com/example/vestline/vestline/Figure", name := "years", desc := "()Ljava/util/List;" } : Jvm.MethodName) ({ cls := "com/example/vestline/vestline/Figure", name := "years", desc := "()Ljava/util/List;" } : Jvm.MethodName)).before a0 Z = true := hw _ (List.mem_of_getElem? (i := 95) rfl)
theorem w_96 {Z : State} {a0 : Array Value} (hw : ∀ d ∈ tables_1, d.before a0 Z = true) : (Jvm.Cond.code ({ cls := "com/example/vestline/vestline/Figure", name := "years", desc := "()Ljava/util/List;" } : Jvm.MethodName) prog_13_method_13_code (1 : Nat) (Option.some (Jvm.ClassFile.FieldType.object "java/util/List"))).before a0 Z = true := hw _ (List.mem_of_getElem? (i := 96) rfl)
theorem w_97 {Z : State} {a0 : Array Value} (hw : ∀ d ∈ tables_1, d.before a0 Z = true) : (Jvm.Cond.methodLink "com/example/vestline/vestline/FigureTextPinLaw" (53 : Nat) ({ cls := "com/example/vestline/vestline/Figure", name := "exact", desc := "()Lcom/example/vestline/vestline/Rational;" } : Jvm.MethodName)).before a0 Z = true := hw _ (List.mem_of_getElem? (i := 97) rfl)
theorem w_98 {Z : State} {a0 : Array Value} (hw : ∀ d ∈ tables_1, d.before a0 Z = true) : (Jvm.Cond.declares ({ cls := "com/example/vestline/vestline/Figure", name := "exact", desc := "()Lcom/example/vestline/vestline/Rational;" } : Jvm.MethodName)).before a0 Z = true := hw _ (List.mem_of_getElem? (i := 98) rfl)
theorem w_99 {Z : State} {a0 : Array Value} (hw : ∀ d ∈ tables_1, d.before a0 Z = true) : (Jvm.Cond.instanceMethod ({ cls := "com/example/vestline/vestline/Figure", name := "exact", desc := "()Lcom/example/vestline/vestline/Rational;" } : Jvm.MethodName)).before a0 Z = true := hw _ (List.mem_of_getElem? (i := 99) rfl)
theorem w_100 {Z : State} {a0 : Array Value} (hw : ∀ d ∈ tables_1, d.before a0 Z = true) : (Jvm.Cond.selects "com/example/vestline/vestline/Figure" ({ cls := "com/example/vestline/vestline/Figure", name := "exact", desc := "()Lcom/example/vestline/vestline/Rational;" } : Jvm.MethodName) ({ cls := "com/example/vestline/vestline/Figure", name := "exact", desc := "()Lcom/example/vestline/vestline/Rational;" } : Jvm.MethodName)).before a0 Z = true := hw _ (List.mem_of_getElem? (i := 100) rfl)
theorem w_101 {Z : State} {a0 : Array Value} (hw : ∀ d ∈ tables_1, d.before a0 Z = true) : (Jvm.Cond.code ({ cls := "com/example/vestline/vestline/Figure", name := "exact", desc := "()Lcom/example/vestline/vestline/Rational;" } : Jvm.MethodName) prog_13_method_14_code (1 : Nat) (Option.some (Jvm.ClassFile.FieldType.object "com/example/vestline/vestline/Rational"))).before a0 Z = true := hw _ (List.mem_of_getElem? (i := 101) rfl)
theorem w_102 {Z : State} {a0 : Array Value} (hw : ∀ d ∈ tables_1, d.before a0 Z = true) : (Jvm.Cond.methodLink "com/example/vestline/vestline/FigureTextPinLaw" (12 : Nat) ({ cls := "java/lang/String", name := "valueOf", desc := "(C)Ljava/lang/String;" } : Jvm.MethodName)).before a0 Z = true := hw _ (List.mem_of_getElem? (i := 102) rfl)
theorem w_103 {Z : State} {a0 : Array Value} (hw : ∀ d ∈ tables_1, d.before a0 Z = true) : (Jvm.Cond.static ({ cls := "java/lang/String", name := "valueOf", desc := "(C)Ljava/lang/String;" } : Jvm.MethodName)).before a0 Z = true := hw _ (List.mem_of_getElem? (i := 103) rfl)
theorem w_104 {Z : State} {a0 : Array Value} (hw : ∀ d ∈ tables_1, d.before a0 Z = true) : (Jvm.Cond.code ({ cls := "java/lang/String", name := "valueOf", desc := "(C)Ljava/lang/String;" } : Jvm.MethodName) jdk_42_method_139_code (1 : Nat) (Option.some (Jvm.ClassFile.FieldType.object "java/lang/String"))).before a0 Z = true := hw _ (List.mem_of_getElem? (i := 104) rfl)
theorem w_105 {Z : State} {a0 : Array Value} (hw : ∀ d ∈ tables_1, d.before a0 Z = true) : (Jvm.Cond.methodLink "java/lang/String" (1015 : Nat) ({ cls := "java/lang/StringLatin1", name := "canEncode", desc := "(C)Z" } : Jvm.MethodName)).before a0 Z = true := hw _ (List.mem_of_getElem? (i := 105) rfl)
theorem w_106 {Z : State} {a0 : Array Value} (hw : ∀ d ∈ tables_1, d.before a0 Z = true) : (Jvm.Cond.static ({ cls := "java/lang/StringLatin1", name := "canEncode", desc := "(C)Z" } : Jvm.MethodName)).before a0 Z = true := hw _ (List.mem_of_getElem? (i := 106) rfl)
theorem w_107 {Z : State} {a0 : Array Value} (hw : ∀ d ∈ tables_1, d.before a0 Z = true) : (Jvm.Cond.initialized "java/lang/StringLatin1").before a0 Z = true := hw _ (List.mem_of_getElem? (i := 107) rfl)
theorem w_108 {Z : State} {a0 : Array Value} (hw : ∀ d ∈ tables_1, d.before a0 Z = true) : (Jvm.Cond.code ({ cls := "java/lang/StringLatin1", name := "canEncode", desc := "(C)Z" } : Jvm.MethodName) jdk_43_method_3_code (1 : Nat) (Option.some Jvm.ClassFile.FieldType.boolean)).before a0 Z = true := hw _ (List.mem_of_getElem? (i := 108) rfl)
theorem w_109 {Z : State} {a0 : Array Value} (hw : ∀ d ∈ tables_1, d.before a0 Z = true) : (Jvm.Cond.classLink "java/lang/String" (10 : Nat) "java/lang/String").before a0 Z = true := hw _ (List.mem_of_getElem? (i := 109) rfl)
theorem w_110 {Z : State} {a0 : Array Value} (hw : ∀ d ∈ tables_1, d.before a0 Z = true) : (Jvm.Cond.methodLink "java/lang/String" (1018 : Nat) ({ cls := "java/lang/StringLatin1", name := "toBytes", desc := "(C)[B" } : Jvm.MethodName)).before a0 Z = true := hw _ (List.mem_of_getElem? (i := 110) rfl)
theorem w_111 {Z : State} {a0 : Array Value} (hw : ∀ d ∈ tables_1, d.before a0 Z = true) : (Jvm.Cond.static ({ cls := "java/lang/StringLatin1", name := "toBytes", desc := "(C)[B" } : Jvm.MethodName)).before a0 Z = true := hw _ (List.mem_of_getElem? (i := 111) rfl)
theorem w_112 {Z : State} {a0 : Array Value} (hw : ∀ d ∈ tables_1, d.before a0 Z = true) : (Jvm.Cond.code ({ cls := "java/lang/StringLatin1", name := "toBytes", desc := "(C)[B" } : Jvm.MethodName) jdk_43_method_46_code (1 : Nat) (Option.some (Jvm.ClassFile.FieldType.array Jvm.ClassFile.FieldType.byte))).before a0 Z = true := hw _ (List.mem_of_getElem? (i := 112) rfl)
theorem w_113 {Z : State} {a0 : Array Value} (hw : ∀ d ∈ tables_1, d.before a0 Z = true) : (Jvm.Cond.methodLink "java/lang/String" (209 : Nat) ({ cls := "java/lang/String", name := "<init>", desc := "([BB)V" } : Jvm.MethodName)).before a0 Z = true := hw _ (List.mem_of_getElem? (i := 113) rfl)
theorem w_114 {Z : State} {a0 : Array Value} (hw : ∀ d ∈ tables_1, d.before a0 Z = true) : (Jvm.Cond.instanceMethod ({ cls := "java/lang/String", name := "<init>", desc := "([BB)V" } : Jvm.MethodName)).before a0 Z = true := hw _ (List.mem_of_getElem? (i := 114) rfl)
theorem w_115 {Z : State} {a0 : Array Value} (hw : ∀ d ∈ tables_1, d.before a0 Z = true) : (Jvm.Cond.code ({ cls := "java/lang/String", name := "<init>", desc := "([BB)V" } : Jvm.MethodName) jdk_42_method_151_code (3 : Nat) (Option.none : Option Jvm.ClassFile.FieldType)).before a0 Z = true := hw _ (List.mem_of_getElem? (i := 115) rfl)
theorem pd_0 : parseMethodDescriptor "(C)Z" = some ⟨[.char], some .boolean⟩ := by decide +kernel
theorem pd_1 : parseMethodDescriptor "(C)[B" = some ⟨[.char], some (.array .byte)⟩ := by decide +kernel
theorem pd_2 : parseMethodDescriptor "([BB)V" = some ⟨[(.array .byte), .byte], none⟩ := by decide +kernel
theorem pd_3 : parseMethodDescriptor "([CI[BII)I" = some ⟨[(.array .char), .int, (.array .byte), .int, .int], some .int⟩ := by decide +kernel
theorem pd_4 : parseMethodDescriptor "([CII)[B" = some ⟨[(.array .char), .int, .int], some (.array .byte)⟩ := by decide +kernel
theorem pd_5 : parseMethodDescriptor "([BI)B" = some ⟨[(.array .byte), .int], some .byte⟩ := by decide +kernel
theorem pd_6 : parseMethodDescriptor "([CIILjava/lang/Void;)V" = some ⟨[(.array .char), .int, .int, (.object "java/lang/Void")], none⟩ := by decide +kernel
theorem pd_7 : parseMethodDescriptor "([C)V" = some ⟨[(.array .char)], none⟩ := by decide +kernel
theorem pd_8 : parseMethodDescriptor "(C)Ljava/lang/String;" = some ⟨[.char], some (.object "java/lang/String")⟩ := by decide +kernel
theorem pd_9 : parseMethodDescriptor "(Ljava/lang/String;Ljava/lang/String;Lcom/example/vestline/vestline/Rational;Lcom/example/vestline/vestline/Money;Ljava/time/LocalDate;Ljava/lang/String;Ljava/util/List;)V" = some ⟨[(.object "java/lang/String"), (.object "java/lang/String"), (.object "com/example/vestline/vestline/Rational"), (.object "com/example/vestline/vestline/Money"), (.object "java/time/LocalDate"), (.object "java/lang/String"), (.object "java/util/List")], none⟩ := by decide +kernel
theorem pd_10 : parseMethodDescriptor "()Z" = some ⟨[], some .boolean⟩ := by decide +kernel
theorem pd_11 : parseMethodDescriptor "(I)Ljava/lang/String;" = some ⟨[.int], some (.object "java/lang/String")⟩ := by decide +kernel
theorem pd_12 : parseMethodDescriptor "(Ljava/lang/String;Ljava/lang/String;Ljava/lang/String;)Lcom/example/vestline/vestline/Figure;" = some ⟨[(.object "java/lang/String"), (.object "java/lang/String"), (.object "java/lang/String")], some (.object "com/example/vestline/vestline/Figure")⟩ := by decide +kernel
theorem pd_13 : parseMethodDescriptor "()Ljava/lang/String;" = some ⟨[], some (.object "java/lang/String")⟩ := by decide +kernel
theorem pd_14 : parseMethodDescriptor "(Ljava/lang/Object;)Z" = some ⟨[(.object "java/lang/Object")], some .boolean⟩ := by decide +kernel
theorem pd_15 : parseMethodDescriptor "()Ljava/util/List;" = some ⟨[], some (.object "java/util/List")⟩ := by decide +kernel
theorem pd_16 : parseMethodDescriptor "()Lcom/example/vestline/vestline/Rational;" = some ⟨[], some (.object "com/example/vestline/vestline/Rational")⟩ := by decide +kernel
theorem d10_0 : decode prog_13_method_7_code 0 = .ok (.aload_n 0, 1) := by decide +kernel
theorem d10_1 : decode prog_13_method_7_code 1 = .ok (.getfield 7, 3) := by decide +kernel
theorem d10_4 : decode prog_13_method_7_code 4 = .ok (.areturn, 1) := by decide +kernel
theorem d11_0 : decode jdk_42_method_66_code 0 = .ok (.aload_n 0, 1) := by decide +kernel
theorem d11_1 : decode jdk_42_method_66_code 1 = .ok (.aload_n 1, 1) := by decide +kernel
theorem d11_2 : decode jdk_42_method_66_code 2 = .ok (.if_acmp .ne 5, 3) := by decide +kernel
theorem d11_5 : decode jdk_42_method_66_code 5 = .ok (.iconst 1, 1) := by decide +kernel
theorem d11_6 : decode jdk_42_method_66_code 6 = .ok (.ireturn, 1) := by decide +kernel
theorem d12_0 : decode prog_13_method_8_code 0 = .ok (.aload_n 0, 1) := by decide +kernel
theorem d12_1 : decode prog_13_method_8_code 1 = .ok (.getfield 13, 3) := by decide +kernel
theorem d12_4 : decode prog_13_method_8_code 4 = .ok (.areturn, 1) := by decide +kernel
theorem d13_0 : decode prog_13_method_9_code 0 = .ok (.aload_n 0, 1) := by decide +kernel
theorem d13_1 : decode prog_13_method_9_code 1 = .ok (.getfield 28, 3) := by decide +kernel
theorem d13_12 : decode prog_13_method_9_code 12 = .ok (.ireturn, 1) := by decide +kernel
theorem d13_4 : decode prog_13_method_9_code 4 = .ok (.ifnull 7, 3) := by decide +kernel
theorem d13_7 : decode prog_13_method_9_code 7 = .ok (.iconst 1, 1) := by decide +kernel
theorem d13_8 : decode prog_13_method_9_code 8 = .ok (.goto 4, 3) := by decide +kernel
theorem d14_0 : decode prog_13_method_10_code 0 = .ok (.aload_n 0, 1) := by decide +kernel
theorem d14_1 : decode prog_13_method_10_code 1 = .ok (.getfield 24, 3) := by decide +kernel
theorem d14_11 : decode prog_13_method_10_code 11 = .ok (.iconst 0, 1) := by decide +kernel
theorem d14_12 : decode prog_13_method_10_code 12 = .ok (.ireturn, 1) := by decide +kernel
theorem d14_4 : decode prog_13_method_10_code 4 = .ok (.ifnull 7, 3) := by decide +kernel
theorem d15_0 : decode prog_13_method_15_code 0 = .ok (.aload_n 0, 1) := by decide +kernel
theorem d15_1 : decode prog_13_method_15_code 1 = .ok (.invokevirtual 93, 3) := by decide +kernel
theorem d15_11 : decode prog_13_method_15_code 11 = .ok (.astore_n 1, 1) := by decide +kernel
theorem d15_12 : decode prog_13_method_15_code 12 = .ok (.goto 50, 3) := by decide +kernel
theorem d15_4 : decode prog_13_method_15_code 4 = .ok (.ifCond .eq 11, 3) := by decide +kernel
theorem d15_62 : decode prog_13_method_15_code 62 = .ok (.aload_n 1, 1) := by decide +kernel
theorem d15_63 : decode prog_13_method_15_code 63 = .ok (.areturn, 1) := by decide +kernel
theorem d15_7 : decode prog_13_method_15_code 7 = .ok (.aload_n 0, 1) := by decide +kernel
theorem d15_8 : decode prog_13_method_15_code 8 = .ok (.getfield 28, 3) := by decide +kernel
theorem d16_0 : decode prog_13_method_13_code 0 = .ok (.aload_n 0, 1) := by decide +kernel
theorem d16_1 : decode prog_13_method_13_code 1 = .ok (.getfield 31, 3) := by decide +kernel
theorem d16_4 : decode prog_13_method_13_code 4 = .ok (.areturn, 1) := by decide +kernel
theorem d17_0 : decode prog_13_method_14_code 0 = .ok (.aload_n 0, 1) := by decide +kernel
theorem d17_1 : decode prog_13_method_14_code 1 = .ok (.getfield 16, 3) := by decide +kernel
theorem d17_4 : decode prog_13_method_14_code 4 = .ok (.areturn, 1) := by decide +kernel
theorem d18_0 : decode jdk_42_method_139_code 0 = .ok (.getstatic 38, 3) := by decide +kernel
theorem d18_10 : decode jdk_42_method_139_code 10 = .ok (.ifCond .eq 16, 3) := by decide +kernel
theorem d18_13 : decode jdk_42_method_139_code 13 = .ok (.new 10, 3) := by decide +kernel
theorem d18_16 : decode jdk_42_method_139_code 16 = .ok (.dup, 1) := by decide +kernel
theorem d18_17 : decode jdk_42_method_139_code 17 = .ok (.iload_n 0, 1) := by decide +kernel
theorem d18_18 : decode jdk_42_method_139_code 18 = .ok (.invokestatic 1018, 3) := by decide +kernel
theorem d18_21 : decode jdk_42_method_139_code 21 = .ok (.iconst 0, 1) := by decide +kernel
theorem d18_22 : decode jdk_42_method_139_code 22 = .ok (.invokespecial 209, 3) := by decide +kernel
theorem d18_25 : decode jdk_42_method_139_code 25 = .ok (.areturn, 1) := by decide +kernel
theorem d18_3 : decode jdk_42_method_139_code 3 = .ok (.ifCond .eq 23, 3) := by decide +kernel
theorem d18_6 : decode jdk_42_method_139_code 6 = .ok (.iload_n 0, 1) := by decide +kernel
theorem d18_7 : decode jdk_42_method_139_code 7 = .ok (.invokestatic 1015, 3) := by decide +kernel
theorem d19_0 : decode jdk_43_method_3_code 0 = .ok (.iload_n 0, 1) := by decide +kernel
theorem d19_1 : decode jdk_43_method_3_code 1 = .ok (.sipush 255, 3) := by decide +kernel
theorem d19_12 : decode jdk_43_method_3_code 12 = .ok (.ireturn, 1) := by decide +kernel
theorem d19_4 : decode jdk_43_method_3_code 4 = .ok (.if_icmp .gt 7, 3) := by decide +kernel
theorem d19_7 : decode jdk_43_method_3_code 7 = .ok (.iconst 1, 1) := by decide +kernel
theorem d19_8 : decode jdk_43_method_3_code 8 = .ok (.goto 4, 3) := by decide +kernel
theorem d1_0 : decode method_2_code 0 = .ok (.iload_n 0, 1) := by decide +kernel
theorem d1_1 : decode method_2_code 1 = .ok (.iconst 3, 1) := by decide +kernel
theorem d1_10 : decode method_2_code 10 = .ok (.iand, 1) := by decide +kernel
theorem d1_11 : decode method_2_code 11 = .ok (.i2c, 1) := by decide +kernel
theorem d1_12 : decode method_2_code 12 = .ok (.istore_n 2, 1) := by decide +kernel
theorem d1_13 : decode method_2_code 13 = .ok (.iload_n 0, 1) := by decide +kernel
theorem d1_14 : decode method_2_code 14 = .ok (.bipush 10, 2) := by decide +kernel
theorem d1_16 : decode method_2_code 16 = .ok (.iushr, 1) := by decide +kernel
theorem d1_17 : decode method_2_code 17 = .ok (.sipush 255, 3) := by decide +kernel
theorem d1_2 : decode method_2_code 2 = .ok (.iand, 1) := by decide +kernel
theorem d1_20 : decode method_2_code 20 = .ok (.iand, 1) := by decide +kernel
theorem d1_21 : decode method_2_code 21 = .ok (.i2c, 1) := by decide +kernel
theorem d1_22 : decode method_2_code 22 = .ok (.istore_n 3, 1) := by decide +kernel
theorem d1_23 : decode method_2_code 23 = .ok (.iconst 2, 1) := by decide +kernel
theorem d1_24 : decode method_2_code 24 = .ok (.newarray .char, 2) := by decide +kernel
theorem d1_26 : decode method_2_code 26 = .ok (.dup, 1) := by decide +kernel
theorem d1_27 : decode method_2_code 27 = .ok (.iconst 0, 1) := by decide +kernel
theorem d1_28 : decode method_2_code 28 = .ok (.iload_n 2, 1) := by decide +kernel
theorem d1_29 : decode method_2_code 29 = .ok (.castore, 1) := by decide +kernel
theorem d1_3 : decode method_2_code 3 = .ok (.istore_n 1, 1) := by decide +kernel
theorem d1_30 : decode method_2_code 30 = .ok (.dup, 1) := by decide +kernel
theorem d1_31 : decode method_2_code 31 = .ok (.iconst 1, 1) := by decide +kernel
theorem d1_32 : decode method_2_code 32 = .ok (.iload_n 3, 1) := by decide +kernel
theorem d1_33 : decode method_2_code 33 = .ok (.castore, 1) := by decide +kernel
theorem d1_34 : decode method_2_code 34 = .ok (.astore 4, 2) := by decide +kernel
theorem d1_36 : decode method_2_code 36 = .ok (.iload_n 1, 1) := by decide +kernel
theorem d1_37 : decode method_2_code 37 = .ok (.ifCond .ne 18, 3) := by decide +kernel
theorem d1_4 : decode method_2_code 4 = .ok (.iload_n 0, 1) := by decide +kernel
theorem d1_40 : decode method_2_code 40 = .ok (.new 7, 3) := by decide +kernel
theorem d1_43 : decode method_2_code 43 = .ok (.dup, 1) := by decide +kernel
theorem d1_44 : decode method_2_code 44 = .ok (.iconst 0, 1) := by decide +kernel
theorem d1_45 : decode method_2_code 45 = .ok (.newarray .char, 2) := by decide +kernel
theorem d1_47 : decode method_2_code 47 = .ok (.invokespecial 9, 3) := by decide +kernel
theorem d1_5 : decode method_2_code 5 = .ok (.iconst 2, 1) := by decide +kernel
theorem d1_50 : decode method_2_code 50 = .ok (.astore 5, 2) := by decide +kernel
theorem d1_52 : decode method_2_code 52 = .ok (.goto 28, 3) := by decide +kernel
theorem d1_55 : decode method_2_code 55 = .ok (.iload_n 1, 1) := by decide +kernel
theorem d1_56 : decode method_2_code 56 = .ok (.iconst 1, 1) := by decide +kernel
theorem d1_57 : decode method_2_code 57 = .ok (.if_icmp .ne 12, 3) := by decide +kernel
theorem d1_6 : decode method_2_code 6 = .ok (.iushr, 1) := by decide +kernel
theorem d1_60 : decode method_2_code 60 = .ok (.iload_n 2, 1) := by decide +kernel
theorem d1_61 : decode method_2_code 61 = .ok (.invokestatic 12, 3) := by decide +kernel
theorem d1_64 : decode method_2_code 64 = .ok (.astore 5, 2) := by decide +kernel
theorem d1_66 : decode method_2_code 66 = .ok (.goto 14, 3) := by decide +kernel
theorem d1_69 : decode method_2_code 69 = .ok (.new 7, 3) := by decide +kernel
theorem d1_7 : decode method_2_code 7 = .ok (.sipush 255, 3) := by decide +kernel
theorem d1_72 : decode method_2_code 72 = .ok (.dup, 1) := by decide +kernel
theorem d1_73 : decode method_2_code 73 = .ok (.aload 4, 2) := by decide +kernel
theorem d1_75 : decode method_2_code 75 = .ok (.invokespecial 9, 3) := by decide +kernel
theorem d1_78 : decode method_2_code 78 = .ok (.astore 5, 2) := by decide +kernel
theorem d1_80 : decode method_2_code 80 = .ok (.aload 5, 2) := by decide +kernel
theorem d1_82 : decode method_2_code 82 = .ok (.areturn, 1) := by decide +kernel
theorem d20_0 : decode jdk_43_method_46_code 0 = .ok (.iconst 1, 1) := by decide +kernel
theorem d20_1 : decode jdk_43_method_46_code 1 = .ok (.newarray .byte, 2) := by decide +kernel
theorem d20_3 : decode jdk_43_method_46_code 3 = .ok (.dup, 1) := by decide +kernel
theorem d20_4 : decode jdk_43_method_46_code 4 = .ok (.iconst 0, 1) := by decide +kernel
theorem d20_5 : decode jdk_43_method_46_code 5 = .ok (.iload_n 0, 1) := by decide +kernel
theorem d20_6 : decode jdk_43_method_46_code 6 = .ok (.i2b, 1) := by decide +kernel
theorem d20_7 : decode jdk_43_method_46_code 7 = .ok (.bastore, 1) := by decide +kernel
theorem d20_8 : decode jdk_43_method_46_code 8 = .ok (.areturn, 1) := by decide +kernel
theorem d21_0 : decode jdk_42_method_151_code 0 = .ok (.aload_n 0, 1) := by decide +kernel
theorem d21_1 : decode jdk_42_method_151_code 1 = .ok (.invokespecial 1, 3) := by decide +kernel
theorem d21_10 : decode jdk_42_method_151_code 10 = .ok (.iload_n 2, 1) := by decide +kernel
theorem d21_11 : decode jdk_42_method_151_code 11 = .ok (.putfield 15, 3) := by decide +kernel
theorem d21_14 : decode jdk_42_method_151_code 14 = .ok (.return_, 1) := by decide +kernel
theorem d21_4 : decode jdk_42_method_151_code 4 = .ok (.aload_n 0, 1) := by decide +kernel
theorem d21_5 : decode jdk_42_method_151_code 5 = .ok (.aload_n 1, 1) := by decide +kernel
theorem d21_6 : decode jdk_42_method_151_code 6 = .ok (.putfield 9, 3) := by decide +kernel
theorem d21_9 : decode jdk_42_method_151_code 9 = .ok (.aload_n 0, 1) := by decide +kernel
theorem d2_0 : decode jdk_42_method_3_code 0 = .ok (.aload_n 0, 1) := by decide +kernel
theorem d2_1 : decode jdk_42_method_3_code 1 = .ok (.aload_n 1, 1) := by decide +kernel
theorem d2_2 : decode jdk_42_method_3_code 2 = .ok (.iconst 0, 1) := by decide +kernel
theorem d2_3 : decode jdk_42_method_3_code 3 = .ok (.aload_n 1, 1) := by decide +kernel
theorem d2_4 : decode jdk_42_method_3_code 4 = .ok (.arraylength, 1) := by decide +kernel
theorem d2_5 : decode jdk_42_method_3_code 5 = .ok (.aconst_null, 1) := by decide +kernel
theorem d2_6 : decode jdk_42_method_3_code 6 = .ok (.invokespecial 27, 3) := by decide +kernel
theorem d2_9 : decode jdk_42_method_3_code 9 = .ok (.return_, 1) := by decide +kernel
theorem d3_0 : decode jdk_42_method_149_code 0 = .ok (.aload_n 0, 1) := by decide +kernel
theorem d3_1 : decode jdk_42_method_149_code 1 = .ok (.invokespecial 1, 3) := by decide +kernel
theorem d3_11 : decode jdk_42_method_149_code 11 = .ok (.getfield 9, 3) := by decide +kernel
theorem d3_14 : decode jdk_42_method_149_code 14 = .ok (.putfield 9, 3) := by decide +kernel
theorem d3_17 : decode jdk_42_method_149_code 17 = .ok (.aload_n 0, 1) := by decide +kernel
theorem d3_18 : decode jdk_42_method_149_code 18 = .ok (.ldc 7, 2) := by decide +kernel
theorem d3_20 : decode jdk_42_method_149_code 20 = .ok (.getfield 15, 3) := by decide +kernel
theorem d3_23 : decode jdk_42_method_149_code 23 = .ok (.putfield 15, 3) := by decide +kernel
theorem d3_26 : decode jdk_42_method_149_code 26 = .ok (.return_, 1) := by decide +kernel
theorem d3_27 : decode jdk_42_method_149_code 27 = .ok (.getstatic 38, 3) := by decide +kernel
theorem d3_30 : decode jdk_42_method_149_code 30 = .ok (.ifCond .eq 28, 3) := by decide +kernel
theorem d3_33 : decode jdk_42_method_149_code 33 = .ok (.aload_n 1, 1) := by decide +kernel
theorem d3_34 : decode jdk_42_method_149_code 34 = .ok (.iload_n 2, 1) := by decide +kernel
theorem d3_35 : decode jdk_42_method_149_code 35 = .ok (.iload_n 3, 1) := by decide +kernel
theorem d3_36 : decode jdk_42_method_149_code 36 = .ok (.invokestatic 177, 3) := by decide +kernel
theorem d3_39 : decode jdk_42_method_149_code 39 = .ok (.astore 5, 2) := by decide +kernel
theorem d3_4 : decode jdk_42_method_149_code 4 = .ok (.iload_n 3, 1) := by decide +kernel
theorem d3_41 : decode jdk_42_method_149_code 41 = .ok (.aload_n 0, 1) := by decide +kernel
theorem d3_42 : decode jdk_42_method_149_code 42 = .ok (.aload 5, 2) := by decide +kernel
theorem d3_44 : decode jdk_42_method_149_code 44 = .ok (.iload_n 3, 1) := by decide +kernel
theorem d3_45 : decode jdk_42_method_149_code 45 = .ok (.invokestatic 47, 3) := by decide +kernel
theorem d3_48 : decode jdk_42_method_149_code 48 = .ok (.putfield 15, 3) := by decide +kernel
theorem d3_5 : decode jdk_42_method_149_code 5 = .ok (.ifCond .ne 22, 3) := by decide +kernel
theorem d3_51 : decode jdk_42_method_149_code 51 = .ok (.aload_n 0, 1) := by decide +kernel
theorem d3_52 : decode jdk_42_method_149_code 52 = .ok (.aload 5, 2) := by decide +kernel
theorem d3_54 : decode jdk_42_method_149_code 54 = .ok (.putfield 9, 3) := by decide +kernel
theorem d3_57 : decode jdk_42_method_149_code 57 = .ok (.return_, 1) := by decide +kernel
theorem d3_8 : decode jdk_42_method_149_code 8 = .ok (.aload_n 0, 1) := by decide +kernel
theorem d3_9 : decode jdk_42_method_149_code 9 = .ok (.ldc 7, 2) := by decide +kernel
theorem d5_0 : decode jdk_52_method_16_code 0 = .ok (.iload_n 2, 1) := by decide +kernel
theorem d5_1 : decode jdk_52_method_16_code 1 = .ok (.newarray .byte, 2) := by decide +kernel
theorem d5_12 : decode jdk_52_method_16_code 12 = .ok (.istore 4, 2) := by decide +kernel
theorem d5_14 : decode jdk_52_method_16_code 14 = .ok (.iload 4, 2) := by decide +kernel
theorem d5_16 : decode jdk_52_method_16_code 16 = .ok (.iload_n 2, 1) := by decide +kernel
theorem d5_17 : decode jdk_52_method_16_code 17 = .ok (.if_icmp .eq 40, 3) := by decide +kernel
theorem d5_3 : decode jdk_52_method_16_code 3 = .ok (.astore_n 3, 1) := by decide +kernel
theorem d5_4 : decode jdk_52_method_16_code 4 = .ok (.aload_n 0, 1) := by decide +kernel
theorem d5_5 : decode jdk_52_method_16_code 5 = .ok (.iload_n 1, 1) := by decide +kernel
theorem d5_57 : decode jdk_52_method_16_code 57 = .ok (.aload_n 3, 1) := by decide +kernel
theorem d5_58 : decode jdk_52_method_16_code 58 = .ok (.areturn, 1) := by decide +kernel
theorem d5_6 : decode jdk_52_method_16_code 6 = .ok (.aload_n 3, 1) := by decide +kernel
theorem d5_7 : decode jdk_52_method_16_code 7 = .ok (.iconst 0, 1) := by decide +kernel
theorem d5_8 : decode jdk_52_method_16_code 8 = .ok (.iload_n 2, 1) := by decide +kernel
theorem d5_9 : decode jdk_52_method_16_code 9 = .ok (.invokestatic 115, 3) := by decide +kernel
theorem d6_0 : decode jdk_52_method_21_code 0 = .ok (.iconst 0, 1) := by decide +kernel
theorem d6_1 : decode jdk_52_method_21_code 1 = .ok (.istore 5, 2) := by decide +kernel
theorem d6_10 : decode jdk_52_method_21_code 10 = .ok (.aload_n 0, 1) := by decide +kernel
theorem d6_11 : decode jdk_52_method_21_code 11 = .ok (.iload_n 1, 1) := by decide +kernel
theorem d6_12 : decode jdk_52_method_21_code 12 = .ok (.caload, 1) := by decide +kernel
theorem d6_13 : decode jdk_52_method_21_code 13 = .ok (.istore 6, 2) := by decide +kernel
theorem d6_15 : decode jdk_52_method_21_code 15 = .ok (.iload 6, 2) := by decide +kernel
theorem d6_17 : decode jdk_52_method_21_code 17 = .ok (.sipush 255, 3) := by decide +kernel
theorem d6_20 : decode jdk_52_method_21_code 20 = .ok (.if_icmp .le 6, 3) := by decide +kernel
theorem d6_26 : decode jdk_52_method_21_code 26 = .ok (.aload_n 2, 1) := by decide +kernel
theorem d6_27 : decode jdk_52_method_21_code 27 = .ok (.iload_n 3, 1) := by decide +kernel
theorem d6_28 : decode jdk_52_method_21_code 28 = .ok (.iload 6, 2) := by decide +kernel
theorem d6_3 : decode jdk_52_method_21_code 3 = .ok (.iload 5, 2) := by decide +kernel
theorem d6_30 : decode jdk_52_method_21_code 30 = .ok (.i2b, 1) := by decide +kernel
theorem d6_31 : decode jdk_52_method_21_code 31 = .ok (.bastore, 1) := by decide +kernel
theorem d6_32 : decode jdk_52_method_21_code 32 = .ok (.iinc 1 1, 3) := by decide +kernel
theorem d6_35 : decode jdk_52_method_21_code 35 = .ok (.iinc 3 1, 3) := by decide +kernel
theorem d6_38 : decode jdk_52_method_21_code 38 = .ok (.iinc 5 1, 3) := by decide +kernel
theorem d6_41 : decode jdk_52_method_21_code 41 = .ok (.goto (-38), 3) := by decide +kernel
theorem d6_44 : decode jdk_52_method_21_code 44 = .ok (.iload 4, 2) := by decide +kernel
theorem d6_46 : decode jdk_52_method_21_code 46 = .ok (.ireturn, 1) := by decide +kernel
theorem d6_5 : decode jdk_52_method_21_code 5 = .ok (.iload 4, 2) := by decide +kernel
theorem d6_7 : decode jdk_52_method_21_code 7 = .ok (.if_icmp .ge 37, 3) := by decide +kernel
theorem d7_0 : decode jdk_52_method_15_code 0 = .ok (.iload_n 1, 1) := by decide +kernel
theorem d7_1 : decode jdk_52_method_15_code 1 = .ok (.aload_n 0, 1) := by decide +kernel
theorem d7_2 : decode jdk_52_method_15_code 2 = .ok (.arraylength, 1) := by decide +kernel
theorem d7_3 : decode jdk_52_method_15_code 3 = .ok (.isub, 1) := by decide +kernel
theorem d7_4 : decode jdk_52_method_15_code 4 = .ok (.bipush 31, 2) := by decide +kernel
theorem d7_6 : decode jdk_52_method_15_code 6 = .ok (.iushr, 1) := by decide +kernel
theorem d7_7 : decode jdk_52_method_15_code 7 = .ok (.i2b, 1) := by decide +kernel
theorem d7_8 : decode jdk_52_method_15_code 8 = .ok (.ireturn, 1) := by decide +kernel
theorem d8_0 : decode prog_13_method_5_code 0 = .ok (.new 8, 3) := by decide +kernel
theorem d8_10 : decode prog_13_method_5_code 10 = .ok (.aconst_null, 1) := by decide +kernel
theorem d8_11 : decode prog_13_method_5_code 11 = .ok (.invokespecial 35, 3) := by decide +kernel
theorem d8_14 : decode prog_13_method_5_code 14 = .ok (.areturn, 1) := by decide +kernel
theorem d8_3 : decode prog_13_method_5_code 3 = .ok (.dup, 1) := by decide +kernel
theorem d8_4 : decode prog_13_method_5_code 4 = .ok (.aload_n 0, 1) := by decide +kernel
theorem d8_5 : decode prog_13_method_5_code 5 = .ok (.aload_n 1, 1) := by decide +kernel
theorem d8_6 : decode prog_13_method_5_code 6 = .ok (.aconst_null, 1) := by decide +kernel
theorem d8_7 : decode prog_13_method_5_code 7 = .ok (.aconst_null, 1) := by decide +kernel
theorem d8_8 : decode prog_13_method_5_code 8 = .ok (.aconst_null, 1) := by decide +kernel
theorem d8_9 : decode prog_13_method_5_code 9 = .ok (.aload_n 2, 1) := by decide +kernel
theorem d9_0 : decode prog_13_method_1_code 0 = .ok (.aload_n 0, 1) := by decide +kernel
theorem d9_1 : decode prog_13_method_1_code 1 = .ok (.invokespecial 1, 3) := by decide +kernel
theorem d9_10 : decode prog_13_method_1_code 10 = .ok (.aload_n 2, 1) := by decide +kernel
theorem d9_11 : decode prog_13_method_1_code 11 = .ok (.putfield 13, 3) := by decide +kernel
theorem d9_14 : decode prog_13_method_1_code 14 = .ok (.aload_n 0, 1) := by decide +kernel
theorem d9_15 : decode prog_13_method_1_code 15 = .ok (.aload_n 3, 1) := by decide +kernel
theorem d9_16 : decode prog_13_method_1_code 16 = .ok (.putfield 16, 3) := by decide +kernel
theorem d9_19 : decode prog_13_method_1_code 19 = .ok (.aload_n 0, 1) := by decide +kernel
theorem d9_20 : decode prog_13_method_1_code 20 = .ok (.aload 4, 2) := by decide +kernel
theorem d9_22 : decode prog_13_method_1_code 22 = .ok (.putfield 20, 3) := by decide +kernel
theorem d9_25 : decode prog_13_method_1_code 25 = .ok (.aload_n 0, 1) := by decide +kernel
theorem d9_26 : decode prog_13_method_1_code 26 = .ok (.aload 5, 2) := by decide +kernel
theorem d9_28 : decode prog_13_method_1_code 28 = .ok (.putfield 24, 3) := by decide +kernel
theorem d9_31 : decode prog_13_method_1_code 31 = .ok (.aload_n 0, 1) := by decide +kernel
theorem d9_32 : decode prog_13_method_1_code 32 = .ok (.aload 6, 2) := by decide +kernel
theorem d9_34 : decode prog_13_method_1_code 34 = .ok (.putfield 28, 3) := by decide +kernel
theorem d9_37 : decode prog_13_method_1_code 37 = .ok (.aload_n 0, 1) := by decide +kernel
theorem d9_38 : decode prog_13_method_1_code 38 = .ok (.aload 7, 2) := by decide +kernel
theorem d9_4 : decode prog_13_method_1_code 4 = .ok (.aload_n 0, 1) := by decide +kernel
theorem d9_40 : decode prog_13_method_1_code 40 = .ok (.putfield 31, 3) := by decide +kernel
theorem d9_43 : decode prog_13_method_1_code 43 = .ok (.return_, 1) := by decide +kernel
theorem d9_5 : decode prog_13_method_1_code 5 = .ok (.aload_n 1, 1) := by decide +kernel
theorem d9_6 : decode prog_13_method_1_code 6 = .ok (.putfield 7, 3) := by decide +kernel
theorem d9_9 : decode prog_13_method_1_code 9 = .ok (.aload_n 0, 1) := by decide +kernel
/-- an object of class java/lang/String, and what its fields hold -/
def IsSt (Z : State) (h : Heap) (a : Addr) (v_value v_coder : Value) : Prop := Exa Z h a "java/lang/String" ∧ Fld Z h a "java/lang/String" "value" "[B" v_value ∧ Fld Z h a "java/lang/String" "coder" "B" v_coder
theorem IsSt.exa {Z : State} {h : Heap} {a : Addr} {v_value v_coder : Value} (O : IsSt Z h a v_value v_coder) : Exa Z h a "java/lang/String" := O.1
theorem IsSt.lt {Z : State} {h : Heap} {a : Addr} {v_value v_coder : Value} (O : IsSt Z h a v_value v_coder) : a < h.size := (IsSt.exa O).lt
theorem IsSt.f_value {Z : State} {h : Heap} {a : Addr} {v_value v_coder : Value} (O : IsSt Z h a v_value v_coder) : Fld Z h a "java/lang/String" "value" "[B" v_value := O.2.1
theorem IsSt.f_coder {Z : State} {h : Heap} {a : Addr} {v_value v_coder : Value} (O : IsSt Z h a v_value v_coder) : Fld Z h a "java/lang/String" "coder" "B" v_coder := O.2.2
theorem IsSt.ext {Z : State} {h h' : Heap} {a : Addr} {v_value v_coder : Value} (E : Ext h h') (O : IsSt Z h a v_value v_coder) : IsSt Z h' a v_value v_coder := ⟨(O.1).ext E, (O.2.1).ext E, (O.2.2).ext E⟩
theorem IsSt.keep {Z : State} {h h' : Heap} {a : Addr} {v_value v_coder : Value} {ws : List Addr} (K : Keep h h' ws) (O : IsSt Z h a v_value v_coder) (q : a ∉ ws) : IsSt Z h' a v_value v_coder := ⟨(O.1).keep K, (O.2.1).keep K q, (O.2.2).keep K q⟩
theorem IsSt.other {Z : State} {h h' : Heap} {a b : Addr} {v_value v_coder : Value} {sl : Nat} {v : Value} (W : Wr h h' b sl v) (O : IsSt Z h a v_value v_coder) (q : a ≠ b) : IsSt Z h' a v_value v_coder := ⟨(O.1).wr W, (O.2.1).other W (Or.inl q), (O.2.2).other W (Or.inl q)⟩
theorem IsSt.s_value {Z : State} {h h' : Heap} {a : Addr} {v_value v_coder : Value} {v : Value} {a0 : Array Value} (hw : ∀ d ∈ tables_1, d.before a0 Z = true) (W : Wr h h' a (RoadKit.slotOf Z "java/lang/String" "value" "[B") v) (O : IsSt Z h a v_value v_coder) : IsSt Z h' a v v_coder := ⟨(O.1).wr W, (O.2.1).same W, (O.2.2).other W (Or.inr (slot_ne (a0 := a0) (C := "java/lang/String") (Or.inr (w_21 hw)) (Or.inr (w_20 hw)) (by decide) (t := .byte) (t' := (.array .byte)) (by decide) (by decide)))⟩
theorem IsSt.s_coder {Z : State} {h h' : Heap} {a : Addr} {v_value v_coder : Value} {v : Value} {a0 : Array Value} (hw : ∀ d ∈ tables_1, d.before a0 Z = true) (W : Wr h h' a (RoadKit.slotOf Z "java/lang/String" "coder" "B") v) (O : IsSt Z h a v_value v_coder) : IsSt Z h' a v_value v := ⟨(O.1).wr W, (O.2.1).other W (Or.inr (slot_ne (a0 := a0) (C := "java/lang/String") (Or.inr (w_20 hw)) (Or.inr (w_21 hw)) (by decide) (t := (.array .byte)) (t' := .byte) (by decide) (by decide))), (O.2.2).same W⟩
/-- an object of class java/lang/String, and what its fields hold -/
def IsX (Z : State) (h : Heap) (a : Addr)  : Prop := Exa Z h a "java/lang/String"
theorem IsX.exa {Z : State} {h : Heap} {a : Addr}  (O : IsX Z h a ) : Exa Z h a "java/lang/String" := O
theorem IsX.lt {Z : State} {h : Heap} {a : Addr}  (O : IsX Z h a ) : a < h.size := (IsX.exa O).lt
theorem IsX.ext {Z : State} {h h' : Heap} {a : Addr}  (E : Ext h h') (O : IsX Z h a ) : IsX Z h' a  := (O.exa).ext E
theorem IsX.keep {Z : State} {h h' : Heap} {a : Addr}  {ws : List Addr} (K : Keep h h' ws) (O : IsX Z h a ) (q : a ∉ ws) : IsX Z h' a  := (O.exa).keep K
theorem IsX.other {Z : State} {h h' : Heap} {a b : Addr}  {sl : Nat} {v : Value} (W : Wr h h' b sl v) (O : IsX Z h a ) (q : a ≠ b) : IsX Z h' a  := (O.exa).wr W
/-- an object of class com/example/vestline/vestline/Figure, and what its fields hold -/
def IsFi (Z : State) (h : Heap) (a : Addr) (v_name v_section v_number v_dollars v_date v_text v_years : Value) : Prop := Exa Z h a "com/example/vestline/vestline/Figure" ∧ Fld Z h a "com/example/vestline/vestline/Figure" "name" "Ljava/lang/String;" v_name ∧ Fld Z h a "com/example/vestline/vestline/Figure" "section" "Ljava/lang/String;" v_section ∧ Fld Z h a "com/example/vestline/vestline/Figure" "number" "Lcom/example/vestline/vestline/Rational;" v_number ∧ Fld Z h a "com/example/vestline/vestline/Figure" "dollars" "Lcom/example/vestline/vestline/Money;" v_dollars ∧ Fld Z h a "com/example/vestline/vestline/Figure" "date" "Ljava/time/LocalDate;" v_date ∧ Fld Z h a "com/example/vestline/vestline/Figure" "text" "Ljava/lang/String;" v_text ∧ Fld Z h a "com/example/vestline/vestline/Figure" "years" "Ljava/util/List;" v_years
theorem IsFi.exa {Z : State} {h : Heap} {a : Addr} {v_name v_section v_number v_dollars v_date v_text v_years : Value} (O : IsFi Z h a v_name v_section v_number v_dollars v_date v_text v_years) : Exa Z h a "com/example/vestline/vestline/Figure" := O.1
theorem IsFi.lt {Z : State} {h : Heap} {a : Addr} {v_name v_section v_number v_dollars v_date v_text v_years : Value} (O : IsFi Z h a v_name v_section v_number v_dollars v_date v_text v_years) : a < h.size := (IsFi.exa O).lt
theorem IsFi.f_name {Z : State} {h : Heap} {a : Addr} {v_name v_section v_number v_dollars v_date v_text v_years : Value} (O : IsFi Z h a v_name v_section v_number v_dollars v_date v_text v_years) : Fld Z h a "com/example/vestline/vestline/Figure" "name" "Ljava/lang/String;" v_name := O.2.1
theorem IsFi.f_section {Z : State} {h : Heap} {a : Addr} {v_name v_section v_number v_dollars v_date v_text v_years : Value} (O : IsFi Z h a v_name v_section v_number v_dollars v_date v_text v_years) : Fld Z h a "com/example/vestline/vestline/Figure" "section" "Ljava/lang/String;" v_section := O.2.2.1
theorem IsFi.f_number {Z : State} {h : Heap} {a : Addr} {v_name v_section v_number v_dollars v_date v_text v_years : Value} (O : IsFi Z h a v_name v_section v_number v_dollars v_date v_text v_years) : Fld Z h a "com/example/vestline/vestline/Figure" "number" "Lcom/example/vestline/vestline/Rational;" v_number := O.2.2.2.1
theorem IsFi.f_dollars {Z : State} {h : Heap} {a : Addr} {v_name v_section v_number v_dollars v_date v_text v_years : Value} (O : IsFi Z h a v_name v_section v_number v_dollars v_date v_text v_years) : Fld Z h a "com/example/vestline/vestline/Figure" "dollars" "Lcom/example/vestline/vestline/Money;" v_dollars := O.2.2.2.2.1
theorem IsFi.f_date {Z : State} {h : Heap} {a : Addr} {v_name v_section v_number v_dollars v_date v_text v_years : Value} (O : IsFi Z h a v_name v_section v_number v_dollars v_date v_text v_years) : Fld Z h a "com/example/vestline/vestline/Figure" "date" "Ljava/time/LocalDate;" v_date := O.2.2.2.2.2.1
theorem IsFi.f_text {Z : State} {h : Heap} {a : Addr} {v_name v_section v_number v_dollars v_date v_text v_years : Value} (O : IsFi Z h a v_name v_section v_number v_dollars v_date v_text v_years) : Fld Z h a "com/example/vestline/vestline/Figure" "text" "Ljava/lang/String;" v_text := O.2.2.2.2.2.2.1
theorem IsFi.f_years {Z : State} {h : Heap} {a : Addr} {v_name v_section v_number v_dollars v_date v_text v_years : Value} (O : IsFi Z h a v_name v_section v_number v_dollars v_date v_text v_years) : Fld Z h a "com/example/vestline/vestline/Figure" "years" "Ljava/util/List;" v_years := O.2.2.2.2.2.2.2
theorem IsFi.ext {Z : State} {h h' : Heap} {a : Addr} {v_name v_section v_number v_dollars v_date v_text v_years : Value} (E : Ext h h') (O : IsFi Z h a v_name v_section v_number v_dollars v_date v_text v_years) : IsFi Z h' a v_name v_section v_number v_dollars v_date v_text v_years := ⟨(O.1).ext E, (O.2.1).ext E, (O.2.2.1).ext E, (O.2.2.2.1).ext E, (O.2.2.2.2.1).ext E, (O.2.2.2.2.2.1).ext E, (O.2.2.2.2.2.2.1).ext E, (O.2.2.2.2.2.2.2).ext E⟩
theorem IsFi.keep {Z : State} {h h' : Heap} {a : Addr} {v_name v_section v_number v_dollars v_date v_text v_years : Value} {ws : List Addr} (K : Keep h h' ws) (O : IsFi Z h a v_name v_section v_number v_dollars v_date v_text v_years) (q : a ∉ ws) : IsFi Z h' a v_name v_section v_number v_dollars v_date v_text v_years := ⟨(O.1).keep K, (O.2.1).keep K q, (O.2.2.1).keep K q, (O.2.2.2.1).keep K q, (O.2.2.2.2.1).keep K q, (O.2.2.2.2.2.1).keep K q, (O.2.2.2.2.2.2.1).keep K q, (O.2.2.2.2.2.2.2).keep K q⟩
theorem IsFi.other {Z : State} {h h' : Heap} {a b : Addr} {v_name v_section v_number v_dollars v_date v_text v_years : Value} {sl : Nat} {v : Value} (W : Wr h h' b sl v) (O : IsFi Z h a v_name v_section v_number v_dollars v_date v_text v_years) (q : a ≠ b) : IsFi Z h' a v_name v_section v_number v_dollars v_date v_text v_years := ⟨(O.1).wr W, (O.2.1).other W (Or.inl q), (O.2.2.1).other W (Or.inl q), (O.2.2.2.1).other W (Or.inl q), (O.2.2.2.2.1).other W (Or.inl q), (O.2.2.2.2.2.1).other W (Or.inl q), (O.2.2.2.2.2.2.1).other W (Or.inl q), (O.2.2.2.2.2.2.2).other W (Or.inl q)⟩
theorem IsFi.s_name {Z : State} {h h' : Heap} {a : Addr} {v_name v_section v_number v_dollars v_date v_text v_years : Value} {v : Value} {a0 : Array Value} (hw : ∀ d ∈ tables_1, d.before a0 Z = true) (W : Wr h h' a (RoadKit.slotOf Z "com/example/vestline/vestline/Figure" "name" "Ljava/lang/String;") v) (O : IsFi Z h a v_name v_section v_number v_dollars v_date v_text v_years) : IsFi Z h' a v v_section v_number v_dollars v_date v_text v_years := ⟨(O.1).wr W, (O.2.1).same W, (O.2.2.1).other W (Or.inr (slot_ne (a0 := a0) (C := "com/example/vestline/vestline/Figure") (Or.inr (w_50 hw)) (Or.inr (w_48 hw)) (by decide) (t := (.object "java/lang/String")) (t' := (.object "java/lang/String")) (by decide) (by decide))), (O.2.2.2.1).other W (Or.inr (slot_ne (a0 := a0) (C := "com/example/vestline/vestline/Figure") (Or.inr (w_52 hw)) (Or.inr (w_48 hw)) (by decide) (t := (.object "com/example/vestline/vestline/Rational")) (t' := (.object "java/lang/String")) (by decide) (by decide))), (O.2.2.2.2.1).other W (Or.inr (slot_ne (a0 := a0) (C := "com/example/vestline/vestline/Figure") (Or.inr (w_54 hw)) (Or.inr (w_48 hw)) (by decide) (t := (.object "com/example/vestline/vestline/Money")) (t' := (.object "java/lang/String")) (by decide) (by decide))), (O.2.2.2.2.2.1).other W (Or.inr (slot_ne (a0 := a0) (C := "com/example/vestline/vestline/Figure") (Or.inr (w_56 hw)) (Or.inr (w_48 hw)) (by decide) (t := (.object "java/time/LocalDate")) (t' := (.object "java/lang/String")) (by decide) (by decide))), (O.2.2.2.2.2.2.1).other W (Or.inr (slot_ne (a0 := a0) (C := "com/example/vestline/vestline/Figure") (Or.inr (w_58 hw)) (Or.inr (w_48 hw)) (by decide) (t := (.object "java/lang/String")) (t' := (.object "java/lang/String")) (by decide) (by decide))), (O.2.2.2.2.2.2.2).other W (Or.inr (slot_ne (a0 := a0) (C := "com/example/vestline/vestline/Figure") (Or.inr (w_60 hw)) (Or.inr (w_48 hw)) (by decide) (t := (.object "java/util/List")) (t' := (.object "java/lang/String")) (by decide) (by decide)))⟩
theorem IsFi.s_section {Z : State} {h h' : Heap} {a : Addr} {v_name v_section v_number v_dollars v_date v_text v_years : Value} {v : Value} {a0 : Array Value} (hw : ∀ d ∈ tables_1, d.before a0 Z = true) (W : Wr h h' a (RoadKit.slotOf Z "com/example/vestline/vestline/Figure" "section" "Ljava/lang/String;") v) (O : IsFi Z h a v_name v_section v_number v_dollars v_date v_text v_years) : IsFi Z h' a v_name v v_number v_dollars v_date v_text v_years := ⟨(O.1).wr W, (O.2.1).other W (Or.inr (slot_ne (a0 := a0) (C := "com/example/vestline/vestline/Figure") (Or.inr (w_48 hw)) (Or.inr (w_50 hw)) (by decide) (t := (.object "java/lang/String")) (t' := (.object "java/lang/String")) (by decide) (by decide))), (O.2.2.1).same W, (O.2.2.2.1).other W (Or.inr (slot_ne (a0 := a0) (C := "com/example/vestline/vestline/Figure") (Or.inr (w_52 hw)) (Or.inr (w_50 hw)) (by decide) (t := (.object "com/example/vestline/vestline/Rational")) (t' := (.object "java/lang/String")) (by decide) (by decide))), (O.2.2.2.2.1).other W (Or.inr (slot_ne (a0 := a0) (C := "com/example/vestline/vestline/Figure") (Or.inr (w_54 hw)) (Or.inr (w_50 hw)) (by decide) (t := (.object "com/example/vestline/vestline/Money")) (t' := (.object "java/lang/String")) (by decide) (by decide))), (O.2.2.2.2.2.1).other W (Or.inr (slot_ne (a0 := a0) (C := "com/example/vestline/vestline/Figure") (Or.inr (w_56 hw)) (Or.inr (w_50 hw)) (by decide) (t := (.object "java/time/LocalDate")) (t' := (.object "java/lang/String")) (by decide) (by decide))), (O.2.2.2.2.2.2.1).other W (Or.inr (slot_ne (a0 := a0) (C := "com/example/vestline/vestline/Figure") (Or.inr (w_58 hw)) (Or.inr (w_50 hw)) (by decide) (t := (.object "java/lang/String")) (t' := (.object "java/lang/String")) (by decide) (by decide))), (O.2.2.2.2.2.2.2).other W (Or.inr (slot_ne (a0 := a0) (C := "com/example/vestline/vestline/Figure") (Or.inr (w_60 hw)) (Or.inr (w_50 hw)) (by decide) (t := (.object "java/util/List")) (t' := (.object "java/lang/String")) (by decide) (by decide)))⟩
theorem IsFi.s_number {Z : State} {h h' : Heap} {a : Addr} {v_name v_section v_number v_dollars v_date v_text v_years : Value} {v : Value} {a0 : Array Value} (hw : ∀ d ∈ tables_1, d.before a0 Z = true) (W : Wr h h' a (RoadKit.slotOf Z "com/example/vestline/vestline/Figure" "number" "Lcom/example/vestline/vestline/Rational;") v) (O : IsFi Z h a v_name v_section v_number v_dollars v_date v_text v_years) : IsFi Z h' a v_name v_section v v_dollars v_date v_text v_years := ⟨(O.1).wr W, (O.2.1).other W (Or.inr (slot_ne (a0 := a0) (C := "com/example/vestline/vestline/Figure") (Or.inr (w_48 hw)) (Or.inr (w_52 hw)) (by decide) (t := (.object "java/lang/String")) (t' := (.object "com/example/vestline/vestline/Rational")) (by decide) (by decide))), (O.2.2.1).other W (Or.inr (slot_ne (a0 := a0) (C := "com/example/vestline/vestline/Figure") (Or.inr (w_50 hw)) (Or.inr (w_52 hw)) (by decide) (t := (.object "java/lang/String")) (t' := (.object "com/example/vestline/vestline/Rational")) (by decide) (by decide))), (O.2.2.2.1).same W, (O.2.2.2.2.1).other W (Or.inr (slot_ne (a0 := a0) (C := "com/example/vestline/vestline/Figure") (Or.inr (w_54 hw)) (Or.inr (w_52 hw)) (by decide) (t := (.object "com/example/vestline/vestline/Money")) (t' := (.object "com/example/vestline/vestline/Rational")) (by decide) (by decide))), (O.2.2.2.2.2.1).other W (Or.inr (slot_ne (a0 := a0) (C := "com/example/vestline/vestline/Figure") (Or.inr (w_56 hw)) (Or.inr (w_52 hw)) (by decide) (t := (.object "java/time/LocalDate")) (t' := (.object "com/example/vestline/vestline/Rational")) (by decide) (by decide))), (O.2.2.2.2.2.2.1).other W (Or.inr (slot_ne (a0 := a0) (C := "com/example/vestline/vestline/Figure") (Or.inr (w_58 hw)) (Or.inr (w_52 hw)) (by decide) (t := (.object "java/lang/String")) (t' := (.object "com/example/vestline/vestline/Rational")) (by decide) (by decide))), (O.2.2.2.2.2.2.2).other W (Or.inr (slot_ne (a0 := a0) (C := "com/example/vestline/vestline/Figure") (Or.inr (w_60 hw)) (Or.inr (w_52 hw)) (by decide) (t := (.object "java/util/List")) (t' := (.object "com/example/vestline/vestline/Rational")) (by decide) (by decide)))⟩
theorem IsFi.s_dollars {Z : State} {h h' : Heap} {a : Addr} {v_name v_section v_number v_dollars v_date v_text v_years : Value} {v : Value} {a0 : Array Value} (hw : ∀ d ∈ tables_1, d.before a0 Z = true) (W : Wr h h' a (RoadKit.slotOf Z "com/example/vestline/vestline/Figure" "dollars" "Lcom/example/vestline/vestline/Money;") v) (O : IsFi Z h a v_name v_section v_number v_dollars v_date v_text v_years) : IsFi Z h' a v_name v_section v_number v v_date v_text v_years := ⟨(O.1).wr W, (O.2.1).other W (Or.inr (slot_ne (a0 := a0) (C := "com/example/vestline/vestline/Figure") (Or.inr (w_48 hw)) (Or.inr (w_54 hw)) (by decide) (t := (.object "java/lang/String")) (t' := (.object "com/example/vestline/vestline/Money")) (by decide) (by decide))), (O.2.2.1).other W (Or.inr (slot_ne (a0 := a0) (C := "com/example/vestline/vestline/Figure") (Or.inr (w_50 hw)) (Or.inr (w_54 hw)) (by decide) (t := (.object "java/lang/String")) (t' := (.object "com/example/vestline/vestline/Money")) (by decide) (by decide))), (O.2.2.2.1).other W (Or.inr (slot_ne (a0 := a0) (C := "com/example/vestline/vestline/Figure") (Or.inr (w_52 hw)) (Or.inr (w_54 hw)) (by decide) (t := (.object "com/example/vestline/vestline/Rational")) (t' := (.object "com/example/vestline/vestline/Money")) (by decide) (by decide))), (O.2.2.2.2.1).same W, (O.2.2.2.2.2.1).other W (Or.inr (slot_ne (a0 := a0) (C := "com/example/vestline/vestline/Figure") (Or.inr (w_56 hw)) (Or.inr (w_54 hw)) (by decide) (t := (.object "java/time/LocalDate")) (t' := (.object "com/example/vestline/vestline/Money")) (by decide) (by decide))), (O.2.2.2.2.2.2.1).other W (Or.inr (slot_ne (a0 := a0) (C := "com/example/vestline/vestline/Figure") (Or.inr (w_58 hw)) (Or.inr (w_54 hw)) (by decide) (t := (.object "java/lang/String")) (t' := (.object "com/example/vestline/vestline/Money")) (by decide) (by decide))), (O.2.2.2.2.2.2.2).other W (Or.inr (slot_ne (a0 := a0) (C := "com/example/vestline/vestline/Figure") (Or.inr (w_60 hw)) (Or.inr (w_54 hw)) (by decide) (t := (.object "java/util/List")) (t' := (.object "com/example/vestline/vestline/Money")) (by decide) (by decide)))⟩
theorem IsFi.s_date {Z : State} {h h' : Heap} {a : Addr} {v_name v_section v_number v_dollars v_date v_text v_years : Value} {v : Value} {a0 : Array Value} (hw : ∀ d ∈ tables_1, d.before a0 Z = true) (W : Wr h h' a (RoadKit.slotOf Z "com/example/vestline/vestline/Figure" "date" "Ljava/time/LocalDate;") v) (O : IsFi Z h a v_name v_section v_number v_dollars v_date v_text v_years) : IsFi Z h' a v_name v_section v_number v_dollars v v_text v_years := ⟨(O.1).wr W, (O.2.1).other W (Or.inr (slot_ne (a0 := a0) (C := "com/example/vestline/vestline/Figure") (Or.inr (w_48 hw)) (Or.inr (w_56 hw)) (by decide) (t := (.object "java/lang/String")) (t' := (.object "java/time/LocalDate")) (by decide) (by decide))), (O.2.2.1).other W (Or.inr (slot_ne (a0 := a0) (C := "com/example/vestline/vestline/Figure") (Or.inr (w_50 hw)) (Or.inr (w_56 hw)) (by decide) (t := (.object "java/lang/String")) (t' := (.object "java/time/LocalDate")) (by decide) (by decide))), (O.2.2.2.1).other W (Or.inr (slot_ne (a0 := a0) (C := "com/example/vestline/vestline/Figure") (Or.inr (w_52 hw)) (Or.inr (w_56 hw)) (by decide) (t := (.object "com/example/vestline/vestline/Rational")) (t' := (.object "java/time/LocalDate")) (by decide) (by decide))), (O.2.2.2.2.1).other W (Or.inr (slot_ne (a0 := a0) (C := "com/example/vestline/vestline/Figure") (Or.inr (w_54 hw)) (Or.inr (w_56 hw)) (by decide) (t := (.object "com/example/vestline/vestline/Money")) (t' := (.object "java/time/LocalDate")) (by decide) (by decide))), (O.2.2.2.2.2.1).same W, (O.2.2.2.2.2.2.1).other W (Or.inr (slot_ne (a0 := a0) (C := "com/example/vestline/vestline/Figure") (Or.inr (w_58 hw)) (Or.inr (w_56 hw)) (by decide) (t := (.object "java/lang/String")) (t' := (.object "java/time/LocalDate")) (by decide) (by decide))), (O.2.2.2.2.2.2.2).other W (Or.inr (slot_ne (a0 := a0) (C := "com/example/vestline/vestline/Figure") (Or.inr (w_60 hw)) (Or.inr (w_56 hw)) (by decide) (t := (.object "java/util/List")) (t' := (.object "java/time/LocalDate")) (by decide) (by decide)))⟩
theorem IsFi.s_text {Z : State} {h h' : Heap} {a : Addr} {v_name v_section v_number v_dollars v_date v_text v_years : Value} {v : Value} {a0 : Array Value} (hw : ∀ d ∈ tables_1, d.before a0 Z = true) (W : Wr h h' a (RoadKit.slotOf Z "com/example/vestline/vestline/Figure" "text" "Ljava/lang/String;") v) (O : IsFi Z h a v_name v_section v_number v_dollars v_date v_text v_years) : IsFi Z h' a v_name v_section v_number v_dollars v_date v v_years := ⟨(O.1).wr W, (O.2.1).other W (Or.inr (slot_ne (a0 := a0) (C := "com/example/vestline/vestline/Figure") (Or.inr (w_48 hw)) (Or.inr (w_58 hw)) (by decide) (t := (.object "java/lang/String")) (t' := (.object "java/lang/String")) (by decide) (by decide))), (O.2.2.1).other W (Or.inr (slot_ne (a0 := a0) (C := "com/example/vestline/vestline/Figure") (Or.inr (w_50 hw)) (Or.inr (w_58 hw)) (by decide) (t := (.object "java/lang/String")) (t' := (.object "java/lang/String")) (by decide) (by decide))), (O.2.2.2.1).other W (Or.inr (slot_ne (a0 := a0) (C := "com/example/vestline/vestline/Figure") (Or.inr (w_52 hw)) (Or.inr (w_58 hw)) (by decide) (t := (.object "com/example/vestline/vestline/Rational")) (t' := (.object "java/lang/String")) (by decide) (by decide))), (O.2.2.2.2.1).other W (Or.inr (slot_ne (a0 := a0) (C := "com/example/vestline/vestline/Figure") (Or.inr (w_54 hw)) (Or.inr (w_58 hw)) (by decide) (t := (.object "com/example/vestline/vestline/Money")) (t' := (.object "java/lang/String")) (by decide) (by decide))), (O.2.2.2.2.2.1).other W (Or.inr (slot_ne (a0 := a0) (C := "com/example/vestline/vestline/Figure") (Or.inr (w_56 hw)) (Or.inr (w_58 hw)) (by decide) (t := (.object "java/time/LocalDate")) (t' := (.object "java/lang/String")) (by decide) (by decide))), (O.2.2.2.2.2.2.1).same W, (O.2.2.2.2.2.2.2).other W (Or.inr (slot_ne (a0 := a0) (C := "com/example/vestline/vestline/Figure") (Or.inr (w_60 hw)) (Or.inr (w_58 hw)) (by decide) (t := (.object "java/util/List")) (t' := (.object "java/lang/String")) (by decide) (by decide)))⟩
theorem IsFi.s_years {Z : State} {h h' : Heap} {a : Addr} {v_name v_section v_number v_dollars v_date v_text v_years : Value} {v : Value} {a0 : Array Value} (hw : ∀ d ∈ tables_1, d.before a0 Z = true) (W : Wr h h' a (RoadKit.slotOf Z "com/example/vestline/vestline/Figure" "years" "Ljava/util/List;") v) (O : IsFi Z h a v_name v_section v_number v_dollars v_date v_text v_years) : IsFi Z h' a v_name v_section v_number v_dollars v_date v_text v := ⟨(O.1).wr W, (O.2.1).other W (Or.inr (slot_ne (a0 := a0) (C := "com/example/vestline/vestline/Figure") (Or.inr (w_48 hw)) (Or.inr (w_60 hw)) (by decide) (t := (.object "java/lang/String")) (t' := (.object "java/util/List")) (by decide) (by decide))), (O.2.2.1).other W (Or.inr (slot_ne (a0 := a0) (C := "com/example/vestline/vestline/Figure") (Or.inr (w_50 hw)) (Or.inr (w_60 hw)) (by decide) (t := (.object "java/lang/String")) (t' := (.object "java/util/List")) (by decide) (by decide))), (O.2.2.2.1).other W (Or.inr (slot_ne (a0 := a0) (C := "com/example/vestline/vestline/Figure") (Or.inr (w_52 hw)) (Or.inr (w_60 hw)) (by decide) (t := (.object "com/example/vestline/vestline/Rational")) (t' := (.object "java/util/List")) (by decide) (by decide))), (O.2.2.2.2.1).other W (Or.inr (slot_ne (a0 := a0) (C := "com/example/vestline/vestline/Figure") (Or.inr (w_54 hw)) (Or.inr (w_60 hw)) (by decide) (t := (.object "com/example/vestline/vestline/Money")) (t' := (.object "java/util/List")) (by decide) (by decide))), (O.2.2.2.2.2.1).other W (Or.inr (slot_ne (a0 := a0) (C := "com/example/vestline/vestline/Figure") (Or.inr (w_56 hw)) (Or.inr (w_60 hw)) (by decide) (t := (.object "java/time/LocalDate")) (t' := (.object "java/util/List")) (by decide) (by decide))), (O.2.2.2.2.2.2.1).other W (Or.inr (slot_ne (a0 := a0) (C := "com/example/vestline/vestline/Figure") (Or.inr (w_58 hw)) (Or.inr (w_60 hw)) (by decide) (t := (.object "java/lang/String")) (t' := (.object "java/util/List")) (by decide) (by decide))), (O.2.2.2.2.2.2.2).same W⟩
theorem own_str {Z : State} {a0 : Array Value} (hw : ∀ d ∈ tables_1, d.before a0 Z = true) : ∀ a ∈ Bundle.stringAtoms, a.before a0 Z = true := by
  intro a ha
  simp only [Bundle.stringAtoms, List.mem_cons, List.not_mem_nil, or_false] at ha
  rcases ha with rfl | rfl | rfl | rfl | rfl | rfl | rfl
  · exact (w_7 hw)
  · exact (w_6 hw)
  · exact (w_19 hw)
  · exact (w_20 hw)
  · exact (w_21 hw)
  · exact (w_22 hw)
  · exact (w_23 hw)
theorem own_ew {Z : State} {a0 : Array Value} (hw : ∀ d ∈ tables_1, d.before a0 Z = true) : EW Z a0 own_EL := EW.cons (w_18 hw) (fun c q => by simp at q) EW.nil
set_option maxRecDepth 65536 in
set_option maxHeartbeats 40000000 in
theorem rm_can (l : Launch) (Z : State) (a0 : Array Value) (hw : ∀ d ∈ tables_1, d.before a0 Z = true) (c : Int32) (h0 : Heap) (n0 : Nat) (Z0 : n0 ≤ h0.size) (hc : ¬ (255 : Int32) < c) :
    Met false l Z (⟨"java/lang/StringLatin1", "canEncode", "(C)Z"⟩ : MethodName) jdk_43_method_3_code 1 (some .boolean) [] ({ frames := 0, cells := 0, slots := 0, locals := 0 } : Room) #[(.int c)] h0 n0 (fun v h => v = some (.int (1 : Int32)) ∧ h0 = h) := by
  refine Met.of (plainFor_of_name (by first | (simp [plainName, overriddenIn]; done) | decide +kernel)) fun κ K hP => ?_
  refine WP.frame (g' := (mkF κ.m 0 #[.val (.int c)] [])) (by first | (simp [entryFrame, mkF, argsToLocals, Value.category]; done) | rfl) ?_
  refine WP.iloadN K d19_0 rfl (pc' := 1) rfl ?_
  refine WP.sipush K d19_1 (v := (255 : Int32)) rfl (pc' := 4) rfl ?_
  refine WP.icmpF K d19_4 (flt hc).2.2.1 (pc' := 7) rfl ?_
  refine WP.iconst K d19_7 (v := (1 : Int32)) rfl (pc' := 8) rfl ?_
  refine WP.goto K d19_8 (by decide) (pc' := 12) (by decide) ?_
  exact WP.retN K (ty := .boolean) (by decide) d19_12 (by decide) (by decide) (fun _ _ _ _ _ => ⟨rfl, rfl⟩)
set_option maxRecDepth 65536 in
set_option maxHeartbeats 40000000 in
theorem rm_tob (l : Launch) (Z : State) (a0 : Array Value) (hw : ∀ d ∈ tables_1, d.before a0 Z = true) (c : Int32) (h0 : Heap) (n0 : Nat) (Z0 : n0 ≤ h0.size)  :
    Met false l Z (⟨"java/lang/StringLatin1", "toBytes", "(C)[B"⟩ : MethodName) jdk_43_method_46_code 1 (some (.array .byte)) [] ({ frames := 0, cells := 1, slots := 1, locals := 0 } : Room) #[(.int c)] h0 n0 (fun v h => Keep h0 h [] ∧ ∃ (bs : Addr) (kB : ClassId) (f : Nat → Value), v = some (.ref bs) ∧ h0.size ≤ bs ∧ Ary Z h bs kB .byte 1 f) := by
  refine Met.of (plainFor_of_name (by first | (simp [plainName, overriddenIn]; done) | decide +kernel)) fun κ K hP => ?_
  refine WP.frame (g' := (mkF κ.m 0 #[.val (.int c)] [])) (by first | (simp [entryFrame, mkF, argsToLocals, Value.category]; done) | rfl) ?_
  have KP := Keep.refl h0 []
  refine WP.iconst K d20_0 (v := (1 : Int32)) rfl (pc' := 1) rfl ?_
  refine WP.newarray (hE := tE hP) (aty := .byte) K (w_19 hw) d20_1 (N := 1) (cap := 1) rfl (Nat.le_refl _) (by decide) (k' := 1) (n' := 1) rfl rfl (by decide) (by decide) (pc' := 3) rfl fun h1 bs kA_bs g1 E1 A_bs => ?_
  have old_bs : n0 ≤ bs := by have q_ := Z0; omega
  have osz_bs : h0.size ≤ bs := by have q_ := KP.1; omega
  have KP := Keep.ext KP E1
  have Z0 := Nat.le_trans Z0 E1.1
  refine WP.dup K d20_3 rfl (pc' := 4) rfl ?_
  refine WP.iconst K d20_4 (v := (0 : Int32)) rfl (pc' := 5) rfl ?_
  refine WP.iloadN K d20_5 rfl (pc' := 6) rfl ?_
  refine WP.i2b K d20_6 (pc' := 7) rfl ?_
  refine WP.bastore (hE := tW hP) K (i := 0) A_bs rfl (by decide) old_bs d20_7 (pc' := 8) rfl fun h2 W2 A_n => ?_
  have KP := Keep.wr KP W2 (Or.inr osz_bs)
  have Z0 := Nat.le_trans Z0 (Nat.le_of_eq W2.size.symm)
  have A_bs := A_n
  exact WP.retR K rfl rfl d20_8 (by decide) (by decide) (fun _ _ _ _ _ => ⟨KP, bs, kA_bs, _, rfl, osz_bs, A_bs⟩)
set_option maxRecDepth 65536 in
set_option maxHeartbeats 40000000 in
theorem rm_sb (l : Launch) (Z : State) (a0 : Array Value) (hw : ∀ d ∈ tables_1, d.before a0 Z = true) (st bs : Addr) (u_value u_coder : Value) (h0 : Heap) (n0 : Nat) (Z0 : n0 ≤ h0.size) (O_st : IsSt Z h0 st u_value u_coder) (old_st : n0 ≤ st) :
    Met false l Z (⟨"java/lang/String", "<init>", "([BB)V"⟩ : MethodName) jdk_42_method_151_code 3 none [] ({ frames := 1, cells := 0, slots := 0, locals := 12 } : Room) #[(.ref st), (.ref bs), (.int (0 : Int32))] h0 n0 (fun v h => v = none ∧ Keep h0 h [st]) := by
  refine Met.of (plainFor_of_name (by first | (simp [plainName, overriddenIn]; done) | decide +kernel)) fun κ K hP => ?_
  refine WP.frame (g' := (mkF κ.m 0 #[.val (.ref st), .val (.ref bs), .val (.int (0 : Int32))] [])) (by first | (simp [entryFrame, mkF, argsToLocals, Value.category]; done) | rfl) ?_
  have KP := Keep.refl h0 [st]
  refine WP.aloadN K d21_0 rfl rfl (pc' := 1) rfl ?_
  refine WP.initO K (w_15 hw) (w_16 hw) (w_17 hw) d21_1 rfl (by decide) (W := 0) rfl (by decide) (pc' := 4) rfl ?_
  refine WP.aloadN K d21_4 rfl rfl (pc' := 5) rfl ?_
  refine WP.aloadN K d21_5 rfl rfl (pc' := 6) rfl ?_
  refine WP.putF (hE := tW hP) K (w_24 hw) Via.refl (IsSt.f_value O_st) (IsSt.exa O_st) (Or.inr ⟨(w_20 hw), rfl, rfl⟩) (w_6 hw) (ty := (.array .byte)) (by decide) rfl rfl old_st d21_6 (pc' := 9) rfl fun h3 W3 => ?_
  have KP := Keep.wr KP W3 (Or.inl (List.mem_of_getElem? (i := 0) rfl))
  have Z0 := Nat.le_trans Z0 (Nat.le_of_eq W3.size.symm)
  have O_st := IsSt.s_value hw W3 O_st
  refine WP.aloadN K d21_9 rfl rfl (pc' := 10) rfl ?_
  refine WP.iloadN K d21_10 rfl (pc' := 11) rfl ?_
  refine WP.putFN (hE := tW hP) K (w_25 hw) Via.refl (IsSt.f_coder O_st) (IsSt.exa O_st) (Or.inr ⟨(w_21 hw), rfl, rfl⟩) (w_6 hw) (ty := .byte) (v' := (.int (0 : Int32))) (by decide) rfl rfl old_st d21_11 (pc' := 14) rfl fun h4 W4 => ?_
  have KP := Keep.wr KP W4 (Or.inl (List.mem_of_getElem? (i := 0) rfl))
  have Z0 := Nat.le_trans Z0 (Nat.le_of_eq W4.size.symm)
  have O_st := IsSt.s_coder hw W4 O_st
  exact WP.ret0 K d21_14 (by decide) (by decide) (fun _ _ _ _ _ => ⟨rfl, KP⟩)
set_option maxRecDepth 65536 in
set_option maxHeartbeats 40000000 in
theorem rm_val (l : Launch) (Z : State) (a0 : Array Value) (hw : ∀ d ∈ tables_1, d.before a0 Z = true) (c : Int32) (cs : Int32) (h0 : Heap) (n0 : Nat) (Z0 : n0 ≤ h0.size) (hc : ¬ (255 : Int32) < c) (S_c : Sta Z Z.heap "java/lang/String" "COMPACT_STRINGS" "Z" (.int cs)) (hcs : ¬ cs = (0 : Int32)) (OLD : Old Z n0 h0) :
    Met false l Z (⟨"java/lang/String", "valueOf", "(C)Ljava/lang/String;"⟩ : MethodName) jdk_42_method_139_code 1 (some (.object "java/lang/String")) [] ({ frames := 2, cells := 2, slots := 5, locals := 27 } : Room) #[(.int c)] h0 n0 (fun v h => Keep h0 h [] ∧ ∃ st : Addr, v = some (.ref st) ∧ h0.size ≤ st ∧ IsX Z h st) := by
  refine Met.of (plainFor_of_name (by first | (simp [plainName, overriddenIn]; done) | decide +kernel)) fun κ K hP => ?_
  refine WP.frame (g' := (mkF κ.m 0 #[.val (.int c)] [])) (by first | (simp [entryFrame, mkF, argsToLocals, Value.category]; done) | rfl) ?_
  have KP := Keep.refl h0 []
  refine WP.getS K (w_26 hw) Via.refl (Sta.ext OLD.2 S_c) d18_0 (pc' := 3) rfl ?_
  refine WP.if0F K d18_3 ((if0 _ _).trans (feq hcs).1) (pc' := 6) rfl ?_
  refine WP.iloadN K d18_6 rfl (pc' := 7) rfl ?_
  refine WP.callS (hE := tC hP (fun v h' q => by first | (obtain ⟨_, rfl⟩ := q; exact Nat.le_refl _) | exact q.2.1.1 | exact q.2.1 | exact q.1.1)) K (argsL := [(.int c)]) (S := []) (w_105 hw) (w_106 hw) (rm_can l Z a0 hw c h0 n0 Z0 hc) (w_108 hw) (w_107 hw) (by decide) rfl (lenOf pd_0 rfl) rfl (W := 0) rfl (by decide) (by decide) (k' := 0) (n' := 0) rfl rfl (by decide) (by decide) d18_7 (pc' := 10) rfl fun v h5 hq => ?_
  obtain ⟨rfl, rfl⟩ := hq
  show WP κ h0 0 0 (mkF κ.m 10 #[.val (.int c)] [(.int (1 : Int32))])
  refine WP.if0F K d18_10 (by decide) (pc' := 13) rfl ?_
  refine WP.new (hE := tE hP) K (w_109 hw) (w_6 hw) (w_7 hw) d18_13 (k' := 1) (n' := 4) rfl rfl (by decide) (by decide) (pc' := 16) rfl fun h6 st g6 E6 X6 D6 => ?_
  have old_st : n0 ≤ st := by have q_ := Z0; omega
  have osz_st : h0.size ≤ st := by have q_ := KP.1; omega
  have KP := Keep.ext KP E6
  have OLD := Old.ext OLD E6
  have Z0 := Nat.le_trans Z0 E6.1
  have O_st : IsSt Z h6 st .null (.int (0 : Int32)) := ⟨X6, D6 (O := "java/lang/String") (f := "value") (d := "[B") (Or.inr (w_20 hw)) (ty := (.array .byte)) (by decide), D6 (O := "java/lang/String") (f := "coder") (d := "B") (Or.inr (w_21 hw)) (ty := .byte) (by decide)⟩
  refine WP.dup K d18_16 rfl (pc' := 17) rfl ?_
  refine WP.iloadN K d18_17 rfl (pc' := 18) rfl ?_
  refine WP.callS (hE := tC hP (fun v h' q => by first | (obtain ⟨_, rfl⟩ := q; exact Nat.le_refl _) | exact q.2.1.1 | exact q.2.1 | exact q.1.1)) K (argsL := [(.int c)]) (S := [(.ref st), (.ref st)]) (w_110 hw) (w_111 hw) (rm_tob l Z a0 hw c h6 n0 Z0) (w_112 hw) (w_107 hw) (by decide) rfl (lenOf pd_1 rfl) rfl (W := 2) rfl (by decide) (by decide) (k' := 2) (n' := 5) rfl rfl (by decide) (by decide) d18_18 (pc' := 21) rfl fun v h7 hq => ?_
  obtain ⟨K1, bs, kB, f, rfl, s_bs, A_bs⟩ := hq
  have O_st := IsSt.keep K1 O_st nin0
  have KP := Keep.trans KP K1 all0
  have OLD := Old.keep OLD K1 all0
  have Z0 := Nat.le_trans Z0 K1.1
  show WP κ h7 2 5 (mkF κ.m 21 #[.val (.int c)] [(.ref bs), (.ref st), (.ref st)])
  refine WP.iconst K d18_21 (v := (0 : Int32)) rfl (pc' := 22) rfl ?_
  have X_st := IsSt.exa O_st
  refine WP.callI (hE := tC hP (fun v h' q => by first | (obtain ⟨_, rfl⟩ := q; exact Nat.le_refl _) | exact q.2.1.1 | exact q.2.1 | exact q.1.1)) K (a := st) (argsL := [(.ref bs), (.int (0 : Int32))]) (S := [(.ref st)]) rfl (w_113 hw) (w_114 hw) (rm_sb l Z a0 hw st bs _ _ h7 n0 Z0 O_st old_st) (w_115 hw) (w_7 hw) (by decide) rfl (lenOf pd_2 rfl) rfl (W := 1) rfl (by decide) (by decide) (k' := 2) (n' := 5) rfl rfl (by decide) (by decide) d18_22 (pc' := 25) rfl fun v h8 hq => ?_
  obtain ⟨rfl, K2⟩ := hq
  have X_st := X_st.keep K2
  have KP := Keep.trans KP K2 (allS (Or.inr osz_st) all0)
  have OLD := Old.keep OLD K2 (allS old_st all0)
  have Z0 := Nat.le_trans Z0 K2.1
  show WP κ h8 2 5 (mkF κ.m 25 #[.val (.int c)] [(.ref st)])
  exact WP.retR K rfl rfl d18_25 (by decide) (by decide) (fun _ _ _ _ _ => ⟨KP, st, rfl, osz_st, X_st⟩)
set_option maxRecDepth 65536 in
set_option maxHeartbeats 40000000 in
theorem rm_cmp5 (l : Launch) (Z : State) (a0 : Array Value) (hw : ∀ d ∈ tables_1, d.before a0 Z = true) (two : Addr) (kT : ClassId) (F : Nat → Int32) (bs : Addr) (kB : ClassId) (f : Nat → Value) (h0 : Heap) (n0 : Nat) (Z0 : n0 ≤ h0.size) (A_two : Ary Z h0 two kT .char 2 (fun j => .int (F j))) (c0 : ¬ (255 : Int32) < (F 0)) (c1 : ¬ (255 : Int32) < (F 1)) (A_bs : Ary Z h0 bs kB .byte 2 f) (ne_tb : two ≠ bs) (old_bs : n0 ≤ bs) :
    Met false l Z (⟨"java/lang/StringUTF16", "compress", "([CI[BII)I"⟩ : MethodName) jdk_52_method_21_code 7 (some .int) [] ({ frames := 0, cells := 0, slots := 0, locals := 0 } : Room) #[(.ref two), (.int (0 : Int32)), (.ref bs), (.int (0 : Int32)), (.int (2 : Int32))] h0 n0 (fun v h => v = some (.int (2 : Int32)) ∧ Keep h0 h [bs] ∧ ∃ f' : Nat → Value, Ary Z h bs kB .byte 2 f') := by
  refine Met.of (plainFor_of_name (by first | (simp [plainName, overriddenIn]; done) | decide +kernel)) fun κ K hP => ?_
  refine WP.frame (g' := (mkF κ.m 0 #[.val (.ref two), .val (.int (0 : Int32)), .val (.ref bs), .val (.int (0 : Int32)), .val (.int (2 : Int32)), .unset, .unset] [])) (by first | (simp [entryFrame, mkF, argsToLocals, Value.category]; done) | rfl) ?_
  have KP := Keep.refl h0 [bs]
  refine WP.iconst K d6_0 (v := (0 : Int32)) rfl (pc' := 1) rfl ?_
  refine WP.istore K d6_1 (L' := #[.val (.ref two), .val (.int (0 : Int32)), .val (.ref bs), .val (.int (0 : Int32)), .val (.int (2 : Int32)), .val (.int (0 : Int32)), .unset]) rfl (pc' := 3) rfl ?_
  refine WP.iload K d6_3 rfl (pc' := 5) rfl ?_
  refine WP.iload K d6_5 rfl (pc' := 7) rfl ?_
  refine WP.icmpF K d6_7 (by decide) (pc' := 10) rfl ?_
  refine WP.aloadN K d6_10 rfl rfl (pc' := 11) rfl ?_
  refine WP.iloadN K d6_11 rfl (pc' := 12) rfl ?_
  refine WP.caload K (i := 0) A_two rfl (by decide) (v := (.int (F 0))) rfl d6_12 (pc' := 13) rfl ?_
  refine WP.istore K d6_13 (L' := #[.val (.ref two), .val (.int (0 : Int32)), .val (.ref bs), .val (.int (0 : Int32)), .val (.int (2 : Int32)), .val (.int (0 : Int32)), .val (.int (F 0))]) rfl (pc' := 15) rfl ?_
  refine WP.iload K d6_15 rfl (pc' := 17) rfl ?_
  refine WP.sipush K d6_17 (v := (255 : Int32)) rfl (pc' := 20) rfl ?_
  refine WP.icmpT K d6_20 (flt c0).2.2.2 (by decide) (pc' := 26) (by decide) ?_
  refine WP.aloadN K d6_26 rfl rfl (pc' := 27) rfl ?_
  refine WP.iloadN K d6_27 rfl (pc' := 28) rfl ?_
  refine WP.iload K d6_28 rfl (pc' := 30) rfl ?_
  refine WP.i2b K d6_30 (pc' := 31) rfl ?_
  refine WP.bastore (hE := tW hP) K (i := 0) A_bs rfl (by decide) old_bs d6_31 (pc' := 32) rfl fun h9 W9 A_n => ?_
  have A_two := Ary.other W9 A_two ne_tb
  have KP := Keep.wr KP W9 (Or.inl (List.mem_of_getElem? (i := 0) rfl))
  have Z0 := Nat.le_trans Z0 (Nat.le_of_eq W9.size.symm)
  have A_bs := A_n
  refine WP.iinc K d6_32 (v := (1 : Int32)) rfl rfl (L' := #[.val (.ref two), .val (.int (1 : Int32)), .val (.ref bs), .val (.int (0 : Int32)), .val (.int (2 : Int32)), .val (.int (0 : Int32)), .val (.int (F 0))]) rfl (pc' := 35) rfl ?_
  refine WP.iinc K d6_35 (v := (1 : Int32)) rfl rfl (L' := #[.val (.ref two), .val (.int (1 : Int32)), .val (.ref bs), .val (.int (1 : Int32)), .val (.int (2 : Int32)), .val (.int (0 : Int32)), .val (.int (F 0))]) rfl (pc' := 38) rfl ?_
  refine WP.iinc K d6_38 (v := (1 : Int32)) rfl rfl (L' := #[.val (.ref two), .val (.int (1 : Int32)), .val (.ref bs), .val (.int (1 : Int32)), .val (.int (2 : Int32)), .val (.int (1 : Int32)), .val (.int (F 0))]) rfl (pc' := 41) rfl ?_
  refine WP.goto K d6_41 (by decide) (pc' := 3) (by decide) ?_
  refine WP.iload K d6_3 rfl (pc' := 5) rfl ?_
  refine WP.iload K d6_5 rfl (pc' := 7) rfl ?_
  refine WP.icmpF K d6_7 (by decide) (pc' := 10) rfl ?_
  refine WP.aloadN K d6_10 rfl rfl (pc' := 11) rfl ?_
  refine WP.iloadN K d6_11 rfl (pc' := 12) rfl ?_
  refine WP.caload K (i := 1) A_two rfl (by decide) (v := (.int (F 1))) rfl d6_12 (pc' := 13) rfl ?_
  refine WP.istore K d6_13 (L' := #[.val (.ref two), .val (.int (1 : Int32)), .val (.ref bs), .val (.int (1 : Int32)), .val (.int (2 : Int32)), .val (.int (1 : Int32)), .val (.int (F 1))]) rfl (pc' := 15) rfl ?_
  refine WP.iload K d6_15 rfl (pc' := 17) rfl ?_
  refine WP.sipush K d6_17 (v := (255 : Int32)) rfl (pc' := 20) rfl ?_
  refine WP.icmpT K d6_20 (flt c1).2.2.2 (by decide) (pc' := 26) (by decide) ?_
  refine WP.aloadN K d6_26 rfl rfl (pc' := 27) rfl ?_
  refine WP.iloadN K d6_27 rfl (pc' := 28) rfl ?_
  refine WP.iload K d6_28 rfl (pc' := 30) rfl ?_
  refine WP.i2b K d6_30 (pc' := 31) rfl ?_
  refine WP.bastore (hE := tW hP) K (i := 1) A_bs rfl (by decide) old_bs d6_31 (pc' := 32) rfl fun h10 W10 A_n => ?_
  have A_two := Ary.other W10 A_two ne_tb
  have KP := Keep.wr KP W10 (Or.inl (List.mem_of_getElem? (i := 0) rfl))
  have Z0 := Nat.le_trans Z0 (Nat.le_of_eq W10.size.symm)
  have A_bs := A_n
  refine WP.iinc K d6_32 (v := (1 : Int32)) rfl rfl (L' := #[.val (.ref two), .val (.int (2 : Int32)), .val (.ref bs), .val (.int (1 : Int32)), .val (.int (2 : Int32)), .val (.int (1 : Int32)), .val (.int (F 1))]) rfl (pc' := 35) rfl ?_
  refine WP.iinc K d6_35 (v := (1 : Int32)) rfl rfl (L' := #[.val (.ref two), .val (.int (2 : Int32)), .val (.ref bs), .val (.int (2 : Int32)), .val (.int (2 : Int32)), .val (.int (1 : Int32)), .val (.int (F 1))]) rfl (pc' := 38) rfl ?_
  refine WP.iinc K d6_38 (v := (1 : Int32)) rfl rfl (L' := #[.val (.ref two), .val (.int (2 : Int32)), .val (.ref bs), .val (.int (2 : Int32)), .val (.int (2 : Int32)), .val (.int (2 : Int32)), .val (.int (F 1))]) rfl (pc' := 41) rfl ?_
  refine WP.goto K d6_41 (by decide) (pc' := 3) (by decide) ?_
  refine WP.iload K d6_3 rfl (pc' := 5) rfl ?_
  refine WP.iload K d6_5 rfl (pc' := 7) rfl ?_
  refine WP.icmpT K d6_7 (by decide) (by decide) (pc' := 44) (by decide) ?_
  refine WP.iload K d6_44 rfl (pc' := 46) rfl ?_
  exact WP.retI K d6_46 (by decide) (by decide) (fun _ _ _ _ _ => ⟨rfl, KP, _, A_bs⟩)
set_option maxRecDepth 65536 in
set_option maxHeartbeats 40000000 in
theorem rm_cmp3 (l : Launch) (Z : State) (a0 : Array Value) (hw : ∀ d ∈ tables_1, d.before a0 Z = true) (two : Addr) (kT : ClassId) (F : Nat → Int32) (h0 : Heap) (n0 : Nat) (Z0 : n0 ≤ h0.size) (A_two : Ary Z h0 two kT .char 2 (fun j => .int (F j))) (c0 : ¬ (255 : Int32) < (F 0)) (c1 : ¬ (255 : Int32) < (F 1)) :
    Met false l Z (⟨"java/lang/StringUTF16", "compress", "([CII)[B"⟩ : MethodName) jdk_52_method_16_code 6 (some (.array .byte)) [] ({ frames := 1, cells := 1, slots := 2, locals := 18 } : Room) #[(.ref two), (.int (0 : Int32)), (.int (2 : Int32))] h0 n0 (fun v h => Keep h0 h [] ∧ ∃ (bs : Addr) (kB : ClassId) (f : Nat → Value), v = some (.ref bs) ∧ h0.size ≤ bs ∧ Ary Z h bs kB .byte 2 f) := by
  refine Met.of (plainFor_of_name (by first | (simp [plainName, overriddenIn]; done) | decide +kernel)) fun κ K hP => ?_
  refine WP.frame (g' := (mkF κ.m 0 #[.val (.ref two), .val (.int (0 : Int32)), .val (.int (2 : Int32)), .unset, .unset, .unset] [])) (by first | (simp [entryFrame, mkF, argsToLocals, Value.category]; done) | rfl) ?_
  have KP := Keep.refl h0 []
  refine WP.iloadN K d5_0 rfl (pc' := 1) rfl ?_
  refine WP.newarray (hE := tE hP) (aty := .byte) K (w_19 hw) d5_1 (N := 2) (cap := 2) rfl (Nat.le_refl _) (by decide) (k' := 1) (n' := 2) rfl rfl (by decide) (by decide) (pc' := 3) rfl fun h11 bs kA_bs g11 E11 A_bs => ?_
  have ne_two_bs : two ≠ bs := fun z_ => by have q_ : @LT.lt Nat _ two h0.size := (Ary.lt A_two); have r_ : @Eq Nat two bs := z_; omega
  have old_bs : n0 ≤ bs := by have q_ := Z0; omega
  have osz_bs : h0.size ≤ bs := by have q_ := KP.1; omega
  have A_two := Ary.ext E11 A_two
  have KP := Keep.ext KP E11
  have Z0 := Nat.le_trans Z0 E11.1
  refine WP.astoreN K d5_3 rfl (L' := #[.val (.ref two), .val (.int (0 : Int32)), .val (.int (2 : Int32)), .val (.ref bs), .unset, .unset]) rfl (pc' := 4) rfl ?_
  refine WP.aloadN K d5_4 rfl rfl (pc' := 5) rfl ?_
  refine WP.iloadN K d5_5 rfl (pc' := 6) rfl ?_
  refine WP.aloadN K d5_6 rfl rfl (pc' := 7) rfl ?_
  refine WP.iconst K d5_7 (v := (0 : Int32)) rfl (pc' := 8) rfl ?_
  refine WP.iloadN K d5_8 rfl (pc' := 9) rfl ?_
  refine WP.callS (hE := tC hP (fun v h' q => by first | (obtain ⟨_, rfl⟩ := q; exact Nat.le_refl _) | exact q.2.1.1 | exact q.2.1 | exact q.1.1)) K (argsL := [(.ref two), (.int (0 : Int32)), (.ref bs), (.int (0 : Int32)), (.int (2 : Int32))]) (S := []) (w_31 hw) (w_32 hw) (rm_cmp5 l Z a0 hw two kT F bs kA_bs _ h11 n0 Z0 A_two c0 c1 A_bs ne_two_bs old_bs) (w_33 hw) (w_29 hw) (by decide) rfl (lenOf pd_3 rfl) rfl (W := 0) rfl (by decide) (by decide) (k' := 1) (n' := 2) rfl rfl (by decide) (by decide) d5_9 (pc' := 12) rfl fun v h12 hq => ?_
  obtain ⟨rfl, K1, f1, A_bs⟩ := hq
  have A_two := Ary.keep K1 A_two (ninS ne_two_bs nin0)
  have KP := Keep.trans KP K1 (allS (Or.inr osz_bs) all0)
  have Z0 := Nat.le_trans Z0 K1.1
  show WP κ h12 1 2 (mkF κ.m 12 #[.val (.ref two), .val (.int (0 : Int32)), .val (.int (2 : Int32)), .val (.ref bs), .unset, .unset] [(.int (2 : Int32))])
  refine WP.istore K d5_12 (L' := #[.val (.ref two), .val (.int (0 : Int32)), .val (.int (2 : Int32)), .val (.ref bs), .val (.int (2 : Int32)), .unset]) rfl (pc' := 14) rfl ?_
  refine WP.iload K d5_14 rfl (pc' := 16) rfl ?_
  refine WP.iloadN K d5_16 rfl (pc' := 17) rfl ?_
  refine WP.icmpT K d5_17 (by decide) (by decide) (pc' := 57) (by decide) ?_
  refine WP.aloadN K d5_57 rfl rfl (pc' := 58) rfl ?_
  exact WP.retR K rfl rfl d5_58 (by decide) (by decide) (fun _ _ _ _ _ => ⟨KP, bs, kA_bs, f1, rfl, osz_bs, A_bs⟩)
set_option maxRecDepth 65536 in
set_option maxHeartbeats 40000000 in
theorem rm_cod (l : Launch) (Z : State) (a0 : Array Value) (hw : ∀ d ∈ tables_1, d.before a0 Z = true) (bs : Addr) (kB : ClassId) (f : Nat → Value) (h0 : Heap) (n0 : Nat) (Z0 : n0 ≤ h0.size) (A_bs : Ary Z h0 bs kB .byte 2 f) :
    Met false l Z (⟨"java/lang/StringUTF16", "coderFromArrayLen", "([BI)B"⟩ : MethodName) jdk_52_method_15_code 2 (some .byte) [] ({ frames := 0, cells := 0, slots := 0, locals := 0 } : Room) #[(.ref bs), (.int (2 : Int32))] h0 n0 (fun v h => v = some (.int (0 : Int32)) ∧ h0 = h) := by
  refine Met.of (plainFor_of_name (by first | (simp [plainName, overriddenIn]; done) | decide +kernel)) fun κ K hP => ?_
  refine WP.frame (g' := (mkF κ.m 0 #[.val (.ref bs), .val (.int (2 : Int32))] [])) (by first | (simp [entryFrame, mkF, argsToLocals, Value.category]; done) | rfl) ?_
  refine WP.iloadN K d7_0 rfl (pc' := 1) rfl ?_
  refine WP.aloadN K d7_1 rfl rfl (pc' := 2) rfl ?_
  refine WP.arraylength K A_bs d7_2 (pc' := 3) rfl ?_
  show WP κ h0 0 0 (mkF κ.m 3 #[.val (.ref bs), .val (.int (2 : Int32))] [(.int (2 : Int32)), (.int (2 : Int32))])
  refine WP.isub K d7_3 (pc' := 4) rfl ?_
  show WP κ h0 0 0 (mkF κ.m 4 #[.val (.ref bs), .val (.int (2 : Int32))] [(.int (0 : Int32))])
  refine WP.bipush K d7_4 (v := (31 : Int32)) rfl (pc' := 6) rfl ?_
  refine WP.iushr K d7_6 (pc' := 7) rfl ?_
  refine WP.i2b K d7_7 (pc' := 8) rfl ?_
  exact WP.retN K (ty := .byte) (by decide) d7_8 (by decide) (by decide) (fun _ _ _ _ _ => ⟨congrArg (fun z => some (Value.int z)) (by decide : nar .byte ((((((0 : Int32)).toUInt32 >>> ((31 : Int32) &&& 31).toUInt32).toInt32)).toInt8.toInt32) = (0 : Int32)), rfl⟩)
set_option maxRecDepth 65536 in
set_option maxHeartbeats 40000000 in
theorem rm_s4 (l : Launch) (Z : State) (a0 : Array Value) (hw : ∀ d ∈ tables_1, d.before a0 Z = true) (st : Addr) (u_value u_coder : Value) (two : Addr) (kT : ClassId) (F : Nat → Int32) (cs : Int32) (h0 : Heap) (n0 : Nat) (Z0 : n0 ≤ h0.size) (O_st : IsSt Z h0 st u_value u_coder) (old_st : n0 ≤ st) (A_two : Ary Z h0 two kT .char 2 (fun j => .int (F j))) (c0 : ¬ (255 : Int32) < (F 0)) (c1 : ¬ (255 : Int32) < (F 1)) (S_c : Sta Z Z.heap "java/lang/String" "COMPACT_STRINGS" "Z" (.int cs)) (hcs : ¬ cs = (0 : Int32)) (OLD : Old Z n0 h0) :
    Met false l Z (⟨"java/lang/String", "<init>", "([CIILjava/lang/Void;)V"⟩ : MethodName) jdk_42_method_149_code 6 none [] ({ frames := 2, cells := 1, slots := 2, locals := 35 } : Room) #[(.ref st), (.ref two), (.int (0 : Int32)), (.int (2 : Int32)), .null] h0 n0 (fun v h => v = none ∧ Keep h0 h [st]) := by
  refine Met.of (plainFor_of_name (by first | (simp [plainName, overriddenIn]; done) | decide +kernel)) fun κ K hP => ?_
  refine WP.frame (g' := (mkF κ.m 0 #[.val (.ref st), .val (.ref two), .val (.int (0 : Int32)), .val (.int (2 : Int32)), .val .null, .unset] [])) (by first | (simp [entryFrame, mkF, argsToLocals, Value.category]; done) | rfl) ?_
  have KP := Keep.refl h0 [st]
  refine WP.aloadN K d3_0 rfl rfl (pc' := 1) rfl ?_
  refine WP.initO K (w_15 hw) (w_16 hw) (w_17 hw) d3_1 rfl (by decide) (W := 0) rfl (by decide) (pc' := 4) rfl ?_
  refine WP.iloadN K d3_4 rfl (pc' := 5) rfl ?_
  refine WP.if0T K d3_5 (by decide) (by decide) (pc' := 27) (by decide) ?_
  refine WP.getS K (w_26 hw) Via.refl (Sta.ext OLD.2 S_c) d3_27 (pc' := 30) rfl ?_
  refine WP.if0F K d3_30 ((if0 _ _).trans (feq hcs).1) (pc' := 33) rfl ?_
  refine WP.aloadN K d3_33 rfl rfl (pc' := 34) rfl ?_
  refine WP.iloadN K d3_34 rfl (pc' := 35) rfl ?_
  refine WP.iloadN K d3_35 rfl (pc' := 36) rfl ?_
  refine WP.callS (hE := tC hP (fun v h' q => by first | (obtain ⟨_, rfl⟩ := q; exact Nat.le_refl _) | exact q.2.1.1 | exact q.2.1 | exact q.1.1)) K (argsL := [(.ref two), (.int (0 : Int32)), (.int (2 : Int32))]) (S := []) (w_27 hw) (w_28 hw) (rm_cmp3 l Z a0 hw two kT F h0 n0 Z0 A_two c0 c1) (w_30 hw) (w_29 hw) (by decide) rfl (lenOf pd_4 rfl) rfl (W := 0) rfl (by decide) (by decide) (k' := 1) (n' := 2) rfl rfl (by decide) (by decide) d3_36 (pc' := 39) rfl fun v h13 hq => ?_
  obtain ⟨K1, bs, kB, f, rfl, s_bs, A_bs⟩ := hq
  have O_st := IsSt.keep K1 O_st nin0
  have A_two := Ary.keep K1 A_two nin0
  have KP := Keep.trans KP K1 all0
  have OLD := Old.keep OLD K1 all0
  have Z0 := Nat.le_trans Z0 K1.1
  show WP κ h13 1 2 (mkF κ.m 39 #[.val (.ref st), .val (.ref two), .val (.int (0 : Int32)), .val (.int (2 : Int32)), .val .null, .unset] [(.ref bs)])
  refine WP.astore K d3_39 rfl (L' := #[.val (.ref st), .val (.ref two), .val (.int (0 : Int32)), .val (.int (2 : Int32)), .val .null, .val (.ref bs)]) rfl (pc' := 41) rfl ?_
  refine WP.aloadN K d3_41 rfl rfl (pc' := 42) rfl ?_
  refine WP.aload K d3_42 rfl rfl (pc' := 44) rfl ?_
  refine WP.iloadN K d3_44 rfl (pc' := 45) rfl ?_
  refine WP.callS (hE := tC hP (fun v h' q => by first | (obtain ⟨_, rfl⟩ := q; exact Nat.le_refl _) | exact q.2.1.1 | exact q.2.1 | exact q.1.1)) K (argsL := [(.ref bs), (.int (2 : Int32))]) (S := [(.ref st)]) (w_34 hw) (w_35 hw) (rm_cod l Z a0 hw bs kB f h13 n0 Z0 A_bs) (w_36 hw) (w_29 hw) (by decide) rfl (lenOf pd_5 rfl) rfl (W := 1) rfl (by decide) (by decide) (k' := 1) (n' := 2) rfl rfl (by decide) (by decide) d3_45 (pc' := 48) rfl fun v h14 hq => ?_
  obtain ⟨rfl, rfl⟩ := hq
  show WP κ h13 1 2 (mkF κ.m 48 #[.val (.ref st), .val (.ref two), .val (.int (0 : Int32)), .val (.int (2 : Int32)), .val .null, .val (.ref bs)] [(.int (0 : Int32)), (.ref st)])
  refine WP.putFN (hE := tW hP) K (w_25 hw) Via.refl (IsSt.f_coder O_st) (IsSt.exa O_st) (Or.inr ⟨(w_21 hw), rfl, rfl⟩) (w_6 hw) (ty := .byte) (v' := (.int (0 : Int32))) (by decide) rfl rfl old_st d3_48 (pc' := 51) rfl fun h15 W15 => ?_
  have A_two := Ary.other W15 A_two (Ne.symm (Ary.ne (IsSt.exa O_st) A_two (w_6 hw)))
  have A_bs := Ary.other W15 A_bs (Ne.symm (Ary.ne (IsSt.exa O_st) A_bs (w_6 hw)))
  have KP := Keep.wr KP W15 (Or.inl (List.mem_of_getElem? (i := 0) rfl))
  have OLD := Old.wr OLD W15 old_st
  have Z0 := Nat.le_trans Z0 (Nat.le_of_eq W15.size.symm)
  have O_st := IsSt.s_coder hw W15 O_st
  refine WP.aloadN K d3_51 rfl rfl (pc' := 52) rfl ?_
  refine WP.aload K d3_52 rfl rfl (pc' := 54) rfl ?_
  refine WP.putF (hE := tW hP) K (w_24 hw) Via.refl (IsSt.f_value O_st) (IsSt.exa O_st) (Or.inr ⟨(w_20 hw), rfl, rfl⟩) (w_6 hw) (ty := (.array .byte)) (by decide) rfl rfl old_st d3_54 (pc' := 57) rfl fun h16 W16 => ?_
  have A_two := Ary.other W16 A_two (Ne.symm (Ary.ne (IsSt.exa O_st) A_two (w_6 hw)))
  have A_bs := Ary.other W16 A_bs (Ne.symm (Ary.ne (IsSt.exa O_st) A_bs (w_6 hw)))
  have KP := Keep.wr KP W16 (Or.inl (List.mem_of_getElem? (i := 0) rfl))
  have OLD := Old.wr OLD W16 old_st
  have Z0 := Nat.le_trans Z0 (Nat.le_of_eq W16.size.symm)
  have O_st := IsSt.s_value hw W16 O_st
  exact WP.ret0 K d3_57 (by decide) (by decide) (fun _ _ _ _ _ => ⟨rfl, KP⟩)
set_option maxRecDepth 65536 in
set_option maxHeartbeats 40000000 in
theorem rm_s1 (l : Launch) (Z : State) (a0 : Array Value) (hw : ∀ d ∈ tables_1, d.before a0 Z = true) (st : Addr) (u_value u_coder : Value) (two : Addr) (kT : ClassId) (F : Nat → Int32) (cs : Int32) (h0 : Heap) (n0 : Nat) (Z0 : n0 ≤ h0.size) (O_st : IsSt Z h0 st u_value u_coder) (old_st : n0 ≤ st) (A_two : Ary Z h0 two kT .char 2 (fun j => .int (F j))) (c0 : ¬ (255 : Int32) < (F 0)) (c1 : ¬ (255 : Int32) < (F 1)) (S_c : Sta Z Z.heap "java/lang/String" "COMPACT_STRINGS" "Z" (.int cs)) (hcs : ¬ cs = (0 : Int32)) (OLD : Old Z n0 h0) :
    Met false l Z (⟨"java/lang/String", "<init>", "([C)V"⟩ : MethodName) jdk_42_method_3_code 2 none [] ({ frames := 3, cells := 1, slots := 2, locals := 52 } : Room) #[(.ref st), (.ref two)] h0 n0 (fun v h => v = none ∧ Keep h0 h [st]) := by
  refine Met.of (plainFor_of_name (by first | (simp [plainName, overriddenIn]; done) | decide +kernel)) fun κ K hP => ?_
  refine WP.frame (g' := (mkF κ.m 0 #[.val (.ref st), .val (.ref two)] [])) (by first | (simp [entryFrame, mkF, argsToLocals, Value.category]; done) | rfl) ?_
  have KP := Keep.refl h0 [st]
  refine WP.aloadN K d2_0 rfl rfl (pc' := 1) rfl ?_
  refine WP.aloadN K d2_1 rfl rfl (pc' := 2) rfl ?_
  refine WP.iconst K d2_2 (v := (0 : Int32)) rfl (pc' := 3) rfl ?_
  refine WP.aloadN K d2_3 rfl rfl (pc' := 4) rfl ?_
  refine WP.arraylength K A_two d2_4 (pc' := 5) rfl ?_
  show WP κ h0 0 0 (mkF κ.m 5 #[.val (.ref st), .val (.ref two)] [(.int (2 : Int32)), (.int (0 : Int32)), (.ref two), (.ref st)])
  refine WP.aconst_null K d2_5 (pc' := 6) rfl ?_
  have nq_two_st : two ≠ st := (Ne.symm (Ary.ne (IsSt.exa O_st) A_two (w_6 hw)))
  refine WP.callI (hE := tC hP (fun v h' q => by first | (obtain ⟨_, rfl⟩ := q; exact Nat.le_refl _) | exact q.2.1.1 | exact q.2.1 | exact q.1.1)) K (a := st) (argsL := [(.ref two), (.int (0 : Int32)), (.int (2 : Int32)), .null]) (S := []) rfl (w_11 hw) (w_12 hw) (rm_s4 l Z a0 hw st _ _ two kT F cs h0 n0 Z0 O_st old_st A_two c0 c1 S_c hcs OLD) (w_14 hw) (w_7 hw) (by decide) rfl (lenOf pd_6 rfl) rfl (W := 0) rfl (by decide) (by decide) (k' := 1) (n' := 2) rfl rfl (by decide) (by decide) d2_6 (pc' := 9) rfl fun v h17 hq => ?_
  obtain ⟨rfl, K1⟩ := hq
  have A_two := Ary.keep K1 A_two (ninS nq_two_st nin0)
  have KP := Keep.trans KP K1 (allS (Or.inl (List.mem_of_getElem? (i := 0) rfl)) all0)
  have OLD := Old.keep OLD K1 (allS old_st all0)
  have Z0 := Nat.le_trans Z0 K1.1
  show WP κ h17 1 2 (mkF κ.m 9 #[.val (.ref st), .val (.ref two)] [])
  exact WP.ret0 K d2_9 (by decide) (by decide) (fun _ _ _ _ _ => ⟨rfl, KP⟩)
set_option maxRecDepth 65536 in
set_option maxHeartbeats 40000000 in
theorem rm_s4e (l : Launch) (Z : State) (a0 : Array Value) (hw : ∀ d ∈ tables_1, d.before a0 Z = true) (st ar : Addr) (u_value u_coder : Value) (Ls : List Addr) (h0 : Heap) (n0 : Nat) (Z0 : n0 ≤ h0.size) (O_st : IsSt Z h0 st u_value u_coder) (old_st : n0 ≤ st) (hst : st ∈ Ls) (hLs : ∀ x ∈ Ls, x < h0.size) :
    MetP l Z (⟨"java/lang/String", "<init>", "([CIILjava/lang/Void;)V"⟩ : MethodName) jdk_42_method_149_code 6 none [] ({ frames := 1, cells := 4, slots := 8, locals := 12 } : Room) #[(.ref st), (.ref ar), (.int (0 : Int32)), (.int (0 : Int32)), .null] h0 n0 (PS Z own_EL Ls) (fun v h vm => v = none ∧ Keep h0 h [st] ∧ PS Z own_EL Ls vm h) := by
  refine MetP.of (plainFor_of_name (by first | (simp [plainName, overriddenIn]; done) | decide +kernel)) fun κ K hP => ?_
  refine WP.frame (g' := (mkF κ.m 0 #[.val (.ref st), .val (.ref ar), .val (.int (0 : Int32)), .val (.int (0 : Int32)), .val .null, .unset] [])) (by first | (simp [entryFrame, mkF, argsToLocals, Value.category]; done) | rfl) ?_
  have KP := Keep.refl h0 [st]
  refine WP.aloadN K d3_0 rfl rfl (pc' := 1) rfl ?_
  refine WP.initO K (w_15 hw) (w_16 hw) (w_17 hw) d3_1 rfl (by decide) (W := 0) rfl (by decide) (pc' := 4) rfl ?_
  refine WP.iloadN K d3_4 rfl (pc' := 5) rfl ?_
  refine WP.if0F K d3_5 (by decide) (pc' := 8) rfl ?_
  refine WP.aloadN K d3_8 rfl rfl (pc' := 9) rfl ?_
  refine WP.ldcH K (cap := 0) hP (fun x hx => Nat.lt_of_lt_of_le (hLs x hx) KP.1) (w_18 hw) (own_str hw) (own_ew hw) (List.mem_singleton.mpr rfl) (vs := []) (z := 0) ⟨fun c q => by simp at q, rfl⟩ (by decide) rfl d3_9 (by decide) (by decide) (k' := 2) (n' := 4) rfl rfl (by decide) (by decide) (pc' := 11) rfl fun h18 la lav E18 X_la C_la V_la => ?_
  have O_st := IsSt.ext E18 O_st
  have KP := Keep.ext KP E18
  have Z0 := Nat.le_trans Z0 E18.1
  have O_la : IsSt Z h18 la (.ref lav) (.int (0 : Int32)) := ⟨X_la, V_la, C_la⟩
  refine WP.getF K (w_24 hw) Via.refl (IsSt.f_value O_la) d3_11 (pc' := 14) rfl ?_
  refine WP.putF (hE := pWl hP hst) K (w_24 hw) Via.refl (IsSt.f_value O_st) (IsSt.exa O_st) (Or.inr ⟨(w_20 hw), rfl, rfl⟩) (w_6 hw) (ty := (.array .byte)) (by decide) rfl rfl old_st d3_14 (pc' := 17) rfl fun h19 W19 => ?_
  have KP := Keep.wr KP W19 (Or.inl (List.mem_of_getElem? (i := 0) rfl))
  have Z0 := Nat.le_trans Z0 (Nat.le_of_eq W19.size.symm)
  have O_st := IsSt.s_value hw W19 O_st
  refine WP.aloadN K d3_17 rfl rfl (pc' := 18) rfl ?_
  refine WP.ldcH K (cap := 0) hP (fun x hx => Nat.lt_of_lt_of_le (hLs x hx) KP.1) (w_18 hw) (own_str hw) (own_ew hw) (List.mem_singleton.mpr rfl) (vs := []) (z := 0) ⟨fun c q => by simp at q, rfl⟩ (by decide) rfl d3_18 (by decide) (by decide) (k' := 4) (n' := 8) rfl rfl (by decide) (by decide) (pc' := 20) rfl fun h20 lb lbv E20 X_lb C_lb V_lb => ?_
  have O_st := IsSt.ext E20 O_st
  have KP := Keep.ext KP E20
  have Z0 := Nat.le_trans Z0 E20.1
  have O_lb : IsSt Z h20 lb (.ref lbv) (.int (0 : Int32)) := ⟨X_lb, V_lb, C_lb⟩
  refine WP.getF K (w_25 hw) Via.refl (IsSt.f_coder O_lb) d3_20 (pc' := 23) rfl ?_
  refine WP.putFN (hE := pWl hP hst) K (w_25 hw) Via.refl (IsSt.f_coder O_st) (IsSt.exa O_st) (Or.inr ⟨(w_21 hw), rfl, rfl⟩) (w_6 hw) (ty := .byte) (v' := (.int (0 : Int32))) (by decide) rfl rfl old_st d3_23 (pc' := 26) rfl fun h21 W21 => ?_
  have KP := Keep.wr KP W21 (Or.inl (List.mem_of_getElem? (i := 0) rfl))
  have Z0 := Nat.le_trans Z0 (Nat.le_of_eq W21.size.symm)
  have O_st := IsSt.s_coder hw W21 O_st
  exact WP.ret0 K d3_26 (by decide) (by decide) (fun vm0 vm1 z p q => ⟨rfl, KP, (by rw [hP] at p; exact PS.warm z (own_ew hw) (fun x hx => Nat.lt_of_lt_of_le (hLs x hx) KP.1) q p)⟩)
set_option maxRecDepth 65536 in
set_option maxHeartbeats 40000000 in
theorem rm_s1e (l : Launch) (Z : State) (a0 : Array Value) (hw : ∀ d ∈ tables_1, d.before a0 Z = true) (st ar : Addr) (kR : ClassId) (fR : Nat → Value) (u_value u_coder : Value) (Ls : List Addr) (h0 : Heap) (n0 : Nat) (Z0 : n0 ≤ h0.size) (O_st : IsSt Z h0 st u_value u_coder) (A_ar : Ary Z h0 ar kR .char 0 fR) (old_st : n0 ≤ st) (hst : st ∈ Ls) (hLs : ∀ x ∈ Ls, x < h0.size) :
    MetP l Z (⟨"java/lang/String", "<init>", "([C)V"⟩ : MethodName) jdk_42_method_3_code 2 none [] ({ frames := 2, cells := 4, slots := 8, locals := 29 } : Room) #[(.ref st), (.ref ar)] h0 n0 (PS Z own_EL Ls) (fun v h vm => v = none ∧ Keep h0 h [st] ∧ PS Z own_EL Ls vm h) := by
  refine MetP.of (plainFor_of_name (by first | (simp [plainName, overriddenIn]; done) | decide +kernel)) fun κ K hP => ?_
  refine WP.frame (g' := (mkF κ.m 0 #[.val (.ref st), .val (.ref ar)] [])) (by first | (simp [entryFrame, mkF, argsToLocals, Value.category]; done) | rfl) ?_
  have KP := Keep.refl h0 [st]
  refine WP.aloadN K d2_0 rfl rfl (pc' := 1) rfl ?_
  refine WP.aloadN K d2_1 rfl rfl (pc' := 2) rfl ?_
  refine WP.iconst K d2_2 (v := (0 : Int32)) rfl (pc' := 3) rfl ?_
  refine WP.aloadN K d2_3 rfl rfl (pc' := 4) rfl ?_
  refine WP.arraylength K A_ar d2_4 (pc' := 5) rfl ?_
  show WP κ h0 0 0 (mkF κ.m 5 #[.val (.ref st), .val (.ref ar)] [(.int (0 : Int32)), (.int (0 : Int32)), (.ref ar), (.ref st)])
  refine WP.aconst_null K d2_5 (pc' := 6) rfl ?_
  have nq_ar_st : ar ≠ st := (Ne.symm (Ary.ne (IsSt.exa O_st) A_ar (w_6 hw)))
  refine WP.callIP K (a := st) (argsL := [(.ref ar), (.int (0 : Int32)), (.int (0 : Int32)), .null]) (S := []) rfl (w_11 hw) (w_12 hw) (fun vm0 vm1 z p q => (by rw [hP] at p; exact PS.warm z (own_ew hw) hLs q p)) (fun v h' vm q => by rw [hP]; exact q.2.2) (rm_s4e l Z a0 hw st ar _ _ Ls h0 n0 Z0 O_st old_st hst hLs) (w_14 hw) (w_7 hw) (by decide) rfl (lenOf pd_6 rfl) rfl (W := 0) rfl (by decide) (by decide) (k' := 4) (n' := 8) rfl rfl (by decide) (by decide) d2_6 (pc' := 9) rfl fun v h22 hq => ?_
  obtain ⟨vx, rfl, K1, -⟩ := hq
  have A_ar := Ary.keep K1 A_ar (ninS nq_ar_st nin0)
  have KP := Keep.trans KP K1 (allS (Or.inl (List.mem_of_getElem? (i := 0) rfl)) all0)
  have Z0 := Nat.le_trans Z0 K1.1
  show WP κ h22 4 8 (mkF κ.m 9 #[.val (.ref st), .val (.ref ar)] [])
  exact WP.ret0 K d2_9 (by decide) (by decide) (fun vm0 vm1 z p q => ⟨rfl, KP, (by rw [hP] at p; exact PS.warm z (own_ew hw) (fun x hx => Nat.lt_of_lt_of_le (hLs x hx) KP.1) q p)⟩)
set_option maxRecDepth 65536 in
set_option maxHeartbeats 40000000 in
theorem rm_str (l : Launch) (Z : State) (a0 : Array Value) (hw : ∀ d ∈ tables_1, d.before a0 Z = true) (x : Int32) (cs : Int32) (h0 : Heap) (n0 : Nat) (Z0 : n0 ≤ h0.size) (S_c : Sta Z Z.heap "java/lang/String" "COMPACT_STRINGS" "Z" (.int cs)) (hcs : ¬ cs = (0 : Int32)) (OLD : Old Z n0 h0) :
    MetP l Z (⟨"com/example/vestline/vestline/FigureTextPinLaw", "str", "(I)Ljava/lang/String;"⟩ : MethodName) method_2_code 6 (some (.object "java/lang/String")) [] ({ frames := 4, cells := 7, slots := 14, locals := 66 } : Room) #[(.int x)] h0 n0 (PS Z own_EL []) (fun v h vm => Keep h0 h [] ∧ (∃ st : Addr, v = some (.ref st) ∧ h0.size ≤ st ∧ IsX Z h st) ∧ PS Z own_EL [] vm h) := by
  refine MetP.of (plainFor_of_name (by first | (simp [plainName, overriddenIn]; done) | decide +kernel)) fun κ K hP => ?_
  refine WP.frame (g' := (mkF κ.m 0 #[.val (.int x), .unset, .unset, .unset, .unset, .unset] [])) (by first | (simp [entryFrame, mkF, argsToLocals, Value.category]; done) | rfl) ?_
  have KP := Keep.refl h0 []
  refine WP.iloadN K d1_0 rfl (pc' := 1) rfl ?_
  refine WP.iconst K d1_1 (v := (3 : Int32)) rfl (pc' := 2) rfl ?_
  refine WP.iand K d1_2 (pc' := 3) rfl ?_
  refine WP.istoreN K d1_3 (L' := #[.val (.int x), .val (.int (x &&& (3 : Int32))), .unset, .unset, .unset, .unset]) rfl (pc' := 4) rfl ?_
  refine WP.iloadN K d1_4 rfl (pc' := 5) rfl ?_
  refine WP.iconst K d1_5 (v := (2 : Int32)) rfl (pc' := 6) rfl ?_
  refine WP.iushr K d1_6 (pc' := 7) rfl ?_
  refine WP.sipush K d1_7 (v := (255 : Int32)) rfl (pc' := 10) rfl ?_
  refine WP.iand K d1_10 (pc' := 11) rfl ?_
  refine WP.i2c K d1_11 (pc' := 12) rfl ?_
  obtain ⟨c1a, c1b⟩ : ¬ (255 : Int32) < ((((((x).toUInt32 >>> ((2 : Int32) &&& 31).toUInt32).toInt32) &&& (255 : Int32))).toUInt32.toUInt16.toUInt32.toInt32) ∧ ¬ (255 : Int32) < nar .char ((((((x).toUInt32 >>> ((2 : Int32) &&& 31).toUInt32).toInt32) &&& (255 : Int32))).toUInt32.toUInt16.toUInt32.toInt32) := own_ch _
  refine WP.istoreN K d1_12 (L' := #[.val (.int x), .val (.int (x &&& (3 : Int32))), .val (.int ((((((x).toUInt32 >>> ((2 : Int32) &&& 31).toUInt32).toInt32) &&& (255 : Int32))).toUInt32.toUInt16.toUInt32.toInt32)), .unset, .unset, .unset]) rfl (pc' := 13) rfl ?_
  generalize e_c1 : ((((((x).toUInt32 >>> ((2 : Int32) &&& 31).toUInt32).toInt32) &&& (255 : Int32))).toUInt32.toUInt16.toUInt32.toInt32) = c1 at c1a c1b ⊢
  refine WP.iloadN K d1_13 rfl (pc' := 14) rfl ?_
  refine WP.bipush K d1_14 (v := (10 : Int32)) rfl (pc' := 16) rfl ?_
  refine WP.iushr K d1_16 (pc' := 17) rfl ?_
  refine WP.sipush K d1_17 (v := (255 : Int32)) rfl (pc' := 20) rfl ?_
  refine WP.iand K d1_20 (pc' := 21) rfl ?_
  refine WP.i2c K d1_21 (pc' := 22) rfl ?_
  obtain ⟨c2a, c2b⟩ : ¬ (255 : Int32) < ((((((x).toUInt32 >>> ((10 : Int32) &&& 31).toUInt32).toInt32) &&& (255 : Int32))).toUInt32.toUInt16.toUInt32.toInt32) ∧ ¬ (255 : Int32) < nar .char ((((((x).toUInt32 >>> ((10 : Int32) &&& 31).toUInt32).toInt32) &&& (255 : Int32))).toUInt32.toUInt16.toUInt32.toInt32) := own_ch _
  refine WP.istoreN K d1_22 (L' := #[.val (.int x), .val (.int (x &&& (3 : Int32))), .val (.int c1), .val (.int ((((((x).toUInt32 >>> ((10 : Int32) &&& 31).toUInt32).toInt32) &&& (255 : Int32))).toUInt32.toUInt16.toUInt32.toInt32)), .unset, .unset]) rfl (pc' := 23) rfl ?_
  generalize e_c2 : ((((((x).toUInt32 >>> ((10 : Int32) &&& 31).toUInt32).toInt32) &&& (255 : Int32))).toUInt32.toUInt16.toUInt32.toInt32) = c2 at c2a c2b ⊢
  refine WP.iconst K d1_23 (v := (2 : Int32)) rfl (pc' := 24) rfl ?_
  refine WP.newarray (hE := pE hP) (aty := .char) K (w_4 hw) d1_24 (N := 2) (cap := 2) rfl (Nat.le_refl _) (by decide) (k' := 1) (n' := 2) rfl rfl (by decide) (by decide) (pc' := 26) rfl fun h23 two kA_two g23 E23 A_two => ?_
  have old_two : n0 ≤ two := by have q_ := Z0; omega
  have osz_two : h0.size ≤ two := by have q_ := KP.1; omega
  have KP := Keep.ext KP E23
  have OLD := Old.ext OLD E23
  have Z0 := Nat.le_trans Z0 E23.1
  have A_two : Ary Z h23 two kA_two .char 2 (fun j => .int ((fun _ => (0 : Int32)) j)) := A_two
  refine WP.dup K d1_26 rfl (pc' := 27) rfl ?_
  refine WP.iconst K d1_27 (v := (0 : Int32)) rfl (pc' := 28) rfl ?_
  refine WP.iloadN K d1_28 rfl (pc' := 29) rfl ?_
  refine WP.castore (hE := pWa hP A_two (by decide)) K (i := 0) A_two rfl (by decide) old_two d1_29 (pc' := 30) rfl fun h24 W24 A_n => ?_
  have KP := Keep.wr KP W24 (Or.inr osz_two)
  have OLD := Old.wr OLD W24 old_two
  have Z0 := Nat.le_trans Z0 (Nat.le_of_eq W24.size.symm)
  have A_two := A_n
  rw [upd_int] at A_two
  refine WP.dup K d1_30 rfl (pc' := 31) rfl ?_
  refine WP.iconst K d1_31 (v := (1 : Int32)) rfl (pc' := 32) rfl ?_
  refine WP.iloadN K d1_32 rfl (pc' := 33) rfl ?_
  refine WP.castore (hE := pWa hP A_two (by decide)) K (i := 1) A_two rfl (by decide) old_two d1_33 (pc' := 34) rfl fun h25 W25 A_n => ?_
  have KP := Keep.wr KP W25 (Or.inr osz_two)
  have OLD := Old.wr OLD W25 old_two
  have Z0 := Nat.le_trans Z0 (Nat.le_of_eq W25.size.symm)
  have A_two := A_n
  rw [upd_int] at A_two
  refine WP.astore K d1_34 rfl (L' := #[.val (.int x), .val (.int (x &&& (3 : Int32))), .val (.int c1), .val (.int c2), .val (.ref two), .unset]) rfl (pc' := 36) rfl ?_
  refine WP.iloadN K d1_36 rfl (pc' := 37) rfl ?_
  have hz0 : h0.size ≤ h25.size := KP.1
  by_cases ck : (x &&& (3 : Int32)) = (0 : Int32)
  · refine WP.if0F K d1_37 ((if0 _ _).trans (teq ck).2) (pc' := 40) rfl ?_
    refine WP.toP K (P2 := PS Z own_EL (h25.size :: [])) (fun vm _ p => by rw [hP] at p; exact PS.add p) (fun κ' K' hm' hP' => ?_)
    rw [← hm']
    clear hm' hP K
    revert κ' K' hP'
    intro κ K hP
    show WP κ h25 1 2 (mkF κ.m 40 #[.val (.int x), .val (.int (x &&& (3 : Int32))), .val (.int c1), .val (.int c2), .val (.ref two), .unset] [])
    refine WP.new (hE := pE hP) K (w_5 hw) (w_6 hw) (w_7 hw) d1_40 (k' := 2) (n' := 6) rfl rfl (by decide) (by decide) (pc' := 43) rfl fun h26 st g26 E26 X26 D26 => ?_
    have ne_two_st : two ≠ st := fun z_ => by have q_ : @LT.lt Nat _ two h25.size := (Ary.lt A_two); have r_ : @Eq Nat two st := z_; omega
    have old_st : n0 ≤ st := by have q_ := Z0; omega
    have osz_st : h0.size ≤ st := by have q_ := KP.1; omega
    have A_two := Ary.ext E26 A_two
    have KP := Keep.ext KP E26
    have OLD := Old.ext OLD E26
    have Z0 := Nat.le_trans Z0 E26.1
    have O_st : IsSt Z h26 st .null (.int (0 : Int32)) := ⟨X26, D26 (O := "java/lang/String") (f := "value") (d := "[B") (Or.inr (w_20 hw)) (ty := (.array .byte)) (by decide), D26 (O := "java/lang/String") (f := "coder") (d := "B") (Or.inr (w_21 hw)) (ty := .byte) (by decide)⟩
    rw [g26] at hP
    refine WP.dup K d1_43 rfl (pc' := 44) rfl ?_
    refine WP.iconst K d1_44 (v := (0 : Int32)) rfl (pc' := 45) rfl ?_
    refine WP.newarray (hE := pE hP) (aty := .char) K (w_4 hw) d1_45 (N := 0) (cap := 0) rfl (Nat.le_refl _) (by decide) (k' := 3) (n' := 6) rfl rfl (by decide) (by decide) (pc' := 47) rfl fun h27 ar kA_ar g27 E27 A_ar => ?_
    have ne_two_ar : two ≠ ar := fun z_ => by have q_ : @LT.lt Nat _ two h26.size := (Ary.lt A_two); have r_ : @Eq Nat two ar := z_; omega
    have ne_st_ar : st ≠ ar := fun z_ => by have q_ : @LT.lt Nat _ st h26.size := (IsSt.lt O_st); have r_ : @Eq Nat st ar := z_; omega
    have old_ar : n0 ≤ ar := by have q_ := Z0; omega
    have osz_ar : h0.size ≤ ar := by have q_ := KP.1; omega
    have A_two := Ary.ext E27 A_two
    have O_st := IsSt.ext E27 O_st
    have KP := Keep.ext KP E27
    have OLD := Old.ext OLD E27
    have Z0 := Nat.le_trans Z0 E27.1
    have lt_st : st < h27.size := IsSt.lt O_st
    have X_st := IsSt.exa O_st
    refine WP.callIP K (a := st) (argsL := [(.ref ar)]) (S := [(.ref st)]) rfl (w_8 hw) (w_9 hw) (fun vm0 vm1 z p q => (by rw [hP] at p; exact PS.warm z (own_ew hw) (fun x hx => by rw [List.mem_singleton.mp hx]; exact lt_st) q p)) (fun v h' vm q => by rw [hP]; exact q.2.2) (rm_s1e l Z a0 hw st ar kA_ar _ _ _ [st] h27 n0 Z0 O_st A_ar old_st (by simp) (fun x hx => by rw [List.mem_singleton.mp hx]; exact lt_st)) (w_10 hw) (w_7 hw) (by decide) rfl (lenOf pd_7 rfl) rfl (W := 1) rfl (by decide) (by decide) (k' := 7) (n' := 14) rfl rfl (by decide) (by decide) d1_47 (pc' := 50) rfl fun v h28 hq => ?_
    obtain ⟨vx, rfl, K1, -⟩ := hq
    have A_two := Ary.keep K1 A_two (ninS ne_two_st nin0)
    have A_ar := Ary.keep K1 A_ar (ninS (Ne.symm ne_st_ar) nin0)
    have X_st := X_st.keep K1
    have KP := Keep.trans KP K1 (allS (Or.inr osz_st) all0)
    have OLD := Old.keep OLD K1 (allS old_st all0)
    have Z0 := Nat.le_trans Z0 K1.1
    show WP κ h28 7 14 (mkF κ.m 50 #[.val (.int x), .val (.int (x &&& (3 : Int32))), .val (.int c1), .val (.int c2), .val (.ref two), .unset] [(.ref st)])
    refine WP.astore K d1_50 rfl (L' := #[.val (.int x), .val (.int (x &&& (3 : Int32))), .val (.int c1), .val (.int c2), .val (.ref two), .val (.ref st)]) rfl (pc' := 52) rfl ?_
    refine WP.goto K d1_52 (by decide) (pc' := 80) (by decide) ?_
    refine WP.aload K d1_80 rfl rfl (pc' := 82) rfl ?_
    exact WP.retR K rfl rfl d1_82 (by decide) (by decide) (fun vm0 vm1 z p q => ⟨KP, ⟨st, rfl, osz_st, X_st⟩, PS.sub (fun x hx => by cases hx) (by rw [hP] at p; exact PS.warm z (own_ew hw) (fun x hx => by rw [List.mem_singleton.mp hx]; exact (IsX.lt X_st)) q p)⟩)
  · refine WP.if0T K d1_37 ((if0 _ _).trans (feq ck).2) (by decide) (pc' := 55) (by decide) ?_
    refine WP.iloadN K d1_55 rfl (pc' := 56) rfl ?_
    refine WP.iconst K d1_56 (v := (1 : Int32)) rfl (pc' := 57) rfl ?_
    by_cases ck1 : (x &&& (3 : Int32)) = (1 : Int32)
    · refine WP.icmpF K d1_57 (teq ck1).2 (pc' := 60) rfl ?_
      refine WP.iloadN K d1_60 rfl (pc' := 61) rfl ?_
      refine WP.callS (hE := pC hP (ws := []) (fun v h' q => by first | (obtain ⟨_, rfl⟩ := q; exact Keep.refl _ _) | exact q.2.1 | exact q.1 | exact q.2) (by simp)) K (argsL := [(.int c1)]) (S := []) (w_102 hw) (w_103 hw) (rm_val l Z a0 hw c1 cs h25 n0 Z0 c1a S_c hcs OLD) (w_104 hw) (w_7 hw) (by decide) rfl (lenOf pd_8 rfl) rfl (W := 0) rfl (by decide) (by decide) (k' := 3) (n' := 7) rfl rfl (by decide) (by decide) d1_61 (pc' := 64) rfl fun v h29 hq => ?_
      obtain ⟨K1, st, rfl, s_st, X_st⟩ := hq
      have A_two := Ary.keep K1 A_two nin0
      have KP := Keep.trans KP K1 all0
      have OLD := Old.keep OLD K1 all0
      have Z0 := Nat.le_trans Z0 K1.1
      show WP κ h29 3 7 (mkF κ.m 64 #[.val (.int x), .val (.int (x &&& (3 : Int32))), .val (.int c1), .val (.int c2), .val (.ref two), .unset] [(.ref st)])
      refine WP.astore K d1_64 rfl (L' := #[.val (.int x), .val (.int (x &&& (3 : Int32))), .val (.int c1), .val (.int c2), .val (.ref two), .val (.ref st)]) rfl (pc' := 66) rfl ?_
      refine WP.goto K d1_66 (by decide) (pc' := 80) (by decide) ?_
      refine WP.aload K d1_80 rfl rfl (pc' := 82) rfl ?_
      have hz : h0.size ≤ st := Nat.le_trans hz0 s_st
      exact WP.retR K rfl rfl d1_82 (by decide) (by decide) (fun vm0 vm1 z p q => ⟨KP, ⟨st, rfl, hz, X_st⟩, (by rw [hP] at p; exact PS.warm z (own_ew hw) (fun x hx => by cases hx) q p)⟩)
    · refine WP.icmpT K d1_57 (feq ck1).2 (by decide) (pc' := 69) (by decide) ?_
      refine WP.toP K (P2 := PS Z own_EL (h25.size :: [])) (fun vm _ p => by rw [hP] at p; exact PS.add p) (fun κ' K' hm' hP' => ?_)
      rw [← hm']
      clear hm' hP K
      revert κ' K' hP'
      intro κ K hP
      show WP κ h25 1 2 (mkF κ.m 69 #[.val (.int x), .val (.int (x &&& (3 : Int32))), .val (.int c1), .val (.int c2), .val (.ref two), .unset] [])
      refine WP.new (hE := pE hP) K (w_5 hw) (w_6 hw) (w_7 hw) d1_69 (k' := 2) (n' := 6) rfl rfl (by decide) (by decide) (pc' := 72) rfl fun h30 st g30 E30 X30 D30 => ?_
      have ne_two_st : two ≠ st := fun z_ => by have q_ : @LT.lt Nat _ two h25.size := (Ary.lt A_two); have r_ : @Eq Nat two st := z_; omega
      have old_st : n0 ≤ st := by have q_ := Z0; omega
      have osz_st : h0.size ≤ st := by have q_ := KP.1; omega
      have A_two := Ary.ext E30 A_two
      have KP := Keep.ext KP E30
      have OLD := Old.ext OLD E30
      have Z0 := Nat.le_trans Z0 E30.1
      have O_st : IsSt Z h30 st .null (.int (0 : Int32)) := ⟨X30, D30 (O := "java/lang/String") (f := "value") (d := "[B") (Or.inr (w_20 hw)) (ty := (.array .byte)) (by decide), D30 (O := "java/lang/String") (f := "coder") (d := "B") (Or.inr (w_21 hw)) (ty := .byte) (by decide)⟩
      rw [g30] at hP
      refine WP.dup K d1_72 rfl (pc' := 73) rfl ?_
      refine WP.aload K d1_73 rfl rfl (pc' := 75) rfl ?_
      have X_st := IsSt.exa O_st
      refine WP.callI (hE := pC hP (ws := [st]) (fun v h' q => by first | (obtain ⟨_, rfl⟩ := q; exact Keep.refl _ _) | exact q.2.1 | exact q.1 | exact q.2) (by simp)) K (a := st) (argsL := [(.ref two)]) (S := [(.ref st)]) rfl (w_8 hw) (w_9 hw) (rm_s1 l Z a0 hw st _ _ two kA_two (fset (fset (fun _ => (0 : Int32)) 0 (nar .char c1)) 1 (nar .char c2)) cs h30 n0 Z0 O_st old_st A_two c1b c2b S_c hcs OLD) (w_10 hw) (w_7 hw) (by decide) rfl (lenOf pd_7 rfl) rfl (W := 1) rfl (by decide) (by decide) (k' := 3) (n' := 8) rfl rfl (by decide) (by decide) d1_75 (pc' := 78) rfl fun v h31 hq => ?_
      obtain ⟨rfl, K1⟩ := hq
      have A_two := Ary.keep K1 A_two (ninS ne_two_st nin0)
      have X_st := X_st.keep K1
      have KP := Keep.trans KP K1 (allS (Or.inr osz_st) all0)
      have OLD := Old.keep OLD K1 (allS old_st all0)
      have Z0 := Nat.le_trans Z0 K1.1
      show WP κ h31 3 8 (mkF κ.m 78 #[.val (.int x), .val (.int (x &&& (3 : Int32))), .val (.int c1), .val (.int c2), .val (.ref two), .unset] [(.ref st)])
      refine WP.astore K d1_78 rfl (L' := #[.val (.int x), .val (.int (x &&& (3 : Int32))), .val (.int c1), .val (.int c2), .val (.ref two), .val (.ref st)]) rfl (pc' := 80) rfl ?_
      refine WP.aload K d1_80 rfl rfl (pc' := 82) rfl ?_
      exact WP.retR K rfl rfl d1_82 (by decide) (by decide) (fun vm0 vm1 z p q => ⟨KP, ⟨st, rfl, osz_st, X_st⟩, PS.sub (fun x hx => by cases hx) (by rw [hP] at p; exact PS.warm z (own_ew hw) (fun x hx => by rw [List.mem_singleton.mp hx]; exact (IsX.lt X_st)) q p)⟩)
set_option maxRecDepth 65536 in
set_option maxHeartbeats 40000000 in
theorem rm_fi (l : Launch) (Z : State) (a0 : Array Value) (hw : ∀ d ∈ tables_1, d.before a0 Z = true) (fi s1 s2 s3 : Addr) (u_name u_section u_number u_dollars u_date u_text u_years : Value) (h0 : Heap) (n0 : Nat) (Z0 : n0 ≤ h0.size) (O_fi : IsFi Z h0 fi u_name u_section u_number u_dollars u_date u_text u_years) (old_fi : n0 ≤ fi) :
    Met false l Z (⟨"com/example/vestline/vestline/Figure", "<init>", "(Ljava/lang/String;Ljava/lang/String;Lcom/example/vestline/vestline/Rational;Lcom/example/vestline/vestline/Money;Ljava/time/LocalDate;Ljava/lang/String;Ljava/util/List;)V"⟩ : MethodName) prog_13_method_1_code 8 none [] ({ frames := 1, cells := 0, slots := 0, locals := 12 } : Room) #[(.ref fi), (.ref s1), (.ref s2), .null, .null, .null, (.ref s3), .null] h0 n0 (fun v h => v = none ∧ Keep h0 h [fi] ∧ IsFi Z h fi (.ref s1) (.ref s2) .null .null .null (.ref s3) .null) := by
  refine Met.of (plainFor_of_name (by first | (simp [plainName, overriddenIn]; done) | decide +kernel)) fun κ K hP => ?_
  refine WP.frame (g' := (mkF κ.m 0 #[.val (.ref fi), .val (.ref s1), .val (.ref s2), .val .null, .val .null, .val .null, .val (.ref s3), .val .null] [])) (by first | (simp [entryFrame, mkF, argsToLocals, Value.category]; done) | rfl) ?_
  have KP := Keep.refl h0 [fi]
  refine WP.aloadN K d9_0 rfl rfl (pc' := 1) rfl ?_
  refine WP.initO K (w_46 hw) (w_16 hw) (w_17 hw) d9_1 rfl (by decide) (W := 0) rfl (by decide) (pc' := 4) rfl ?_
  refine WP.aloadN K d9_4 rfl rfl (pc' := 5) rfl ?_
  refine WP.aloadN K d9_5 rfl rfl (pc' := 6) rfl ?_
  refine WP.putF (hE := tW hP) K (w_47 hw) Via.refl (IsFi.f_name O_fi) (IsFi.exa O_fi) (Or.inr ⟨(w_48 hw), rfl, rfl⟩) (w_42 hw) (ty := (.object "java/lang/String")) (by decide) rfl rfl old_fi d9_6 (pc' := 9) rfl fun h32 W32 => ?_
  have KP := Keep.wr KP W32 (Or.inl (List.mem_of_getElem? (i := 0) rfl))
  have Z0 := Nat.le_trans Z0 (Nat.le_of_eq W32.size.symm)
  have O_fi := IsFi.s_name hw W32 O_fi
  refine WP.aloadN K d9_9 rfl rfl (pc' := 10) rfl ?_
  refine WP.aloadN K d9_10 rfl rfl (pc' := 11) rfl ?_
  refine WP.putF (hE := tW hP) K (w_49 hw) Via.refl (IsFi.f_section O_fi) (IsFi.exa O_fi) (Or.inr ⟨(w_50 hw), rfl, rfl⟩) (w_42 hw) (ty := (.object "java/lang/String")) (by decide) rfl rfl old_fi d9_11 (pc' := 14) rfl fun h33 W33 => ?_
  have KP := Keep.wr KP W33 (Or.inl (List.mem_of_getElem? (i := 0) rfl))
  have Z0 := Nat.le_trans Z0 (Nat.le_of_eq W33.size.symm)
  have O_fi := IsFi.s_section hw W33 O_fi
  refine WP.aloadN K d9_14 rfl rfl (pc' := 15) rfl ?_
  refine WP.aloadN K d9_15 rfl rfl (pc' := 16) rfl ?_
  refine WP.putF (hE := tW hP) K (w_51 hw) Via.refl (IsFi.f_number O_fi) (IsFi.exa O_fi) (Or.inr ⟨(w_52 hw), rfl, rfl⟩) (w_42 hw) (ty := (.object "com/example/vestline/vestline/Rational")) (by decide) rfl rfl old_fi d9_16 (pc' := 19) rfl fun h34 W34 => ?_
  have KP := Keep.wr KP W34 (Or.inl (List.mem_of_getElem? (i := 0) rfl))
  have Z0 := Nat.le_trans Z0 (Nat.le_of_eq W34.size.symm)
  have O_fi := IsFi.s_number hw W34 O_fi
  refine WP.aloadN K d9_19 rfl rfl (pc' := 20) rfl ?_
  refine WP.aload K d9_20 rfl rfl (pc' := 22) rfl ?_
  refine WP.putF (hE := tW hP) K (w_53 hw) Via.refl (IsFi.f_dollars O_fi) (IsFi.exa O_fi) (Or.inr ⟨(w_54 hw), rfl, rfl⟩) (w_42 hw) (ty := (.object "com/example/vestline/vestline/Money")) (by decide) rfl rfl old_fi d9_22 (pc' := 25) rfl fun h35 W35 => ?_
  have KP := Keep.wr KP W35 (Or.inl (List.mem_of_getElem? (i := 0) rfl))
  have Z0 := Nat.le_trans Z0 (Nat.le_of_eq W35.size.symm)
  have O_fi := IsFi.s_dollars hw W35 O_fi
  refine WP.aloadN K d9_25 rfl rfl (pc' := 26) rfl ?_
  refine WP.aload K d9_26 rfl rfl (pc' := 28) rfl ?_
  refine WP.putF (hE := tW hP) K (w_55 hw) Via.refl (IsFi.f_date O_fi) (IsFi.exa O_fi) (Or.inr ⟨(w_56 hw), rfl, rfl⟩) (w_42 hw) (ty := (.object "java/time/LocalDate")) (by decide) rfl rfl old_fi d9_28 (pc' := 31) rfl fun h36 W36 => ?_
  have KP := Keep.wr KP W36 (Or.inl (List.mem_of_getElem? (i := 0) rfl))
  have Z0 := Nat.le_trans Z0 (Nat.le_of_eq W36.size.symm)
  have O_fi := IsFi.s_date hw W36 O_fi
  refine WP.aloadN K d9_31 rfl rfl (pc' := 32) rfl ?_
  refine WP.aload K d9_32 rfl rfl (pc' := 34) rfl ?_
  refine WP.putF (hE := tW hP) K (w_57 hw) Via.refl (IsFi.f_text O_fi) (IsFi.exa O_fi) (Or.inr ⟨(w_58 hw), rfl, rfl⟩) (w_42 hw) (ty := (.object "java/lang/String")) (by decide) rfl rfl old_fi d9_34 (pc' := 37) rfl fun h37 W37 => ?_
  have KP := Keep.wr KP W37 (Or.inl (List.mem_of_getElem? (i := 0) rfl))
  have Z0 := Nat.le_trans Z0 (Nat.le_of_eq W37.size.symm)
  have O_fi := IsFi.s_text hw W37 O_fi
  refine WP.aloadN K d9_37 rfl rfl (pc' := 38) rfl ?_
  refine WP.aload K d9_38 rfl rfl (pc' := 40) rfl ?_
  refine WP.putF (hE := tW hP) K (w_59 hw) Via.refl (IsFi.f_years O_fi) (IsFi.exa O_fi) (Or.inr ⟨(w_60 hw), rfl, rfl⟩) (w_42 hw) (ty := (.object "java/util/List")) (by decide) rfl rfl old_fi d9_40 (pc' := 43) rfl fun h38 W38 => ?_
  have KP := Keep.wr KP W38 (Or.inl (List.mem_of_getElem? (i := 0) rfl))
  have Z0 := Nat.le_trans Z0 (Nat.le_of_eq W38.size.symm)
  have O_fi := IsFi.s_years hw W38 O_fi
  exact WP.ret0 K d9_43 (by decide) (by decide) (fun _ _ _ _ _ => ⟨rfl, KP, O_fi⟩)
set_option maxRecDepth 65536 in
set_option maxHeartbeats 40000000 in
theorem rm_text (l : Launch) (Z : State) (a0 : Array Value) (hw : ∀ d ∈ tables_1, d.before a0 Z = true) (s1 s2 s3 : Addr) (h0 : Heap) (n0 : Nat) (Z0 : n0 ≤ h0.size)  :
    Met false l Z (⟨"com/example/vestline/vestline/Figure", "text", "(Ljava/lang/String;Ljava/lang/String;Ljava/lang/String;)Lcom/example/vestline/vestline/Figure;"⟩ : MethodName) prog_13_method_5_code 3 (some (.object "com/example/vestline/vestline/Figure")) [] ({ frames := 2, cells := 1, slots := 7, locals := 32 } : Room) #[(.ref s1), (.ref s2), (.ref s3)] h0 n0 (fun v h => Keep h0 h [] ∧ ∃ fi : Addr, v = some (.ref fi) ∧ IsFi Z h fi (.ref s1) (.ref s2) .null .null .null (.ref s3) .null) := by
  refine Met.of (plainFor_of_name (by first | (simp [plainName, overriddenIn]; done) | decide +kernel)) fun κ K hP => ?_
  refine WP.frame (g' := (mkF κ.m 0 #[.val (.ref s1), .val (.ref s2), .val (.ref s3)] [])) (by first | (simp [entryFrame, mkF, argsToLocals, Value.category]; done) | rfl) ?_
  have KP := Keep.refl h0 []
  refine WP.new (hE := tE hP) K (w_41 hw) (w_42 hw) (w_39 hw) d8_0 (k' := 1) (n' := 7) rfl rfl (by decide) (by decide) (pc' := 3) rfl fun h39 fi g39 E39 X39 D39 => ?_
  have old_fi : n0 ≤ fi := by have q_ := Z0; omega
  have osz_fi : h0.size ≤ fi := by have q_ := KP.1; omega
  have KP := Keep.ext KP E39
  have Z0 := Nat.le_trans Z0 E39.1
  have O_fi : IsFi Z h39 fi .null .null .null .null .null .null .null := ⟨X39, D39 (O := "com/example/vestline/vestline/Figure") (f := "name") (d := "Ljava/lang/String;") (Or.inr (w_48 hw)) (ty := (.object "java/lang/String")) (by decide), D39 (O := "com/example/vestline/vestline/Figure") (f := "section") (d := "Ljava/lang/String;") (Or.inr (w_50 hw)) (ty := (.object "java/lang/String")) (by decide), D39 (O := "com/example/vestline/vestline/Figure") (f := "number") (d := "Lcom/example/vestline/vestline/Rational;") (Or.inr (w_52 hw)) (ty := (.object "com/example/vestline/vestline/Rational")) (by decide), D39 (O := "com/example/vestline/vestline/Figure") (f := "dollars") (d := "Lcom/example/vestline/vestline/Money;") (Or.inr (w_54 hw)) (ty := (.object "com/example/vestline/vestline/Money")) (by decide), D39 (O := "com/example/vestline/vestline/Figure") (f := "date") (d := "Ljava/time/LocalDate;") (Or.inr (w_56 hw)) (ty := (.object "java/time/LocalDate")) (by decide), D39 (O := "com/example/vestline/vestline/Figure") (f := "text") (d := "Ljava/lang/String;") (Or.inr (w_58 hw)) (ty := (.object "java/lang/String")) (by decide), D39 (O := "com/example/vestline/vestline/Figure") (f := "years") (d := "Ljava/util/List;") (Or.inr (w_60 hw)) (ty := (.object "java/util/List")) (by decide)⟩
  refine WP.dup K d8_3 rfl (pc' := 4) rfl ?_
  refine WP.aloadN K d8_4 rfl rfl (pc' := 5) rfl ?_
  refine WP.aloadN K d8_5 rfl rfl (pc' := 6) rfl ?_
  refine WP.aconst_null K d8_6 (pc' := 7) rfl ?_
  refine WP.aconst_null K d8_7 (pc' := 8) rfl ?_
  refine WP.aconst_null K d8_8 (pc' := 9) rfl ?_
  refine WP.aloadN K d8_9 rfl rfl (pc' := 10) rfl ?_
  refine WP.aconst_null K d8_10 (pc' := 11) rfl ?_
  refine WP.callI (hE := tC hP (fun v h' q => by first | (obtain ⟨_, rfl⟩ := q; exact Nat.le_refl _) | exact q.2.1.1 | exact q.2.1 | exact q.1.1)) K (a := fi) (argsL := [(.ref s1), (.ref s2), .null, .null, .null, (.ref s3), .null]) (S := [(.ref fi)]) rfl (w_43 hw) (w_44 hw) (rm_fi l Z a0 hw fi s1 s2 s3 _ _ _ _ _ _ _ h39 n0 Z0 O_fi old_fi) (w_45 hw) (w_39 hw) (by decide) rfl (lenOf pd_9 rfl) rfl (W := 1) rfl (by decide) (by decide) (k' := 1) (n' := 7) rfl rfl (by decide) (by decide) d8_11 (pc' := 14) rfl fun v h40 hq => ?_
  obtain ⟨rfl, K1, O_fi⟩ := hq
  have KP := Keep.trans KP K1 (allS (Or.inr osz_fi) all0)
  have Z0 := Nat.le_trans Z0 K1.1
  show WP κ h40 1 7 (mkF κ.m 14 #[.val (.ref s1), .val (.ref s2), .val (.ref s3)] [(.ref fi)])
  exact WP.retR K rfl rfl d8_14 (by decide) (by decide) (fun _ _ _ _ _ => ⟨KP, fi, rfl, O_fi⟩)
set_option maxRecDepth 65536 in
set_option maxHeartbeats 40000000 in
theorem rm_name (l : Launch) (Z : State) (a0 : Array Value) (hw : ∀ d ∈ tables_1, d.before a0 Z = true) (fi s1 s2 s3 : Addr) (h0 : Heap) (n0 : Nat) (Z0 : n0 ≤ h0.size) (O_fi : IsFi Z h0 fi (.ref s1) (.ref s2) .null .null .null (.ref s3) .null) :
    Met false l Z (⟨"com/example/vestline/vestline/Figure", "name", "()Ljava/lang/String;"⟩ : MethodName) prog_13_method_7_code 1 (some (.object "java/lang/String")) [] ({ frames := 0, cells := 0, slots := 0, locals := 0 } : Room) #[(.ref fi)] h0 n0 (fun v h => v = some (.ref s1) ∧ h0 = h) := by
  refine Met.of (plainFor_of_name (by first | (simp [plainName, overriddenIn]; done) | decide +kernel)) fun κ K hP => ?_
  refine WP.frame (g' := (mkF κ.m 0 #[.val (.ref fi)] [])) (by first | (simp [entryFrame, mkF, argsToLocals, Value.category]; done) | rfl) ?_
  refine WP.aloadN K d10_0 rfl rfl (pc' := 1) rfl ?_
  refine WP.getF K (w_47 hw) Via.refl (IsFi.f_name O_fi) d10_1 (pc' := 4) rfl ?_
  exact WP.retR K rfl rfl d10_4 (by decide) (by decide) (fun _ _ _ _ _ => ⟨rfl, rfl⟩)
set_option maxRecDepth 65536 in
set_option maxHeartbeats 40000000 in
theorem rm_section (l : Launch) (Z : State) (a0 : Array Value) (hw : ∀ d ∈ tables_1, d.before a0 Z = true) (fi s1 s2 s3 : Addr) (h0 : Heap) (n0 : Nat) (Z0 : n0 ≤ h0.size) (O_fi : IsFi Z h0 fi (.ref s1) (.ref s2) .null .null .null (.ref s3) .null) :
    Met false l Z (⟨"com/example/vestline/vestline/Figure", "section", "()Ljava/lang/String;"⟩ : MethodName) prog_13_method_8_code 1 (some (.object "java/lang/String")) [] ({ frames := 0, cells := 0, slots := 0, locals := 0 } : Room) #[(.ref fi)] h0 n0 (fun v h => v = some (.ref s2) ∧ h0 = h) := by
  refine Met.of (plainFor_of_name (by first | (simp [plainName, overriddenIn]; done) | decide +kernel)) fun κ K hP => ?_
  refine WP.frame (g' := (mkF κ.m 0 #[.val (.ref fi)] [])) (by first | (simp [entryFrame, mkF, argsToLocals, Value.category]; done) | rfl) ?_
  refine WP.aloadN K d12_0 rfl rfl (pc' := 1) rfl ?_
  refine WP.getF K (w_49 hw) Via.refl (IsFi.f_section O_fi) d12_1 (pc' := 4) rfl ?_
  exact WP.retR K rfl rfl d12_4 (by decide) (by decide) (fun _ _ _ _ _ => ⟨rfl, rfl⟩)
set_option maxRecDepth 65536 in
set_option maxHeartbeats 40000000 in
theorem rm_isText (l : Launch) (Z : State) (a0 : Array Value) (hw : ∀ d ∈ tables_1, d.before a0 Z = true) (fi s1 s2 s3 : Addr) (h0 : Heap) (n0 : Nat) (Z0 : n0 ≤ h0.size) (O_fi : IsFi Z h0 fi (.ref s1) (.ref s2) .null .null .null (.ref s3) .null) :
    Met false l Z (⟨"com/example/vestline/vestline/Figure", "isText", "()Z"⟩ : MethodName) prog_13_method_9_code 1 (some .boolean) [] ({ frames := 0, cells := 0, slots := 0, locals := 0 } : Room) #[(.ref fi)] h0 n0 (fun v h => v = some (.int (1 : Int32)) ∧ h0 = h) := by
  refine Met.of (plainFor_of_name (by first | (simp [plainName, overriddenIn]; done) | decide +kernel)) fun κ K hP => ?_
  refine WP.frame (g' := (mkF κ.m 0 #[.val (.ref fi)] [])) (by first | (simp [entryFrame, mkF, argsToLocals, Value.category]; done) | rfl) ?_
  refine WP.aloadN K d13_0 rfl rfl (pc' := 1) rfl ?_
  refine WP.getF K (w_57 hw) Via.refl (IsFi.f_text O_fi) d13_1 (pc' := 4) rfl ?_
  refine WP.ifnullF K (b := s3) d13_4 (pc' := 7) rfl ?_
  refine WP.iconst K d13_7 (v := (1 : Int32)) rfl (pc' := 8) rfl ?_
  refine WP.goto K d13_8 (by decide) (pc' := 12) (by decide) ?_
  exact WP.retN K (ty := .boolean) (by decide) d13_12 (by decide) (by decide) (fun _ _ _ _ _ => ⟨rfl, rfl⟩)
set_option maxRecDepth 65536 in
set_option maxHeartbeats 40000000 in
theorem rm_isDate (l : Launch) (Z : State) (a0 : Array Value) (hw : ∀ d ∈ tables_1, d.before a0 Z = true) (fi s1 s2 s3 : Addr) (h0 : Heap) (n0 : Nat) (Z0 : n0 ≤ h0.size) (O_fi : IsFi Z h0 fi (.ref s1) (.ref s2) .null .null .null (.ref s3) .null) :
    Met false l Z (⟨"com/example/vestline/vestline/Figure", "isDate", "()Z"⟩ : MethodName) prog_13_method_10_code 1 (some .boolean) [] ({ frames := 0, cells := 0, slots := 0, locals := 0 } : Room) #[(.ref fi)] h0 n0 (fun v h => v = some (.int (0 : Int32)) ∧ h0 = h) := by
  refine Met.of (plainFor_of_name (by first | (simp [plainName, overriddenIn]; done) | decide +kernel)) fun κ K hP => ?_
  refine WP.frame (g' := (mkF κ.m 0 #[.val (.ref fi)] [])) (by first | (simp [entryFrame, mkF, argsToLocals, Value.category]; done) | rfl) ?_
  refine WP.aloadN K d14_0 rfl rfl (pc' := 1) rfl ?_
  refine WP.getF K (w_55 hw) Via.refl (IsFi.f_date O_fi) d14_1 (pc' := 4) rfl ?_
  refine WP.ifnullT K (b := 0) d14_4 (by decide) (pc' := 11) (by decide) ?_
  refine WP.iconst K d14_11 (v := (0 : Int32)) rfl (pc' := 12) rfl ?_
  exact WP.retN K (ty := .boolean) (by decide) d14_12 (by decide) (by decide) (fun _ _ _ _ _ => ⟨rfl, rfl⟩)
set_option maxRecDepth 65536 in
set_option maxHeartbeats 40000000 in
theorem rm_years (l : Launch) (Z : State) (a0 : Array Value) (hw : ∀ d ∈ tables_1, d.before a0 Z = true) (fi s1 s2 s3 : Addr) (h0 : Heap) (n0 : Nat) (Z0 : n0 ≤ h0.size) (O_fi : IsFi Z h0 fi (.ref s1) (.ref s2) .null .null .null (.ref s3) .null) :
    Met false l Z (⟨"com/example/vestline/vestline/Figure", "years", "()Ljava/util/List;"⟩ : MethodName) prog_13_method_13_code 1 (some (.object "java/util/List")) [] ({ frames := 0, cells := 0, slots := 0, locals := 0 } : Room) #[(.ref fi)] h0 n0 (fun v h => v = some (.null) ∧ h0 = h) := by
  refine Met.of (plainFor_of_name (by first | (simp [plainName, overriddenIn]; done) | decide +kernel)) fun κ K hP => ?_
  refine WP.frame (g' := (mkF κ.m 0 #[.val (.ref fi)] [])) (by first | (simp [entryFrame, mkF, argsToLocals, Value.category]; done) | rfl) ?_
  refine WP.aloadN K d16_0 rfl rfl (pc' := 1) rfl ?_
  refine WP.getF K (w_59 hw) Via.refl (IsFi.f_years O_fi) d16_1 (pc' := 4) rfl ?_
  exact WP.retR K rfl rfl d16_4 (by decide) (by decide) (fun _ _ _ _ _ => ⟨rfl, rfl⟩)
set_option maxRecDepth 65536 in
set_option maxHeartbeats 40000000 in
theorem rm_exact (l : Launch) (Z : State) (a0 : Array Value) (hw : ∀ d ∈ tables_1, d.before a0 Z = true) (fi s1 s2 s3 : Addr) (h0 : Heap) (n0 : Nat) (Z0 : n0 ≤ h0.size) (O_fi : IsFi Z h0 fi (.ref s1) (.ref s2) .null .null .null (.ref s3) .null) :
    Met false l Z (⟨"com/example/vestline/vestline/Figure", "exact", "()Lcom/example/vestline/vestline/Rational;"⟩ : MethodName) prog_13_method_14_code 1 (some (.object "com/example/vestline/vestline/Rational")) [] ({ frames := 0, cells := 0, slots := 0, locals := 0 } : Room) #[(.ref fi)] h0 n0 (fun v h => v = some (.null) ∧ h0 = h) := by
  refine Met.of (plainFor_of_name (by first | (simp [plainName, overriddenIn]; done) | decide +kernel)) fun κ K hP => ?_
  refine WP.frame (g' := (mkF κ.m 0 #[.val (.ref fi)] [])) (by first | (simp [entryFrame, mkF, argsToLocals, Value.category]; done) | rfl) ?_
  refine WP.aloadN K d17_0 rfl rfl (pc' := 1) rfl ?_
  refine WP.getF K (w_51 hw) Via.refl (IsFi.f_number O_fi) d17_1 (pc' := 4) rfl ?_
  exact WP.retR K rfl rfl d17_4 (by decide) (by decide) (fun _ _ _ _ _ => ⟨rfl, rfl⟩)
set_option maxRecDepth 65536 in
set_option maxHeartbeats 40000000 in
theorem rm_value (l : Launch) (Z : State) (a0 : Array Value) (hw : ∀ d ∈ tables_1, d.before a0 Z = true) (fi s1 s2 s3 : Addr) (h0 : Heap) (n0 : Nat) (Z0 : n0 ≤ h0.size) (O_fi : IsFi Z h0 fi (.ref s1) (.ref s2) .null .null .null (.ref s3) .null) :
    Met false l Z (⟨"com/example/vestline/vestline/Figure", "value", "()Ljava/lang/String;"⟩ : MethodName) prog_13_method_15_code 2 (some (.object "java/lang/String")) [] ({ frames := 1, cells := 0, slots := 0, locals := 12 } : Room) #[(.ref fi)] h0 n0 (fun v h => v = some (.ref s3) ∧ h0 = h) := by
  refine Met.of (plainFor_of_name (by first | (simp [plainName, overriddenIn]; done) | decide +kernel)) fun κ K hP => ?_
  refine WP.frame (g' := (mkF κ.m 0 #[.val (.ref fi), .unset] [])) (by first | (simp [entryFrame, mkF, argsToLocals, Value.category]; done) | rfl) ?_
  refine WP.aloadN K d15_0 rfl rfl (pc' := 1) rfl ?_
  refine WP.callV (hE := tC hP (fun v h' q => by first | (obtain ⟨_, rfl⟩ := q; exact Nat.le_refl _) | exact q.2.1.1 | exact q.2.1 | exact q.1.1)) K (a := fi) (argsL := []) (S := []) (w_91 hw) (w_77 hw) (fun vm0 hZ => notFace_of_selects (args := #[]) (mvT (s := κ.s.setVm vm0) hZ (w_79 hw))) (w_79 hw) (w_78 hw) (by decide) (IsFi.exa O_fi) (rm_isText l Z a0 hw fi s1 s2 s3 h0 n0 Z0 O_fi) (w_80 hw) (w_39 hw) (by decide) rfl (lenOf pd_10 rfl) rfl (W := 0) rfl (by decide) (by decide) (k' := 0) (n' := 0) rfl rfl (by decide) (by decide) d15_1 (pc' := 4) rfl fun v h41 hq => ?_
  obtain ⟨rfl, rfl⟩ := hq
  show WP κ h0 0 0 (mkF κ.m 4 #[.val (.ref fi), .unset] [(.int (1 : Int32))])
  refine WP.if0F K d15_4 (by decide) (pc' := 7) rfl ?_
  refine WP.aloadN K d15_7 rfl rfl (pc' := 8) rfl ?_
  refine WP.getF K (w_57 hw) Via.refl (IsFi.f_text O_fi) d15_8 (pc' := 11) rfl ?_
  refine WP.astoreN K d15_11 rfl (L' := #[.val (.ref fi), .val (.ref s3)]) rfl (pc' := 12) rfl ?_
  refine WP.goto K d15_12 (by decide) (pc' := 62) (by decide) ?_
  refine WP.aloadN K d15_62 rfl rfl (pc' := 63) rfl ?_
  exact WP.retR K rfl rfl d15_63 (by decide) (by decide) (fun _ _ _ _ _ => ⟨rfl, rfl⟩)
set_option maxRecDepth 65536 in
set_option maxHeartbeats 40000000 in
theorem rm_eq (l : Launch) (Z : State) (a0 : Array Value) (hw : ∀ d ∈ tables_1, d.before a0 Z = true) (s : Addr) (h0 : Heap) (n0 : Nat) (Z0 : n0 ≤ h0.size)  :
    Met false l Z (⟨"java/lang/String", "equals", "(Ljava/lang/Object;)Z"⟩ : MethodName) jdk_42_method_66_code 3 (some .boolean) [] ({ frames := 0, cells := 0, slots := 0, locals := 0 } : Room) #[(.ref s), (.ref s)] h0 n0 (fun v h => v = some (.int (1 : Int32)) ∧ h0 = h) := by
  refine Met.of (plainFor_of_name (by first | (simp [plainName, overriddenIn]; done) | decide +kernel)) fun κ K hP => ?_
  refine WP.frame (g' := (mkF κ.m 0 #[.val (.ref s), .val (.ref s), .unset] [])) (by first | (simp [entryFrame, mkF, argsToLocals, Value.category]; done) | rfl) ?_
  refine WP.aloadN K d11_0 rfl rfl (pc' := 1) rfl ?_
  refine WP.aloadN K d11_1 rfl rfl (pc' := 2) rfl ?_
  refine WP.acmpF K d11_2 rfl rfl (by simp [Jvm.Free.XT.acmp]) (pc' := 5) rfl ?_
  refine WP.iconst K d11_5 (v := (1 : Int32)) rfl (pc' := 6) rfl ?_
  exact WP.retN K (ty := .boolean) (by decide) d11_6 (by decide) (by decide) (fun _ _ _ _ _ => ⟨rfl, rfl⟩)
set_option maxRecDepth 65536 in
set_option maxHeartbeats 40000000 in
theorem rm_law (l : Launch) (Z : State) (a0 : Array Value) (hw : ∀ d ∈ tables_1, d.before a0 Z = true) (p0 p1 p2 : Int32) (h0 : Heap) (n0 : Nat) (Z0 : n0 ≤ h0.size) (cs : Int32) (S_c : Sta Z Z.heap "java/lang/String" "COMPACT_STRINGS" "Z" (.int cs)) (hcs : ¬ cs = (0 : Int32)) (OLD : Old Z n0 h0) :
    MetP l Z x code maxLocals ret tables_1 room_1 #[(.int p0), (.int p1), (.int p2)] h0 n0 (PS Z own_EL []) (fun v h vm => v = some (.int 1)) := by
  refine MetP.of (plainFor_of_name (by first | (simp [plainName, overriddenIn]; done) | decide +kernel)) fun κ K hP => ?_
  have K : Cx κ true l Z "com/example/vestline/vestline/FigureTextPinLaw" n0 room_1 code 14 (some .boolean) "law" _ := K
  refine WP.frame (g' := (mkF κ.m 0 #[.val (.int p0), .val (.int p1), .val (.int p2), .unset, .unset, .unset, .unset, .unset, .unset, .unset, .unset, .unset, .unset, .unset] [])) (by first | (simp [entryFrame, mkF, argsToLocals, Value.category, maxLocals]; done) | rfl) ?_
  refine WP.iloadN K at_0 rfl (pc' := 1) rfl ?_
  refine WP.callSP K (argsL := [(.int p0)]) (S := []) (w_0 hw) (w_1 hw) (fun vm0 vm1 z p q => (by rw [hP] at p; exact PS.warm z (own_ew hw) (fun x hx => by cases hx) q p)) (fun v h' vm q => by rw [hP]; exact q.2.2) (rm_str l Z a0 hw p0 cs h0 n0 Z0 S_c hcs OLD) (w_3 hw) (w_2 hw) (by decide) rfl (lenOf pd_11 rfl) rfl (W := 0) rfl (by decide) (by decide) (k' := 7) (n' := 14) rfl rfl (by decide) (by decide) at_1 (pc' := 4) rfl fun v h42 hq => ?_
  obtain ⟨vx, K1, ⟨s1, rfl, z0, O_s1⟩, -⟩ := hq
  have OLD := Old.keep OLD K1 all0
  have Z0 := Nat.le_trans Z0 K1.1
  show WP κ h42 7 14 (mkF κ.m 4 #[.val (.int p0), .val (.int p1), .val (.int p2), .unset, .unset, .unset, .unset, .unset, .unset, .unset, .unset, .unset, .unset, .unset] [(.ref s1)])
  refine WP.astoreN K at_4 rfl (L' := #[.val (.int p0), .val (.int p1), .val (.int p2), .val (.ref s1), .unset, .unset, .unset, .unset, .unset, .unset, .unset, .unset, .unset, .unset]) rfl (pc' := 5) rfl ?_
  refine WP.iloadN K at_5 rfl (pc' := 6) rfl ?_
  refine WP.callSP K (argsL := [(.int p1)]) (S := []) (w_0 hw) (w_1 hw) (fun vm0 vm1 z p q => (by rw [hP] at p; exact PS.warm z (own_ew hw) (fun x hx => by cases hx) q p)) (fun v h' vm q => by rw [hP]; exact q.2.2) (rm_str l Z a0 hw p1 cs h42 n0 Z0 S_c hcs OLD) (w_3 hw) (w_2 hw) (by decide) rfl (lenOf pd_11 rfl) rfl (W := 0) rfl (by decide) (by decide) (k' := 14) (n' := 28) rfl rfl (by decide) (by decide) at_6 (pc' := 9) rfl fun v h43 hq => ?_
  obtain ⟨vx, K1, ⟨s2, rfl, z1, O_s2⟩, -⟩ := hq
  have O_s1 := IsX.keep K1 O_s1 nin0
  have OLD := Old.keep OLD K1 all0
  have Z0 := Nat.le_trans Z0 K1.1
  show WP κ h43 14 28 (mkF κ.m 9 #[.val (.int p0), .val (.int p1), .val (.int p2), .val (.ref s1), .unset, .unset, .unset, .unset, .unset, .unset, .unset, .unset, .unset, .unset] [(.ref s2)])
  refine WP.astore K at_9 rfl (L' := #[.val (.int p0), .val (.int p1), .val (.int p2), .val (.ref s1), .val (.ref s2), .unset, .unset, .unset, .unset, .unset, .unset, .unset, .unset, .unset]) rfl (pc' := 11) rfl ?_
  refine WP.iloadN K at_11 rfl (pc' := 12) rfl ?_
  refine WP.callSP K (argsL := [(.int p2)]) (S := []) (w_0 hw) (w_1 hw) (fun vm0 vm1 z p q => (by rw [hP] at p; exact PS.warm z (own_ew hw) (fun x hx => by cases hx) q p)) (fun v h' vm q => by rw [hP]; exact q.2.2) (rm_str l Z a0 hw p2 cs h43 n0 Z0 S_c hcs OLD) (w_3 hw) (w_2 hw) (by decide) rfl (lenOf pd_11 rfl) rfl (W := 0) rfl (by decide) (by decide) (k' := 21) (n' := 42) rfl rfl (by decide) (by decide) at_12 (pc' := 15) rfl fun v h44 hq => ?_
  obtain ⟨vx, K1, ⟨s3, rfl, z2, O_s3⟩, -⟩ := hq
  have O_s1 := IsX.keep K1 O_s1 nin0
  have O_s2 := IsX.keep K1 O_s2 nin0
  have OLD := Old.keep OLD K1 all0
  have Z0 := Nat.le_trans Z0 K1.1
  show WP κ h44 21 42 (mkF κ.m 15 #[.val (.int p0), .val (.int p1), .val (.int p2), .val (.ref s1), .val (.ref s2), .unset, .unset, .unset, .unset, .unset, .unset, .unset, .unset, .unset] [(.ref s3)])
  refine WP.toP K (P2 := fun _ _ => True) (fun _ _ _ => trivial) (fun κ' K' hm' hP' => ?_)
  rw [← hm']
  clear hm' hP K
  revert κ' K' hP'
  intro κ K hP
  show WP κ h44 21 42 (mkF κ.m 15 #[.val (.int p0), .val (.int p1), .val (.int p2), .val (.ref s1), .val (.ref s2), .unset, .unset, .unset, .unset, .unset, .unset, .unset, .unset, .unset] [(.ref s3)])
  refine WP.astore K at_15 rfl (L' := #[.val (.int p0), .val (.int p1), .val (.int p2), .val (.ref s1), .val (.ref s2), .val (.ref s3), .unset, .unset, .unset, .unset, .unset, .unset, .unset, .unset]) rfl (pc' := 17) rfl ?_
  refine WP.aloadN K at_17 rfl rfl (pc' := 18) rfl ?_
  refine WP.aload K at_18 rfl rfl (pc' := 20) rfl ?_
  refine WP.aload K at_20 rfl rfl (pc' := 22) rfl ?_
  refine WP.callS (hE := tC hP (fun v h' q => by first | (obtain ⟨_, rfl⟩ := q; exact Nat.le_refl _) | exact q.2.1.1 | exact q.2.1 | exact q.1.1)) K (argsL := [(.ref s1), (.ref s2), (.ref s3)]) (S := []) (w_37 hw) (w_38 hw) (rm_text l Z a0 hw s1 s2 s3 h44 n0 Z0) (w_40 hw) (w_39 hw) (by decide) rfl (lenOf pd_12 rfl) rfl (W := 0) rfl (by decide) (by decide) (k' := 22) (n' := 49) rfl rfl (by decide) (by decide) at_22 (pc' := 25) rfl fun v h45 hq => ?_
  obtain ⟨K1, fi, rfl, O_fi⟩ := hq
  have O_s1 := IsX.keep K1 O_s1 nin0
  have O_s2 := IsX.keep K1 O_s2 nin0
  have O_s3 := IsX.keep K1 O_s3 nin0
  have OLD := Old.keep OLD K1 all0
  have Z0 := Nat.le_trans Z0 K1.1
  show WP κ h45 22 49 (mkF κ.m 25 #[.val (.int p0), .val (.int p1), .val (.int p2), .val (.ref s1), .val (.ref s2), .val (.ref s3), .unset, .unset, .unset, .unset, .unset, .unset, .unset, .unset] [(.ref fi)])
  refine WP.astore K at_25 rfl (L' := #[.val (.int p0), .val (.int p1), .val (.int p2), .val (.ref s1), .val (.ref s2), .val (.ref s3), .val (.ref fi), .unset, .unset, .unset, .unset, .unset, .unset, .unset]) rfl (pc' := 27) rfl ?_
  refine WP.aloadN K at_27 rfl rfl (pc' := 28) rfl ?_
  refine WP.aload K at_28 rfl rfl (pc' := 30) rfl ?_
  refine WP.callV (hE := tC hP (fun v h' q => by first | (obtain ⟨_, rfl⟩ := q; exact Nat.le_refl _) | exact q.2.1.1 | exact q.2.1 | exact q.1.1)) K (a := fi) (argsL := []) (S := [(.ref s1)]) (w_61 hw) (w_62 hw) (fun vm0 hZ => notFace_of_selects (args := #[]) (mvT (s := κ.s.setVm vm0) hZ (w_64 hw))) (w_64 hw) (w_63 hw) (by decide) (IsFi.exa O_fi) (rm_name l Z a0 hw fi s1 s2 s3 h45 n0 Z0 O_fi) (w_65 hw) (w_39 hw) (by decide) rfl (lenOf pd_13 rfl) rfl (W := 1) rfl (by decide) (by decide) (k' := 22) (n' := 49) rfl rfl (by decide) (by decide) at_30 (pc' := 33) rfl fun v h46 hq => ?_
  obtain ⟨rfl, rfl⟩ := hq
  show WP κ h45 22 49 (mkF κ.m 33 #[.val (.int p0), .val (.int p1), .val (.int p2), .val (.ref s1), .val (.ref s2), .val (.ref s3), .val (.ref fi), .unset, .unset, .unset, .unset, .unset, .unset, .unset] [(.ref s1), (.ref s1)])
  refine WP.callV (hE := tC hP (fun v h' q => by first | (obtain ⟨_, rfl⟩ := q; exact Nat.le_refl _) | exact q.2.1.1 | exact q.2.1 | exact q.1.1)) K (a := s1) (argsL := [(.ref s1)]) (S := []) (w_66 hw) (w_67 hw) (fun vm0 hZ => notFace_of_selects (args := #[]) (mvT (s := κ.s.setVm vm0) hZ (w_69 hw))) (w_69 hw) (w_68 hw) (by decide) (IsX.exa O_s1) (rm_eq l Z a0 hw s1 h45 n0 Z0) (w_70 hw) (w_7 hw) (by decide) rfl (lenOf pd_14 rfl) rfl (W := 0) rfl (by decide) (by decide) (k' := 22) (n' := 49) rfl rfl (by decide) (by decide) at_33 (pc' := 36) rfl fun v h47 hq => ?_
  obtain ⟨rfl, rfl⟩ := hq
  show WP κ h45 22 49 (mkF κ.m 36 #[.val (.int p0), .val (.int p1), .val (.int p2), .val (.ref s1), .val (.ref s2), .val (.ref s3), .val (.ref fi), .unset, .unset, .unset, .unset, .unset, .unset, .unset] [(.int (1 : Int32))])
  refine WP.istore K at_36 (L' := #[.val (.int p0), .val (.int p1), .val (.int p2), .val (.ref s1), .val (.ref s2), .val (.ref s3), .val (.ref fi), .val (.int (1 : Int32)), .unset, .unset, .unset, .unset, .unset, .unset]) rfl (pc' := 38) rfl ?_
  refine WP.aload K at_38 rfl rfl (pc' := 40) rfl ?_
  refine WP.aload K at_40 rfl rfl (pc' := 42) rfl ?_
  refine WP.callV (hE := tC hP (fun v h' q => by first | (obtain ⟨_, rfl⟩ := q; exact Nat.le_refl _) | exact q.2.1.1 | exact q.2.1 | exact q.1.1)) K (a := fi) (argsL := []) (S := [(.ref s2)]) (w_71 hw) (w_72 hw) (fun vm0 hZ => notFace_of_selects (args := #[]) (mvT (s := κ.s.setVm vm0) hZ (w_74 hw))) (w_74 hw) (w_73 hw) (by decide) (IsFi.exa O_fi) (rm_section l Z a0 hw fi s1 s2 s3 h45 n0 Z0 O_fi) (w_75 hw) (w_39 hw) (by decide) rfl (lenOf pd_13 rfl) rfl (W := 1) rfl (by decide) (by decide) (k' := 22) (n' := 49) rfl rfl (by decide) (by decide) at_42 (pc' := 45) rfl fun v h48 hq => ?_
  obtain ⟨rfl, rfl⟩ := hq
  show WP κ h45 22 49 (mkF κ.m 45 #[.val (.int p0), .val (.int p1), .val (.int p2), .val (.ref s1), .val (.ref s2), .val (.ref s3), .val (.ref fi), .val (.int (1 : Int32)), .unset, .unset, .unset, .unset, .unset, .unset] [(.ref s2), (.ref s2)])
  refine WP.callV (hE := tC hP (fun v h' q => by first | (obtain ⟨_, rfl⟩ := q; exact Nat.le_refl _) | exact q.2.1.1 | exact q.2.1 | exact q.1.1)) K (a := s2) (argsL := [(.ref s2)]) (S := []) (w_66 hw) (w_67 hw) (fun vm0 hZ => notFace_of_selects (args := #[]) (mvT (s := κ.s.setVm vm0) hZ (w_69 hw))) (w_69 hw) (w_68 hw) (by decide) (IsX.exa O_s2) (rm_eq l Z a0 hw s2 h45 n0 Z0) (w_70 hw) (w_7 hw) (by decide) rfl (lenOf pd_14 rfl) rfl (W := 0) rfl (by decide) (by decide) (k' := 22) (n' := 49) rfl rfl (by decide) (by decide) at_45 (pc' := 48) rfl fun v h49 hq => ?_
  obtain ⟨rfl, rfl⟩ := hq
  show WP κ h45 22 49 (mkF κ.m 48 #[.val (.int p0), .val (.int p1), .val (.int p2), .val (.ref s1), .val (.ref s2), .val (.ref s3), .val (.ref fi), .val (.int (1 : Int32)), .unset, .unset, .unset, .unset, .unset, .unset] [(.int (1 : Int32))])
  refine WP.istore K at_48 (L' := #[.val (.int p0), .val (.int p1), .val (.int p2), .val (.ref s1), .val (.ref s2), .val (.ref s3), .val (.ref fi), .val (.int (1 : Int32)), .val (.int (1 : Int32)), .unset, .unset, .unset, .unset, .unset]) rfl (pc' := 50) rfl ?_
  refine WP.aload K at_50 rfl rfl (pc' := 52) rfl ?_
  refine WP.callV (hE := tC hP (fun v h' q => by first | (obtain ⟨_, rfl⟩ := q; exact Nat.le_refl _) | exact q.2.1.1 | exact q.2.1 | exact q.1.1)) K (a := fi) (argsL := []) (S := []) (w_76 hw) (w_77 hw) (fun vm0 hZ => notFace_of_selects (args := #[]) (mvT (s := κ.s.setVm vm0) hZ (w_79 hw))) (w_79 hw) (w_78 hw) (by decide) (IsFi.exa O_fi) (rm_isText l Z a0 hw fi s1 s2 s3 h45 n0 Z0 O_fi) (w_80 hw) (w_39 hw) (by decide) rfl (lenOf pd_10 rfl) rfl (W := 0) rfl (by decide) (by decide) (k' := 22) (n' := 49) rfl rfl (by decide) (by decide) at_52 (pc' := 55) rfl fun v h50 hq => ?_
  obtain ⟨rfl, rfl⟩ := hq
  show WP κ h45 22 49 (mkF κ.m 55 #[.val (.int p0), .val (.int p1), .val (.int p2), .val (.ref s1), .val (.ref s2), .val (.ref s3), .val (.ref fi), .val (.int (1 : Int32)), .val (.int (1 : Int32)), .unset, .unset, .unset, .unset, .unset] [(.int (1 : Int32))])
  refine WP.istore K at_55 (L' := #[.val (.int p0), .val (.int p1), .val (.int p2), .val (.ref s1), .val (.ref s2), .val (.ref s3), .val (.ref fi), .val (.int (1 : Int32)), .val (.int (1 : Int32)), .val (.int (1 : Int32)), .unset, .unset, .unset, .unset]) rfl (pc' := 57) rfl ?_
  refine WP.aload K at_57 rfl rfl (pc' := 59) rfl ?_
  refine WP.callV (hE := tC hP (fun v h' q => by first | (obtain ⟨_, rfl⟩ := q; exact Nat.le_refl _) | exact q.2.1.1 | exact q.2.1 | exact q.1.1)) K (a := fi) (argsL := []) (S := []) (w_81 hw) (w_82 hw) (fun vm0 hZ => notFace_of_selects (args := #[]) (mvT (s := κ.s.setVm vm0) hZ (w_84 hw))) (w_84 hw) (w_83 hw) (by decide) (IsFi.exa O_fi) (rm_isDate l Z a0 hw fi s1 s2 s3 h45 n0 Z0 O_fi) (w_85 hw) (w_39 hw) (by decide) rfl (lenOf pd_10 rfl) rfl (W := 0) rfl (by decide) (by decide) (k' := 22) (n' := 49) rfl rfl (by decide) (by decide) at_59 (pc' := 62) rfl fun v h51 hq => ?_
  obtain ⟨rfl, rfl⟩ := hq
  show WP κ h45 22 49 (mkF κ.m 62 #[.val (.int p0), .val (.int p1), .val (.int p2), .val (.ref s1), .val (.ref s2), .val (.ref s3), .val (.ref fi), .val (.int (1 : Int32)), .val (.int (1 : Int32)), .val (.int (1 : Int32)), .unset, .unset, .unset, .unset] [(.int (0 : Int32))])
  refine WP.if0F K at_62 (by decide) (pc' := 65) rfl ?_
  refine WP.iconst K at_65 (v := (1 : Int32)) rfl (pc' := 66) rfl ?_
  refine WP.goto K at_66 (by decide) (pc' := 70) (by decide) ?_
  refine WP.istore K at_70 (L' := #[.val (.int p0), .val (.int p1), .val (.int p2), .val (.ref s1), .val (.ref s2), .val (.ref s3), .val (.ref fi), .val (.int (1 : Int32)), .val (.int (1 : Int32)), .val (.int (1 : Int32)), .val (.int (1 : Int32)), .unset, .unset, .unset]) rfl (pc' := 72) rfl ?_
  refine WP.aload K at_72 rfl rfl (pc' := 74) rfl ?_
  refine WP.aload K at_74 rfl rfl (pc' := 76) rfl ?_
  refine WP.callV (hE := tC hP (fun v h' q => by first | (obtain ⟨_, rfl⟩ := q; exact Nat.le_refl _) | exact q.2.1.1 | exact q.2.1 | exact q.1.1)) K (a := fi) (argsL := []) (S := [(.ref s3)]) (w_86 hw) (w_87 hw) (fun vm0 hZ => notFace_of_selects (args := #[]) (mvT (s := κ.s.setVm vm0) hZ (w_89 hw))) (w_89 hw) (w_88 hw) (by decide) (IsFi.exa O_fi) (rm_value l Z a0 hw fi s1 s2 s3 h45 n0 Z0 O_fi) (w_90 hw) (w_39 hw) (by decide) rfl (lenOf pd_13 rfl) rfl (W := 1) rfl (by decide) (by decide) (k' := 22) (n' := 49) rfl rfl (by decide) (by decide) at_76 (pc' := 79) rfl fun v h52 hq => ?_
  obtain ⟨rfl, rfl⟩ := hq
  show WP κ h45 22 49 (mkF κ.m 79 #[.val (.int p0), .val (.int p1), .val (.int p2), .val (.ref s1), .val (.ref s2), .val (.ref s3), .val (.ref fi), .val (.int (1 : Int32)), .val (.int (1 : Int32)), .val (.int (1 : Int32)), .val (.int (1 : Int32)), .unset, .unset, .unset] [(.ref s3), (.ref s3)])
  refine WP.callV (hE := tC hP (fun v h' q => by first | (obtain ⟨_, rfl⟩ := q; exact Nat.le_refl _) | exact q.2.1.1 | exact q.2.1 | exact q.1.1)) K (a := s3) (argsL := [(.ref s3)]) (S := []) (w_66 hw) (w_67 hw) (fun vm0 hZ => notFace_of_selects (args := #[]) (mvT (s := κ.s.setVm vm0) hZ (w_69 hw))) (w_69 hw) (w_68 hw) (by decide) (IsX.exa O_s3) (rm_eq l Z a0 hw s3 h45 n0 Z0) (w_70 hw) (w_7 hw) (by decide) rfl (lenOf pd_14 rfl) rfl (W := 0) rfl (by decide) (by decide) (k' := 22) (n' := 49) rfl rfl (by decide) (by decide) at_79 (pc' := 82) rfl fun v h53 hq => ?_
  obtain ⟨rfl, rfl⟩ := hq
  show WP κ h45 22 49 (mkF κ.m 82 #[.val (.int p0), .val (.int p1), .val (.int p2), .val (.ref s1), .val (.ref s2), .val (.ref s3), .val (.ref fi), .val (.int (1 : Int32)), .val (.int (1 : Int32)), .val (.int (1 : Int32)), .val (.int (1 : Int32)), .unset, .unset, .unset] [(.int (1 : Int32))])
  refine WP.istore K at_82 (L' := #[.val (.int p0), .val (.int p1), .val (.int p2), .val (.ref s1), .val (.ref s2), .val (.ref s3), .val (.ref fi), .val (.int (1 : Int32)), .val (.int (1 : Int32)), .val (.int (1 : Int32)), .val (.int (1 : Int32)), .val (.int (1 : Int32)), .unset, .unset]) rfl (pc' := 84) rfl ?_
  refine WP.aload K at_84 rfl rfl (pc' := 86) rfl ?_
  refine WP.callV (hE := tC hP (fun v h' q => by first | (obtain ⟨_, rfl⟩ := q; exact Nat.le_refl _) | exact q.2.1.1 | exact q.2.1 | exact q.1.1)) K (a := fi) (argsL := []) (S := []) (w_92 hw) (w_93 hw) (fun vm0 hZ => notFace_of_selects (args := #[]) (mvT (s := κ.s.setVm vm0) hZ (w_95 hw))) (w_95 hw) (w_94 hw) (by decide) (IsFi.exa O_fi) (rm_years l Z a0 hw fi s1 s2 s3 h45 n0 Z0 O_fi) (w_96 hw) (w_39 hw) (by decide) rfl (lenOf pd_15 rfl) rfl (W := 0) rfl (by decide) (by decide) (k' := 22) (n' := 49) rfl rfl (by decide) (by decide) at_86 (pc' := 89) rfl fun v h54 hq => ?_
  obtain ⟨rfl, rfl⟩ := hq
  show WP κ h45 22 49 (mkF κ.m 89 #[.val (.int p0), .val (.int p1), .val (.int p2), .val (.ref s1), .val (.ref s2), .val (.ref s3), .val (.ref fi), .val (.int (1 : Int32)), .val (.int (1 : Int32)), .val (.int (1 : Int32)), .val (.int (1 : Int32)), .val (.int (1 : Int32)), .unset, .unset] [.null])
  refine WP.ifnonnullF K (b := 0) at_89 (pc' := 92) rfl ?_
  refine WP.iconst K at_92 (v := (1 : Int32)) rfl (pc' := 93) rfl ?_
  refine WP.goto K at_93 (by decide) (pc' := 97) (by decide) ?_
  refine WP.istore K at_97 (L' := #[.val (.int p0), .val (.int p1), .val (.int p2), .val (.ref s1), .val (.ref s2), .val (.ref s3), .val (.ref fi), .val (.int (1 : Int32)), .val (.int (1 : Int32)), .val (.int (1 : Int32)), .val (.int (1 : Int32)), .val (.int (1 : Int32)), .val (.int (1 : Int32)), .unset]) rfl (pc' := 99) rfl ?_
  refine WP.aload K at_99 rfl rfl (pc' := 101) rfl ?_
  refine WP.callV (hE := tC hP (fun v h' q => by first | (obtain ⟨_, rfl⟩ := q; exact Nat.le_refl _) | exact q.2.1.1 | exact q.2.1 | exact q.1.1)) K (a := fi) (argsL := []) (S := []) (w_97 hw) (w_98 hw) (fun vm0 hZ => notFace_of_selects (args := #[]) (mvT (s := κ.s.setVm vm0) hZ (w_100 hw))) (w_100 hw) (w_99 hw) (by decide) (IsFi.exa O_fi) (rm_exact l Z a0 hw fi s1 s2 s3 h45 n0 Z0 O_fi) (w_101 hw) (w_39 hw) (by decide) rfl (lenOf pd_16 rfl) rfl (W := 0) rfl (by decide) (by decide) (k' := 22) (n' := 49) rfl rfl (by decide) (by decide) at_101 (pc' := 104) rfl fun v h55 hq => ?_
  obtain ⟨rfl, rfl⟩ := hq
  show WP κ h45 22 49 (mkF κ.m 104 #[.val (.int p0), .val (.int p1), .val (.int p2), .val (.ref s1), .val (.ref s2), .val (.ref s3), .val (.ref fi), .val (.int (1 : Int32)), .val (.int (1 : Int32)), .val (.int (1 : Int32)), .val (.int (1 : Int32)), .val (.int (1 : Int32)), .val (.int (1 : Int32)), .unset] [.null])
  refine WP.ifnonnullF K (b := 0) at_104 (pc' := 107) rfl ?_
  refine WP.iconst K at_107 (v := (1 : Int32)) rfl (pc' := 108) rfl ?_
  refine WP.goto K at_108 (by decide) (pc' := 112) (by decide) ?_
  refine WP.istore K at_112 (L' := #[.val (.int p0), .val (.int p1), .val (.int p2), .val (.ref s1), .val (.ref s2), .val (.ref s3), .val (.ref fi), .val (.int (1 : Int32)), .val (.int (1 : Int32)), .val (.int (1 : Int32)), .val (.int (1 : Int32)), .val (.int (1 : Int32)), .val (.int (1 : Int32)), .val (.int (1 : Int32))]) rfl (pc' := 114) rfl ?_
  refine WP.iload K at_114 rfl (pc' := 116) rfl ?_
  refine WP.if0F K at_116 (by decide) (pc' := 119) rfl ?_
  refine WP.iload K at_119 rfl (pc' := 121) rfl ?_
  refine WP.if0F K at_121 (by decide) (pc' := 124) rfl ?_
  refine WP.iload K at_124 rfl (pc' := 126) rfl ?_
  refine WP.if0F K at_126 (by decide) (pc' := 129) rfl ?_
  refine WP.iload K at_129 rfl (pc' := 131) rfl ?_
  refine WP.if0F K at_131 (by decide) (pc' := 134) rfl ?_
  refine WP.iload K at_134 rfl (pc' := 136) rfl ?_
  refine WP.if0F K at_136 (by decide) (pc' := 139) rfl ?_
  refine WP.iload K at_139 rfl (pc' := 141) rfl ?_
  refine WP.if0F K at_141 (by decide) (pc' := 144) rfl ?_
  refine WP.iload K at_144 rfl (pc' := 146) rfl ?_
  refine WP.if0F K at_146 (by decide) (pc' := 149) rfl ?_
  refine WP.iconst K at_149 (v := (1 : Int32)) rfl (pc' := 150) rfl ?_
  refine WP.goto K at_150 (by decide) (pc' := 154) (by decide) ?_
  exact WP.retN K (ty := .boolean) (by decide) at_154 (by decide) (by decide) (fun _ _ _ _ _ => rfl)
set_option maxRecDepth 65536 in
set_option maxHeartbeats 40000000 in
theorem comes_1 {Post : Tables → Env → Array Value → State → Outcome → State → Prop} (hpost : ∀ tb e args s v u, (limb_1_1.after args s (.returned v) u = true ∧ limb_1_2.after args s (.returned v) u = true ∧ True) → ReturnedEndW s (.returned v) u (Jvm.fieldLocs frame_1_writes args s ++ Jvm.arrayLocs frame_1_arrays args s ++ Jvm.staticLocs frame_1_statics s) 32 1216 → Post tb e args s (.returned v) u) :
    ArmFor flags0 classFile x code maxLocals ret World_1 tables_1 room_1 Calls_1 rest_1 Pre_1 Post := by
  intro l hfl _ _ p e ha hc hk s m args below hf hA hF happ hP
  obtain ⟨hcalls, hrest, hpre⟩ := hP
  obtain ⟨-, -, -, hnamed, -, -, -, hat⟩ := (Spec.applies_iff hf).mp happ
  obtain ⟨hg, hn⟩ := and_e (Cond.before_iff.mp (show (Jvm.Cond.and given_1 narrow_1).before args s = true from hpre))
  obtain ⟨q0, r0⟩ := and_e hg
  obtain ⟨q1, r1⟩ := and_e r0
  obtain ⟨q2, r2⟩ := and_e r1
  obtain ⟨v0, v1, v2, rfl⟩ : ∃ v0 v1 v2 : Value, args = #[v0, v1, v2] := by
    have hs : args.size = 3 := by simpa [Cond.value, given_1] using q0
    obtain ⟨L⟩ := args
    match L, hs with
    | [v0, v1, v2], _ => exact ⟨v0, v1, v2, rfl⟩
  have hw := fun d (hd : d ∈ tables_1) => atoms_spec (ws := Jvm.Cond.code x code maxLocals ret :: tables_1) hat d (List.mem_cons_of_mem _ hd)
  obtain ⟨hsets, hown0⟩ := atoms_of _ (rest_1_c_eq ▸ (show rest_1_c.before _ s = true from hrest))
  obtain ⟨i0, ei0⟩ := is_v q1
  obtain rfl : v0 = (.int i0) := Option.some.inj ei0
  obtain ⟨i1, ei1⟩ := is_v q2
  obtain rfl : v1 = (.int i1) := Option.some.inj ei1
  obtain ⟨i2, ei2⟩ := is_v r2
  obtain rfl : v2 = (.int i2) := Option.some.inj ei2
  obtain ⟨cs, ecs⟩ := is_v (Cond.before_iff.mp (hsets _ (List.mem_of_getElem? (i := 1) rfl)))
  have S_c := Sta.start ecs (Or.inl (hsets _ (List.mem_of_getElem? (i := 0) rfl)))
  have hcw : Jvm.Lit.compactW.before #[.int i0, .int i1, .int i2] s = true := hsets _ (List.mem_of_getElem? (i := 2) rfl)
  have hcs : ¬ cs = (0 : Int32) := fun q => by subst q; have z := Cond.before_iff.mp hcw; simp [Jvm.Lit.compactW, Cond.value, ecs, Term.int_eval] at z
  obtain ⟨n, o, h1, h2, h3, _, L, rfl, ⟨rfl, N⟩, hq⟩ := rm_law  l s _ hw i0 i1 i2 s.heap s.heap.size (Nat.le_refl _) cs S_c hcs (Old.start s) p e ha hc hk s m _ below hf ((Spec.applies_iff_loose hf).mp happ).1 ⟨rfl, State.Warmed39.refl s, rfl, CHv.start (own_ew hw) (show ∀ p ∈ own_EL, Jvm.Lit.constHeld s p.1 p.2 from hcalls.1) hcw (w_19 hw) (w_6 hw), fun x q => by cases q⟩ trivial
  have hq := hq
  refine ⟨n, _, h1, h2, h3, hpost _ _ _ _ _ _ ⟨Cond.after_iff.mpr rfl, Cond.after_iff.mpr (eq_i res_at (Term.int_eval (1)) rfl), trivial⟩ ⟨hq.1, hq.2.1, hq.2.2.1, (hq.2.2.2.sift fun y hy => Or.inr (N y hy)).mono (by decide) (by decide)⟩⟩
theorem main_1_1 : Claimed_1_1 := comes_1 fun _ _ _ _ _ _ h hF => ⟨h.1, hF⟩
theorem main_1_2 : Claimed_1_2 := comes_1 fun _ _ _ _ _ _ h hF => ⟨h.2.1, hF⟩
end Jvm.Pilot.@@N@@
namespace Jvm.Pilot.@@N@@
open Jvm Jvm.ClassFile Sem Op Lib Jvm.Free Jvm.Stand Jvm.Pilot.@@N@@.Jvm.D
/-! MADE BY PROGRAM (witnessworld.py) out of the Statement's table words and the real class files: 20 classes; the members and pool entries that the words name. The judged class is class 1, her method 2. -/
namespace start1
open Jvm.ClassFile
def u (s : String) : CpInfo := .utf8 (stringToUtf16 s)
/-- a pool by its gaps: so many unusable entries, then the entry; so many at the end -/
def gap : Nat → List CpInfo → List CpInfo
  | 0, r => r
  | n + 1, r => .unusable :: gap n r
def poolList (es : List (Nat × CpInfo)) (last : Nat) : List CpInfo := es.foldr (fun e r => gap e.1 (e.2 :: r)) (gap last [])
def pool (es : List (Nat × CpInfo)) (last : Nat) : Array CpInfo := ⟨poolList es last⟩
def fileOf (pool : Array CpInfo) (this : Nat) (attrs : Array Attribute := #[]) (ms : Array MethodInfo := #[]) (fl : Nat := 33) (sup : Nat := 0) (ifs : Array Nat := #[]) (fds : Array FieldInfo := #[]) : ClassFile where
  minorVersion := 0
  majorVersion := 65
  constantPool := pool
  accessFlags := fl
  thisClass := this
  superClass := sup
  interfaces := ifs
  fields := fds
  methods := ms
  attributes := attrs
def plain (name : String) (sup : Option ClassId) : Class where
  name := name
  kind := .ordinary
  loader := none
  accessFlags := 33
  super := sup
  interfaces := #[]
  cf := none
  fields := #[]
  methods := #[]
  instanceTypes := #[]
  staticTypes := #[]
  resolved := #[]
  callSites := []
  init := .initialized
  statics := none
  mirror := none

def pool0 : Array CpInfo := pool [(5, u "<init>"), (0, u "()V"), (1, .class_ 10), (1, u "java/lang/Object")] 113

def k0c0 : Code := { maxStack := 0, maxLocals := 1, code := object_method_1_code, exceptionTable := #[], attributes := #[] }
def k0m0 : Method := { name := "<init>", desc := "()V", sig := { parameters := [], returnType := none }, accessFlags := 1, code := some k0c0 }
/-- java/lang/Object -/
def k0 : Class := { plain "java/lang/Object" none with
  accessFlags := 33
  interfaces := #[]
  cf := some (fileOf pool0 8 #[] #[{ accessFlags := 1, nameIndex := 5, descriptorIndex := 6, attributes := #[] }] 33 0 #[] #[])
  fields := #[]
  methods := #[k0m0]
  instanceTypes := #[]
  staticTypes := #[]
  resolved := Array.replicate 124 none
  statics := none }

def pool1 : Array CpInfo := pool [(2, .class_ 4), (1, u "java/lang/Object"), (0, u "<init>"), (0, u "()V"), (0, .class_ 8), (0, u "java/lang/String"), (0, .methodref 7 10), (0, .nameAndType 5 11), (0, u "([C)V"), (0, .methodref 7 13), (0, .nameAndType 14 15), (0, u "valueOf"), (0, u "(C)Ljava/lang/String;"), (0, .methodref 17 18), (0, .class_ 19), (0, .nameAndType 20 21), (0, u "com/example/vestline/vestline/FigureTextPinLaw"), (0, u "str"), (0, u "(I)Ljava/lang/String;"), (0, .methodref 23 24), (0, .class_ 25), (0, .nameAndType 26 27), (0, u "com/example/vestline/vestline/Figure"), (0, u "text"), (0, u "(Ljava/lang/String;Ljava/lang/String;Ljava/lang/String;)Lcom/example/vestline/vestline/Figure;"), (0, .methodref 23 29), (0, .nameAndType 30 31), (0, u "name"), (0, u "()Ljava/lang/String;"), (0, .methodref 7 33), (0, .nameAndType 34 35), (0, u "equals"), (0, u "(Ljava/lang/Object;)Z"), (0, .methodref 23 37), (0, .nameAndType 38 31), (0, u "section"), (0, .methodref 23 40), (0, .nameAndType 41 42), (0, u "isText"), (0, u "()Z"), (0, .methodref 23 44), (0, .nameAndType 45 42), (0, u "isDate"), (0, .methodref 23 47), (0, .nameAndType 48 31), (0, u "value"), (0, .methodref 23 50), (0, .nameAndType 51 52), (0, u "years"), (0, u "()Ljava/util/List;"), (0, .methodref 23 54), (0, .nameAndType 55 56), (0, u "exact"), (0, u "()Lcom/example/vestline/vestline/Rational;"), (5, u "law"), (0, u "(III)Z")] 2

def k1m0 : Method := { name := "<init>", desc := "()V", sig := { parameters := [], returnType := none }, accessFlags := 1, code := none }
def k1c1 : Code := { maxStack := 4, maxLocals := 6, code := method_2_code, exceptionTable := #[], attributes := #[] }
def k1m1 : Method := { name := "str", desc := "(I)Ljava/lang/String;", sig := { parameters := [.int], returnType := some (.object "java/lang/String") }, accessFlags := 10, code := some k1c1 }
def k1c2 : Code := { maxStack := 3, maxLocals := 14, code := code, exceptionTable := #[], attributes := #[] }
def k1m2 : Method := { name := "law", desc := "(III)Z", sig := { parameters := [.int, .int, .int], returnType := some .boolean }, accessFlags := 9, code := some k1c2 }
/-- com/example/vestline/vestline/FigureTextPinLaw -/
def k1 : Class := { plain "com/example/vestline/vestline/FigureTextPinLaw" (some 0) with
  accessFlags := 49
  interfaces := #[]
  cf := some (fileOf pool1 17 #[] #[{ accessFlags := 1, nameIndex := 5, descriptorIndex := 6, attributes := #[] }, { accessFlags := 10, nameIndex := 20, descriptorIndex := 21, attributes := #[] }, { accessFlags := 9, nameIndex := 62, descriptorIndex := 63, attributes := #[] }] 49 2 #[] #[])
  fields := #[]
  methods := #[k1m0, k1m1, k1m2]
  instanceTypes := #[]
  staticTypes := #[]
  resolved := Array.replicate 66 none
  statics := none }

def pool2 : Array CpInfo := pool [(1, .class_ 2), (0, u "java/io/Serializable"), (0, .class_ 4), (0, u "java/lang/Object")] 2

/-- java/io/Serializable -/
def k2 : Class := { plain "java/io/Serializable" (some 0) with
  accessFlags := 1537
  interfaces := #[]
  cf := some (fileOf pool2 1 #[] #[] 1537 3 #[] #[])
  fields := #[]
  methods := #[]
  instanceTypes := #[]
  staticTypes := #[]
  resolved := Array.replicate 7 none
  statics := none }

def pool3 : Array CpInfo := pool [(1, .class_ 2), (0, u "java/lang/Comparable"), (0, .class_ 4), (0, u "java/lang/Object")] 7

/-- java/lang/Comparable -/
def k3 : Class := { plain "java/lang/Comparable" (some 0) with
  accessFlags := 1537
  interfaces := #[]
  cf := some (fileOf pool3 1 #[] #[] 1537 3 #[] #[])
  fields := #[]
  methods := #[]
  instanceTypes := #[]
  staticTypes := #[]
  resolved := Array.replicate 12 none
  statics := none }

def pool4 : Array CpInfo := pool [(2, .class_ 4), (1, u "java/lang/CharSequence"), (42, .class_ 48), (0, u "java/lang/CharSequence$1CodePointIterator"), (10, .class_ 60), (0, u "java/lang/CharSequence$1CharIterator"), (5, .class_ 67), (0, u "java/lang/Object")] 63

/-- java/lang/CharSequence -/
def k4 : Class := { plain "java/lang/CharSequence" (some 0) with
  accessFlags := 1537
  interfaces := #[]
  cf := some (fileOf pool4 2 #[.nestMembers #[47, 59]] #[] 1537 66 #[] #[])
  fields := #[]
  methods := #[]
  instanceTypes := #[]
  staticTypes := #[]
  resolved := Array.replicate 131 none
  statics := none }

def pool5 : Array CpInfo := pool [(1, .class_ 2), (0, u "java/lang/constant/Constable"), (0, .class_ 4), (0, u "java/lang/Object")] 6

/-- java/lang/constant/Constable -/
def k5 : Class := { plain "java/lang/constant/Constable" (some 0) with
  accessFlags := 1537
  interfaces := #[]
  cf := some (fileOf pool5 1 #[] #[] 1537 3 #[] #[])
  fields := #[]
  methods := #[]
  instanceTypes := #[]
  staticTypes := #[]
  resolved := Array.replicate 11 none
  statics := none }

def pool6 : Array CpInfo := pool [(1, .class_ 2), (0, u "java/lang/constant/ConstantDesc"), (0, .class_ 4), (0, u "java/lang/Object")] 32

/-- java/lang/constant/ConstantDesc -/
def k6 : Class := { plain "java/lang/constant/ConstantDesc" (some 0) with
  accessFlags := 1537
  interfaces := #[]
  cf := some (fileOf pool6 1 #[] #[] 1537 3 #[] #[])
  fields := #[]
  methods := #[]
  instanceTypes := #[]
  staticTypes := #[]
  resolved := Array.replicate 37 none
  statics := none }

def pool7 : Array CpInfo := pool [(1, .methodref 2 3), (0, .class_ 4), (0, .nameAndType 5 6), (0, u "java/lang/Object"), (0, u "<init>"), (0, u "()V"), (0, .string 8), (0, u ""), (0, .fieldref 10 11), (0, .class_ 12), (0, .nameAndType 13 14), (0, u "java/lang/String"), (0, u "value"), (0, u "[B"), (0, .fieldref 10 16), (0, .nameAndType 17 18), (0, u "coder"), (0, u "B"), (2, u "hash"), (0, u "I"), (2, u "hashIsZero"), (0, u "Z"), (0, .methodref 10 28), (0, .nameAndType 5 29), (0, u "([CIILjava/lang/Void;)V"), (8, .fieldref 10 39), (0, .nameAndType 40 26), (0, u "COMPACT_STRINGS"), (1, .class_ 44), (1, u "java/lang/StringUTF16"), (0, u "compress"), (1, .methodref 42 48), (0, .nameAndType 49 50), (0, u "coderFromArrayLen"), (0, u "([BI)B"), (2, u "toBytes"), (53, .class_ 109), (1, u "java/lang/StringLatin1"), (67, .methodref 42 178), (0, .nameAndType 45 179), (0, u "([CII)[B"), (29, .methodref 10 210), (0, .nameAndType 5 211), (0, u "([BB)V"), (157, u "(C)Z"), (173, u "equals"), (29, u "(Ljava/lang/Object;)Z"), (1, .class_ 576), (0, u "java/lang/CharSequence"), (22, u "CASE_INSENSITIVE_ORDER"), (0, u "Ljava/util/Comparator;"), (181, u "valueOf"), (0, u "(C)Ljava/lang/String;"), (226, u "([C)V"), (4, .methodref 107 1016), (0, .nameAndType 1017 369), (0, u "canEncode"), (0, .methodref 107 1019), (0, .nameAndType 53 1020), (0, u "(C)[B"), (80, u "serialPersistentFields"), (0, u "[Ljava/io/ObjectStreamField;"), (0, .class_ 1104), (0, u "java/lang/String$CaseInsensitiveComparator"), (1, .class_ 1107), (0, u "java/io/Serializable"), (0, .class_ 1109), (0, u "java/lang/Comparable"), (0, .class_ 1111), (0, u "java/lang/constant/Constable"), (0, .class_ 1113), (0, u "java/lang/constant/ConstantDesc"), (2, u "serialVersionUID"), (0, u "J"), (3, u "REPL"), (0, u "C"), (2, u "LATIN1"), (1, u "UTF16")] 323

def k7m0 : Method := { name := "<init>", desc := "()V", sig := { parameters := [], returnType := none }, accessFlags := 1, code := none }
def k7c1 : Code := { maxStack := 5, maxLocals := 2, code := jdk_42_method_3_code, exceptionTable := #[], attributes := #[] }
def k7m1 : Method := { name := "<init>", desc := "([C)V", sig := { parameters := [(.array .char)], returnType := none }, accessFlags := 1, code := some k7c1 }
def k7c2 : Code := { maxStack := 2, maxLocals := 3, code := jdk_42_method_66_code, exceptionTable := #[], attributes := #[] }
def k7m2 : Method := { name := "equals", desc := "(Ljava/lang/Object;)Z", sig := { parameters := [(.object "java/lang/Object")], returnType := some .boolean }, accessFlags := 1, code := some k7c2 }
def k7c3 : Code := { maxStack := 4, maxLocals := 1, code := jdk_42_method_139_code, exceptionTable := #[], attributes := #[] }
def k7m3 : Method := { name := "valueOf", desc := "(C)Ljava/lang/String;", sig := { parameters := [.char], returnType := some (.object "java/lang/String") }, accessFlags := 9, code := some k7c3 }
def k7c4 : Code := { maxStack := 4, maxLocals := 6, code := jdk_42_method_149_code, exceptionTable := #[], attributes := #[] }
def k7m4 : Method := { name := "<init>", desc := "([CIILjava/lang/Void;)V", sig := { parameters := [(.array .char), .int, .int, (.object "java/lang/Void")], returnType := none }, accessFlags := 2, code := some k7c4 }
def k7c5 : Code := { maxStack := 2, maxLocals := 3, code := jdk_42_method_151_code, exceptionTable := #[], attributes := #[] }
def k7m5 : Method := { name := "<init>", desc := "([BB)V", sig := { parameters := [(.array .byte), .byte], returnType := none }, accessFlags := 0, code := some k7c5 }
/-- java/lang/String -/
def k7 : Class := { plain "java/lang/String" (some 0) with
  accessFlags := 49
  interfaces := #[2, 3, 4, 5, 6]
  cf := some (fileOf pool7 10 #[.nestMembers #[1103]] #[{ accessFlags := 1, nameIndex := 5, descriptorIndex := 6, attributes := #[] }, { accessFlags := 1, nameIndex := 5, descriptorIndex := 1010, attributes := #[] }, { accessFlags := 1, nameIndex := 543, descriptorIndex := 573, attributes := #[] }, { accessFlags := 9, nameIndex := 782, descriptorIndex := 783, attributes := #[] }, { accessFlags := 2, nameIndex := 5, descriptorIndex := 29, attributes := #[] }, { accessFlags := 0, nameIndex := 5, descriptorIndex := 211, attributes := #[] }] 49 2 #[1106, 1108, 575, 1110, 1112] #[{ accessFlags := 18, nameIndex := 13, descriptorIndex := 14, attributes := #[] }, { accessFlags := 18, nameIndex := 17, descriptorIndex := 18, attributes := #[] }, { accessFlags := 2, nameIndex := 21, descriptorIndex := 22, attributes := #[] }, { accessFlags := 2, nameIndex := 25, descriptorIndex := 26, attributes := #[] }, { accessFlags := 26, nameIndex := 1116, descriptorIndex := 1117, attributes := #[] }, { accessFlags := 24, nameIndex := 40, descriptorIndex := 26, attributes := #[] }, { accessFlags := 26, nameIndex := 1101, descriptorIndex := 1102, attributes := #[] }, { accessFlags := 26, nameIndex := 1121, descriptorIndex := 1122, attributes := #[] }, { accessFlags := 25, nameIndex := 599, descriptorIndex := 600, attributes := #[] }, { accessFlags := 24, nameIndex := 1125, descriptorIndex := 18, attributes := #[] }, { accessFlags := 24, nameIndex := 1127, descriptorIndex := 18, attributes := #[] }])
  fields := #[{ name := "value", type := (.array .byte), accessFlags := 18, slot := 0, constantValue := 0 }, { name := "coder", type := .byte, accessFlags := 18, slot := 1, constantValue := 0 }, { name := "hash", type := .int, accessFlags := 2, slot := 2, constantValue := 0 }, { name := "hashIsZero", type := .boolean, accessFlags := 2, slot := 3, constantValue := 0 }, { name := "serialVersionUID", type := .long, accessFlags := 26, slot := 0, constantValue := 0 }, { name := "COMPACT_STRINGS", type := .boolean, accessFlags := 24, slot := 1, constantValue := 0 }, { name := "serialPersistentFields", type := (.array (.object "java/io/ObjectStreamField")), accessFlags := 26, slot := 2, constantValue := 0 }, { name := "REPL", type := .char, accessFlags := 26, slot := 3, constantValue := 0 }, { name := "CASE_INSENSITIVE_ORDER", type := (.object "java/util/Comparator"), accessFlags := 25, slot := 4, constantValue := 0 }, { name := "LATIN1", type := .byte, accessFlags := 24, slot := 5, constantValue := 0 }, { name := "UTF16", type := .byte, accessFlags := 24, slot := 6, constantValue := 0 }]
  methods := #[k7m0, k7m1, k7m2, k7m3, k7m4, k7m5]
  instanceTypes := #[(.array .byte), .byte, .int, .boolean]
  staticTypes := #[.long, .boolean, (.array (.object "java/io/ObjectStreamField")), .char, (.object "java/util/Comparator"), .byte, .byte]
  resolved := Array.replicate 1451 none
  statics := some 0 }

def pool8 : Array CpInfo := pool [(6, .class_ 8), (1, u "java/lang/Object"), (0, u "<init>"), (0, u "()V"), (1, .class_ 14), (1, u "java/lang/StringUTF16"), (31, u "$assertionsDisabled"), (0, u "Z"), (13, u "HI_BYTE_SHIFT"), (0, u "I"), (2, u "LO_BYTE_SHIFT"), (49, .methodref 12 116), (0, .nameAndType 117 118), (0, u "compress"), (0, u "([CI[BII)I"), (3, u "([CII)[B"), (138, u "coderFromArrayLen"), (0, u "([BI)B"), (106, .class_ 371), (1, u "java/lang/StringUTF16$LinesSpliterator"), (58, u "MAX_LENGTH"), (196, .class_ 628), (0, u "java/lang/StringUTF16$CodePointsSpliterator"), (0, .class_ 630), (0, u "java/lang/StringUTF16$CharsSpliterator")] 4

def k8m0 : Method := { name := "<init>", desc := "()V", sig := { parameters := [], returnType := none }, accessFlags := 0, code := none }
def k8c1 : Code := { maxStack := 2, maxLocals := 2, code := jdk_52_method_15_code, exceptionTable := #[], attributes := #[] }
def k8m1 : Method := { name := "coderFromArrayLen", desc := "([BI)B", sig := { parameters := [(.array .byte), .int], returnType := some .byte }, accessFlags := 8, code := some k8c1 }
def k8c2 : Code := { maxStack := 5, maxLocals := 6, code := jdk_52_method_16_code, exceptionTable := #[], attributes := #[] }
def k8m2 : Method := { name := "compress", desc := "([CII)[B", sig := { parameters := [(.array .char), .int, .int], returnType := some (.array .byte) }, accessFlags := 9, code := some k8c2 }
def k8c3 : Code := { maxStack := 3, maxLocals := 7, code := jdk_52_method_21_code, exceptionTable := #[], attributes := #[] }
def k8m3 : Method := { name := "compress", desc := "([CI[BII)I", sig := { parameters := [(.array .char), .int, (.array .byte), .int, .int], returnType := some .int }, accessFlags := 9, code := some k8c3 }
/-- java/lang/StringUTF16 -/
def k8 : Class := { plain "java/lang/StringUTF16" (some 0) with
  accessFlags := 48
  interfaces := #[]
  cf := some (fileOf pool8 12 #[.nestMembers #[627, 629, 369]] #[{ accessFlags := 0, nameIndex := 9, descriptorIndex := 10, attributes := #[] }, { accessFlags := 8, nameIndex := 261, descriptorIndex := 262, attributes := #[] }, { accessFlags := 9, nameIndex := 117, descriptorIndex := 122, attributes := #[] }, { accessFlags := 9, nameIndex := 117, descriptorIndex := 118, attributes := #[] }] 48 6 #[] #[{ accessFlags := 26, nameIndex := 61, descriptorIndex := 62, attributes := #[] }, { accessFlags := 26, nameIndex := 65, descriptorIndex := 62, attributes := #[] }, { accessFlags := 24, nameIndex := 430, descriptorIndex := 62, attributes := #[] }, { accessFlags := 4120, nameIndex := 46, descriptorIndex := 47, attributes := #[] }])
  fields := #[{ name := "HI_BYTE_SHIFT", type := .int, accessFlags := 26, slot := 0, constantValue := 0 }, { name := "LO_BYTE_SHIFT", type := .int, accessFlags := 26, slot := 1, constantValue := 0 }, { name := "MAX_LENGTH", type := .int, accessFlags := 24, slot := 2, constantValue := 0 }, { name := "$assertionsDisabled", type := .boolean, accessFlags := 4120, slot := 3, constantValue := 0 }]
  methods := #[k8m0, k8m1, k8m2, k8m3]
  instanceTypes := #[]
  staticTypes := #[.int, .int, .int, .boolean]
  resolved := Array.replicate 635 none
  statics := none }

def pool9 : Array CpInfo := pool [(1, .methodref 2 3), (0, .class_ 4), (0, .nameAndType 5 6), (0, u "java/lang/Object"), (0, u "<init>"), (0, u "()V"), (0, .fieldref 8 9), (0, .class_ 10), (0, .nameAndType 11 12), (0, u "com/example/vestline/vestline/Figure"), (0, u "name"), (0, u "Ljava/lang/String;"), (0, .fieldref 8 14), (0, .nameAndType 15 12), (0, u "section"), (0, .fieldref 8 17), (0, .nameAndType 18 19), (0, u "number"), (0, u "Lcom/example/vestline/vestline/Rational;"), (0, .fieldref 8 21), (0, .nameAndType 22 23), (0, u "dollars"), (0, u "Lcom/example/vestline/vestline/Money;"), (0, .fieldref 8 25), (0, .nameAndType 26 27), (0, u "date"), (0, u "Ljava/time/LocalDate;"), (0, .fieldref 8 29), (0, .nameAndType 30 12), (0, u "text"), (0, .fieldref 8 32), (0, .nameAndType 33 34), (0, u "years"), (0, u "Ljava/util/List;"), (0, .methodref 8 36), (0, .nameAndType 5 37), (0, u "(Ljava/lang/String;Ljava/lang/String;Lcom/example/vestline/vestline/Rational;Lcom/example/vestline/vestline/Money;Ljava/time/LocalDate;Ljava/lang/String;Ljava/util/List;)V"), (26, u "()Z"), (23, u "()Ljava/lang/String;"), (4, .methodref 8 94), (0, .nameAndType 95 64), (0, u "isText"), (9, .methodref 8 106), (0, .nameAndType 107 64), (0, u "isDate"), (12, u "value"), (18, u "(Ljava/lang/String;Ljava/lang/String;Ljava/lang/String;)Lcom/example/vestline/vestline/Figure;"), (4, u "()Ljava/util/List;"), (1, u "exact"), (0, u "()Lcom/example/vestline/vestline/Rational;")] 21

def k9c0 : Code := { maxStack := 2, maxLocals := 8, code := prog_13_method_1_code, exceptionTable := #[], attributes := #[] }
def k9m0 : Method := { name := "<init>", desc := "(Ljava/lang/String;Ljava/lang/String;Lcom/example/vestline/vestline/Rational;Lcom/example/vestline/vestline/Money;Ljava/time/LocalDate;Ljava/lang/String;Ljava/util/List;)V", sig := { parameters := [(.object "java/lang/String"), (.object "java/lang/String"), (.object "com/example/vestline/vestline/Rational"), (.object "com/example/vestline/vestline/Money"), (.object "java/time/LocalDate"), (.object "java/lang/String"), (.object "java/util/List")], returnType := none }, accessFlags := 2, code := some k9c0 }
def k9c1 : Code := { maxStack := 9, maxLocals := 3, code := prog_13_method_5_code, exceptionTable := #[], attributes := #[] }
def k9m1 : Method := { name := "text", desc := "(Ljava/lang/String;Ljava/lang/String;Ljava/lang/String;)Lcom/example/vestline/vestline/Figure;", sig := { parameters := [(.object "java/lang/String"), (.object "java/lang/String"), (.object "java/lang/String")], returnType := some (.object "com/example/vestline/vestline/Figure") }, accessFlags := 8, code := some k9c1 }
def k9c2 : Code := { maxStack := 1, maxLocals := 1, code := prog_13_method_7_code, exceptionTable := #[], attributes := #[] }
def k9m2 : Method := { name := "name", desc := "()Ljava/lang/String;", sig := { parameters := [], returnType := some (.object "java/lang/String") }, accessFlags := 1, code := some k9c2 }
def k9c3 : Code := { maxStack := 1, maxLocals := 1, code := prog_13_method_8_code, exceptionTable := #[], attributes := #[] }
def k9m3 : Method := { name := "section", desc := "()Ljava/lang/String;", sig := { parameters := [], returnType := some (.object "java/lang/String") }, accessFlags := 1, code := some k9c3 }
def k9c4 : Code := { maxStack := 1, maxLocals := 1, code := prog_13_method_9_code, exceptionTable := #[], attributes := #[] }
def k9m4 : Method := { name := "isText", desc := "()Z", sig := { parameters := [], returnType := some .boolean }, accessFlags := 1, code := some k9c4 }
def k9c5 : Code := { maxStack := 1, maxLocals := 1, code := prog_13_method_10_code, exceptionTable := #[], attributes := #[] }
def k9m5 : Method := { name := "isDate", desc := "()Z", sig := { parameters := [], returnType := some .boolean }, accessFlags := 1, code := some k9c5 }
def k9c6 : Code := { maxStack := 1, maxLocals := 1, code := prog_13_method_13_code, exceptionTable := #[], attributes := #[] }
def k9m6 : Method := { name := "years", desc := "()Ljava/util/List;", sig := { parameters := [], returnType := some (.object "java/util/List") }, accessFlags := 0, code := some k9c6 }
def k9c7 : Code := { maxStack := 1, maxLocals := 1, code := prog_13_method_14_code, exceptionTable := #[], attributes := #[] }
def k9m7 : Method := { name := "exact", desc := "()Lcom/example/vestline/vestline/Rational;", sig := { parameters := [], returnType := some (.object "com/example/vestline/vestline/Rational") }, accessFlags := 0, code := some k9c7 }
def k9c8 : Code := { maxStack := 1, maxLocals := 2, code := prog_13_method_15_code, exceptionTable := #[], attributes := #[] }
def k9m8 : Method := { name := "value", desc := "()Ljava/lang/String;", sig := { parameters := [], returnType := some (.object "java/lang/String") }, accessFlags := 1, code := some k9c8 }
/-- com/example/vestline/vestline/Figure -/
def k9 : Class := { plain "com/example/vestline/vestline/Figure" (some 0) with
  accessFlags := 33
  interfaces := #[]
  cf := some (fileOf pool9 8 #[] #[{ accessFlags := 2, nameIndex := 5, descriptorIndex := 37, attributes := #[] }, { accessFlags := 8, nameIndex := 30, descriptorIndex := 139, attributes := #[] }, { accessFlags := 1, nameIndex := 11, descriptorIndex := 88, attributes := #[] }, { accessFlags := 1, nameIndex := 15, descriptorIndex := 88, attributes := #[] }, { accessFlags := 1, nameIndex := 95, descriptorIndex := 64, attributes := #[] }, { accessFlags := 1, nameIndex := 107, descriptorIndex := 64, attributes := #[] }, { accessFlags := 0, nameIndex := 33, descriptorIndex := 144, attributes := #[] }, { accessFlags := 0, nameIndex := 146, descriptorIndex := 147, attributes := #[] }, { accessFlags := 1, nameIndex := 120, descriptorIndex := 88, attributes := #[] }] 33 2 #[] #[{ accessFlags := 18, nameIndex := 11, descriptorIndex := 12, attributes := #[] }, { accessFlags := 18, nameIndex := 15, descriptorIndex := 12, attributes := #[] }, { accessFlags := 18, nameIndex := 18, descriptorIndex := 19, attributes := #[] }, { accessFlags := 18, nameIndex := 22, descriptorIndex := 23, attributes := #[] }, { accessFlags := 18, nameIndex := 26, descriptorIndex := 27, attributes := #[] }, { accessFlags := 18, nameIndex := 30, descriptorIndex := 12, attributes := #[] }, { accessFlags := 18, nameIndex := 33, descriptorIndex := 34, attributes := #[] }])
  fields := #[{ name := "name", type := (.object "java/lang/String"), accessFlags := 18, slot := 0, constantValue := 0 }, { name := "section", type := (.object "java/lang/String"), accessFlags := 18, slot := 1, constantValue := 0 }, { name := "number", type := (.object "com/example/vestline/vestline/Rational"), accessFlags := 18, slot := 2, constantValue := 0 }, { name := "dollars", type := (.object "com/example/vestline/vestline/Money"), accessFlags := 18, slot := 3, constantValue := 0 }, { name := "date", type := (.object "java/time/LocalDate"), accessFlags := 18, slot := 4, constantValue := 0 }, { name := "text", type := (.object "java/lang/String"), accessFlags := 18, slot := 5, constantValue := 0 }, { name := "years", type := (.object "java/util/List"), accessFlags := 18, slot := 6, constantValue := 0 }]
  methods := #[k9m0, k9m1, k9m2, k9m3, k9m4, k9m5, k9m6, k9m7, k9m8]
  instanceTypes := #[(.object "java/lang/String"), (.object "java/lang/String"), (.object "com/example/vestline/vestline/Rational"), (.object "com/example/vestline/vestline/Money"), (.object "java/time/LocalDate"), (.object "java/lang/String"), (.object "java/util/List")]
  staticTypes := #[]
  resolved := Array.replicate 169 none
  statics := none }

def pool10 : Array CpInfo := pool [(4, .class_ 6), (1, u "java/lang/Object"), (0, u "<init>"), (0, u "()V"), (5, .class_ 16), (1, u "java/lang/StringLatin1"), (73, u "canEncode"), (14, u "(C)Z"), (15, u "$assertionsDisabled"), (0, u "Z"), (98, .class_ 223), (1, u "java/lang/StringLatin1$LinesSpliterator"), (156, u "toBytes"), (1, u "(C)[B"), (7, .class_ 391), (0, u "java/lang/StringLatin1$CharsSpliterator")] 3

def k10m0 : Method := { name := "<init>", desc := "()V", sig := { parameters := [], returnType := none }, accessFlags := 0, code := none }
def k10c1 : Code := { maxStack := 2, maxLocals := 1, code := jdk_43_method_3_code, exceptionTable := #[], attributes := #[] }
def k10m1 : Method := { name := "canEncode", desc := "(C)Z", sig := { parameters := [.char], returnType := some .boolean }, accessFlags := 9, code := some k10c1 }
def k10c2 : Code := { maxStack := 4, maxLocals := 1, code := jdk_43_method_46_code, exceptionTable := #[], attributes := #[] }
def k10m2 : Method := { name := "toBytes", desc := "(C)[B", sig := { parameters := [.char], returnType := some (.array .byte) }, accessFlags := 9, code := some k10c2 }
/-- java/lang/StringLatin1 -/
def k10 : Class := { plain "java/lang/StringLatin1" (some 0) with
  accessFlags := 48
  interfaces := #[]
  cf := some (fileOf pool10 14 #[.nestMembers #[390, 221]] #[{ accessFlags := 0, nameIndex := 7, descriptorIndex := 8, attributes := #[] }, { accessFlags := 9, nameIndex := 90, descriptorIndex := 105, attributes := #[] }, { accessFlags := 9, nameIndex := 380, descriptorIndex := 382, attributes := #[] }] 48 4 #[] #[{ accessFlags := 4120, nameIndex := 121, descriptorIndex := 122, attributes := #[] }])
  fields := #[{ name := "$assertionsDisabled", type := .boolean, accessFlags := 4120, slot := 0, constantValue := 0 }]
  methods := #[k10m0, k10m1, k10m2]
  instanceTypes := #[]
  staticTypes := #[.boolean]
  resolved := Array.replicate 395 none
  statics := none }

def pool11 : Array CpInfo := pool [(2, .class_ 4), (1, u "java/lang/Object"), (0, u "<init>"), (0, u "()V"), (17, .class_ 26), (1, u "jdk/internal/util/Preconditions"), (28, .class_ 56), (0, u "jdk/internal/util/Preconditions$4"), (57, .class_ 115), (0, u "jdk/internal/util/Preconditions$1"), (7, u "SIOOBE_FORMATTER"), (0, u "Ljava/util/function/BiFunction;"), (0, .class_ 126), (0, u "jdk/internal/util/Preconditions$2"), (3, u "AIOOBE_FORMATTER"), (0, .class_ 132), (0, u "jdk/internal/util/Preconditions$3"), (3, u "IOOBE_FORMATTER")] 57

def k11m0 : Method := { name := "<init>", desc := "()V", sig := { parameters := [], returnType := none }, accessFlags := 1, code := none }
/-- jdk/internal/util/Preconditions -/
def k11 : Class := { plain "jdk/internal/util/Preconditions" (some 0) with
  accessFlags := 33
  interfaces := #[]
  cf := some (fileOf pool11 24 #[.nestMembers #[55, 131, 125, 114]] #[{ accessFlags := 1, nameIndex := 5, descriptorIndex := 6, attributes := #[] }] 33 2 #[] #[{ accessFlags := 25, nameIndex := 123, descriptorIndex := 124, attributes := #[] }, { accessFlags := 25, nameIndex := 130, descriptorIndex := 124, attributes := #[] }, { accessFlags := 25, nameIndex := 136, descriptorIndex := 124, attributes := #[] }])
  fields := #[{ name := "SIOOBE_FORMATTER", type := (.object "java/util/function/BiFunction"), accessFlags := 25, slot := 0, constantValue := 0 }, { name := "AIOOBE_FORMATTER", type := (.object "java/util/function/BiFunction"), accessFlags := 25, slot := 1, constantValue := 0 }, { name := "IOOBE_FORMATTER", type := (.object "java/util/function/BiFunction"), accessFlags := 25, slot := 2, constantValue := 0 }]
  methods := #[k11m0]
  instanceTypes := #[]
  staticTypes := #[(.object "java/util/function/BiFunction"), (.object "java/util/function/BiFunction"), (.object "java/util/function/BiFunction")]
  resolved := Array.replicate 194 none
  statics := some 1 }

def pool12 : Array CpInfo := pool [(9, u "<init>"), (6, .class_ 18), (1, u "java/lang/Object"), (0, u "()V"), (1, .class_ 23), (1, u "jdk/internal/util/ArraysSupport"), (0, u "LOG2_ARRAY_LONG_INDEX_SCALE"), (0, u "I"), (2, u "U"), (0, u "Ljdk/internal/misc/Unsafe;"), (8, u "BIG_ENDIAN"), (0, u "Z"), (8, u "LOG2_BYTE_BIT_SIZE"), (4, u "LOG2_ARRAY_INT_INDEX_SCALE"), (54, u "JLA"), (0, u "Ljdk/internal/access/JavaLangAccess;"), (11, u "LOG2_ARRAY_BOOLEAN_INDEX_SCALE"), (9, u "LOG2_ARRAY_BYTE_INDEX_SCALE"), (5, u "LOG2_ARRAY_CHAR_INDEX_SCALE"), (5, u "LOG2_ARRAY_SHORT_INDEX_SCALE"), (18, u "LOG2_ARRAY_FLOAT_INDEX_SCALE"), (24, u "LOG2_ARRAY_DOUBLE_INDEX_SCALE"), (89, u "T_BOOLEAN"), (2, u "T_CHAR"), (1, u "T_FLOAT"), (1, u "T_DOUBLE"), (1, u "T_BYTE"), (1, u "T_SHORT"), (1, u "T_INT"), (1, u "T_LONG"), (1, u "SOFT_MAX_ARRAY_LENGTH")] 83

def k12m0 : Method := { name := "<init>", desc := "()V", sig := { parameters := [], returnType := none }, accessFlags := 2, code := none }
/-- jdk/internal/util/ArraysSupport -/
def k12 : Class := { plain "jdk/internal/util/ArraysSupport" (some 0) with
  accessFlags := 33
  interfaces := #[]
  cf := some (fileOf pool12 21 #[] #[{ accessFlags := 2, nameIndex := 9, descriptorIndex := 19, attributes := #[] }] 33 16 #[] #[{ accessFlags := 24, nameIndex := 28, descriptorIndex := 29, attributes := #[] }, { accessFlags := 26, nameIndex := 38, descriptorIndex := 39, attributes := #[] }, { accessFlags := 25, nameIndex := 121, descriptorIndex := 25, attributes := #[] }, { accessFlags := 25, nameIndex := 131, descriptorIndex := 25, attributes := #[] }, { accessFlags := 25, nameIndex := 137, descriptorIndex := 25, attributes := #[] }, { accessFlags := 25, nameIndex := 143, descriptorIndex := 25, attributes := #[] }, { accessFlags := 25, nameIndex := 53, descriptorIndex := 25, attributes := #[] }, { accessFlags := 25, nameIndex := 24, descriptorIndex := 25, attributes := #[] }, { accessFlags := 25, nameIndex := 162, descriptorIndex := 25, attributes := #[] }, { accessFlags := 25, nameIndex := 187, descriptorIndex := 25, attributes := #[] }, { accessFlags := 26, nameIndex := 48, descriptorIndex := 25, attributes := #[] }, { accessFlags := 25, nameIndex := 277, descriptorIndex := 25, attributes := #[] }, { accessFlags := 25, nameIndex := 280, descriptorIndex := 25, attributes := #[] }, { accessFlags := 25, nameIndex := 282, descriptorIndex := 25, attributes := #[] }, { accessFlags := 25, nameIndex := 284, descriptorIndex := 25, attributes := #[] }, { accessFlags := 25, nameIndex := 286, descriptorIndex := 25, attributes := #[] }, { accessFlags := 25, nameIndex := 288, descriptorIndex := 25, attributes := #[] }, { accessFlags := 25, nameIndex := 290, descriptorIndex := 25, attributes := #[] }, { accessFlags := 25, nameIndex := 292, descriptorIndex := 25, attributes := #[] }, { accessFlags := 26, nameIndex := 108, descriptorIndex := 109, attributes := #[] }, { accessFlags := 25, nameIndex := 294, descriptorIndex := 25, attributes := #[] }])
  fields := #[{ name := "U", type := (.object "jdk/internal/misc/Unsafe"), accessFlags := 24, slot := 0, constantValue := 0 }, { name := "BIG_ENDIAN", type := .boolean, accessFlags := 26, slot := 1, constantValue := 0 }, { name := "LOG2_ARRAY_BOOLEAN_INDEX_SCALE", type := .int, accessFlags := 25, slot := 2, constantValue := 0 }, { name := "LOG2_ARRAY_BYTE_INDEX_SCALE", type := .int, accessFlags := 25, slot := 3, constantValue := 0 }, { name := "LOG2_ARRAY_CHAR_INDEX_SCALE", type := .int, accessFlags := 25, slot := 4, constantValue := 0 }, { name := "LOG2_ARRAY_SHORT_INDEX_SCALE", type := .int, accessFlags := 25, slot := 5, constantValue := 0 }, { name := "LOG2_ARRAY_INT_INDEX_SCALE", type := .int, accessFlags := 25, slot := 6, constantValue := 0 }, { name := "LOG2_ARRAY_LONG_INDEX_SCALE", type := .int, accessFlags := 25, slot := 7, constantValue := 0 }, { name := "LOG2_ARRAY_FLOAT_INDEX_SCALE", type := .int, accessFlags := 25, slot := 8, constantValue := 0 }, { name := "LOG2_ARRAY_DOUBLE_INDEX_SCALE", type := .int, accessFlags := 25, slot := 9, constantValue := 0 }, { name := "LOG2_BYTE_BIT_SIZE", type := .int, accessFlags := 26, slot := 10, constantValue := 0 }, { name := "T_BOOLEAN", type := .int, accessFlags := 25, slot := 11, constantValue := 0 }, { name := "T_CHAR", type := .int, accessFlags := 25, slot := 12, constantValue := 0 }, { name := "T_FLOAT", type := .int, accessFlags := 25, slot := 13, constantValue := 0 }, { name := "T_DOUBLE", type := .int, accessFlags := 25, slot := 14, constantValue := 0 }, { name := "T_BYTE", type := .int, accessFlags := 25, slot := 15, constantValue := 0 }, { name := "T_SHORT", type := .int, accessFlags := 25, slot := 16, constantValue := 0 }, { name := "T_INT", type := .int, accessFlags := 25, slot := 17, constantValue := 0 }, { name := "T_LONG", type := .int, accessFlags := 25, slot := 18, constantValue := 0 }, { name := "JLA", type := (.object "jdk/internal/access/JavaLangAccess"), accessFlags := 26, slot := 19, constantValue := 0 }, { name := "SOFT_MAX_ARRAY_LENGTH", type := .int, accessFlags := 25, slot := 20, constantValue := 0 }]
  methods := #[k12m0]
  instanceTypes := #[]
  staticTypes := #[(.object "jdk/internal/misc/Unsafe"), .boolean, .int, .int, .int, .int, .int, .int, .int, .int, .int, .int, .int, .int, .int, .int, .int, .int, .int, (.object "jdk/internal/access/JavaLangAccess"), .int]
  resolved := Array.replicate 378 none
  statics := none }

def pool13 : Array CpInfo := pool [(1, u "java/lang/Cloneable"), (0, .class_ 1), (0, u "java/lang/Object"), (0, .class_ 3)] 3

/-- java/lang/Cloneable -/
def k13 : Class := { plain "java/lang/Cloneable" (some 0) with
  accessFlags := 1537
  interfaces := #[]
  cf := some (fileOf pool13 2 #[] #[] 1537 4 #[] #[])
  fields := #[]
  methods := #[]
  instanceTypes := #[]
  staticTypes := #[]
  resolved := Array.replicate 8 none
  statics := none }

/-- the primitive byte -/
def k14 : Class := { plain "byte" none with kind := .primitive 'B', accessFlags := 0x411 }
/-- [B -/
def k15 : Class := { plain "[B" (some 0) with kind := .array 14 .byte, interfaces := #[13, 2], accessFlags := 1041 }

/-- the primitive char -/
def k16 : Class := { plain "char" none with kind := .primitive 'C', accessFlags := 0x411 }
/-- [C -/
def k17 : Class := { plain "[C" (some 0) with kind := .array 16 .char, interfaces := #[13, 2], accessFlags := 1041 }

/-- the primitive int -/
def k18 : Class := { plain "int" none with kind := .primitive 'I', accessFlags := 0x411 }
/-- [I -/
def k19 : Class := { plain "[I" (some 0) with kind := .array 18 .int, interfaces := #[13, 2], accessFlags := 1041 }

def heap : Heap := #[{ cls := 7, slots := #[.long 0, .int 1, .null, .int 0, .null, .int 0, .int 0], vm := .statics 7 },
  { cls := 11, slots := #[.null, .null, .null], vm := .statics 11 }]
def classes : Array Class := #[k0, k1, k2, k3, k4, k5, k6, k7, k8, k9, k10, k11, k12, k13, k14, k15, k16, k17, k18, k19]
def interned : List (Array UInt16 × Addr) := []
def slotsUsed : Nat := 10
def theMethod : MethodId := ⟨1, 2⟩
def args0 : Array Value := #[.int 5, .int 5, .int 5]
def aboutOver (below : List Frame) : State where
  vm := { classes := classes, interned := interned.toArray }
  heap := heap
  slotsUsed := slotsUsed
  threads := #[{ frames := .invoking theMethod args0 :: below }]
def below0 : List Frame := [.native { method := ⟨0, 0⟩, args := #[] }]
def about1 : State := aboutOver below0
def p0 : Program := .bare "" "" ""
def e0 : Env := launch0.env 0 0 0
theorem w_frames : about1.frames = Frame.invoking theMethod args0 :: below0 := rfl
set_option maxRecDepth 65536 in
theorem w_args : argsFit about1.vm theMethod args0 = true := by decide +kernel
set_option maxRecDepth 65536 in
theorem w_heap : heapFits about1 = true := by decide +kernel
set_option maxRecDepth 65536 in
theorem w_runnable : about1.curStatus? = some .runnable := by decide +kernel
set_option maxRecDepth 65536 in
theorem w_alone : about1.alone = true := by decide +kernel
set_option maxRecDepth 65536 in
theorem w_named : about1.methodNamed? x = some theMethod := by decide +kernel
set_option maxRecDepth 65536 in
theorem w_hears : about1.hears theMethod below0 = true := by decide +kernel
set_option maxRecDepth 65536 in
theorem w_ripe : about1.ripe theMethod args0 below0 = true := by decide +kernel
theorem w_running : about1.status = .running := rfl
set_option maxRecDepth 65536 in
theorem w_room : about1.hasRoom e0.platform room_1 = true :=
  launch0.hasRoom_least _ room_1 (by decide +kernel) (by decide +kernel) (by decide +kernel) (by decide +kernel) (by decide +kernel) (by decide +kernel)
theorem allAtoms_all (ts : List Jvm.Cond) (a : Array Jvm.Value) (st : Jvm.State) : (allAtoms ts).before a st = ts.all (fun c => c.before a st) := by
  induction ts with
  | nil => rfl
  | cons c t ih =>
    show (Jvm.Cond.and c (allAtoms t)).before a st = _
    rw [Jvm.Cond.before_and, ih, List.all_cons]
def words1 : List Jvm.Cond := Jvm.Cond.code x code maxLocals ret :: tables_1
/-- a 'code' word, met by the world's own term for the bytes: nothing is compared byte by byte -/
theorem code_word {y : MethodName} {bytes : ByteArray} {mx : Nat} {rt : Option FieldType} {a : Array Value} {s : State} {m : MethodId} {meth : Method} {c : Code} (h1 : s.methodNamed? y = some m) (h2 : s.vm.method? m = some meth) (h3 : meth.code = some c) (h4 : c.code = bytes)
    (h5 : (c.maxLocals == mx && c.exceptionTable.isEmpty && decide (c.maxStack ≤ mostOperands) && decide (meth.sig.returnType = rt) && !meth.locks && decide (parseMethodDescriptor y.desc = some meth.sig)) = true) : (Jvm.Cond.code y bytes mx rt).before a s = true := by
  simp only [Bool.and_eq_true, beq_iff_eq, Bool.not_eq_true', decide_eq_true_eq] at h5
  obtain ⟨⟨⟨⟨⟨g1, g2⟩, g3⟩, g4⟩, g5⟩, g6⟩ := h5
  simp [Cond.before, Cond.holds, Cond.value, h1, h2, h3, h4, g1, g2, g3, g4, g5, g6]
def isCode : Jvm.Cond → Bool
  | .code _ _ _ _ => true
  | _ => false
theorem all_split {L : List Jvm.Cond} {P : Jvm.Cond → Bool} (h1 : L.all (fun c => isCode c || P c) = true) (h2 : ∀ c ∈ L.filter isCode, P c = true) : L.all P = true := by
  refine List.all_eq_true.mpr fun c hc => ?_
  have h := List.all_eq_true.mp h1 c hc
  rcases Bool.eq_false_or_eq_true (isCode c) with hi | hi
  · exact h2 c (List.mem_filter.mpr ⟨hc, hi⟩)
  · simpa [hi] using h
set_option maxRecDepth 65536 in
theorem w_c0 : (Jvm.Cond.code x code maxLocals ret).before args0 about1 = true := code_word (m := ⟨1, 2⟩) (meth := k1m2) (c := k1c2) (by decide +kernel) rfl rfl rfl (by decide +kernel)
set_option maxRecDepth 65536 in
theorem w_c1 : (Jvm.Cond.code ({ cls := "com/example/vestline/vestline/FigureTextPinLaw", name := "str", desc := "(I)Ljava/lang/String;" } : Jvm.MethodName) method_2_code (6 : Nat) (Option.some (Jvm.ClassFile.FieldType.object "java/lang/String"))).before args0 about1 = true := code_word (m := ⟨1, 1⟩) (meth := k1m1) (c := k1c1) (by decide +kernel) rfl rfl rfl (by decide +kernel)
set_option maxRecDepth 65536 in
theorem w_c2 : (Jvm.Cond.code ({ cls := "java/lang/String", name := "<init>", desc := "([C)V" } : Jvm.MethodName) jdk_42_method_3_code (2 : Nat) (Option.none : Option Jvm.ClassFile.FieldType)).before args0 about1 = true := code_word (m := ⟨7, 1⟩) (meth := k7m1) (c := k7c1) (by decide +kernel) rfl rfl rfl (by decide +kernel)
set_option maxRecDepth 65536 in
theorem w_c3 : (Jvm.Cond.code ({ cls := "java/lang/String", name := "<init>", desc := "([CIILjava/lang/Void;)V" } : Jvm.MethodName) jdk_42_method_149_code (6 : Nat) (Option.none : Option Jvm.ClassFile.FieldType)).before args0 about1 = true := code_word (m := ⟨7, 4⟩) (meth := k7m4) (c := k7c4) (by decide +kernel) rfl rfl rfl (by decide +kernel)
set_option maxRecDepth 65536 in
theorem w_c4 : (Jvm.Cond.code ({ cls := "java/lang/Object", name := "<init>", desc := "()V" } : Jvm.MethodName) object_method_1_code (1 : Nat) (Option.none : Option Jvm.ClassFile.FieldType)).before args0 about1 = true := code_word (m := ⟨0, 0⟩) (meth := k0m0) (c := k0c0) (by decide +kernel) rfl rfl rfl (by decide +kernel)
set_option maxRecDepth 65536 in
theorem w_c5 : (Jvm.Cond.code ({ cls := "java/lang/StringUTF16", name := "compress", desc := "([CII)[B" } : Jvm.MethodName) jdk_52_method_16_code (6 : Nat) (Option.some (Jvm.ClassFile.FieldType.array Jvm.ClassFile.FieldType.byte))).before args0 about1 = true := code_word (m := ⟨8, 2⟩) (meth := k8m2) (c := k8c2) (by decide +kernel) rfl rfl rfl (by decide +kernel)
set_option maxRecDepth 65536 in
theorem w_c6 : (Jvm.Cond.code ({ cls := "java/lang/StringUTF16", name := "compress", desc := "([CI[BII)I" } : Jvm.MethodName) jdk_52_method_21_code (7 : Nat) (Option.some Jvm.ClassFile.FieldType.int)).before args0 about1 = true := code_word (m := ⟨8, 3⟩) (meth := k8m3) (c := k8c3) (by decide +kernel) rfl rfl rfl (by decide +kernel)
set_option maxRecDepth 65536 in
theorem w_c7 : (Jvm.Cond.code ({ cls := "java/lang/StringUTF16", name := "coderFromArrayLen", desc := "([BI)B" } : Jvm.MethodName) jdk_52_method_15_code (2 : Nat) (Option.some Jvm.ClassFile.FieldType.byte)).before args0 about1 = true := code_word (m := ⟨8, 1⟩) (meth := k8m1) (c := k8c1) (by decide +kernel) rfl rfl rfl (by decide +kernel)
set_option maxRecDepth 65536 in
theorem w_c8 : (Jvm.Cond.code ({ cls := "com/example/vestline/vestline/Figure", name := "text", desc := "(Ljava/lang/String;Ljava/lang/String;Ljava/lang/String;)Lcom/example/vestline/vestline/Figure;" } : Jvm.MethodName) prog_13_method_5_code (3 : Nat) (Option.some (Jvm.ClassFile.FieldType.object "com/example/vestline/vestline/Figure"))).before args0 about1 = true := code_word (m := ⟨9, 1⟩) (meth := k9m1) (c := k9c1) (by decide +kernel) rfl rfl rfl (by decide +kernel)
set_option maxRecDepth 65536 in
theorem w_c9 : (Jvm.Cond.code ({ cls := "com/example/vestline/vestline/Figure", name := "<init>", desc := "(Ljava/lang/String;Ljava/lang/String;Lcom/example/vestline/vestline/Rational;Lcom/example/vestline/vestline/Money;Ljava/time/LocalDate;Ljava/lang/String;Ljava/util/List;)V" } : Jvm.MethodName) prog_13_method_1_code (8 : Nat) (Option.none : Option Jvm.ClassFile.FieldType)).before args0 about1 = true := code_word (m := ⟨9, 0⟩) (meth := k9m0) (c := k9c0) (by decide +kernel) rfl rfl rfl (by decide +kernel)
set_option maxRecDepth 65536 in
theorem w_c10 : (Jvm.Cond.code ({ cls := "com/example/vestline/vestline/Figure", name := "name", desc := "()Ljava/lang/String;" } : Jvm.MethodName) prog_13_method_7_code (1 : Nat) (Option.some (Jvm.ClassFile.FieldType.object "java/lang/String"))).before args0 about1 = true := code_word (m := ⟨9, 2⟩) (meth := k9m2) (c := k9c2) (by decide +kernel) rfl rfl rfl (by decide +kernel)
set_option maxRecDepth 65536 in
theorem w_c11 : (Jvm.Cond.code ({ cls := "java/lang/String", name := "equals", desc := "(Ljava/lang/Object;)Z" } : Jvm.MethodName) jdk_42_method_66_code (3 : Nat) (Option.some Jvm.ClassFile.FieldType.boolean)).before args0 about1 = true := code_word (m := ⟨7, 2⟩) (meth := k7m2) (c := k7c2) (by decide +kernel) rfl rfl rfl (by decide +kernel)
set_option maxRecDepth 65536 in
theorem w_c12 : (Jvm.Cond.code ({ cls := "com/example/vestline/vestline/Figure", name := "section", desc := "()Ljava/lang/String;" } : Jvm.MethodName) prog_13_method_8_code (1 : Nat) (Option.some (Jvm.ClassFile.FieldType.object "java/lang/String"))).before args0 about1 = true := code_word (m := ⟨9, 3⟩) (meth := k9m3) (c := k9c3) (by decide +kernel) rfl rfl rfl (by decide +kernel)
set_option maxRecDepth 65536 in
theorem w_c13 : (Jvm.Cond.code ({ cls := "com/example/vestline/vestline/Figure", name := "isText", desc := "()Z" } : Jvm.MethodName) prog_13_method_9_code (1 : Nat) (Option.some Jvm.ClassFile.FieldType.boolean)).before args0 about1 = true := code_word (m := ⟨9, 4⟩) (meth := k9m4) (c := k9c4) (by decide +kernel) rfl rfl rfl (by decide +kernel)
set_option maxRecDepth 65536 in
theorem w_c14 : (Jvm.Cond.code ({ cls := "com/example/vestline/vestline/Figure", name := "isDate", desc := "()Z" } : Jvm.MethodName) prog_13_method_10_code (1 : Nat) (Option.some Jvm.ClassFile.FieldType.boolean)).before args0 about1 = true := code_word (m := ⟨9, 5⟩) (meth := k9m5) (c := k9c5) (by decide +kernel) rfl rfl rfl (by decide +kernel)
set_option maxRecDepth 65536 in
theorem w_c15 : (Jvm.Cond.code ({ cls := "com/example/vestline/vestline/Figure", name := "value", desc := "()Ljava/lang/String;" } : Jvm.MethodName) prog_13_method_15_code (2 : Nat) (Option.some (Jvm.ClassFile.FieldType.object "java/lang/String"))).before args0 about1 = true := code_word (m := ⟨9, 8⟩) (meth := k9m8) (c := k9c8) (by decide +kernel) rfl rfl rfl (by decide +kernel)
set_option maxRecDepth 65536 in
theorem w_c16 : (Jvm.Cond.code ({ cls := "com/example/vestline/vestline/Figure", name := "years", desc := "()Ljava/util/List;" } : Jvm.MethodName) prog_13_method_13_code (1 : Nat) (Option.some (Jvm.ClassFile.FieldType.object "java/util/List"))).before args0 about1 = true := code_word (m := ⟨9, 6⟩) (meth := k9m6) (c := k9c6) (by decide +kernel) rfl rfl rfl (by decide +kernel)
set_option maxRecDepth 65536 in
theorem w_c17 : (Jvm.Cond.code ({ cls := "com/example/vestline/vestline/Figure", name := "exact", desc := "()Lcom/example/vestline/vestline/Rational;" } : Jvm.MethodName) prog_13_method_14_code (1 : Nat) (Option.some (Jvm.ClassFile.FieldType.object "com/example/vestline/vestline/Rational"))).before args0 about1 = true := code_word (m := ⟨9, 7⟩) (meth := k9m7) (c := k9c7) (by decide +kernel) rfl rfl rfl (by decide +kernel)
set_option maxRecDepth 65536 in
theorem w_c18 : (Jvm.Cond.code ({ cls := "java/lang/String", name := "valueOf", desc := "(C)Ljava/lang/String;" } : Jvm.MethodName) jdk_42_method_139_code (1 : Nat) (Option.some (Jvm.ClassFile.FieldType.object "java/lang/String"))).before args0 about1 = true := code_word (m := ⟨7, 3⟩) (meth := k7m3) (c := k7c3) (by decide +kernel) rfl rfl rfl (by decide +kernel)
set_option maxRecDepth 65536 in
theorem w_c19 : (Jvm.Cond.code ({ cls := "java/lang/StringLatin1", name := "canEncode", desc := "(C)Z" } : Jvm.MethodName) jdk_43_method_3_code (1 : Nat) (Option.some Jvm.ClassFile.FieldType.boolean)).before args0 about1 = true := code_word (m := ⟨10, 1⟩) (meth := k10m1) (c := k10c1) (by decide +kernel) rfl rfl rfl (by decide +kernel)
set_option maxRecDepth 65536 in
theorem w_c20 : (Jvm.Cond.code ({ cls := "java/lang/StringLatin1", name := "toBytes", desc := "(C)[B" } : Jvm.MethodName) jdk_43_method_46_code (1 : Nat) (Option.some (Jvm.ClassFile.FieldType.array Jvm.ClassFile.FieldType.byte))).before args0 about1 = true := code_word (m := ⟨10, 2⟩) (meth := k10m2) (c := k10c2) (by decide +kernel) rfl rfl rfl (by decide +kernel)
set_option maxRecDepth 65536 in
theorem w_c21 : (Jvm.Cond.code ({ cls := "java/lang/String", name := "<init>", desc := "([BB)V" } : Jvm.MethodName) jdk_42_method_151_code (3 : Nat) (Option.none : Option Jvm.ClassFile.FieldType)).before args0 about1 = true := code_word (m := ⟨7, 5⟩) (meth := k7m5) (c := k7c5) (by decide +kernel) rfl rfl rfl (by decide +kernel)
def codes1 : List Jvm.Cond := [Jvm.Cond.code x code maxLocals ret, Jvm.Cond.code ({ cls := "com/example/vestline/vestline/FigureTextPinLaw", name := "str", desc := "(I)Ljava/lang/String;" } : Jvm.MethodName) method_2_code (6 : Nat) (Option.some (Jvm.ClassFile.FieldType.object "java/lang/String")), Jvm.Cond.code ({ cls := "java/lang/String", name := "<init>", desc := "([C)V" } : Jvm.MethodName) jdk_42_method_3_code (2 : Nat) (Option.none : Option Jvm.ClassFile.FieldType), Jvm.Cond.code ({ cls := "java/lang/String", name := "<init>", desc := "([CIILjava/lang/Void;)V" } : Jvm.MethodName) jdk_42_method_149_code (6 : Nat) (Option.none : Option Jvm.ClassFile.FieldType), Jvm.Cond.code ({ cls := "java/lang/Object", name := "<init>", desc := "()V" } : Jvm.MethodName) object_method_1_code (1 : Nat) (Option.none : Option Jvm.ClassFile.FieldType), Jvm.Cond.code ({ cls := "java/lang/StringUTF16", name := "compress", desc := "([CII)[B" } : Jvm.MethodName) jdk_52_method_16_code (6 : Nat) (Option.some (Jvm.ClassFile.FieldType.array Jvm.ClassFile.FieldType.byte)), Jvm.Cond.code ({ cls := "java/lang/StringUTF16", name := "compress", desc := "([CI[BII)I" } : Jvm.MethodName) jdk_52_method_21_code (7 : Nat) (Option.some Jvm.ClassFile.FieldType.int), Jvm.Cond.code ({ cls := "java/lang/StringUTF16", name := "coderFromArrayLen", desc := "([BI)B" } : Jvm.MethodName) jdk_52_method_15_code (2 : Nat) (Option.some Jvm.ClassFile.FieldType.byte), Jvm.Cond.code ({ cls := "com/example/vestline/vestline/Figure", name := "text", desc := "(Ljava/lang/String;Ljava/lang/String;Ljava/lang/String;)Lcom/example/vestline/vestline/Figure;" } : Jvm.MethodName) prog_13_method_5_code (3 : Nat) (Option.some (Jvm.ClassFile.FieldType.object "com/example/vestline/vestline/Figure")), Jvm.Cond.code ({ cls := "com/example/vestline/vestline/Figure", name := "<init>", desc := "(Ljava/lang/String;Ljava/lang/String;Lcom/example/vestline/vestline/Rational;Lcom/example/vestline/vestline/Money;Ljava/time/LocalDate;Ljava/lang/String;Ljava/util/List;)V" } : Jvm.MethodName) prog_13_method_1_code (8 : Nat) (Option.none : Option Jvm.ClassFile.FieldType), Jvm.Cond.code ({ cls := "com/example/vestline/vestline/Figure", name := "name", desc := "()Ljava/lang/String;" } : Jvm.MethodName) prog_13_method_7_code (1 : Nat) (Option.some (Jvm.ClassFile.FieldType.object "java/lang/String")), Jvm.Cond.code ({ cls := "java/lang/String", name := "equals", desc := "(Ljava/lang/Object;)Z" } : Jvm.MethodName) jdk_42_method_66_code (3 : Nat) (Option.some Jvm.ClassFile.FieldType.boolean), Jvm.Cond.code ({ cls := "com/example/vestline/vestline/Figure", name := "section", desc := "()Ljava/lang/String;" } : Jvm.MethodName) prog_13_method_8_code (1 : Nat) (Option.some (Jvm.ClassFile.FieldType.object "java/lang/String")), Jvm.Cond.code ({ cls := "com/example/vestline/vestline/Figure", name := "isText", desc := "()Z" } : Jvm.MethodName) prog_13_method_9_code (1 : Nat) (Option.some Jvm.ClassFile.FieldType.boolean), Jvm.Cond.code ({ cls := "com/example/vestline/vestline/Figure", name := "isDate", desc := "()Z" } : Jvm.MethodName) prog_13_method_10_code (1 : Nat) (Option.some Jvm.ClassFile.FieldType.boolean), Jvm.Cond.code ({ cls := "com/example/vestline/vestline/Figure", name := "value", desc := "()Ljava/lang/String;" } : Jvm.MethodName) prog_13_method_15_code (2 : Nat) (Option.some (Jvm.ClassFile.FieldType.object "java/lang/String")), Jvm.Cond.code ({ cls := "com/example/vestline/vestline/Figure", name := "years", desc := "()Ljava/util/List;" } : Jvm.MethodName) prog_13_method_13_code (1 : Nat) (Option.some (Jvm.ClassFile.FieldType.object "java/util/List")), Jvm.Cond.code ({ cls := "com/example/vestline/vestline/Figure", name := "exact", desc := "()Lcom/example/vestline/vestline/Rational;" } : Jvm.MethodName) prog_13_method_14_code (1 : Nat) (Option.some (Jvm.ClassFile.FieldType.object "com/example/vestline/vestline/Rational")), Jvm.Cond.code ({ cls := "java/lang/String", name := "valueOf", desc := "(C)Ljava/lang/String;" } : Jvm.MethodName) jdk_42_method_139_code (1 : Nat) (Option.some (Jvm.ClassFile.FieldType.object "java/lang/String")), Jvm.Cond.code ({ cls := "java/lang/StringLatin1", name := "canEncode", desc := "(C)Z" } : Jvm.MethodName) jdk_43_method_3_code (1 : Nat) (Option.some Jvm.ClassFile.FieldType.boolean), Jvm.Cond.code ({ cls := "java/lang/StringLatin1", name := "toBytes", desc := "(C)[B" } : Jvm.MethodName) jdk_43_method_46_code (1 : Nat) (Option.some (Jvm.ClassFile.FieldType.array Jvm.ClassFile.FieldType.byte)), Jvm.Cond.code ({ cls := "java/lang/String", name := "<init>", desc := "([BB)V" } : Jvm.MethodName) jdk_42_method_151_code (3 : Nat) (Option.none : Option Jvm.ClassFile.FieldType)]
set_option maxRecDepth 65536 in
theorem codes_eq : words1.filter isCode = codes1 := rfl
theorem w_codes : ∀ c ∈ words1.filter isCode, c.before args0 about1 = true := by
  rw [codes_eq]
  intro c hc
  simp only [codes1, List.mem_cons, List.not_mem_nil, or_false] at hc
  rcases hc with rfl | rfl | rfl | rfl | rfl | rfl | rfl | rfl | rfl | rfl | rfl | rfl | rfl | rfl | rfl | rfl | rfl | rfl | rfl | rfl | rfl | rfl
  · exact w_c0
  · exact w_c1
  · exact w_c2
  · exact w_c3
  · exact w_c4
  · exact w_c5
  · exact w_c6
  · exact w_c7
  · exact w_c8
  · exact w_c9
  · exact w_c10
  · exact w_c11
  · exact w_c12
  · exact w_c13
  · exact w_c14
  · exact w_c15
  · exact w_c16
  · exact w_c17
  · exact w_c18
  · exact w_c19
  · exact w_c20
  · exact w_c21
set_option maxRecDepth 65536 in
theorem w_t1 : (words1.take 24).all (fun c => isCode c || c.before args0 about1) = true := by decide +kernel
set_option maxRecDepth 65536 in
theorem w_t2 : ((words1.drop 24).take 24).all (fun c => isCode c || c.before args0 about1) = true := by decide +kernel
set_option maxRecDepth 65536 in
theorem w_t3 : (((words1.drop 24).drop 24).take 24).all (fun c => isCode c || c.before args0 about1) = true := by decide +kernel
set_option maxRecDepth 65536 in
theorem w_t4 : ((((words1.drop 24).drop 24).drop 24).take 24).all (fun c => isCode c || c.before args0 about1) = true := by decide +kernel
set_option maxRecDepth 65536 in
theorem w_t5 : ((((words1.drop 24).drop 24).drop 24).drop 24).all (fun c => isCode c || c.before args0 about1) = true := by decide +kernel
theorem w_tables : (allAtoms (Jvm.Cond.code x code maxLocals ret :: tables_1)).before args0 about1 = true := by
  rw [allAtoms_all]
  show words1.all (fun c => c.before args0 about1) = true
  refine all_split ?_ w_codes
  rw [← List.take_append_drop 24 words1, List.all_append, w_t1, ← List.take_append_drop 24 (words1.drop 24), List.all_append, w_t2, ← List.take_append_drop 24 ((words1.drop 24).drop 24), List.all_append, w_t3, ← List.take_append_drop 24 (((words1.drop 24).drop 24).drop 24), List.all_append, w_t4, w_t5]
  rfl
set_option maxRecDepth 65536 in
theorem w_rest : rest_1_c.before args0 about1 = true := by decide +kernel
set_option maxRecDepth 65536 in
theorem w_case : (Jvm.Cond.and given_1 narrow_1).before args0 about1 = true := by decide +kernel
set_option maxRecDepth 65536 in
theorem w_consts : constsHeld consts_1 about1 := Jvm.Lit.constsHeldB_iff.mp (by decide +kernel)
theorem w_applies : (headSpec (Jvm.Cond.code x code maxLocals ret :: tables_1) room_1).applies x e0.platform about1 = true :=
  (Spec.applies_iff w_frames).mpr ⟨w_running, w_runnable, w_alone, w_named, w_hears, w_ripe, w_room, w_tables⟩
theorem atStart : AtStart classFile x code maxLocals ret World_1 tables_1 room_1 Calls_1 rest_1 Pre_1 launch0 p0 e0 about1 theMethod args0 below0 :=
  ⟨lists_1, trivial, launch0.admits_env _ _ _, launch0.least_env, fairChoices_fair.cas, fairChoices_fair.clock, w_frames, w_args, w_heap, w_applies, ⟨w_consts, trivial⟩, w_rest, w_case⟩
end start1
theorem witness_1 : WitnessClaimed_1 := ⟨start1.p0, start1.e0, start1.about1, start1.theMethod, start1.args0, start1.below0, start1.atStart⟩
end Jvm.Pilot.@@N@@
