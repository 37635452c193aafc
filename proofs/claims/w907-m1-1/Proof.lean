import JvmDerived
import JvmDerived.Pilot.@@N@@Statement
import JvmDerived.Pilot.@@N@@Code
set_option linter.unusedVariables false
set_option linter.unusedSimpArgs false
@@BLOCK:LamKit.lean.txt@@
namespace Jvm.OwnW
open Sem ClassFile Op Lib Jvm.Stand Jvm.Free Jvm.LawKit Jvm.RoadKit
/-- false: nothing may have been interned; true: the wide word -/
def Md (w : Bool) (s : State) (vm0 : Vm) (n : Nat) : Prop := (w = false → vm0 = s.vm) ∧ ∃ k0, s.Since vm0 k0 ∧ k0 ≤ n
theorem Md.mono {w : Bool} {s : State} {vm0 : Vm} {n n' : Nat} (h : Md w s vm0 n) (q : n ≤ n') : Md w s vm0 n' := ⟨h.1, h.2.imp fun _ r => ⟨r.1, Nat.le_trans r.2 q⟩⟩
theorem Md.start (w : Bool) (s : State) (n : Nat) : Md w s s.vm n := ⟨fun _ => rfl, 0, (State.WarmedH.refl s).since 0, Nat.zero_le _⟩
def EndF (w : Bool) (s : State) (o : Outcome) (t : State) (L : List Loc) (k n : Nat) : Prop := match w with
  | false => FrameEnd s o t L k n
  | true => ReturnedEndW s o t L k n
abbrev Kx : Type := Bool × Program × Launch × Env × Room × State × MethodId × Array Value × List Frame × Method × Code × State × String × Nat × (Option Value → Heap → Prop)
abbrev Kx.w (κ : Kx) : Bool := κ.1
abbrev Kx.p (κ : Kx) : Program := κ.2.1
abbrev Kx.l (κ : Kx) : Launch := κ.2.2.1
abbrev Kx.e (κ : Kx) : Env := κ.2.2.2.1
abbrev Kx.R (κ : Kx) : Room := κ.2.2.2.2.1
abbrev Kx.s (κ : Kx) : State := κ.2.2.2.2.2.1
abbrev Kx.m (κ : Kx) : MethodId := κ.2.2.2.2.2.2.1
abbrev Kx.a (κ : Kx) : Array Value := κ.2.2.2.2.2.2.2.1
abbrev Kx.below (κ : Kx) : List Frame := κ.2.2.2.2.2.2.2.2.1
abbrev Kx.meth (κ : Kx) : Method := κ.2.2.2.2.2.2.2.2.2.1
abbrev Kx.c (κ : Kx) : Code := κ.2.2.2.2.2.2.2.2.2.2.1
abbrev Kx.Z (κ : Kx) : State := κ.2.2.2.2.2.2.2.2.2.2.2.1
abbrev Kx.own (κ : Kx) : String := κ.2.2.2.2.2.2.2.2.2.2.2.2.1
abbrev Kx.n0 (κ : Kx) : Nat := κ.2.2.2.2.2.2.2.2.2.2.2.2.2.1
abbrev Kx.Q (κ : Kx) : Option Value → Heap → Prop := κ.2.2.2.2.2.2.2.2.2.2.2.2.2.2
/-- the body's run from T with the frame g ends as κ.Q says -/
def Ends (κ : Kx) (T : State) (g : JFrame) : Prop := ∃ (t : State) (o : Outcome), Steps κ.p.tables κ.e κ.below (T.setTop g) t ∧ t.status = .running ∧ Ended t κ.below o ∧ ∃ v L, o = .returned v ∧ (κ.Q v t.heap ∧ Fr κ.n0 L) ∧ EndF κ.w κ.s o t L κ.R.cells κ.R.slots
def WP (κ : Kx) (h : Heap) (k n : Nat) (g : JFrame) : Prop :=
  ∀ (T : State) (locs : List Loc) (vm0 : Vm), Stand κ.p κ.l κ.e κ.R (κ.s.setVm vm0) κ.m κ.a κ.below κ.meth κ.c T locs k n → T.heap = h → Md κ.w κ.s vm0 h.size → κ.Z.Warmed39 vm0 → vm0.findClass κ.own = some κ.m.cls → Fr κ.n0 locs → Ends κ T g
/-- what stands fast through a body's walk -/
def Cx (κ : Kx) (w : Bool) (l : Launch) (Z : State) (own : String) (n0 : Nat) (rm : Room) (bytes : ByteArray) (maxL : Nat) (ret : Option FieldType) (nm : String) (Q : Option Value → Heap → Prop) : Prop :=
  κ.p.tables.exec = Jvm.exec ∧ κ.c.code = bytes ∧ κ.c.maxLocals = maxL ∧ κ.meth.sig.returnType = ret ∧ κ.meth.locks = false ∧ κ.meth.name = nm ∧ κ.w = w ∧ κ.l = l ∧ κ.Z = Z ∧ κ.own = own ∧ κ.n0 = n0 ∧ κ.R = rm ∧ κ.Q = Q
/-- a body's contract -/
def Met (w : Bool) (l : Launch) (Z : State) (y : MethodName) (bytes : ByteArray) (maxL : Nat) (ret : Option FieldType) (ws : List Cond) (rm : Room) (as' : Array Value) (h0 : Heap) (n0 : Nat) (Q : Option Value → Heap → Prop) : Prop :=
  MetFree l y (head1 (Cond.code y bytes maxL ret :: ws) rm) (fun a U => a = as' ∧ Z.Warmed39 U.vm ∧ U.heap = h0) (fun _ _ _ _ _ => True) (fun _ U o U' => ∃ v L, o = .returned v ∧ (Q v U'.heap ∧ Fr n0 L) ∧ EndF w U o U' L rm.cells rm.slots)
theorem Met.of {w : Bool} {l : Launch} {Z : State} {y : MethodName} {bytes : ByteArray} {maxL : Nat} {ret : Option FieldType} {ws : List Cond} {rm : Room} {as' : Array Value} {h0 : Heap} {n0 : Nat} {Q : Option Value → Heap → Prop} (hp : plainFor y = true)
    (body : ∀ κ : Kx, Cx κ w l Z y.cls n0 rm bytes maxL ret y.name Q → WP κ h0 0 0 (entryFrame κ.m as' maxL)) : Met w l Z y bytes maxL ret ws rm as' h0 n0 Q := by
  refine MetFree.of_bodySF hp hisR ?_
  intro p e s m args below meth c s₁ Bd hml0 hP hK
  obtain ⟨rfl, hZ, hh⟩ := hP
  exact body (w, p, l, e, rm, s, m, args, below, meth, c, Z, y.cls, n0, Q) ⟨Bd.exec, Bd.bytes, hml0, Bd.returns, Bd.notSynchronized, (name_of_methodNamed Bd.named Bd.method).1, rfl, rfl, rfl, rfl, rfl, rfl, rfl⟩ s₁ [] s.vm (Stand.of_body Bd) (by rw [← hh, Bd.state]; rfl) (Md.start _ _ _) hZ (findClass_of_methodNamed Bd.named) (Fr.nil n0)
theorem Met.ofN {w : Bool} {l : Launch} {Z : State} {y : MethodName} {bytes : ByteArray} {maxL : Nat} {ret : Option FieldType} {ws : List Cond} {rm : Room} {as' : Array Value} {h0 : Heap} {n0 : Nat} {Q : Option Value → Heap → Prop} (hp : plainFor y = true)
    (body : ∀ κ : Kx, Cx κ w l Z y.cls n0 rm bytes maxL ret y.name Q → Z.methodNamed? y = some κ.m → WP κ h0 0 0 (entryFrame κ.m as' maxL)) : Met w l Z y bytes maxL ret ws rm as' h0 n0 Q := by
  refine MetFree.of_bodySF hp hisR ?_
  intro p e s m args below meth c s₁ Bd hml0 hP hK
  obtain ⟨rfl, hZ, hh⟩ := hP
  have hN : Z.methodNamed? y = some m := by
    have q := State.methodNamed?_setVm hZ.alike y
    rw [show (Z.setVm s.vm).methodNamed? y = s.methodNamed? y from congrFun (State.methodNamed?_of_vm rfl) y] at q
    exact q.symm.trans Bd.named
  exact body (w, p, l, e, rm, s, m, args, below, meth, c, Z, y.cls, n0, Q) ⟨Bd.exec, Bd.bytes, hml0, Bd.returns, Bd.notSynchronized, (name_of_methodNamed Bd.named Bd.method).1, rfl, rfl, rfl, rfl, rfl, rfl, rfl⟩ hN s₁ [] s.vm (Stand.of_body Bd) (by rw [← hh, Bd.state]; rfl) (Md.start _ _ _) hZ (findClass_of_methodNamed Bd.named) (Fr.nil n0)
theorem EndF.widen {w : Bool} {s : State} {o : Outcome} {t : State} {L : List Loc} {k n : Nat} (h : EndF w s o t L k n) : ReturnedEndW s o t L k n := by
  cases w
  · exact ReturnedEndW.of_narrow h.1 h.2.1 h.2.2
  · exact h
section Rules
variable {κ : Kx} {w : Bool} {l : Launch} {Z : State} {own nm : String} {n0 : Nat} {rm : Room} {bytes : ByteArray} {maxL : Nat} {ret : Option FieldType} {Q : Option Value → Heap → Prop} {h h' : Heap} {k n k' n' : Nat} {pc pc' : Nat} {L L' : Array Slot} {S : List Value} {a0 : Array Value}
theorem WP.go {g g' : JFrame} (st : ∀ (T : State) (locs : List Loc) (vm0 : Vm), Stand κ.p κ.l κ.e κ.R (κ.s.setVm vm0) κ.m κ.a κ.below κ.meth κ.c T locs k n → T.heap = h → κ.Z.Warmed39 vm0 → vm0.findClass κ.own = some κ.m.cls → ∀ t, Steps κ.p.tables κ.e κ.below (T.setTop g') t → Steps κ.p.tables κ.e κ.below (T.setTop g) t)
    (H : WP κ h k n g') : WP κ h k n g := fun T locs vm0 X e M hZ ho N => by
  obtain ⟨t, o, h1, r⟩ := H T locs vm0 X e M hZ ho N
  exact ⟨t, o, st T locs vm0 X e hZ ho t h1, r⟩
theorem WP.frame {g g' : JFrame} (q : g = g') (H : WP κ h k n g') : WP κ h k n g := q ▸ H
theorem WP.more {g : JFrame} (H : WP κ h k' n' g) (hk : k ≤ k') (hn : n ≤ n') : WP κ h k n g := fun T locs vm0 X e M hZ ho N => H T locs vm0 (X.mono hk hn) e M hZ ho N
/-- a pure stretch with several roads that meet again -/
theorem WP.meet {g g' : JFrame} (H : WP κ h k n g' → WP κ h k n g) (K : WP κ h k n g') : WP κ h k n g := H K
theorem WP.iadd (K : Cx κ w l Z own n0 rm bytes maxL ret nm Q) {x y : Int32} (hd : decode bytes pc = .ok (.iadd, 1))  (hp : pc + 1 = pc') (H : WP κ h k n (mkF κ.m pc' L (.int (x + y) :: S))) : WP κ h k n (mkF κ.m pc L (.int y :: .int x :: S)) := by
  obtain ⟨hx, hby, -⟩ := K
  subst hp
  exact WP.go (fun T locs vm0 X e hZ ho t k => XS.iadd X.here hx rfl (hb hby hd) rfl k) H
theorem WP.isub (K : Cx κ w l Z own n0 rm bytes maxL ret nm Q) {x y : Int32} (hd : decode bytes pc = .ok (.isub, 1))  (hp : pc + 1 = pc') (H : WP κ h k n (mkF κ.m pc' L (.int (x - y) :: S))) : WP κ h k n (mkF κ.m pc L (.int y :: .int x :: S)) := by
  obtain ⟨hx, hby, -⟩ := K
  subst hp
  exact WP.go (fun T locs vm0 X e hZ ho t k => XS.isub X.here hx rfl (hb hby hd) rfl k) H
theorem WP.imul (K : Cx κ w l Z own n0 rm bytes maxL ret nm Q) {x y : Int32} (hd : decode bytes pc = .ok (.imul, 1))  (hp : pc + 1 = pc') (H : WP κ h k n (mkF κ.m pc' L (.int (x * y) :: S))) : WP κ h k n (mkF κ.m pc L (.int y :: .int x :: S)) := by
  obtain ⟨hx, hby, -⟩ := K
  subst hp
  exact WP.go (fun T locs vm0 X e hZ ho t k => XS.imul X.here hx rfl (hb hby hd) rfl k) H
theorem WP.iand (K : Cx κ w l Z own n0 rm bytes maxL ret nm Q) {x y : Int32} (hd : decode bytes pc = .ok (.iand, 1))  (hp : pc + 1 = pc') (H : WP κ h k n (mkF κ.m pc' L (.int (x &&& y) :: S))) : WP κ h k n (mkF κ.m pc L (.int y :: .int x :: S)) := by
  obtain ⟨hx, hby, -⟩ := K
  subst hp
  exact WP.go (fun T locs vm0 X e hZ ho t k => XS.iand X.here hx rfl (hb hby hd) rfl k) H
theorem WP.ixor (K : Cx κ w l Z own n0 rm bytes maxL ret nm Q) {x y : Int32} (hd : decode bytes pc = .ok (.ixor, 1))  (hp : pc + 1 = pc') (H : WP κ h k n (mkF κ.m pc' L (.int (x ^^^ y) :: S))) : WP κ h k n (mkF κ.m pc L (.int y :: .int x :: S)) := by
  obtain ⟨hx, hby, -⟩ := K
  subst hp
  exact WP.go (fun T locs vm0 X e hZ ho t k => XS.ixor X.here hx rfl (hb hby hd) rfl k) H
theorem WP.ior (K : Cx κ w l Z own n0 rm bytes maxL ret nm Q) {x y : Int32} (hd : decode bytes pc = .ok (.ior, 1))  (hp : pc + 1 = pc') (H : WP κ h k n (mkF κ.m pc' L (.int (x ||| y) :: S))) : WP κ h k n (mkF κ.m pc L (.int y :: .int x :: S)) := by
  obtain ⟨hx, hby, -⟩ := K
  subst hp
  exact WP.go (fun T locs vm0 X e hZ ho t k => XS.ior X.here hx rfl (hb hby hd) rfl k) H
theorem WP.ishl (K : Cx κ w l Z own n0 rm bytes maxL ret nm Q) {x y : Int32} (hd : decode bytes pc = .ok (.ishl, 1))  (hp : pc + 1 = pc') (H : WP κ h k n (mkF κ.m pc' L (.int (x <<< (y &&& 31)) :: S))) : WP κ h k n (mkF κ.m pc L (.int y :: .int x :: S)) := by
  obtain ⟨hx, hby, -⟩ := K
  subst hp
  exact WP.go (fun T locs vm0 X e hZ ho t k => XS.ishl X.here hx rfl (hb hby hd) rfl k) H
theorem WP.ishr (K : Cx κ w l Z own n0 rm bytes maxL ret nm Q) {x y : Int32} (hd : decode bytes pc = .ok (.ishr, 1))  (hp : pc + 1 = pc') (H : WP κ h k n (mkF κ.m pc' L (.int (x >>> (y &&& 31)) :: S))) : WP κ h k n (mkF κ.m pc L (.int y :: .int x :: S)) := by
  obtain ⟨hx, hby, -⟩ := K
  subst hp
  exact WP.go (fun T locs vm0 X e hZ ho t k => XS.ishr X.here hx rfl (hb hby hd) rfl k) H
theorem WP.iushr (K : Cx κ w l Z own n0 rm bytes maxL ret nm Q) {x y : Int32} (hd : decode bytes pc = .ok (.iushr, 1))  (hp : pc + 1 = pc') (H : WP κ h k n (mkF κ.m pc' L (.int ((x.toUInt32 >>> (y &&& 31).toUInt32).toInt32) :: S))) : WP κ h k n (mkF κ.m pc L (.int y :: .int x :: S)) := by
  obtain ⟨hx, hby, -⟩ := K
  subst hp
  exact WP.go (fun T locs vm0 X e hZ ho t k => XS.iushr X.here hx rfl (hb hby hd) rfl k) H
theorem WP.ladd (K : Cx κ w l Z own n0 rm bytes maxL ret nm Q) {x y : Int64} (hd : decode bytes pc = .ok (.ladd, 1))  (hp : pc + 1 = pc') (H : WP κ h k n (mkF κ.m pc' L (.long (x + y) :: S))) : WP κ h k n (mkF κ.m pc L (.long y :: .long x :: S)) := by
  obtain ⟨hx, hby, -⟩ := K
  subst hp
  exact WP.go (fun T locs vm0 X e hZ ho t k => XS.ladd X.here hx rfl (hb hby hd) rfl k) H
theorem WP.lsub (K : Cx κ w l Z own n0 rm bytes maxL ret nm Q) {x y : Int64} (hd : decode bytes pc = .ok (.lsub, 1))  (hp : pc + 1 = pc') (H : WP κ h k n (mkF κ.m pc' L (.long (x - y) :: S))) : WP κ h k n (mkF κ.m pc L (.long y :: .long x :: S)) := by
  obtain ⟨hx, hby, -⟩ := K
  subst hp
  exact WP.go (fun T locs vm0 X e hZ ho t k => XS.lsub X.here hx rfl (hb hby hd) rfl k) H
theorem WP.lmul (K : Cx κ w l Z own n0 rm bytes maxL ret nm Q) {x y : Int64} (hd : decode bytes pc = .ok (.lmul, 1))  (hp : pc + 1 = pc') (H : WP κ h k n (mkF κ.m pc' L (.long (x * y) :: S))) : WP κ h k n (mkF κ.m pc L (.long y :: .long x :: S)) := by
  obtain ⟨hx, hby, -⟩ := K
  subst hp
  exact WP.go (fun T locs vm0 X e hZ ho t k => XS.lmul X.here hx rfl (hb hby hd) rfl k) H
theorem WP.land (K : Cx κ w l Z own n0 rm bytes maxL ret nm Q) {x y : Int64} (hd : decode bytes pc = .ok (.land, 1))  (hp : pc + 1 = pc') (H : WP κ h k n (mkF κ.m pc' L (.long (x &&& y) :: S))) : WP κ h k n (mkF κ.m pc L (.long y :: .long x :: S)) := by
  obtain ⟨hx, hby, -⟩ := K
  subst hp
  exact WP.go (fun T locs vm0 X e hZ ho t k => XS.land X.here hx rfl (hb hby hd) rfl k) H
theorem WP.lor (K : Cx κ w l Z own n0 rm bytes maxL ret nm Q) {x y : Int64} (hd : decode bytes pc = .ok (.lor, 1))  (hp : pc + 1 = pc') (H : WP κ h k n (mkF κ.m pc' L (.long (x ||| y) :: S))) : WP κ h k n (mkF κ.m pc L (.long y :: .long x :: S)) := by
  obtain ⟨hx, hby, -⟩ := K
  subst hp
  exact WP.go (fun T locs vm0 X e hZ ho t k => XS.lor X.here hx rfl (hb hby hd) rfl k) H
theorem WP.lxor (K : Cx κ w l Z own n0 rm bytes maxL ret nm Q) {x y : Int64} (hd : decode bytes pc = .ok (.lxor, 1))  (hp : pc + 1 = pc') (H : WP κ h k n (mkF κ.m pc' L (.long (x ^^^ y) :: S))) : WP κ h k n (mkF κ.m pc L (.long y :: .long x :: S)) := by
  obtain ⟨hx, hby, -⟩ := K
  subst hp
  exact WP.go (fun T locs vm0 X e hZ ho t k => XS.lxor X.here hx rfl (hb hby hd) rfl k) H
theorem WP.idiv (K : Cx κ w l Z own n0 rm bytes maxL ret nm Q) {x y : Int32} (hd : decode bytes pc = .ok (.idiv, 1)) (hy : y ≠ 0) (hp : pc + 1 = pc') (H : WP κ h k n (mkF κ.m pc' L (.int (x / y) :: S))) : WP κ h k n (mkF κ.m pc L (.int y :: .int x :: S)) := by
  obtain ⟨hx, hby, -⟩ := K
  subst hp
  exact WP.go (fun T locs vm0 X e hZ ho t k => XS.idiv X.here hx rfl (hb hby hd) rfl hy k) H
theorem WP.irem (K : Cx κ w l Z own n0 rm bytes maxL ret nm Q) {x y : Int32} (hd : decode bytes pc = .ok (.irem, 1)) (hy : y ≠ 0) (hp : pc + 1 = pc') (H : WP κ h k n (mkF κ.m pc' L (.int (x % y) :: S))) : WP κ h k n (mkF κ.m pc L (.int y :: .int x :: S)) := by
  obtain ⟨hx, hby, -⟩ := K
  subst hp
  exact WP.go (fun T locs vm0 X e hZ ho t k => iremM X hx rfl (hb hby hd) rfl hy k) H
theorem WP.ldiv (K : Cx κ w l Z own n0 rm bytes maxL ret nm Q) {x y : Int64} (hd : decode bytes pc = .ok (.ldiv, 1)) (hy : y ≠ 0) (hp : pc + 1 = pc') (H : WP κ h k n (mkF κ.m pc' L (.long (x / y) :: S))) : WP κ h k n (mkF κ.m pc L (.long y :: .long x :: S)) := by
  obtain ⟨hx, hby, -⟩ := K
  subst hp
  exact WP.go (fun T locs vm0 X e hZ ho t k => XT.ldiv X.here hx rfl (hb hby hd) rfl hy k) H
theorem WP.lrem (K : Cx κ w l Z own n0 rm bytes maxL ret nm Q) {x y : Int64} (hd : decode bytes pc = .ok (.lrem, 1)) (hy : y ≠ 0) (hp : pc + 1 = pc') (H : WP κ h k n (mkF κ.m pc' L (.long (x % y) :: S))) : WP κ h k n (mkF κ.m pc L (.long y :: .long x :: S)) := by
  obtain ⟨hx, hby, -⟩ := K
  subst hp
  exact WP.go (fun T locs vm0 X e hZ ho t k => XT.lrem X.here hx rfl (hb hby hd) rfl hy (by rw [lrem_mod]; exact k)) H
theorem WP.ineg (K : Cx κ w l Z own n0 rm bytes maxL ret nm Q) {x : Int32} (hd : decode bytes pc = .ok (.ineg, 1))  (hp : pc + 1 = pc') (H : WP κ h k n (mkF κ.m pc' L (.int (-x) :: S))) : WP κ h k n (mkF κ.m pc L (.int x :: S)) := by
  obtain ⟨hx, hby, -⟩ := K
  subst hp
  exact WP.go (fun T locs vm0 X e hZ ho t k => XS.ineg X.here hx rfl (hb hby hd) rfl k) H
theorem WP.lneg (K : Cx κ w l Z own n0 rm bytes maxL ret nm Q) {x : Int64} (hd : decode bytes pc = .ok (.lneg, 1))  (hp : pc + 1 = pc') (H : WP κ h k n (mkF κ.m pc' L (.long (-x) :: S))) : WP κ h k n (mkF κ.m pc L (.long x :: S)) := by
  obtain ⟨hx, hby, -⟩ := K
  subst hp
  exact WP.go (fun T locs vm0 X e hZ ho t k => XT.lneg X.here hx rfl (hb hby hd) rfl k) H
theorem WP.lshl (K : Cx κ w l Z own n0 rm bytes maxL ret nm Q) {x : Int64} {y : Int32} (hd : decode bytes pc = .ok (.lshl, 1))  (hp : pc + 1 = pc') (H : WP κ h k n (mkF κ.m pc' L (.long (x <<< (y &&& 0x3f).toInt64) :: S))) : WP κ h k n (mkF κ.m pc L (.int y :: .long x :: S)) := by
  obtain ⟨hx, hby, -⟩ := K
  subst hp
  exact WP.go (fun T locs vm0 X e hZ ho t k => XS.lshl X.here hx rfl (hb hby hd) rfl k) H
theorem WP.lshr (K : Cx κ w l Z own n0 rm bytes maxL ret nm Q) {x : Int64} {y : Int32} (hd : decode bytes pc = .ok (.lshr, 1))  (hp : pc + 1 = pc') (H : WP κ h k n (mkF κ.m pc' L (.long (x >>> (y &&& 0x3f).toInt64) :: S))) : WP κ h k n (mkF κ.m pc L (.int y :: .long x :: S)) := by
  obtain ⟨hx, hby, -⟩ := K
  subst hp
  exact WP.go (fun T locs vm0 X e hZ ho t k => XS.lshr X.here hx rfl (hb hby hd) rfl k) H
theorem WP.lushr (K : Cx κ w l Z own n0 rm bytes maxL ret nm Q) {x : Int64} {y : Int32} (hd : decode bytes pc = .ok (.lushr, 1))  (hp : pc + 1 = pc') (H : WP κ h k n (mkF κ.m pc' L (.long ((x.toUInt64 >>> (y &&& 0x3f).toInt64.toUInt64).toInt64) :: S))) : WP κ h k n (mkF κ.m pc L (.int y :: .long x :: S)) := by
  obtain ⟨hx, hby, -⟩ := K
  subst hp
  exact WP.go (fun T locs vm0 X e hZ ho t k => XS.lushr X.here hx rfl (hb hby hd) rfl k) H
theorem WP.i2l (K : Cx κ w l Z own n0 rm bytes maxL ret nm Q) {x : Int32} (hd : decode bytes pc = .ok (.i2l, 1))  (hp : pc + 1 = pc') (H : WP κ h k n (mkF κ.m pc' L (.long (x.toInt64) :: S))) : WP κ h k n (mkF κ.m pc L (.int x :: S)) := by
  obtain ⟨hx, hby, -⟩ := K
  subst hp
  exact WP.go (fun T locs vm0 X e hZ ho t k => XS.i2l X.here hx rfl (hb hby hd) rfl k) H
theorem WP.l2i (K : Cx κ w l Z own n0 rm bytes maxL ret nm Q) {x : Int64} (hd : decode bytes pc = .ok (.l2i, 1))  (hp : pc + 1 = pc') (H : WP κ h k n (mkF κ.m pc' L (.int (x.toInt32) :: S))) : WP κ h k n (mkF κ.m pc L (.long x :: S)) := by
  obtain ⟨hx, hby, -⟩ := K
  subst hp
  exact WP.go (fun T locs vm0 X e hZ ho t k => XS.l2i X.here hx rfl (hb hby hd) rfl k) H
theorem WP.i2b (K : Cx κ w l Z own n0 rm bytes maxL ret nm Q) {x : Int32} (hd : decode bytes pc = .ok (.i2b, 1))  (hp : pc + 1 = pc') (H : WP κ h k n (mkF κ.m pc' L (.int (x.toInt8.toInt32) :: S))) : WP κ h k n (mkF κ.m pc L (.int x :: S)) := by
  obtain ⟨hx, hby, -⟩ := K
  subst hp
  exact WP.go (fun T locs vm0 X e hZ ho t k => XS.i2b X.here hx rfl (hb hby hd) rfl k) H
theorem WP.i2c (K : Cx κ w l Z own n0 rm bytes maxL ret nm Q) {x : Int32} (hd : decode bytes pc = .ok (.i2c, 1))  (hp : pc + 1 = pc') (H : WP κ h k n (mkF κ.m pc' L (.int (x.toUInt32.toUInt16.toUInt32.toInt32) :: S))) : WP κ h k n (mkF κ.m pc L (.int x :: S)) := by
  obtain ⟨hx, hby, -⟩ := K
  subst hp
  exact WP.go (fun T locs vm0 X e hZ ho t k => XS.i2c X.here hx rfl (hb hby hd) rfl k) H
theorem WP.i2s (K : Cx κ w l Z own n0 rm bytes maxL ret nm Q) {x : Int32} (hd : decode bytes pc = .ok (.i2s, 1))  (hp : pc + 1 = pc') (H : WP κ h k n (mkF κ.m pc' L (.int (x.toInt16.toInt32) :: S))) : WP κ h k n (mkF κ.m pc L (.int x :: S)) := by
  obtain ⟨hx, hby, -⟩ := K
  subst hp
  exact WP.go (fun T locs vm0 X e hZ ho t k => XS.i2s X.here hx rfl (hb hby hd) rfl k) H
theorem WP.lcmp (K : Cx κ w l Z own n0 rm bytes maxL ret nm Q) {x y : Int64} (hd : decode bytes pc = .ok (.lcmp, 1))  (hp : pc + 1 = pc') (H : WP κ h k n (mkF κ.m pc' L (.int (lcmpW x y) :: S))) : WP κ h k n (mkF κ.m pc L (.long y :: .long x :: S)) := by
  obtain ⟨hx, hby, -⟩ := K
  subst hp
  exact WP.go (fun T locs vm0 X e hZ ho t k => XS.lcmp X.here hx rfl (hb hby hd) rfl k) H
theorem WP.iconst (K : Cx κ w l Z own n0 rm bytes maxL ret nm Q) {i : Int} {v : Int32} (hd : decode bytes pc = .ok (.iconst i, 1)) (hv : Int32.ofInt i = v) (hp : pc + 1 = pc') (H : WP κ h k n (mkF κ.m pc' L (.int v :: S))) : WP κ h k n (mkF κ.m pc L (S)) := by
  obtain ⟨hx, hby, -⟩ := K
  subst hp
  exact WP.go (fun T locs vm0 X e hZ ho t k => XT.iconstV X.here hx rfl v (hb hby hd) hv k) H
theorem WP.bipush (K : Cx κ w l Z own n0 rm bytes maxL ret nm Q) {i : Int} {v : Int32} (hd : decode bytes pc = .ok (.bipush i, 2)) (hv : (Int8.ofInt i).toInt32 = v) (hp : pc + 2 = pc') (H : WP κ h k n (mkF κ.m pc' L (.int v :: S))) : WP κ h k n (mkF κ.m pc L (S)) := by
  obtain ⟨hx, hby, -⟩ := K
  subst hp
  exact WP.go (fun T locs vm0 X e hZ ho t k => XT.bipushV X.here hx rfl v (hb hby hd) hv k) H
theorem WP.sipush (K : Cx κ w l Z own n0 rm bytes maxL ret nm Q) {i : Int} {v : Int32} (hd : decode bytes pc = .ok (.sipush i, 3)) (hv : (Int16.ofInt i).toInt32 = v) (hp : pc + 3 = pc') (H : WP κ h k n (mkF κ.m pc' L (.int v :: S))) : WP κ h k n (mkF κ.m pc L (S)) := by
  obtain ⟨hx, hby, -⟩ := K
  subst hp
  exact WP.go (fun T locs vm0 X e hZ ho t k => XT.sipushV X.here hx rfl v (hb hby hd) hv k) H
theorem WP.lconst (K : Cx κ w l Z own n0 rm bytes maxL ret nm Q) {i : Fin 2} {v : Int64} (hd : decode bytes pc = .ok (.lconst i, 1)) (hv : Int64.ofNat i = v) (hp : pc + 1 = pc') (H : WP κ h k n (mkF κ.m pc' L (.long v :: S))) : WP κ h k n (mkF κ.m pc L (S)) := by
  obtain ⟨hx, hby, -⟩ := K
  subst hp
  exact WP.go (fun T locs vm0 X e hZ ho t k => XT.lconstV X.here hx rfl v (hb hby hd) hv k) H
theorem WP.aconst_null (K : Cx κ w l Z own n0 rm bytes maxL ret nm Q)  (hd : decode bytes pc = .ok (.aconst_null, 1))  (hp : pc + 1 = pc') (H : WP κ h k n (mkF κ.m pc' L (.null :: S))) : WP κ h k n (mkF κ.m pc L (S)) := by
  obtain ⟨hx, hby, -⟩ := K
  subst hp
  exact WP.go (fun T locs vm0 X e hZ ho t k => XS.aconstNull X.here hx rfl (hb hby hd) k) H
theorem WP.iloadN (K : Cx κ w l Z own n0 rm bytes maxL ret nm Q) {j : Fin 4} {v : Int32} (hd : decode bytes pc = .ok (.iload_n j, 1)) (hl : L[j.val]? = some (.val (.int v))) (hp : pc + 1 = pc') (H : WP κ h k n (mkF κ.m pc' L (.int v :: S))) : WP κ h k n (mkF κ.m pc L (S)) := by
  obtain ⟨hx, hby, -⟩ := K
  subst hp
  exact WP.go (fun T locs vm0 X e hZ ho t k => XS.iloadN X.here hx rfl (hb hby hd) hl k) H
theorem WP.iload (K : Cx κ w l Z own n0 rm bytes maxL ret nm Q) {j : Nat} {v : Int32} (hd : decode bytes pc = .ok (.iload j, 2)) (hl : L[j]? = some (.val (.int v))) (hp : pc + 2 = pc') (H : WP κ h k n (mkF κ.m pc' L (.int v :: S))) : WP κ h k n (mkF κ.m pc L (S)) := by
  obtain ⟨hx, hby, -⟩ := K
  subst hp
  exact WP.go (fun T locs vm0 X e hZ ho t k => XS.iload X.here hx rfl (hb hby hd) hl k) H
theorem WP.lloadN (K : Cx κ w l Z own n0 rm bytes maxL ret nm Q) {j : Fin 4} {v : Int64} (hd : decode bytes pc = .ok (.lload_n j, 1)) (hl : L[j.val]? = some (.val (.long v))) (hp : pc + 1 = pc') (H : WP κ h k n (mkF κ.m pc' L (.long v :: S))) : WP κ h k n (mkF κ.m pc L (S)) := by
  obtain ⟨hx, hby, -⟩ := K
  subst hp
  exact WP.go (fun T locs vm0 X e hZ ho t k => XT.lloadN X.here hx rfl (hb hby hd) hl k) H
theorem WP.lload (K : Cx κ w l Z own n0 rm bytes maxL ret nm Q) {j : Nat} {v : Int64} (hd : decode bytes pc = .ok (.lload j, 2)) (hl : L[j]? = some (.val (.long v))) (hp : pc + 2 = pc') (H : WP κ h k n (mkF κ.m pc' L (.long v :: S))) : WP κ h k n (mkF κ.m pc L (S)) := by
  obtain ⟨hx, hby, -⟩ := K
  subst hp
  exact WP.go (fun T locs vm0 X e hZ ho t k => XT.lload X.here hx rfl (hb hby hd) hl k) H
theorem WP.aloadN (K : Cx κ w l Z own n0 rm bytes maxL ret nm Q) {j : Fin 4} {v : Value} (hd : decode bytes pc = .ok (.aload_n j, 1)) (hl : L[j.val]? = some (.val v)) (hv : v.isRef = true) (hp : pc + 1 = pc') (H : WP κ h k n (mkF κ.m pc' L (v :: S))) : WP κ h k n (mkF κ.m pc L (S)) := by
  obtain ⟨hx, hby, -⟩ := K
  subst hp
  exact WP.go (fun T locs vm0 X e hZ ho t k => XS.aloadN X.here hx rfl (hb hby hd) hl hv k) H
theorem WP.aload (K : Cx κ w l Z own n0 rm bytes maxL ret nm Q) {j : Nat} {v : Value} (hd : decode bytes pc = .ok (.aload j, 2)) (hl : L[j]? = some (.val v)) (hv : v.isRef = true) (hp : pc + 2 = pc') (H : WP κ h k n (mkF κ.m pc' L (v :: S))) : WP κ h k n (mkF κ.m pc L (S)) := by
  obtain ⟨hx, hby, -⟩ := K
  subst hp
  exact WP.go (fun T locs vm0 X e hZ ho t k => XS.aload X.here hx rfl (hb hby hd) hl hv k) H
theorem WP.dloadN (K : Cx κ w l Z own n0 rm bytes maxL ret nm Q) {j : Fin 4} {v : UInt64} (hd : decode bytes pc = .ok (.dload_n j, 1)) (hl : L[j.val]? = some (.val (.double v))) (hp : pc + 1 = pc') (H : WP κ h k n (mkF κ.m pc' L (.double v :: S))) : WP κ h k n (mkF κ.m pc L (S)) := by
  obtain ⟨hx, hby, -⟩ := K
  subst hp
  exact WP.go (fun T locs vm0 X e hZ ho t k => XT.dloadN X.here hx rfl (hb hby hd) hl k) H
theorem WP.dload (K : Cx κ w l Z own n0 rm bytes maxL ret nm Q) {j : Nat} {v : UInt64} (hd : decode bytes pc = .ok (.dload j, 2)) (hl : L[j]? = some (.val (.double v))) (hp : pc + 2 = pc') (H : WP κ h k n (mkF κ.m pc' L (.double v :: S))) : WP κ h k n (mkF κ.m pc L (S)) := by
  obtain ⟨hx, hby, -⟩ := K
  subst hp
  exact WP.go (fun T locs vm0 X e hZ ho t k => XT.dload X.here hx rfl (hb hby hd) hl k) H
theorem WP.dup (K : Cx κ w l Z own n0 rm bytes maxL ret nm Q) {x : Value} (hd : decode bytes pc = .ok (.dup, 1)) (hc : x.category = 1) (hp : pc + 1 = pc') (H : WP κ h k n (mkF κ.m pc' L (x :: x :: S))) : WP κ h k n (mkF κ.m pc L (x :: S)) := by
  obtain ⟨hx, hby, -⟩ := K
  subst hp
  exact WP.go (fun T locs vm0 X e hZ ho t k => XS.dup X.here hx rfl (hb hby hd) rfl hc k) H
theorem WP.pop (K : Cx κ w l Z own n0 rm bytes maxL ret nm Q) {x : Value} (hd : decode bytes pc = .ok (.pop, 1)) (hc : x.category = 1) (hp : pc + 1 = pc') (H : WP κ h k n (mkF κ.m pc' L (S))) : WP κ h k n (mkF κ.m pc L (x :: S)) := by
  obtain ⟨hx, hby, -⟩ := K
  subst hp
  exact WP.go (fun T locs vm0 X e hZ ho t k => XT.pop X.here hx rfl (hb hby hd) rfl hc k) H
theorem WP.dup_x1 (K : Cx κ w l Z own n0 rm bytes maxL ret nm Q) {x y : Value} (hd : decode bytes pc = .ok (.dup_x1, 1)) (hc : x.category = 1) (hc' : y.category = 1) (hp : pc + 1 = pc') (H : WP κ h k n (mkF κ.m pc' L (x :: y :: x :: S))) : WP κ h k n (mkF κ.m pc L (x :: y :: S)) := by
  obtain ⟨hx, hby, -⟩ := K
  subst hp
  exact WP.go (fun T locs vm0 X e hZ ho t k => XT.dupX1 X.here hx rfl (hb hby hd) rfl hc hc' k) H
theorem WP.dup2 (K : Cx κ w l Z own n0 rm bytes maxL ret nm Q) {x y : Value} (hd : decode bytes pc = .ok (.dup2, 1)) (hc : x.category = 1) (hc' : y.category = 1) (hp : pc + 1 = pc') (H : WP κ h k n (mkF κ.m pc' L (x :: y :: x :: y :: S))) : WP κ h k n (mkF κ.m pc L (x :: y :: S)) := by
  obtain ⟨hx, hby, -⟩ := K
  subst hp
  exact WP.go (fun T locs vm0 X e hZ ho t k => XT.dup2 X.here hx rfl (hb hby hd) rfl hc hc' k) H
theorem WP.dup2L (K : Cx κ w l Z own n0 rm bytes maxL ret nm Q) {x : Int64} (hd : decode bytes pc = .ok (.dup2, 1))  (hp : pc + 1 = pc') (H : WP κ h k n (mkF κ.m pc' L (.long x :: .long x :: S))) : WP κ h k n (mkF κ.m pc L (.long x :: S)) := by
  obtain ⟨hx, hby, -⟩ := K
  subst hp
  exact WP.go (fun T locs vm0 X e hZ ho t k => XT.dup2L X.here hx rfl (hb hby hd) rfl k) H
theorem WP.i2d (K : Cx κ w l Z own n0 rm bytes maxL ret nm Q) {x : Int32} (hd : decode bytes pc = .ok (.i2d, 1))  (hp : pc + 1 = pc') (H : WP κ h k n (mkF κ.m pc' L (.double (FP.i2d x) :: S))) : WP κ h k n (mkF κ.m pc L (.int x :: S)) := by
  obtain ⟨hx, hby, -⟩ := K
  subst hp
  exact WP.go (fun T locs vm0 X e hZ ho t k => Jvm.Free.XS.i2dS X.here hx rfl (hb hby hd) rfl rfl k) H
theorem WP.l2d (K : Cx κ w l Z own n0 rm bytes maxL ret nm Q) {x : Int64} (hd : decode bytes pc = .ok (.l2d, 1))  (hp : pc + 1 = pc') (H : WP κ h k n (mkF κ.m pc' L (.double (FP.l2d x) :: S))) : WP κ h k n (mkF κ.m pc L (.long x :: S)) := by
  obtain ⟨hx, hby, -⟩ := K
  subst hp
  exact WP.go (fun T locs vm0 X e hZ ho t k => Jvm.Free.XS.l2dS X.here hx rfl (hb hby hd) rfl rfl k) H
theorem WP.dcmp (K : Cx κ w l Z own n0 rm bytes maxL ret nm Q) {o : CmpOp} {x y : UInt64} (hd : decode bytes pc = .ok (.dcmp o, 1))  (hp : pc + 1 = pc') (H : WP κ h k n (mkF κ.m pc' L (.int (cmpValue (FP.dcmp x y) o) :: S))) : WP κ h k n (mkF κ.m pc L (.double y :: .double x :: S)) := by
  obtain ⟨hx, hby, -⟩ := K
  subst hp
  exact WP.go (fun T locs vm0 X e hZ ho t k => Jvm.Free.XS.dcmpS X.here hx rfl (hb hby hd) rfl rfl k) H
theorem WP.dconst0 (K : Cx κ w l Z own n0 rm bytes maxL ret nm Q) {v : UInt64} (hd : decode bytes pc = .ok (.dconst 0, 1)) (hv : FP.dconst0 = v) (hp : pc + 1 = pc') (H : WP κ h k n (mkF κ.m pc' L (.double v :: S))) : WP κ h k n (mkF κ.m pc L (S)) := by
  obtain ⟨hx, hby, -⟩ := K
  subst hp
  exact WP.go (fun T locs vm0 X e hZ ho t k => Jvm.Free.XS.dconst0 X.here hx rfl (hb hby hd) hv k) H
theorem WP.dconst1 (K : Cx κ w l Z own n0 rm bytes maxL ret nm Q) {v : UInt64} (hd : decode bytes pc = .ok (.dconst 1, 1)) (hv : FP.dconst1 = v) (hp : pc + 1 = pc') (H : WP κ h k n (mkF κ.m pc' L (.double v :: S))) : WP κ h k n (mkF κ.m pc L (S)) := by
  obtain ⟨hx, hby, -⟩ := K
  subst hp
  exact WP.go (fun T locs vm0 X e hZ ho t k => Jvm.Free.XS.dconst1 X.here hx rfl (hb hby hd) hv k) H
theorem WP.ddiv (K : Cx κ w l Z own n0 rm bytes maxL ret nm Q) {x y : UInt64} (hd : decode bytes pc = .ok (.ddiv, 1)) (hn : Jvm.Free.Fl.NoNaN64 (FP.ddiv x y)) (hp : pc + 1 = pc') (H : WP κ h k n (mkF κ.m pc' L (.double (FP.ddiv x y) :: S))) : WP κ h k n (mkF κ.m pc L (.double y :: .double x :: S)) := by
  obtain ⟨hx, hby, -⟩ := K
  subst hp
  exact WP.go (fun T locs vm0 X e hZ ho t k => Jvm.Free.XS.ddivS X.here hx rfl (hb hby hd) rfl hn rfl k) H
theorem WP.istoreN (K : Cx κ w l Z own n0 rm bytes maxL ret nm Q) {j : Fin 4} {x : Int32} (hd : decode bytes pc = .ok (.istore_n j, 1))  (hl : storeLocals L j.val (.int x) = some L') (hp : pc + 1 = pc') (H : WP κ h k n (mkF κ.m pc' L' S)) : WP κ h k n (mkF κ.m pc L ((.int x) :: S)) := by
  obtain ⟨hx, hby, -⟩ := K
  subst hp
  exact WP.go (fun T locs vm0 X e hZ ho t k => XS.istoreN X.here hx rfl (hb hby hd) rfl hl k) H
theorem WP.istore (K : Cx κ w l Z own n0 rm bytes maxL ret nm Q) {j : Nat} {x : Int32} (hd : decode bytes pc = .ok (.istore j, 2))  (hl : storeLocals L j (.int x) = some L') (hp : pc + 2 = pc') (H : WP κ h k n (mkF κ.m pc' L' S)) : WP κ h k n (mkF κ.m pc L ((.int x) :: S)) := by
  obtain ⟨hx, hby, -⟩ := K
  subst hp
  exact WP.go (fun T locs vm0 X e hZ ho t k => XS.istore X.here hx rfl (hb hby hd) rfl hl k) H
theorem WP.lstoreN (K : Cx κ w l Z own n0 rm bytes maxL ret nm Q) {j : Fin 4} {x : Int64} (hd : decode bytes pc = .ok (.lstore_n j, 1))  (hl : storeLocals L j.val (.long x) = some L') (hp : pc + 1 = pc') (H : WP κ h k n (mkF κ.m pc' L' S)) : WP κ h k n (mkF κ.m pc L ((.long x) :: S)) := by
  obtain ⟨hx, hby, -⟩ := K
  subst hp
  exact WP.go (fun T locs vm0 X e hZ ho t k => XT.lstoreN X.here hx rfl (hb hby hd) rfl hl k) H
theorem WP.lstore (K : Cx κ w l Z own n0 rm bytes maxL ret nm Q) {j : Nat} {x : Int64} (hd : decode bytes pc = .ok (.lstore j, 2))  (hl : storeLocals L j (.long x) = some L') (hp : pc + 2 = pc') (H : WP κ h k n (mkF κ.m pc' L' S)) : WP κ h k n (mkF κ.m pc L ((.long x) :: S)) := by
  obtain ⟨hx, hby, -⟩ := K
  subst hp
  exact WP.go (fun T locs vm0 X e hZ ho t k => XT.lstore X.here hx rfl (hb hby hd) rfl hl k) H
theorem WP.astoreN (K : Cx κ w l Z own n0 rm bytes maxL ret nm Q) {j : Fin 4} {x : Value} (hd : decode bytes pc = .ok (.astore_n j, 1)) (hv : x.isRef = true) (hl : storeLocals L j.val x = some L') (hp : pc + 1 = pc') (H : WP κ h k n (mkF κ.m pc' L' S)) : WP κ h k n (mkF κ.m pc L (x :: S)) := by
  obtain ⟨hx, hby, -⟩ := K
  subst hp
  exact WP.go (fun T locs vm0 X e hZ ho t k => XS.astoreN X.here hx rfl (hb hby hd) rfl hv hl k) H
theorem WP.astore (K : Cx κ w l Z own n0 rm bytes maxL ret nm Q) {j : Nat} {x : Value} (hd : decode bytes pc = .ok (.astore j, 2)) (hv : x.isRef = true) (hl : storeLocals L j x = some L') (hp : pc + 2 = pc') (H : WP κ h k n (mkF κ.m pc' L' S)) : WP κ h k n (mkF κ.m pc L (x :: S)) := by
  obtain ⟨hx, hby, -⟩ := K
  subst hp
  exact WP.go (fun T locs vm0 X e hZ ho t k => XS.astore X.here hx rfl (hb hby hd) rfl hv hl k) H
theorem WP.dstoreN (K : Cx κ w l Z own n0 rm bytes maxL ret nm Q) {j : Fin 4} {x : UInt64} (hd : decode bytes pc = .ok (.dstore_n j, 1))  (hl : storeLocals L j.val (.double x) = some L') (hp : pc + 1 = pc') (H : WP κ h k n (mkF κ.m pc' L' S)) : WP κ h k n (mkF κ.m pc L ((.double x) :: S)) := by
  obtain ⟨hx, hby, -⟩ := K
  subst hp
  exact WP.go (fun T locs vm0 X e hZ ho t k => Jvm.Free.XS.dstoreN X.here hx rfl (hb hby hd) rfl hl k) H
theorem WP.dstore (K : Cx κ w l Z own n0 rm bytes maxL ret nm Q) {j : Nat} {x : UInt64} (hd : decode bytes pc = .ok (.dstore j, 2))  (hl : storeLocals L j (.double x) = some L') (hp : pc + 2 = pc') (H : WP κ h k n (mkF κ.m pc' L' S)) : WP κ h k n (mkF κ.m pc L ((.double x) :: S)) := by
  obtain ⟨hx, hby, -⟩ := K
  subst hp
  exact WP.go (fun T locs vm0 X e hZ ho t k => Jvm.Free.XS.dstore X.here hx rfl (hb hby hd) rfl hl k) H
theorem WP.iinc (K : Cx κ w l Z own n0 rm bytes maxL ret nm Q) {j : Nat} {cst : Int} {x v : Int32} (hd : decode bytes pc = .ok (.iinc j cst, 3)) (hv : Int32.ofInt cst = v) (hl : L[j]? = some (.val (.int x))) (hl' : storeLocals L j (.int (x + v)) = some L') (hp : pc + 3 = pc') (H : WP κ h k n (mkF κ.m pc' L' S)) : WP κ h k n (mkF κ.m pc L S) := by
  obtain ⟨hx, hby, -⟩ := K
  subst hp
  exact WP.go (fun T locs vm0 X e hZ ho t k => XT.iincV X.here hx rfl v (hb hby hd) hv hl hl' k) H
theorem WP.goto (K : Cx κ w l Z own n0 rm bytes maxL ret nm Q) {o : Int} (hd : decode bytes pc = .ok (.goto o, 3)) (ho : 0 ≤ (pc : Int) + o) (hp : ((pc : Int) + o).toNat = pc') (H : WP κ h k n (mkF κ.m pc' L S)) : WP κ h k n (mkF κ.m pc L S) := by
  obtain ⟨hx, hby, -⟩ := K
  exact WP.go (fun T locs vm0 X e hZ ho' t k => XS.goto X.here hx rfl rfl (hb hby hd) ho hp k) H
theorem WP.if0T (K : Cx κ w l Z own n0 rm bytes maxL ret nm Q) {cd : ClassFile.Cond} {x : Int32} {o : Int} (hd : decode bytes pc = .ok (.ifCond cd o, 3)) (hc : ifCond.holds cd x = true) (ho : 0 ≤ (pc : Int) + o) (hp : ((pc : Int) + o).toNat = pc') (H : WP κ h k n (mkF κ.m pc' L S)) : WP κ h k n (mkF κ.m pc L (.int x :: S)) := by
  obtain ⟨hx, hby, -⟩ := K
  exact WP.go (fun T locs vm0 X e hZ ho' t k => XS.ifYes X.here hx rfl rfl (hb hby hd) rfl hc ho hp k) H
theorem WP.if0F (K : Cx κ w l Z own n0 rm bytes maxL ret nm Q) {cd : ClassFile.Cond} {x : Int32} {o : Int} (hd : decode bytes pc = .ok (.ifCond cd o, 3)) (hc : ifCond.holds cd x = false) (hp : pc + 3 = pc') (H : WP κ h k n (mkF κ.m pc' L S)) : WP κ h k n (mkF κ.m pc L (.int x :: S)) := by
  obtain ⟨hx, hby, -⟩ := K
  subst hp
  exact WP.go (fun T locs vm0 X e hZ ho' t k => XS.ifNo X.here hx rfl (hb hby hd) rfl hc k) H
theorem WP.icmpT (K : Cx κ w l Z own n0 rm bytes maxL ret nm Q) {cd : ClassFile.Cond} {x y : Int32} {o : Int} (hd : decode bytes pc = .ok (.if_icmp cd o, 3)) (hc : if_icmp.holds cd x y = true) (ho : 0 ≤ (pc : Int) + o) (hp : ((pc : Int) + o).toNat = pc') (H : WP κ h k n (mkF κ.m pc' L S)) : WP κ h k n (mkF κ.m pc L (.int y :: .int x :: S)) := by
  obtain ⟨hx, hby, -⟩ := K
  exact WP.go (fun T locs vm0 X e hZ ho' t k => XS.icmpYes X.here hx rfl rfl (hb hby hd) rfl hc ho hp k) H
theorem WP.icmpF (K : Cx κ w l Z own n0 rm bytes maxL ret nm Q) {cd : ClassFile.Cond} {x y : Int32} {o : Int} (hd : decode bytes pc = .ok (.if_icmp cd o, 3)) (hc : if_icmp.holds cd x y = false) (hp : pc + 3 = pc') (H : WP κ h k n (mkF κ.m pc' L S)) : WP κ h k n (mkF κ.m pc L (.int y :: .int x :: S)) := by
  obtain ⟨hx, hby, -⟩ := K
  subst hp
  exact WP.go (fun T locs vm0 X e hZ ho' t k => XS.icmpNo X.here hx rfl (hb hby hd) rfl hc k) H
theorem WP.acmpT (K : Cx κ w l Z own n0 rm bytes maxL ret nm Q) {cd : ClassFile.ACond} {x y : Value} {o : Int} (hd : decode bytes pc = .ok (.if_acmp cd o, 3)) (h1 : x.isRef = true) (h2 : y.isRef = true) (hc : XT.acmp cd x y = true) (ho : 0 ≤ (pc : Int) + o) (hp : ((pc : Int) + o).toNat = pc') (H : WP κ h k n (mkF κ.m pc' L S)) : WP κ h k n (mkF κ.m pc L (y :: x :: S)) := by
  obtain ⟨hx, hby, -⟩ := K
  exact WP.go (fun T locs vm0 X e hZ ho' t k => XT.acmpYes X.here hx rfl rfl (hb hby hd) rfl h1 h2 hc ho hp k) H
theorem WP.acmpF (K : Cx κ w l Z own n0 rm bytes maxL ret nm Q) {cd : ClassFile.ACond} {x y : Value} {o : Int} (hd : decode bytes pc = .ok (.if_acmp cd o, 3)) (h1 : x.isRef = true) (h2 : y.isRef = true) (hc : XT.acmp cd x y = false) (hp : pc + 3 = pc') (H : WP κ h k n (mkF κ.m pc' L S)) : WP κ h k n (mkF κ.m pc L (y :: x :: S)) := by
  obtain ⟨hx, hby, -⟩ := K
  subst hp
  exact WP.go (fun T locs vm0 X e hZ ho' t k => XT.acmpNo X.here hx rfl (hb hby hd) rfl h1 h2 hc k) H
theorem WP.ifnullT (K : Cx κ w l Z own n0 rm bytes maxL ret nm Q) {o : Int} {b : Addr} (hd : decode bytes pc = .ok (.ifnull o, 3)) (ho : 0 ≤ (pc : Int) + o) (hp : ((pc : Int) + o).toNat = pc') (H : WP κ h k n (mkF κ.m pc' L S)) : WP κ h k n (mkF κ.m pc L (.null :: S)) := by
  obtain ⟨hx, hby, -⟩ := K
  exact WP.go (fun T locs vm0 X e hZ ho' t k => XS.ifnullYes X.here hx rfl rfl (hb hby hd) rfl ho hp k) H
theorem WP.ifnullF (K : Cx κ w l Z own n0 rm bytes maxL ret nm Q) {o : Int} {b : Addr} (hd : decode bytes pc = .ok (.ifnull o, 3)) (hp : pc + 3 = pc') (H : WP κ h k n (mkF κ.m pc' L S)) : WP κ h k n (mkF κ.m pc L (.ref b :: S)) := by
  obtain ⟨hx, hby, -⟩ := K
  subst hp
  exact WP.go (fun T locs vm0 X e hZ ho' t k => XS.ifnullNo X.here hx rfl (hb hby hd) rfl k) H
theorem WP.ifnonnullT (K : Cx κ w l Z own n0 rm bytes maxL ret nm Q) {o : Int} {b : Addr} (hd : decode bytes pc = .ok (.ifnonnull o, 3)) (ho : 0 ≤ (pc : Int) + o) (hp : ((pc : Int) + o).toNat = pc') (H : WP κ h k n (mkF κ.m pc' L S)) : WP κ h k n (mkF κ.m pc L (.ref b :: S)) := by
  obtain ⟨hx, hby, -⟩ := K
  exact WP.go (fun T locs vm0 X e hZ ho' t k => XT.ifnonnullYes X.here hx rfl rfl (hb hby hd) rfl ho hp k) H
theorem WP.ifnonnullF (K : Cx κ w l Z own n0 rm bytes maxL ret nm Q) {o : Int} {b : Addr} (hd : decode bytes pc = .ok (.ifnonnull o, 3)) (hp : pc + 3 = pc') (H : WP κ h k n (mkF κ.m pc' L S)) : WP κ h k n (mkF κ.m pc L (.null :: S)) := by
  obtain ⟨hx, hby, -⟩ := K
  subst hp
  exact WP.go (fun T locs vm0 X e hZ ho' t k => XT.ifnonnullNo X.here hx rfl (hb hby hd) rfl k) H
theorem WP.ldcI (K : Cx κ w l Z own n0 rm bytes maxL ret nm Q) {i : Nat} {v : Int32} (wc : (Cond.constant own i v).before a0 Z = true) (hd : decode bytes pc = .ok (.ldc i, 2)) (hp : pc + 2 = pc') (H : WP κ h k n (mkF κ.m pc' L (.int v :: S))) : WP κ h k n (mkF κ.m pc L S) := by
  obtain ⟨hx, hby, -, -, -, -, -, -, rfl, rfl, -⟩ := K
  subst hp
  exact WP.go (fun T locs vm0 X e hZ ho t k => X.ldcInt hx (own := κ.own) ho (mvT (args := κ.a) (s := κ.s.setVm vm0) hZ wc) (g := mkF κ.m pc L S) rfl (hb hby hd) t k) H
theorem WP.ldcwI (K : Cx κ w l Z own n0 rm bytes maxL ret nm Q) {i : Nat} {v : Int32} (wc : (Cond.constant own i v).before a0 Z = true) (hd : decode bytes pc = .ok (.ldc_w i, 3)) (hp : pc + 3 = pc') (H : WP κ h k n (mkF κ.m pc' L (.int v :: S))) : WP κ h k n (mkF κ.m pc L S) := by
  obtain ⟨hx, hby, -, -, -, -, -, -, rfl, rfl, -⟩ := K
  subst hp
  exact WP.go (fun T locs vm0 X e hZ ho t k => X.ldcwInt hx (own := κ.own) ho (mvT (args := κ.a) (s := κ.s.setVm vm0) hZ wc) (g := mkF κ.m pc L S) rfl (hb hby hd) t k) H
theorem WP.ldc2J (K : Cx κ w l Z own n0 rm bytes maxL ret nm Q) {i : Nat} {v : Int64} (wc : (Cond.constantLong own i v).before a0 Z = true) (hd : decode bytes pc = .ok (.ldc2_w i, 3)) (hp : pc + 3 = pc') (H : WP κ h k n (mkF κ.m pc' L (.long v :: S))) : WP κ h k n (mkF κ.m pc L S) := by
  obtain ⟨hx, hby, -, -, -, -, -, -, rfl, rfl, -⟩ := K
  subst hp
  exact WP.go (fun T locs vm0 X e hZ ho t k => X.ldc2Long hx (own := κ.own) ho (mvT (args := κ.a) (s := κ.s.setVm vm0) hZ wc) (g := mkF κ.m pc L S) rfl (hb hby hd) t k) H
theorem WP.ldc2D (K : Cx κ w l Z own n0 rm bytes maxL ret nm Q) {i : Nat} {v : UInt64} (wc : (Cond.constantDouble own i v).before a0 Z = true) (hd : decode bytes pc = .ok (.ldc2_w i, 3)) (hp : pc + 3 = pc') (H : WP κ h k n (mkF κ.m pc' L (.double v :: S))) : WP κ h k n (mkF κ.m pc L S) := by
  obtain ⟨hx, hby, -, -, -, -, -, -, rfl, rfl, -⟩ := K
  subst hp
  exact WP.go (fun T locs vm0 X e hZ ho t k => X.ldc2DoubleC hx (own := κ.own) ho (mvT (args := κ.a) (s := κ.s.setVm vm0) hZ wc) (g := mkF κ.m pc L S) rfl (hb hby hd) t k) H
theorem Ends.of {T : State} {locs : List Loc} {vm0 : Vm} {v : Option Value} {g : JFrame} (X : Stand κ.p κ.l κ.e κ.R (κ.s.setVm vm0) κ.m κ.a κ.below κ.meth κ.c T locs k n) (M : Md κ.w κ.s vm0 T.heap.size) (N : Fr κ.n0 locs) (hv : κ.meth.sig.returnType = none → v = none) (hlk : κ.meth.locks = false) (hk : k ≤ κ.R.cells) (hn : n ≤ κ.R.slots) (hq : κ.Q v T.heap)
    (st : ∀ fs, (∀ (f : JFrame) (acts : List Action), f.method = κ.m → f.locked = none → f.entered = [] → (doReturn κ.e (T.setTop f) acts v).1 = T.setFrames fs) → Steps κ.p.tables κ.e κ.below (T.setTop g) (T.setFrames fs)) : Ends κ T g := by
  obtain ⟨k0, hS, hk0⟩ := M.2
  by_cases hw : κ.w = true
  · obtain ⟨fs, h1, h2, h3, h4⟩ := (X.mono hk hn).leaveW hS hk0 hv hlk
    exact ⟨_, _, st fs h1, h2, h3, v, locs, rfl, ⟨hq, N⟩, by rw [hw]; exact h4⟩
  · have hw' : κ.w = false := by simpa using hw
    have e := M.1 hw'
    subst e
    obtain ⟨fs, h1, h2, h3, h4, h5⟩ := (X.mono hk hn).leave hv hlk
    exact ⟨_, _, st fs h1, h2, h3, v, locs, rfl, ⟨hq, N⟩, by rw [hw']; exact ⟨⟨v, rfl⟩, h4, h5⟩⟩
theorem WP.ret0 (K : Cx κ w l Z own n0 rm bytes maxL none nm Q) (hd : decode bytes pc = .ok (.return_, 1)) (hk : k ≤ rm.cells) (hn : n ≤ rm.slots) (hq : Q none h) : WP κ h k n (mkF κ.m pc L ([])) := by
  obtain ⟨hx, hby, -, hr, hlk, -, -, -, rfl, rfl, rfl, rfl, rfl⟩ := K
  intro T locs vm0 X e M hZ ho N
  subst e
  exact Ends.of X M N (fun _ => rfl) hlk hk hn hq fun fs hl => X.returnOut hx hr (hb hby hd) hl
theorem WP.retI (K : Cx κ w l Z own n0 rm bytes maxL (some .int) nm Q) {z : Int32} (hd : decode bytes pc = .ok (.ireturn, 1)) (hk : k ≤ rm.cells) (hn : n ≤ rm.slots) (hq : Q (some (.int z)) h) : WP κ h k n (mkF κ.m pc L (.int z :: S)) := by
  obtain ⟨hx, hby, -, hr, hlk, -, -, -, rfl, rfl, rfl, rfl, rfl⟩ := K
  intro T locs vm0 X e M hZ ho N
  subst e
  exact Ends.of X M N (fun q => by rw [hr] at q; cases q) hlk hk hn hq fun fs hl => retOut X hx hr rfl (Or.inl ⟨rfl, Or.inl rfl, z, rfl⟩) (hb hby hd) hl
theorem WP.retJ (K : Cx κ w l Z own n0 rm bytes maxL (some .long) nm Q) {z : Int64} (hd : decode bytes pc = .ok (.lreturn, 1)) (hk : k ≤ rm.cells) (hn : n ≤ rm.slots) (hq : Q (some (.long z)) h) : WP κ h k n (mkF κ.m pc L (.long z :: S)) := by
  obtain ⟨hx, hby, -, hr, hlk, -, -, -, rfl, rfl, rfl, rfl, rfl⟩ := K
  intro T locs vm0 X e M hZ ho N
  subst e
  exact Ends.of X M N (fun q => by rw [hr] at q; cases q) hlk hk hn hq fun fs hl => retOut X hx hr rfl (Or.inr (Or.inl ⟨rfl, rfl, z, rfl⟩)) (hb hby hd) hl
theorem WP.retD (K : Cx κ w l Z own n0 rm bytes maxL (some .double) nm Q) {z : UInt64} (hd : decode bytes pc = .ok (.dreturn, 1)) (hk : k ≤ rm.cells) (hn : n ≤ rm.slots) (hq : Q (some (.double z)) h) : WP κ h k n (mkF κ.m pc L (.double z :: S)) := by
  obtain ⟨hx, hby, -, hr, hlk, -, -, -, rfl, rfl, rfl, rfl, rfl⟩ := K
  intro T locs vm0 X e M hZ ho N
  subst e
  exact Ends.of X M N (fun q => by rw [hr] at q; cases q) hlk hk hn hq fun fs hl => retOut X hx hr rfl (Or.inr (Or.inr (Or.inl ⟨rfl, rfl, z, rfl⟩))) (hb hby hd) hl
theorem WP.retR {ty : FieldType} (K : Cx κ w l Z own n0 rm bytes maxL (some ty) nm Q) {v : Value} (ht : ty.isReference = true) (hv : v.isRef = true) (hd : decode bytes pc = .ok (.areturn, 1)) (hk : k ≤ rm.cells) (hn : n ≤ rm.slots) (hq : Q (some v) h) : WP κ h k n (mkF κ.m pc L (v :: S)) := by
  obtain ⟨hx, hby, -, hr, hlk, -, -, -, rfl, rfl, rfl, rfl, rfl⟩ := K
  intro T locs vm0 X e M hZ ho N
  subst e
  exact Ends.of X M N (fun q => by rw [hr] at q; cases q) hlk hk hn hq fun fs hl => retOut X hx hr (by cases ty <;> first | rfl | (cases ht) | (rcases ref_cases hv with rfl | ⟨_, rfl⟩ <;> rfl)) (Or.inr (Or.inr (Or.inr (Or.inr ⟨rfl, ht, hv⟩)))) (hb hby hd) hl
theorem WP.retN {ty : FieldType} (K : Cx κ w l Z own n0 rm bytes maxL (some ty) nm Q) {z : Int32} (ht : ty = .boolean ∨ ty = .byte ∨ ty = .char ∨ ty = .short) (hd : decode bytes pc = .ok (.ireturn, 1)) (hk : k ≤ rm.cells) (hn : n ≤ rm.slots) (hq : Q (some (.int (nar ty z))) h) : WP κ h k n (mkF κ.m pc L (.int z :: S)) := by
  obtain ⟨hx, hby, -, hr, hlk, -, -, -, rfl, rfl, rfl, rfl, rfl⟩ := K
  intro T locs vm0 X e M hZ ho N
  subst e
  exact Ends.of X M N (fun q => by rw [hr] at q; cases q) hlk hk hn hq fun fs hl => RoadKit.retN X hx hr ht (hb hby hd) hl
theorem WP.getF (K : Cx κ w l Z own n0 rm bytes maxL ret nm Q) {i : Nat} {R0 O f d : String} {a : Addr} {v : Value} (wl : (Cond.fieldLink own i R0 f d).before a0 Z = true) (via : Via Z R0 O f d) (F : Fld Z h a O f d v) (hd : decode bytes pc = .ok (.getfield i, 3)) (hp : pc + 3 = pc') (H : WP κ h k n (mkF κ.m pc' L (v :: S))) : WP κ h k n (mkF κ.m pc L (.ref a :: S)) := by
  obtain ⟨hx, hby, -, -, -, hnm, -, -, rfl, rfl, rfl, rfl, -⟩ := K
  subst hp
  intro T locs vm0 X e M hZ ho N
  obtain ⟨T', X', e', st⟩ := RoadKit.getF X hx (s := κ.s.setVm vm0) hZ ho (host := "") (Or.inl wl) via e F (g := mkF κ.m pc L (.ref a :: S)) rfl rfl (hb hby hd)
  obtain ⟨t, o, h1, r⟩ := H T' locs vm0 X' e' M hZ ho N
  exact ⟨t, o, st _ h1, r⟩
theorem WP.getS (K : Cx κ w l Z own n0 rm bytes maxL ret nm Q) {i : Nat} {R0 O f d : String} {v : Value} (wl : (Cond.fieldLink own i R0 f d).before a0 Z = true) (via : Via Z R0 O f d) (F : Sta Z h O f d v) (hd : decode bytes pc = .ok (.getstatic i, 3)) (hp : pc + 3 = pc') (H : WP κ h k n (mkF κ.m pc' L (v :: S))) : WP κ h k n (mkF κ.m pc L S) := by
  obtain ⟨hx, hby, -, -, -, hnm, -, -, rfl, rfl, rfl, rfl, -⟩ := K
  subst hp
  intro T locs vm0 X e M hZ ho N
  obtain ⟨T', X', e', st⟩ := RoadKit.getS (host := "") X hx (s := κ.s.setVm vm0) hZ ho wl via e F (g := mkF κ.m pc L S) rfl (hb hby hd)
  obtain ⟨t, o, h1, r⟩ := H T' locs vm0 X' e' M hZ ho N
  exact ⟨t, o, st _ h1, r⟩
theorem WP.putF (K : Cx κ w l Z own n0 rm bytes maxL ret nm Q) {i kk : Nat} {R0 O f d C : String} {ty : FieldType} {a : Addr} {v old : Value} (wl : (Cond.fieldLink own i R0 f d).before a0 Z = true) (via : Via Z R0 O f d) (F : Fld Z h a O f d old) (E : Exa Z h a C) (la : (Cond.lays C O f d).before a0 Z = true ∨ ((Cond.laysFinal C O f d).before a0 Z = true ∧ own = O ∧ nm = "<init>")) (wi : (Cond.instantiable C kk).before a0 Z = true)
    (hty : parseFieldDescriptor d = some ty) (hn1 : narrow ty v = v) (hf : fits ty v = true) (ha : n0 ≤ a) (hd : decode bytes pc = .ok (.putfield i, 3)) (hp : pc + 3 = pc') (H : ∀ h', Wr h h' a (Jvm.RoadKit.slotOf Z O f d) v → WP κ h' k n (mkF κ.m pc' L S)) : WP κ h k n (mkF κ.m pc L (v :: .ref a :: S)) := by
  obtain ⟨hx, hby, -, -, -, hnm, -, -, rfl, rfl, rfl, rfl, -⟩ := K
  subst hp
  intro T locs vm0 X e M hZ ho N
  obtain ⟨T', h', X', e', W, st⟩ := RoadKit.putF X hx (s := κ.s.setVm vm0) hZ ho (host := "") (Or.inl wl) via e F E (la.imp id fun q => ⟨q.1, q.2.1, hnm.trans q.2.2⟩) wi hty hn1 hf (g := mkF κ.m pc L (v :: .ref a :: S)) rfl rfl (hb hby hd)
  obtain ⟨t, o, h1, r⟩ := H h' W T' _ vm0 X' e' (M.mono (Nat.le_of_eq W.size.symm)) hZ ho (Fr.snoc X' N ha)
  exact ⟨t, o, st _ h1, r⟩
theorem WP.putFN (K : Cx κ w l Z own n0 rm bytes maxL ret nm Q) {i kk : Nat} {R0 O f d C : String} {ty : FieldType} {a : Addr} {v v' old : Value} (wl : (Cond.fieldLink own i R0 f d).before a0 Z = true) (via : Via Z R0 O f d) (F : Fld Z h a O f d old) (E : Exa Z h a C) (la : (Cond.lays C O f d).before a0 Z = true ∨ ((Cond.laysFinal C O f d).before a0 Z = true ∧ own = O ∧ nm = "<init>")) (wi : (Cond.instantiable C kk).before a0 Z = true)
    (hty : parseFieldDescriptor d = some ty) (hn1 : narrow ty v = v') (hf : fits ty v' = true) (ha : n0 ≤ a) (hd : decode bytes pc = .ok (.putfield i, 3)) (hp : pc + 3 = pc') (H : ∀ h', Wr h h' a (Jvm.RoadKit.slotOf Z O f d) v' → WP κ h' k n (mkF κ.m pc' L S)) : WP κ h k n (mkF κ.m pc L (v :: .ref a :: S)) := by
  obtain ⟨hx, hby, -, -, -, hnm, -, -, rfl, rfl, rfl, rfl, -⟩ := K
  subst hp
  intro T locs vm0 X e M hZ ho N
  obtain ⟨T', h', X', e', W, st⟩ := RoadKit.putFN X hx (s := κ.s.setVm vm0) hZ ho wl via e F E (la.imp id fun q => ⟨q.1, q.2.1, hnm.trans q.2.2⟩) wi hty hn1 hf (g := mkF κ.m pc L (v :: .ref a :: S)) rfl rfl (hb hby hd)
  obtain ⟨t, o, h1, r⟩ := H h' W T' _ vm0 X' e' (M.mono (Nat.le_of_eq W.size.symm)) hZ ho (Fr.snoc X' N ha)
  exact ⟨t, o, st _ h1, r⟩
theorem WP.new (K : Cx κ w l Z own n0 rm bytes maxL ret nm Q) {i sl : Nat} {C : String} (w1 : (Cond.classLink own i C).before a0 Z = true) (w2 : (Cond.instantiable C sl).before a0 Z = true) (w3 : (Cond.initialized C).before a0 Z = true) (hd : decode bytes pc = .ok (.new i, 3)) (hk : k + 1 = k') (hn : n + sl = n') (hk' : k' ≤ rm.cells) (hn' : n' ≤ rm.slots) (hp : pc + 3 = pc')
    (H : ∀ (h' : Heap) (a : Addr), @Eq Nat h.size a → Ext h h' → Exa Z h' a C → (∀ {O f d : String} {ty : FieldType}, Laid Z a0 C O f d → parseFieldDescriptor d = some ty → Fld Z h' a O f d (defaultValue ty)) → WP κ h' k' n' (mkF κ.m pc' L (.ref a :: S))) : WP κ h k n (mkF κ.m pc L S) := by
  obtain ⟨hx, hby, -, -, -, hnm, -, -, rfl, rfl, rfl, rfl, -⟩ := K
  subst hp hk hn
  intro T locs vm0 X e M hZ ho N
  obtain ⟨T', h', X', e', E, A, D, -, st⟩ := newO X hx (s := κ.s.setVm vm0) hZ ho w1 w2 w3 e (g := mkF κ.m pc L S) rfl (hb hby hd) hk' hn'
  obtain ⟨t, o, h1, r⟩ := H h' _ rfl E A D T' _ vm0 X' e' (M.mono E.1) hZ ho N
  exact ⟨t, o, st _ h1, r⟩
theorem WP.initO (K : Cx κ w l Z own n0 rm bytes maxL ret nm Q) {i W : Nat} {a : Addr} (w1 : (Cond.methodLink own i Lib.objectInit).before a0 Z = true) (w2 : (Cond.instanceMethod Lib.objectInit).before a0 Z = true) (w3 : (Cond.code Lib.objectInit ⟨#[0xb1]⟩ 1 none).before a0 Z = true) (hd : decode bytes pc = .ok (.invokespecial i, 3)) (hL : L.size = maxL) (hf : 1 ≤ rm.frames) (hW : (S.map fun v => v.category).sum = W) (hl : W + 12 ≤ rm.locals) (hp : pc + 3 = pc')
    (H : WP κ h k n (mkF κ.m pc' L S)) : WP κ h k n (mkF κ.m pc L (.ref a :: S)) := by
  obtain ⟨hx, hby, hml, -, -, -, -, -, rfl, rfl, rfl, rfl, -⟩ := K
  subst hp
  intro T locs vm0 X e M hZ ho N
  obtain ⟨T', X', e', st⟩ := RoadKit.initO X hx (s := κ.s.setVm vm0) hZ ho w1 w2 w3 e (g := mkF κ.m pc L (.ref a :: S)) rfl (hL.trans hml.symm) rfl (hb hby hd) hf (W := W) (by show 2 * 0 + _ ≤ _; omega) hl
  obtain ⟨t, o, h1, r⟩ := H T' locs vm0 X' e' M hZ ho N
  exact ⟨t, o, st _ h1, r⟩
/-- an array: its class, its kind of component, its length, its components -/
def Ary (Z : State) (h : Heap) (a : Addr) (kA : ClassId) (ty : FieldType) (N : Nat) (f : Nat → Value) : Prop := ∃ c : Cell, Arr Z h a c ty ∧ c.cls = kA ∧ c.slots.size = N ∧ N < 2 ^ 31 ∧ (∀ i, i < N → c.slots[i]? = some (f i)) ∧ ∀ i, i < N → fits ty (f i) = true
def upd (f : Nat → Value) (i : Nat) (v : Value) : Nat → Value := fun j => if j = i then v else f j
theorem upd_same (f : Nat → Value) (i : Nat) (v : Value) : upd f i v i = v := if_pos rfl
theorem upd_ne (f : Nat → Value) {i j : Nat} (v : Value) (q : j ≠ i) : upd f i v j = f j := if_neg q
def fset {α : Type} (f : Nat → α) (i : Nat) (v : α) : Nat → α := fun j => if j = i then v else f j
theorem fset_same {α : Type} (f : Nat → α) (i : Nat) (v : α) : fset f i v i = v := if_pos rfl
theorem fset_ne {α : Type} (f : Nat → α) {i j : Nat} (v : α) (q : j ≠ i) : fset f i v j = f j := if_neg q
theorem upd_int (F : Nat → Int32) (i : Nat) (v : Int32) : upd (fun j => .int (F j)) i (.int v) = fun j => .int (fset F i v j) := by funext j; unfold upd fset; split <;> rfl
theorem upd_long (F : Nat → Int64) (i : Nat) (v : Int64) : upd (fun j => .long (F j)) i (.long v) = fun j => .long (fset F i v j) := by funext j; unfold upd fset; split <;> rfl
theorem upd_double (F : Nat → UInt64) (i : Nat) (v : UInt64) : upd (fun j => .double (F j)) i (.double v) = fun j => .double (fset F i v j) := by funext j; unfold upd fset; split <;> rfl
section Arrays
variable {a b : Addr} {kA : ClassId} {ty : FieldType} {N : Nat} {f f' : Nat → Value} {sl : Nat} {v : Value} {ws : List Addr}
theorem Ary.lt (A : Ary Z h a kA ty N f) : a < h.size := by obtain ⟨c, q, -⟩ := A; exact q.lt
theorem Ary.len (A : Ary Z h a kA ty N f) : N < 2 ^ 31 := by obtain ⟨c, -, -, -, q, -⟩ := A; exact q
theorem Ary.ext (E : Ext h h') (A : Ary Z h a kA ty N f) : Ary Z h' a kA ty N f := by obtain ⟨c, q, r⟩ := A; exact ⟨c, q.ext E, r⟩
theorem Ary.other (W : Wr h h' b sl v) (A : Ary Z h a kA ty N f) (q : a ≠ b) : Ary Z h' a kA ty N f := by obtain ⟨c, A, r⟩ := A; exact ⟨c, A.other W q, r⟩
theorem Ary.keep (K : Keep h h' ws) (A : Ary Z h a kA ty N f) (q : a ∉ ws) : Ary Z h' a kA ty N f := by obtain ⟨c, A, r⟩ := A; exact ⟨c, ⟨K.2.1 a c A.1 q, A.2⟩, r⟩
theorem Ary.congr (A : Ary Z h a kA ty N f) (q : ∀ i, i < N → f i = f' i) : Ary Z h a kA ty N f' := by obtain ⟨c, A, r1, r2, r3, r4, r5⟩ := A; exact ⟨c, A, r1, r2, r3, fun i hi => by rw [← q i hi]; exact r4 i hi, fun i hi => by rw [← q i hi]; exact r5 i hi⟩
theorem Ary.fits (A : Ary Z h a kA ty N f) {i : Nat} (hi : i < N) : Jvm.fits ty (f i) = true := by obtain ⟨c, -, -, -, -, -, q⟩ := A; exact q i hi
theorem Ary.set (W : Wr h h' a sl v) (A : Ary Z h a kA ty N f) (hv : Jvm.fits ty v = true) : Ary Z h' a kA ty N (upd f sl v) := by
  obtain ⟨c, A, r1, r2, r3, r4, r5⟩ := A
  refine ⟨_, A.same W, r1, by rw [sz_set]; exact r2, r3, fun i hi => ?_, fun i hi => ?_⟩
  · by_cases q : i = sl
    · subst q; rw [upd_same]; simp [Cell.setSlot, r2, hi]
    · rw [upd_ne f v q]; simp only [Cell.setSlot]; rw [Array.getElem?_setIfInBounds_ne (Ne.symm q)]; exact r4 i hi
  · by_cases q : i = sl
    · subst q; rw [upd_same]; exact hv
    · rw [upd_ne f v q]; exact r5 i hi
theorem Ary.ints (A : Ary Z h a kA ty N f) (ht : ty = .int ∨ ty = .boolean ∨ ty = .byte ∨ ty = .char ∨ ty = .short) : ∃ F : Nat → Int32, Ary Z h a kA ty N (fun i => .int (F i)) := by
  refine ⟨fun i => match f i with | .int x => x | _ => 0, A.congr fun i hi => ?_⟩
  obtain ⟨x, e⟩ := fit_I (A.fits hi) ht
  simp only [e]
theorem Ary.doubles (A : Ary Z h a kA .double N f) : ∃ F : Nat → UInt64, Ary Z h a kA .double N (fun i => .double (F i)) := by
  refine ⟨fun i => match f i with | .double x => x | _ => 0, A.congr fun i hi => ?_⟩
  obtain ⟨x, e⟩ := fit_D (A.fits hi)
  simp only [e]
theorem Ary.longs (A : Ary Z h a kA .long N f) : ∃ F : Nat → Int64, Ary Z h a kA .long N (fun i => .long (F i)) := by
  refine ⟨fun i => match f i with | .long x => x | _ => 0, A.congr fun i hi => ?_⟩
  obtain ⟨x, e⟩ := fit_J (A.fits hi)
  simp only [e]
theorem static_ary {s : State} {args : Array Value} {C nm d : String} {z : Int32} (hf : Fit s) (wl : (Cond.laysStatic C nm d).before args s = true) (wi : (Cond.initialized C).before args s = true) (hd : parseFieldDescriptor d = some (.array ty))
    (hA : (Cond.arrayOf (Term.static C nm d) ty).value args s none s [] = some true) (hL : (Cond.eq (Term.length (Term.static C nm d)) (Term.int z)).value args s none s [] = some true) (hz : z.toInt = (N : Int)) :
    ∃ (a : Addr) (kA : ClassId) (f : Nat → Value), Sta s s.heap C nm d (.ref a) ∧ Ary s s.heap a kA ty N f ∧ ∀ (i : Nat) (j v : Int32), j.toInt = (i : Int) → i < N → (Cond.eq (Term.elem (Term.static C nm d) (Term.int j)) (Term.int v)).value args s none s [] = some true → f i = .int v := by
  obtain ⟨v, ev, hv⟩ := static_fit hf wl hd
  have hr := fit_R hv rfl
  rcases ref_cases hr with rfl | ⟨a, rfl⟩
  · exfalso; simp [Cond.value, ev] at hA
  obtain ⟨c, A⟩ := Arr.start ev hA
  have hc := A.fin (Vm.Alike.refl _)
  have hs : c.slots.size < 2 ^ 31 ∧ c.slots.size.toInt32 = z := by
    obtain ⟨x, y, ex, ey⟩ := cmp_v (Or.inl hL)
    obtain ⟨a', c', ea, hc', rfl, q⟩ := Jvm.Free.SB.Term.length_small ex
    cases ev.symm.trans ea
    cases hc.symm.trans hc'
    exact ⟨q, by simpa [Cond.value, ex, Term.int_eval] using hL⟩
  have hN : c.slots.size = N := by have e := len_toInt hs.1; rw [hs.2, hz] at e; omega
  refine ⟨a, c.cls, fun i => c.slots.getD i .null, Sta.start ev (Or.inr ⟨wi, wl⟩), ⟨c, A, rfl, hN, by omega, fun i hi => ?_, fun i hi => ?_⟩, fun i j v hj hi he => ?_⟩
  · simp [Array.getD, hN, hi]
  · have q := hf A.1 (i := i) (by omega)
    obtain ⟨hst, k, hk, comp, hkind⟩ := A.2.1
    have e : s.slotType? c.cls c.vm i = some ty := by
      cases hq : c.vm <;> first | exact absurd hq (hst _) | simp [State.slotType?, hk, hkind]
    have hi' : i < c.slots.size := by omega
    simpa [State.fitsSlot, e, Array.getD, hi'] using q
  · have hi' : i < c.slots.size := by omega
    have hn : j.toNatClampNeg = i := by simp only [Int32.toNatClampNeg, hj]; omega
    obtain ⟨x, y, ex, ey⟩ := cmp_v (Or.inl he)
    obtain ⟨a', j', c', ea, ej, hc', -, hx⟩ := Term.elem_spec ex
    cases ev.symm.trans ea
    cases hc.symm.trans hc'
    cases (Term.int_eval j).symm.trans ej
    rw [hn] at hx
    have q : x = .int v := by
      have r := hf A.1 (i := i) hi'
      simp only [Cond.value, ex, Term.int_eval] at he
      cases x <;> simp at he
      rw [he]
    simp only [Array.getD, hi', dif_pos]
    rw [Array.getElem?_eq_getElem hi'] at hx
    exact (Option.some.inj hx).trans q
theorem Ary.of_new {cA : ClassId} {z : Int32} (A : Arr Z h a (newA cA ty z) ty) (hz : z.toInt = (N : Int)) : Ary Z h a cA ty N (fun _ => defaultValue ty) := by
  have e : z.toNatClampNeg = N := by simp only [Int32.toNatClampNeg]; omega
  have q := z.toInt_lt
  refine ⟨_, A, rfl, by rw [sz_new, e], by omega, fun i hi => ?_, fun i _ => by cases ty <;> rfl⟩
  simp [newA, e, hi]
theorem Ary.ne {a0 : Array Value} {C : String} {m : Nat} (E : Exa Z h b C) (A : Ary Z h a kA ty N f) (w : (Cond.instantiable C m).before a0 Z = true) : b ≠ a := by obtain ⟨c, q, -⟩ := A; exact ne_arr E w q
theorem in_of {c : Cell} {j : Int32} {i N : Nat} (S : c.slots.size = N) (hj : j.toInt = (i : Int)) (hi : i < N) : ¬ (j < 0 ∨ c.slots.size ≤ j.toNatClampNeg) := by
  rw [S, Int32.lt_iff_toInt_lt]; simp only [Int32.toNatClampNeg, hj]; have : (0 : Int32).toInt = 0 := rfl; omega
theorem nat_of {j : Int32} {i : Nat} (hj : j.toInt = (i : Int)) : j.toNatClampNeg = i := by simp only [Int32.toNatClampNeg, hj]; omega
end Arrays
theorem WP.iaload (K : Cx κ w l Z own n0 rm bytes maxL ret nm Q) {a : Addr} {kA : ClassId} {N i : Nat} {f : Nat → Value} {j : Int32} {v : Value} (A : Ary Z h a kA .int N f) (hj : j.toInt = (i : Int)) (hi : i < N) (hv : f i = v) (hd : decode bytes pc = .ok (.iaload, 1)) (hp : pc + 1 = pc') (H : WP κ h k n (mkF κ.m pc' L (v :: S))) : WP κ h k n (mkF κ.m pc L (.int j :: .ref a :: S)) := by
  obtain ⟨hx, hby, -, -, -, -, -, -, rfl, rfl, -⟩ := K
  subst hp hv
  obtain ⟨c, A, -, r2, -, r4, -⟩ := A
  refine WP.go (fun T locs vm0 X e hZ ho t k => ?_) H
  exact X.iaload hx (by rw [e]; exact A.1) (State.isArrayOf_alike (T := κ.s.setVm vm0) hZ.alike A.2.1) A.2.2 (in_of r2 hj hi) (by rw [nat_of hj]; exact r4 i hi) (g := mkF κ.m pc L (.int j :: .ref a :: S)) rfl rfl (hb hby hd) t k
theorem WP.laload (K : Cx κ w l Z own n0 rm bytes maxL ret nm Q) {a : Addr} {kA : ClassId} {N i : Nat} {f : Nat → Value} {j : Int32} {v : Value} (A : Ary Z h a kA .long N f) (hj : j.toInt = (i : Int)) (hi : i < N) (hv : f i = v) (hd : decode bytes pc = .ok (.laload, 1)) (hp : pc + 1 = pc') (H : WP κ h k n (mkF κ.m pc' L (v :: S))) : WP κ h k n (mkF κ.m pc L (.int j :: .ref a :: S)) := by
  obtain ⟨hx, hby, -, -, -, -, -, -, rfl, rfl, -⟩ := K
  subst hp hv
  obtain ⟨c, A, -, r2, -, r4, -⟩ := A
  refine WP.go (fun T locs vm0 X e hZ ho t k => ?_) H
  exact X.laload hx (by rw [e]; exact A.1) (State.isArrayOf_alike (T := κ.s.setVm vm0) hZ.alike A.2.1) A.2.2 (in_of r2 hj hi) (by rw [nat_of hj]; exact r4 i hi) (g := mkF κ.m pc L (.int j :: .ref a :: S)) rfl rfl (hb hby hd) t k
theorem WP.caload (K : Cx κ w l Z own n0 rm bytes maxL ret nm Q) {a : Addr} {kA : ClassId} {N i : Nat} {f : Nat → Value} {j : Int32} {v : Value} (A : Ary Z h a kA .char N f) (hj : j.toInt = (i : Int)) (hi : i < N) (hv : f i = v) (hd : decode bytes pc = .ok (.caload, 1)) (hp : pc + 1 = pc') (H : WP κ h k n (mkF κ.m pc' L (v :: S))) : WP κ h k n (mkF κ.m pc L (.int j :: .ref a :: S)) := by
  obtain ⟨hx, hby, -, -, -, -, -, -, rfl, rfl, -⟩ := K
  subst hp hv
  obtain ⟨c, A, -, r2, -, r4, -⟩ := A
  refine WP.go (fun T locs vm0 X e hZ ho t k => ?_) H
  exact X.caload hx (by rw [e]; exact A.1) (State.isArrayOf_alike (T := κ.s.setVm vm0) hZ.alike A.2.1) A.2.2 (in_of r2 hj hi) (by rw [nat_of hj]; exact r4 i hi) (g := mkF κ.m pc L (.int j :: .ref a :: S)) rfl rfl (hb hby hd) t k
theorem WP.baload (K : Cx κ w l Z own n0 rm bytes maxL ret nm Q) {a : Addr} {kA : ClassId} {N i : Nat} {f : Nat → Value} {j : Int32} {v : Value} (A : Ary Z h a kA .byte N f) (hj : j.toInt = (i : Int)) (hi : i < N) (hv : f i = v) (hd : decode bytes pc = .ok (.baload, 1)) (hp : pc + 1 = pc') (H : WP κ h k n (mkF κ.m pc' L (v :: S))) : WP κ h k n (mkF κ.m pc L (.int j :: .ref a :: S)) := by
  obtain ⟨hx, hby, -, -, -, -, -, -, rfl, rfl, -⟩ := K
  subst hp hv
  obtain ⟨c, A, -, r2, -, r4, -⟩ := A
  refine WP.go (fun T locs vm0 X e hZ ho t k => ?_) H
  exact X.baloadBytes hx (by rw [e]; exact A.1) (State.isArrayOf_alike (T := κ.s.setVm vm0) hZ.alike A.2.1) A.2.2 (in_of r2 hj hi) (by rw [nat_of hj]; exact r4 i hi) (g := mkF κ.m pc L (.int j :: .ref a :: S)) rfl rfl (hb hby hd) t k
theorem WP.baloadZ (K : Cx κ w l Z own n0 rm bytes maxL ret nm Q) {a : Addr} {kA : ClassId} {N i : Nat} {f : Nat → Value} {j : Int32} {v : Value} (A : Ary Z h a kA .boolean N f) (hj : j.toInt = (i : Int)) (hi : i < N) (hv : f i = v) (hd : decode bytes pc = .ok (.baload, 1)) (hp : pc + 1 = pc') (H : WP κ h k n (mkF κ.m pc' L (v :: S))) : WP κ h k n (mkF κ.m pc L (.int j :: .ref a :: S)) := by
  obtain ⟨hx, hby, -, -, -, -, -, -, rfl, rfl, -⟩ := K
  subst hp hv
  obtain ⟨c, A, -, r2, -, r4, -⟩ := A
  refine WP.go (fun T locs vm0 X e hZ ho t k => ?_) H
  exact X.baloadBooleans hx (by rw [e]; exact A.1) (State.isArrayOf_alike (T := κ.s.setVm vm0) hZ.alike A.2.1) A.2.2 (in_of r2 hj hi) (by rw [nat_of hj]; exact r4 i hi) (g := mkF κ.m pc L (.int j :: .ref a :: S)) rfl rfl (hb hby hd) t k
theorem WP.daload (K : Cx κ w l Z own n0 rm bytes maxL ret nm Q) {a : Addr} {kA : ClassId} {N i : Nat} {f : Nat → Value} {j : Int32} {v : Value} (A : Ary Z h a kA .double N f) (hj : j.toInt = (i : Int)) (hi : i < N) (hv : f i = v) (hd : decode bytes pc = .ok (.daload, 1)) (hp : pc + 1 = pc') (H : WP κ h k n (mkF κ.m pc' L (v :: S))) : WP κ h k n (mkF κ.m pc L (.int j :: .ref a :: S)) := by
  obtain ⟨hx, hby, -, -, -, -, -, -, rfl, rfl, -⟩ := K
  subst hp hv
  obtain ⟨c, A, -, r2, -, r4, -⟩ := A
  refine WP.go (fun T locs vm0 X e hZ ho t k => ?_) H
  exact X.daload hx (by rw [e]; exact A.1) (State.isArrayOf_alike (T := κ.s.setVm vm0) hZ.alike A.2.1) A.2.2 (in_of r2 hj hi) (by rw [nat_of hj]; exact r4 i hi) (g := mkF κ.m pc L (.int j :: .ref a :: S)) rfl rfl (hb hby hd) t k
theorem WP.aaload (K : Cx κ w l Z own n0 rm bytes maxL ret nm Q) {a : Addr} {kA : ClassId} {N i : Nat} {f : Nat → Value} {j : Int32} {v : Value} {ty : FieldType} (ht : ty.isReference = true) (A : Ary Z h a kA ty N f) (hj : j.toInt = (i : Int)) (hi : i < N) (hv : f i = v) (hd : decode bytes pc = .ok (.aaload, 1)) (hp : pc + 1 = pc') (H : WP κ h k n (mkF κ.m pc' L (v :: S))) : WP κ h k n (mkF κ.m pc L (.int j :: .ref a :: S)) := by
  obtain ⟨hx, hby, -, -, -, -, -, -, rfl, rfl, -⟩ := K
  subst hp hv
  obtain ⟨c, A, -, r2, -, r4, -⟩ := A
  refine WP.go (fun T locs vm0 X e hZ ho t k => ?_) H
  exact X.aaload hx (by rw [e]; exact A.1) (State.isArrayOf_alike (T := κ.s.setVm vm0) hZ.alike A.2.1) ht A.2.2 (in_of r2 hj hi) (by rw [nat_of hj]; exact r4 i hi) (g := mkF κ.m pc L (.int j :: .ref a :: S)) rfl rfl (hb hby hd) t k
theorem WP.arraylength (K : Cx κ w l Z own n0 rm bytes maxL ret nm Q) {a : Addr} {kA : ClassId} {ty : FieldType} {N : Nat} {f : Nat → Value} (A : Ary Z h a kA ty N f) (hd : decode bytes pc = .ok (.arraylength, 1)) (hp : pc + 1 = pc') (H : WP κ h k n (mkF κ.m pc' L (.int (Int32.ofNat N) :: S))) : WP κ h k n (mkF κ.m pc L (.ref a :: S)) := by
  obtain ⟨hx, hby, -, -, -, -, -, -, rfl, rfl, -⟩ := K
  subst hp
  obtain ⟨c, A, -, r2, -⟩ := A
  refine WP.go (fun T locs vm0 X e hZ ho t k => ?_) H
  exact X.arraylength hx (by rw [e]; exact A.1) (State.isArrayOf_alike (T := κ.s.setVm vm0) hZ.alike A.2.1) (g := mkF κ.m pc L (.ref a :: S)) rfl rfl (hb hby hd) t (by rw [r2]; exact k)
theorem WP.iastore (K : Cx κ w l Z own n0 rm bytes maxL ret nm Q) {a : Addr} {kA : ClassId} {N i : Nat} {f : Nat → Value} {j : Int32} {x : Int32} (A : Ary Z h a kA .int N f) (hj : j.toInt = (i : Int)) (hi : i < N) (ha : n0 ≤ a) (hd : decode bytes pc = .ok (.iastore, 1)) (hp : pc + 1 = pc')
    (H : ∀ h', Wr h h' a i (.int x) → Ary Z h' a kA .int N (upd f i (.int x)) → WP κ h' k n (mkF κ.m pc' L S)) : WP κ h k n (mkF κ.m pc L (.int x :: .int j :: .ref a :: S)) := by
  obtain ⟨hx, hby, -, -, -, hnm, -, -, rfl, rfl, rfl, rfl, -⟩ := K
  subst hp
  have A0 := A
  obtain ⟨c, A, -, r2, -⟩ := A
  intro T locs vm0 X e M hZ ho N
  obtain ⟨T', h', X', e', W, st⟩ := RoadKit.stI X hx (s := κ.s.setVm vm0) hZ e A (in_of r2 hj hi) (g := mkF κ.m pc L (.int x :: .int j :: .ref a :: S)) rfl rfl (hb hby hd)
  rw [nat_of hj] at W
  obtain ⟨t, o, h1, r⟩ := H h' W (A0.set W rfl) T' _ vm0 X' e' (M.mono (Nat.le_of_eq W.size.symm)) hZ ho (Fr.snoc X' N ha)
  exact ⟨t, o, st _ h1, r⟩
theorem WP.lastore (K : Cx κ w l Z own n0 rm bytes maxL ret nm Q) {a : Addr} {kA : ClassId} {N i : Nat} {f : Nat → Value} {j : Int32} {x : Int64} (A : Ary Z h a kA .long N f) (hj : j.toInt = (i : Int)) (hi : i < N) (ha : n0 ≤ a) (hd : decode bytes pc = .ok (.lastore, 1)) (hp : pc + 1 = pc')
    (H : ∀ h', Wr h h' a i (.long x) → Ary Z h' a kA .long N (upd f i (.long x)) → WP κ h' k n (mkF κ.m pc' L S)) : WP κ h k n (mkF κ.m pc L (.long x :: .int j :: .ref a :: S)) := by
  obtain ⟨hx, hby, -, -, -, hnm, -, -, rfl, rfl, rfl, rfl, -⟩ := K
  subst hp
  have A0 := A
  obtain ⟨c, A, -, r2, -⟩ := A
  intro T locs vm0 X e M hZ ho N
  obtain ⟨T', h', X', e', W, st⟩ := RoadKit.stJ X hx (s := κ.s.setVm vm0) hZ e A (in_of r2 hj hi) (g := mkF κ.m pc L (.long x :: .int j :: .ref a :: S)) rfl rfl (hb hby hd)
  rw [nat_of hj] at W
  obtain ⟨t, o, h1, r⟩ := H h' W (A0.set W rfl) T' _ vm0 X' e' (M.mono (Nat.le_of_eq W.size.symm)) hZ ho (Fr.snoc X' N ha)
  exact ⟨t, o, st _ h1, r⟩
theorem WP.castore (K : Cx κ w l Z own n0 rm bytes maxL ret nm Q) {a : Addr} {kA : ClassId} {N i : Nat} {f : Nat → Value} {j : Int32} {x : Int32} (A : Ary Z h a kA .char N f) (hj : j.toInt = (i : Int)) (hi : i < N) (ha : n0 ≤ a) (hd : decode bytes pc = .ok (.castore, 1)) (hp : pc + 1 = pc')
    (H : ∀ h', Wr h h' a i (.int (nar .char x)) → Ary Z h' a kA .char N (upd f i (.int (nar .char x))) → WP κ h' k n (mkF κ.m pc' L S)) : WP κ h k n (mkF κ.m pc L (.int x :: .int j :: .ref a :: S)) := by
  obtain ⟨hx, hby, -, -, -, hnm, -, -, rfl, rfl, rfl, rfl, -⟩ := K
  subst hp
  have A0 := A
  obtain ⟨c, A, -, r2, -⟩ := A
  intro T locs vm0 X e M hZ ho N
  obtain ⟨T', h', X', e', W, st⟩ := RoadKit.stC X hx (s := κ.s.setVm vm0) hZ e A (in_of r2 hj hi) (g := mkF κ.m pc L (.int x :: .int j :: .ref a :: S)) rfl rfl (hb hby hd)
  rw [nat_of hj] at W
  obtain ⟨t, o, h1, r⟩ := H h' W (A0.set W (fits_nar_char x)) T' _ vm0 X' e' (M.mono (Nat.le_of_eq W.size.symm)) hZ ho (Fr.snoc X' N ha)
  exact ⟨t, o, st _ h1, r⟩
theorem WP.bastore (K : Cx κ w l Z own n0 rm bytes maxL ret nm Q) {a : Addr} {kA : ClassId} {N i : Nat} {f : Nat → Value} {j : Int32} {x : Int32} (A : Ary Z h a kA .byte N f) (hj : j.toInt = (i : Int)) (hi : i < N) (ha : n0 ≤ a) (hd : decode bytes pc = .ok (.bastore, 1)) (hp : pc + 1 = pc')
    (H : ∀ h', Wr h h' a i (.int (nar .byte x)) → Ary Z h' a kA .byte N (upd f i (.int (nar .byte x))) → WP κ h' k n (mkF κ.m pc' L S)) : WP κ h k n (mkF κ.m pc L (.int x :: .int j :: .ref a :: S)) := by
  obtain ⟨hx, hby, -, -, -, hnm, -, -, rfl, rfl, rfl, rfl, -⟩ := K
  subst hp
  have A0 := A
  obtain ⟨c, A, -, r2, -⟩ := A
  intro T locs vm0 X e M hZ ho N
  obtain ⟨T', h', X', e', W, st⟩ := RoadKit.stB X hx (s := κ.s.setVm vm0) hZ e A (in_of r2 hj hi) (g := mkF κ.m pc L (.int x :: .int j :: .ref a :: S)) rfl rfl (hb hby hd)
  rw [nat_of hj] at W
  obtain ⟨t, o, h1, r⟩ := H h' W (A0.set W (fits_nar_byte x)) T' _ vm0 X' e' (M.mono (Nat.le_of_eq W.size.symm)) hZ ho (Fr.snoc X' N ha)
  exact ⟨t, o, st _ h1, r⟩
theorem WP.bastoreZ (K : Cx κ w l Z own n0 rm bytes maxL ret nm Q) {a : Addr} {kA : ClassId} {N i : Nat} {f : Nat → Value} {j : Int32} {x : Int32} (A : Ary Z h a kA .boolean N f) (hj : j.toInt = (i : Int)) (hi : i < N) (ha : n0 ≤ a) (hd : decode bytes pc = .ok (.bastore, 1)) (hp : pc + 1 = pc')
    (H : ∀ h', Wr h h' a i (.int (nar .boolean x)) → Ary Z h' a kA .boolean N (upd f i (.int (nar .boolean x))) → WP κ h' k n (mkF κ.m pc' L S)) : WP κ h k n (mkF κ.m pc L (.int x :: .int j :: .ref a :: S)) := by
  obtain ⟨hx, hby, -, -, -, hnm, -, -, rfl, rfl, rfl, rfl, -⟩ := K
  subst hp
  have A0 := A
  obtain ⟨c, A, -, r2, -⟩ := A
  intro T locs vm0 X e M hZ ho N
  obtain ⟨T', h', X', e', W, st⟩ := RoadKit.stZ X hx (s := κ.s.setVm vm0) hZ e A (in_of r2 hj hi) (g := mkF κ.m pc L (.int x :: .int j :: .ref a :: S)) rfl rfl (hb hby hd)
  rw [nat_of hj] at W
  obtain ⟨t, o, h1, r⟩ := H h' W (A0.set W (fits_nar_bool x)) T' _ vm0 X' e' (M.mono (Nat.le_of_eq W.size.symm)) hZ ho (Fr.snoc X' N ha)
  exact ⟨t, o, st _ h1, r⟩
theorem WP.dastore (K : Cx κ w l Z own n0 rm bytes maxL ret nm Q) {a : Addr} {kA : ClassId} {N i : Nat} {f : Nat → Value} {j : Int32} {x : UInt64} (A : Ary Z h a kA .double N f) (hj : j.toInt = (i : Int)) (hi : i < N) (ha : n0 ≤ a) (hd : decode bytes pc = .ok (.dastore, 1)) (hp : pc + 1 = pc')
    (H : ∀ h', Wr h h' a i (.double x) → Ary Z h' a kA .double N (upd f i (.double x)) → WP κ h' k n (mkF κ.m pc' L S)) : WP κ h k n (mkF κ.m pc L (.double x :: .int j :: .ref a :: S)) := by
  obtain ⟨hx, hby, -, -, -, hnm, -, -, rfl, rfl, rfl, rfl, -⟩ := K
  subst hp
  have A0 := A
  obtain ⟨c, A, -, r2, -⟩ := A
  intro T locs vm0 X e M hZ ho N
  obtain ⟨T', h', X', e', W, st⟩ := RoadKit.stD X hx (s := κ.s.setVm vm0) hZ e A (in_of r2 hj hi) (g := mkF κ.m pc L (.double x :: .int j :: .ref a :: S)) rfl rfl (hb hby hd)
  rw [nat_of hj] at W
  obtain ⟨t, o, h1, r⟩ := H h' W (A0.set W rfl) T' _ vm0 X' e' (M.mono (Nat.le_of_eq W.size.symm)) hZ ho (Fr.snoc X' N ha)
  exact ⟨t, o, st _ h1, r⟩
theorem WP.newarray (K : Cx κ w l Z own n0 rm bytes maxL ret nm Q) {aty : ArrayType} {z : Int32} {N cap : Nat} (w1 : (Cond.arrayClass (newarray.typeOf aty)).before a0 Z = true) (hd : decode bytes pc = .ok (.newarray aty, 2)) (hz : z.toInt = (N : Int)) (hcap : N ≤ cap) (hbig : cap * 8 ≤ 536870912) (hk : k + 1 = k') (hn : n + cap = n') (hk' : k' ≤ rm.cells) (hn' : n' ≤ rm.slots) (hp : pc + 2 = pc')
    (H : ∀ (h' : Heap) (a : Addr) (kA : ClassId), @Eq Nat h.size a → Ext h h' → Ary Z h' a kA (newarray.typeOf aty) N (fun _ => defaultValue (newarray.typeOf aty)) → WP κ h' k' n' (mkF κ.m pc' L (.ref a :: S))) : WP κ h k n (mkF κ.m pc L (.int z :: S)) := by
  obtain ⟨hx, hby, -, -, -, hnm, -, -, rfl, rfl, rfl, rfl, -⟩ := K
  subst hp hk hn
  intro T locs vm0 X e M hZ ho N
  obtain ⟨T', h', cA, X', e', E, A, st⟩ := newP X hx (s := κ.s.setVm vm0) hZ w1 e (g := mkF κ.m pc L (.int z :: S)) rfl (hb hby hd) rfl (by rw [Int32.lt_iff_toInt_lt, hz]; show ¬ _ < (0 : Int); omega) (cap := cap) (by rw [nat_of hz]; exact hcap) hbig hk' hn'
  obtain ⟨t, o, h1, r⟩ := H h' _ cA rfl E (Ary.of_new A hz) T' _ vm0 X' e' (M.mono E.1) hZ ho N
  exact ⟨t, o, st _ h1, r⟩
/-- what a call's law hands back, in both modes -/
theorem Met.back {y : MethodName} {by' : ByteArray} {mL' : Nat} {rt' : Option FieldType} {rm' : Room} {as' : Array Value} {Q' : Option Value → Heap → Prop} {len W : Nat} {R : Room} {p : Program} {e : Env} {below : List Frame} {s : State} {args : Array Value}
    (hM : Met false l Z y by' mL' rt' [] rm' as' h n0 Q') (hZ : Z.Warmed39 s.vm) (wc : (Cond.code y by' mL' rt').before a0 Z = true) (wz : (Cond.initialized y.cls).before a0 Z = true) (hf : rm'.frames + 1 ≤ R.frames) (hl : W + (mL' + 11) + rm'.locals ≤ R.locals) :
    Back l R p e below s args y len W (fun A a => a = as' ∧ A.U.heap = h ∧ A.cells + rm'.cells ≤ R.cells ∧ A.slots + rm'.slots ≤ R.slots) (fun A _ v B => ∃ L, (Q' v B.U.heap ∧ Fr n0 L) ∧ B.locs = A.locs ++ L ∧ B.cells = A.cells + rm'.cells ∧ B.slots = A.slots + rm'.slots) :=
  backOf (Q := fun v h L => Q' v h ∧ Fr n0 L) hM hZ wc wz hf hl
theorem Met.backW {y : MethodName} {by' : ByteArray} {mL' : Nat} {rt' : Option FieldType} {rm' : Room} {as' : Array Value} {Q' : Option Value → Heap → Prop} {len W : Nat} {R : Room} {p : Program} {e : Env} {below : List Frame} {s : State} {args : Array Value}
    (hM : Met true l Z y by' mL' rt' [] rm' as' h n0 Q') (hZ : Z.Warmed39 s.vm) (wc : (Cond.code y by' mL' rt').before a0 Z = true) (wz : (Cond.initialized y.cls).before a0 Z = true) (hf : rm'.frames + 1 ≤ R.frames) (hl : W + (mL' + 11) + rm'.locals ≤ R.locals) :
    BackS l R p e below s args y len W (fun A a => a = as' ∧ A.U.heap = h ∧ A.cells + rm'.cells ≤ R.cells ∧ A.slots + rm'.slots ≤ R.slots) (fun A _ v B => ∃ L, (Q' v B.U.heap ∧ Fr n0 L) ∧ B.locs = A.locs ++ L ∧ B.cells = A.cells + rm'.cells ∧ B.slots = A.slots + rm'.slots) :=
  backOfS (Q := fun v h L => Q' v h ∧ Fr n0 L) hM hZ wc wz hf hl
theorem Ends.call {T : State} {locs : List Loc} {vm0 : Vm} {g g' : JFrame} {rm' : Room} {Q' : Option Value → Heap → Prop} {T1 B : Pt} {v : Option Value} (M : Md κ.w κ.s vm0 h.size) (N : Fr κ.n0 locs) (hc : T1 = ⟨T1.1, locs, k, n⟩)
    (hpost : ∃ L, (Q' v B.U.heap ∧ Fr κ.n0 L) ∧ B.locs = T1.locs ++ L ∧ B.cells = T1.cells + rm'.cells ∧ B.slots = T1.slots + rm'.slots) (hk : k + rm'.cells = k') (hn : n + rm'.slots = n') {vm1 : Vm}
    (X' : Stand κ.p κ.l κ.e κ.R (κ.s.setVm vm1) κ.m κ.a κ.below κ.meth κ.c B.U B.locs B.cells B.slots) (M' : Md κ.w κ.s vm1 B.U.heap.size) (hZ : κ.Z.Warmed39 vm1) (ho : vm1.findClass κ.own = some κ.m.cls) (st : Steps κ.p.tables κ.e κ.below (T.setTop g) (B.U.setTop g'))
    (H : ∀ h', Q' v h' → WP κ h' k' n' g') : Ends κ T g := by
  obtain ⟨Lc, ⟨hQ, hN⟩, l1, l2, l3⟩ := hpost
  rw [hc] at l1 l2 l3
  dsimp only [Pt.U, Pt.locs, Pt.cells, Pt.slots] at l1 l2 l3 X' hQ M' st
  subst hk hn
  rw [l1, l2, l3] at X'
  obtain ⟨t, o, h1, r⟩ := H _ hQ _ _ vm1 X' rfl M' hZ ho (Fr.app N hN)
  exact ⟨t, o, st.trans h1, r⟩
theorem WP.callS (K : Cx κ w l Z own n0 rm bytes maxL ret nm Q) {y : MethodName} {by' : ByteArray} {mL' : Nat} {rt' : Option FieldType} {rm' : Room} {Q' : Option Value → Heap → Prop} {i W : Nat} {argsL : List Value} {S' : List Value} (w1 : (Cond.methodLink own i y).before a0 Z = true) (w2 : (Cond.static y).before a0 Z = true) (hM : Met w l Z y by' mL' rt' [] rm' argsL.toArray h n0 Q') (wc : (Cond.code y by' mL' rt').before a0 Z = true) (wz : (Cond.initialized y.cls).before a0 Z = true) (hy : y.cls ≠ "java/lang/invoke/MethodHandle" ∧ y.cls ≠ "java/lang/invoke/VarHandle")
    (hL : L.size = maxL) (hlen : ∀ sig, parseMethodDescriptor y.desc = some sig → argsL.length = sig.parameters.length) (hS : S' = argsL.reverse ++ S) (hW : (S.map fun v => v.category).sum = W) (hf : rm'.frames + 1 ≤ rm.frames) (hl : W + (mL' + 11) + rm'.locals ≤ rm.locals) (hk : k + rm'.cells = k') (hn : n + rm'.slots = n') (hk' : k' ≤ rm.cells) (hn' : n' ≤ rm.slots) (hd : decode bytes pc = .ok (.invokestatic i, 3)) (hp : pc + 3 = pc')
    (H : ∀ (v : Option Value) (h' : Heap), Q' v h' → WP κ h' k' n' (mkF κ.m pc' L (v.toList ++ S))) : WP κ h k n (mkF κ.m pc L S') := by
  obtain ⟨hx, hby, hml, -, -, -, rfl, rfl, rfl, rfl, rfl, rfl, -⟩ := K
  subst hp hS
  intro T locs vm0 X e M hZ ho N
  by_cases hw : κ.w = true
  · rw [hw] at hM
    obtain ⟨v, vm₁, B, -, X', hSi, hgr, hpost, st⟩ := callSS X hx (y := y) ho (mvT (s := κ.s.setVm vm0) hZ w1) (mvT (s := κ.s.setVm vm0) hZ w2) (mvT (s := κ.s.setVm vm0) hZ wz) (mvT (s := κ.s.setVm vm0) hZ wc) hy (Met.backW (s := κ.s.setVm vm0) hM hZ wc wz hf hl) (g := mkF κ.m pc L (argsL.reverse ++ S)) rfl (hL.trans hml.symm) (argsL := argsL) (rest := S) hlen rfl (by show 2 * 0 + _ ≤ _; omega) (hb hby hd) (fun _ _ => ⟨rfl, e, by rw [← hk] at hk'; exact hk', by rw [← hn] at hn'; exact hn'⟩)
    obtain ⟨k0, hS0, hk0⟩ := M.2
    obtain ⟨X'', hS1, hZ1, ho1⟩ := rebS hS0 hk0 X' hSi (e ▸ hgr) hZ ho
    exact Ends.call (Q' := Q') (T1 := ⟨T.setVm vm₁, locs, k, n⟩) M N rfl hpost hk hn X'' ⟨fun q => (by rw [hw] at q; cases q), _, hS1, Nat.le_refl _⟩ hZ1 ho1 st (H v)
  · have hw' : κ.w = false := by simpa using hw
    rw [hw'] at hM
    obtain ⟨v, vm₁, B, -, X', hpost, st⟩ := Jvm.LawKit.callS X hx (y := y) ho (mvT (s := κ.s.setVm vm0) hZ w1) (mvT (s := κ.s.setVm vm0) hZ w2) (mvT (s := κ.s.setVm vm0) hZ wz) (mvT (s := κ.s.setVm vm0) hZ wc) hy (Met.back (s := κ.s.setVm vm0) hM hZ wc wz hf hl) (g := mkF κ.m pc L (argsL.reverse ++ S)) rfl (hL.trans hml.symm) (argsL := argsL) (rest := S) hlen rfl (by show 2 * 0 + _ ≤ _; omega) (hb hby hd) (fun _ _ => ⟨rfl, e, by rw [← hk] at hk'; exact hk', by rw [← hn] at hn'; exact hn'⟩)
    refine Ends.call (Q' := Q') (T1 := ⟨T.setVm vm₁, locs, k, n⟩) M N rfl hpost hk hn X' ?_ hZ ho (st _ (Steps.refl _)) (H v)
    have e0 := M.1 hw'
    subst e0
    exact Md.start _ _ _
theorem WP.callI (K : Cx κ w l Z own n0 rm bytes maxL ret nm Q) {y : MethodName} {by' : ByteArray} {mL' : Nat}  {rm' : Room} {Q' : Option Value → Heap → Prop} {i W : Nat} {argsL : List Value} {S' : List Value} {a : Addr} (hy1 : y.name = "<init>") (w1 : (Cond.methodLink own i y).before a0 Z = true) (w2 : (Cond.instanceMethod y).before a0 Z = true) (hM : Met w l Z y by' mL' none [] rm' (.ref a :: argsL).toArray h n0 Q') (wc : (Cond.code y by' mL' none).before a0 Z = true) (wz : (Cond.initialized y.cls).before a0 Z = true) (hy : y.cls ≠ "java/lang/invoke/MethodHandle" ∧ y.cls ≠ "java/lang/invoke/VarHandle")
    (hL : L.size = maxL) (hlen : ∀ sig, parseMethodDescriptor y.desc = some sig → argsL.length = sig.parameters.length) (hS : S' = argsL.reverse ++ .ref a :: S) (hW : (S.map fun v => v.category).sum = W) (hf : rm'.frames + 1 ≤ rm.frames) (hl : W + (mL' + 11) + rm'.locals ≤ rm.locals) (hk : k + rm'.cells = k') (hn : n + rm'.slots = n') (hk' : k' ≤ rm.cells) (hn' : n' ≤ rm.slots) (hd : decode bytes pc = .ok (.invokespecial i, 3)) (hp : pc + 3 = pc')
    (H : ∀ (v : Option Value) (h' : Heap), Q' v h' → WP κ h' k' n' (mkF κ.m pc' L (v.toList ++ S))) : WP κ h k n (mkF κ.m pc L S') := by
  obtain ⟨hx, hby, hml, -, -, -, rfl, rfl, rfl, rfl, rfl, rfl, -⟩ := K
  subst hp hS
  intro T locs vm0 X e M hZ ho N
  by_cases hw : κ.w = true
  · rw [hw] at hM
    obtain ⟨v, vm₁, B, -, X', hSi, hgr, hpost, st⟩ := X.specialBackS hx (y := y) hy1 ho (mvT (s := κ.s.setVm vm0) hZ w1) (mvT (s := κ.s.setVm vm0) hZ w2) (mvT (s := κ.s.setVm vm0) hZ wc) hy (Met.backW (s := κ.s.setVm vm0) hM hZ wc wz hf hl) (g := mkF κ.m pc L (argsL.reverse ++ .ref a :: S)) rfl (hL.trans hml.symm) (Steps.refl _) (a := a) (argsL := argsL) (rest := S) hlen rfl (by show 2 * 0 + _ ≤ _; omega) (hb hby hd) (fun _ _ => ⟨rfl, e, by rw [← hk] at hk'; exact hk', by rw [← hn] at hn'; exact hn'⟩)
    obtain ⟨k0, hS0, hk0⟩ := M.2
    obtain ⟨X'', hS1, hZ1, ho1⟩ := rebS hS0 hk0 X' hSi (e ▸ hgr) hZ ho
    exact Ends.call (Q' := Q') (T1 := ⟨T.setVm vm₁, locs, k, n⟩) M N rfl hpost hk hn X'' ⟨fun q => (by rw [hw] at q; cases q), _, hS1, Nat.le_refl _⟩ hZ1 ho1 st (H v)
  · have hw' : κ.w = false := by simpa using hw
    rw [hw'] at hM
    obtain ⟨v, vm₁, B, -, X', hpost, st⟩ := X.specialBack hx (y := y) hy1 ho (mvT (s := κ.s.setVm vm0) hZ w1) (mvT (s := κ.s.setVm vm0) hZ w2) (mvT (s := κ.s.setVm vm0) hZ wc) hy (Met.back (s := κ.s.setVm vm0) hM hZ wc wz hf hl) (g := mkF κ.m pc L (argsL.reverse ++ .ref a :: S)) rfl (hL.trans hml.symm) (Steps.refl _) (a := a) (argsL := argsL) (rest := S) hlen rfl (by show 2 * 0 + _ ≤ _; omega) (hb hby hd) (fun _ _ => ⟨rfl, e, by rw [← hk] at hk'; exact hk', by rw [← hn] at hn'; exact hn'⟩)
    refine Ends.call (Q' := Q') (T1 := ⟨T.setVm vm₁, locs, k, n⟩) M N rfl hpost hk hn X' ?_ hZ ho st (H v)
    have e0 := M.1 hw'
    subst e0
    exact Md.start _ _ _
theorem WP.callV (K : Cx κ w l Z own n0 rm bytes maxL ret nm Q) {x y : MethodName} {by' : ByteArray} {mL' : Nat} {rt' : Option FieldType} {rm' : Room} {Q' : Option Value → Heap → Prop} {i W : Nat} {argsL : List Value} {S' : List Value} {a : Addr} {C : String} (w1 : (Cond.methodLink own i x).before a0 Z = true) (w2 : (Cond.declares x).before a0 Z = true) (nf : ∀ vm0 : Vm, Z.Warmed39 vm0 → NotFace (κ.s.setVm vm0) x) (w3 : (Cond.selects C x y).before a0 Z = true) (w4 : (Cond.instanceMethod y).before a0 Z = true) (hx' : x.cls ≠ "java/lang/invoke/MethodHandle" ∧ x.cls ≠ "java/lang/invoke/VarHandle") (E : Exa Z h a C) (hM : Met w l Z y by' mL' rt' [] rm' (.ref a :: argsL).toArray h n0 Q') (wc : (Cond.code y by' mL' rt').before a0 Z = true) (wz : (Cond.initialized y.cls).before a0 Z = true) (hy : y.cls ≠ "java/lang/invoke/MethodHandle" ∧ y.cls ≠ "java/lang/invoke/VarHandle")
    (hL : L.size = maxL) (hlen : ∀ sig, parseMethodDescriptor x.desc = some sig → argsL.length = sig.parameters.length) (hS : S' = argsL.reverse ++ .ref a :: S) (hW : (S.map fun v => v.category).sum = W) (hf : rm'.frames + 1 ≤ rm.frames) (hl : W + (mL' + 11) + rm'.locals ≤ rm.locals) (hk : k + rm'.cells = k') (hn : n + rm'.slots = n') (hk' : k' ≤ rm.cells) (hn' : n' ≤ rm.slots) (hd : decode bytes pc = .ok (.invokevirtual i, 3)) (hp : pc + 3 = pc')
    (H : ∀ (v : Option Value) (h' : Heap), Q' v h' → WP κ h' k' n' (mkF κ.m pc' L (v.toList ++ S))) : WP κ h k n (mkF κ.m pc L S') := by
  obtain ⟨hx, hby, hml, -, -, -, rfl, rfl, rfl, rfl, rfl, rfl, -⟩ := K
  subst hp hS
  intro T locs vm0 X e M hZ ho N
  obtain ⟨cB, kB, q1, q2, q3⟩ := isOf (s := κ.s.setVm vm0) hZ e E
  by_cases hw : κ.w = true
  · rw [hw] at hM
    obtain ⟨v, vm₁, B, -, X', hSi, hgr, hpost, st⟩ := X.virtualBackS hx (y := x) (z := y) ho (mvT (s := κ.s.setVm vm0) hZ w1) (mvT (s := κ.s.setVm vm0) hZ w2) (nf vm0 hZ) (mvT (s := κ.s.setVm vm0) hZ w3) (mvT (s := κ.s.setVm vm0) hZ w4) hx' (Met.backW (s := κ.s.setVm vm0) hM hZ wc wz hf hl) q1 q3 (g := mkF κ.m pc L (argsL.reverse ++ .ref a :: S)) rfl (hL.trans hml.symm) (Steps.refl _) (argsL := argsL) (rest := S) hlen rfl (by show 2 * 0 + _ ≤ _; omega) (hb hby hd) (fun _ _ => ⟨rfl, e, by rw [← hk] at hk'; exact hk', by rw [← hn] at hn'; exact hn'⟩)
    obtain ⟨k0, hS0, hk0⟩ := M.2
    obtain ⟨X'', hS1, hZ1, ho1⟩ := rebS hS0 hk0 X' hSi (e ▸ hgr) hZ ho
    exact Ends.call (Q' := Q') (T1 := ⟨T.setVm vm₁, locs, k, n⟩) M N rfl hpost hk hn X'' ⟨fun q => (by rw [hw] at q; cases q), _, hS1, Nat.le_refl _⟩ hZ1 ho1 st (H v)
  · have hw' : κ.w = false := by simpa using hw
    rw [hw'] at hM
    obtain ⟨v, vm₁, B, -, X', hpost, st⟩ := X.virtualBack hx (y := x) (z := y) ho (mvT (s := κ.s.setVm vm0) hZ w1) (mvT (s := κ.s.setVm vm0) hZ w2) (nf vm0 hZ) (mvT (s := κ.s.setVm vm0) hZ w3) (mvT (s := κ.s.setVm vm0) hZ w4) hx' (Met.back (s := κ.s.setVm vm0) hM hZ wc wz hf hl) q1 q3 (g := mkF κ.m pc L (argsL.reverse ++ .ref a :: S)) rfl (hL.trans hml.symm) (Steps.refl _) (argsL := argsL) (rest := S) hlen rfl (by show 2 * 0 + _ ≤ _; omega) (hb hby hd) (fun _ _ => ⟨rfl, e, by rw [← hk] at hk'; exact hk', by rw [← hn] at hn'; exact hn'⟩)
    refine Ends.call (Q' := Q') (T1 := ⟨T.setVm vm₁, locs, k, n⟩) M N rfl hpost hk hn X' ?_ hZ ho st (H v)
    have e0 := M.1 hw'
    subst e0
    exact Md.start _ _ _
theorem WP.callP (K : Cx κ w l Z own n0 rm bytes maxL ret nm Q) {y : MethodName} {by' : ByteArray} {mL' : Nat} {rt' : Option FieldType} {rm' : Room} {Q' : Option Value → Heap → Prop} {i W : Nat} {argsL : List Value} {S' : List Value} {a : Addr} {nI : Nat} {C : String} (w1 : (Cond.methodLink own i y).before a0 Z = true) (w2 : (Cond.instanceMethod y).before a0 Z = true) (wi : (Cond.instantiable y.cls nI).before a0 Z = true) (w3 : (Cond.privateMethod y).before a0 Z = true) (E : Exa Z h a C) (hM : Met w l Z y by' mL' rt' [] rm' (.ref a :: argsL).toArray h n0 Q') (wc : (Cond.code y by' mL' rt').before a0 Z = true) (wz : (Cond.initialized y.cls).before a0 Z = true) (hy : y.cls ≠ "java/lang/invoke/MethodHandle" ∧ y.cls ≠ "java/lang/invoke/VarHandle")
    (hL : L.size = maxL) (hlen : ∀ sig, parseMethodDescriptor y.desc = some sig → argsL.length = sig.parameters.length) (hS : S' = argsL.reverse ++ .ref a :: S) (hW : (S.map fun v => v.category).sum = W) (hf : rm'.frames + 1 ≤ rm.frames) (hl : W + (mL' + 11) + rm'.locals ≤ rm.locals) (hk : k + rm'.cells = k') (hn : n + rm'.slots = n') (hk' : k' ≤ rm.cells) (hn' : n' ≤ rm.slots) (hd : decode bytes pc = .ok (.invokevirtual i, 3)) (hp : pc + 3 = pc')
    (H : ∀ (v : Option Value) (h' : Heap), Q' v h' → WP κ h' k' n' (mkF κ.m pc' L (v.toList ++ S))) : WP κ h k n (mkF κ.m pc L S') := by
  obtain ⟨hx, hby, hml, -, -, -, rfl, rfl, rfl, rfl, rfl, rfl, -⟩ := K
  subst hp hS
  intro T locs vm0 X e M hZ ho N
  obtain ⟨cell, e1, e2⟩ := E.cell
  have hpr : (κ.s.setVm vm0).PrivateAt y := Cond.privateMethod_at (mvP (s := κ.s.setVm vm0) hZ w3 (args := #[]))
  have hsel : (Cond.selects y.cls y y).before κ.a (κ.s.setVm vm0) = true := by
    obtain ⟨c1, k1, i1, i2, i3, i4, -⟩ := Cond.instantiable_spec (mvT (args := κ.a) (s := κ.s.setVm vm0) hZ wi)
    rw [Bool.or_eq_false_iff] at i4
    exact Jvm.Stand.selects_self_of_private i1 i2 i4.1 hpr (mvT (s := κ.s.setVm vm0) hZ w2) hy
  by_cases hw : κ.w = true
  · rw [hw] at hM
    obtain ⟨v, vm₁, B, -, X', hSi, hgr, hpost, st⟩ := X.privateBackS hx (y := y) ho (mvT (s := κ.s.setVm vm0) hZ w1) (mvT (s := κ.s.setVm vm0) hZ w2) hsel hpr (mvT (s := κ.s.setVm vm0) hZ wc) hy (Met.backW (s := κ.s.setVm vm0) hM hZ wc wz hf hl) (g := mkF κ.m pc L (argsL.reverse ++ .ref a :: S)) rfl (hL.trans hml.symm) (Steps.refl _) (a := a) (by rw [e]; exact e1) e2 (argsL := argsL) (rest := S) hlen rfl (by show 2 * 0 + _ ≤ _; omega) (hb hby hd) (fun _ _ => ⟨rfl, e, by rw [← hk] at hk'; exact hk', by rw [← hn] at hn'; exact hn'⟩)
    obtain ⟨k0, hS0, hk0⟩ := M.2
    obtain ⟨X'', hS1, hZ1, ho1⟩ := rebS hS0 hk0 X' hSi (e ▸ hgr) hZ ho
    exact Ends.call (Q' := Q') (T1 := ⟨T.setVm vm₁, locs, k, n⟩) M N rfl hpost hk hn X'' ⟨fun q => (by rw [hw] at q; cases q), _, hS1, Nat.le_refl _⟩ hZ1 ho1 st (H v)
  · have hw' : κ.w = false := by simpa using hw
    rw [hw'] at hM
    obtain ⟨v, vm₁, B, -, X', hpost, st⟩ := X.privateBack hx (y := y) ho (mvT (s := κ.s.setVm vm0) hZ w1) (mvT (s := κ.s.setVm vm0) hZ w2) hsel hpr (mvT (s := κ.s.setVm vm0) hZ wc) hy (Met.back (s := κ.s.setVm vm0) hM hZ wc wz hf hl) (g := mkF κ.m pc L (argsL.reverse ++ .ref a :: S)) rfl (hL.trans hml.symm) (Steps.refl _) (a := a) (by rw [e]; exact e1) e2 (argsL := argsL) (rest := S) hlen rfl (by show 2 * 0 + _ ≤ _; omega) (hb hby hd) (fun _ _ => ⟨rfl, e, by rw [← hk] at hk'; exact hk', by rw [← hn] at hn'; exact hn'⟩)
    refine Ends.call (Q' := Q') (T1 := ⟨T.setVm vm₁, locs, k, n⟩) M N rfl hpost hk hn X' ?_ hZ ho st (H v)
    have e0 := M.1 hw'
    subst e0
    exact Md.start _ _ _
theorem Ary.arv {a : Addr} {kA : ClassId} {ty : FieldType} {N : Nat} {f : Nat → Value} (A : Ary Z h a kA ty N f) (dv : Value) : Arv Z h a kA ty (Int32.ofNat N) ((List.range N).map f) dv := by
  obtain ⟨c, A, r1, r2, r3, r4, r5⟩ := A
  have e : (Int32.ofNat N).toNatClampNeg = N := by simp only [Int32.toNatClampNeg, Int32.toInt_ofNat_small r3]; omega
  have g : ∀ i, i < N → ((List.range N).map f).getD i dv = f i := fun i hi => by simp [List.getD_eq_getElem?_getD, hi]
  refine ⟨c, A, r1, by rw [e]; exact r2, ?_, fun i hi => ?_, fun i hi => ?_⟩
  · rw [Int32.lt_iff_toInt_lt, Int32.toInt_ofNat_small r3]; show ¬ (N : Int) < 0; omega
  · rw [g i (by omega)]; exact r4 i (by omega)
  · rw [g i (by omega)]; exact r5 i (by omega)
theorem Arv.ary {a : Addr} {kA : ClassId} {ty : FieldType} {N : Nat} {vs : List Value} {dv : Value} (r3 : N < 2 ^ 31) (A : Arv Z h a kA ty (Int32.ofNat N) vs dv) : Ary Z h a kA ty N (fun i => vs.getD i dv) := by
  obtain ⟨c, A, r1, r2, -, H, G⟩ := A
  have e : (Int32.ofNat N).toNatClampNeg = N := by simp only [Int32.toNatClampNeg, Int32.toInt_ofNat_small r3]; omega
  rw [e] at r2
  exact ⟨c, A, r1, r2, r3, fun i hi => H i (by omega), fun i hi => G i (by omega)⟩
theorem cp_get {f g : Nat → Value} {N i j m : Nat} {dv : Value} (hj : j + m ≤ N) {x : Nat} (hx : x < N) : (((List.range N).map g).take j ++ ((List.range m).map fun t => f (i + t)) ++ ((List.range N).map g).drop (j + m)).getD x dv = if j ≤ x ∧ x < j + m then f (i + (x - j)) else g x := by
  simp only [List.getD_eq_getElem?_getD]
  by_cases h1 : x < j
  · rw [List.append_assoc, List.getElem?_append_left (by simp; omega), if_neg (by omega)]
    simp [List.getElem?_take, h1, hx]
  · by_cases h2 : x < j + m
    · rw [List.append_assoc, List.getElem?_append_right (by simp; omega), if_pos ⟨by omega, h2⟩]
      have e : (((List.range N).map g).take j).length = j := by simp; omega
      rw [e, List.getElem?_append_left (by simp; omega)]
      simp [show x - j < m by omega]
    · rw [List.getElem?_append_right (by simp; omega), if_neg (by omega)]
      have e : (((List.range N).map g).take j ++ ((List.range m).map fun t => f (i + t))).length = j + m := by simp; omega
      rw [e]
      simp [List.getElem?_drop, show j + m + (x - (j + m)) = x by omega, hx]
theorem WP.arraycopy (K : Cx κ w l Z own n0 rm bytes maxL ret nm Q) {i0 W : Nat} {a b : Addr} {kA kB : ClassId} {ty : FieldType} {N M i j m : Nat} {f g : Nat → Value} {sp dp nn : Int32} (w1 : (Cond.methodLink own i0 Jvm.Stand.acN).before a0 Z = true) (w2 : (Cond.native Jvm.Stand.acN).before a0 Z = true) (w3 : (Cond.static Jvm.Stand.acN).before a0 Z = true) (w4 : (Cond.initialized "java/lang/System").before a0 Z = true)
    (A : Ary Z h a kA ty N f) (B : Ary Z h b kB ty M g) (hp : refKind ty = false) (hsp : sp.toInt = (i : Int)) (hdp : dp.toInt = (j : Int)) (hnn : nn.toInt = (m : Int)) (h1 : i + m ≤ N) (h2 : j + m ≤ M) (ha : n0 ≤ b) (hd : decode bytes pc = .ok (.invokestatic i0, 3)) (hL : L.size = maxL) (hf : 1 ≤ rm.frames) (hW : (S.map fun v => v.category).sum = W) (hl : W + (nativeFrameWords "java/lang/System" "arraycopy" 5 + 11) ≤ rm.locals) (hpc : pc + 3 = pc')
    (H : ∀ h', Keep h h' [b] → Ary Z h' b kB ty M (fun x => if j ≤ x ∧ x < j + m then f (i + (x - j)) else g x) → WP κ h' k n (mkF κ.m pc' L S)) : WP κ h k n (mkF κ.m pc L (.int nn :: .int dp :: .ref b :: .int sp :: .ref a :: S)) := by
  obtain ⟨hx, hby, hml, -, -, hnm, -, -, rfl, rfl, rfl, rfl, -⟩ := K
  subst hpc
  intro T locs vm0 X e M' hZ ho N'
  have nA := A.len; have nB := B.len
  have eA : (Int32.ofNat N).toNatClampNeg = N := by simp only [Int32.toNatClampNeg, Int32.toInt_ofNat_small nA]; omega
  have eB : (Int32.ofNat M).toNatClampNeg = M := by simp only [Int32.toNatClampNeg, Int32.toInt_ofNat_small nB]; omega
  have nn0 : ∀ {z : Int32} {q : Nat}, z.toInt = (q : Int) → ¬ z < 0 := fun {z q} hz => by rw [Int32.lt_iff_toInt_lt, hz]; show ¬ (q : Int) < 0; omega
  obtain ⟨T', h', L', X', e', NF, K', A', st⟩ := cpA X hx (s := κ.s.setVm vm0) hZ ho w1 w2 w3 w4 e (A.arv .null) (B.arv .null) (Or.inl ⟨rfl, hp⟩) (nn0 hsp) (nn0 hdp) (nn0 hnn) (by rw [nat_of hsp, nat_of hnn, eA]; exact h1) (by rw [nat_of hdp, nat_of hnn, eB]; exact h2) rfl (by rw [nat_of hdp, nat_of hnn]; simpa using h2) N' ha (g := mkF κ.m pc L (.int nn :: .int dp :: .ref b :: .int sp :: .ref a :: S)) rfl (hL.trans hml.symm) rfl (hb hby hd) hf (W := W) (by show 2 * 0 + _ ≤ _; omega) hl
  have A2 := (Arv.ary nB A').congr (f' := fun x => if j ≤ x ∧ x < j + m then f (i + (x - j)) else g x) (fun x hx' => by
    rw [nat_of hdp, nat_of hnn, nat_of hsp]
    have q : (List.map (fun t => ((List.range N).map f).getD (i + t) Value.null) (List.range m)) = (List.range m).map fun t => f (i + t) := List.map_congr_left fun t ht => by
      have := List.mem_range.mp ht
      simp [List.getD_eq_getElem?_getD, show i + t < N by omega]
    rw [q]
    exact cp_get h2 hx')
  obtain ⟨t, o, h1', r⟩ := H h' K' A2 T' _ vm0 X' e' (M'.mono K'.1) hZ ho NF
  exact ⟨t, o, st _ h1', r⟩
theorem WP.callF (K : Cx κ w l Z own n0 rm bytes maxL ret nm Q) {x y : MethodName} {by' : ByteArray} {mL' : Nat} {rt' : Option FieldType} {rm' : Room} {Q' : Option Value → Heap → Prop} {i W : Nat} {argsL : List Value} {S' : List Value} {a : Addr} {C : String} {cnt : Nat} (w1 : (Cond.methodLink own i x).before a0 Z = true) (w2 : (Cond.declares x).before a0 Z = true) (w3 : ∀ vm0 : Vm, Z.Warmed39 vm0 → (Cond.interfaceMethod x.cls x.cls x.name x.desc).before κ.a (κ.s.setVm vm0) = true) (w4 : (Cond.selects C x y).before a0 Z = true) (w5 : (Cond.instanceMethod y).before a0 Z = true) (w6 : (Cond.publicMethod y).before a0 Z = true) (w7 : (Cond.unhidden C x.name x.desc).before a0 Z = true) (w8 : (Cond.castable C x.cls).before a0 Z = true) (hx' : x.cls ≠ "java/lang/invoke/MethodHandle" ∧ x.cls ≠ "java/lang/invoke/VarHandle") (E : Exa Z h a C) (hM : Met w l Z y by' mL' rt' [] rm' (.ref a :: argsL).toArray h n0 Q') (wc : (Cond.code y by' mL' rt').before a0 Z = true) (wz : (Cond.initialized y.cls).before a0 Z = true) (hy : y.cls ≠ "java/lang/invoke/MethodHandle" ∧ y.cls ≠ "java/lang/invoke/VarHandle")
    (hL : L.size = maxL) (hlen : ∀ sig, parseMethodDescriptor x.desc = some sig → argsL.length = sig.parameters.length) (hS : S' = argsL.reverse ++ .ref a :: S) (hW : (S.map fun v => v.category).sum = W) (hf : rm'.frames + 1 ≤ rm.frames) (hl : W + (mL' + 11) + rm'.locals ≤ rm.locals) (hk : k + rm'.cells = k') (hn : n + rm'.slots = n') (hk' : k' ≤ rm.cells) (hn' : n' ≤ rm.slots) (hd : decode bytes pc = .ok (.invokeinterface i cnt, 5)) (hp : pc + 5 = pc')
    (H : ∀ (v : Option Value) (h' : Heap), Q' v h' → WP κ h' k' n' (mkF κ.m pc' L (v.toList ++ S))) : WP κ h k n (mkF κ.m pc L S') := by
  obtain ⟨hx, hby, hml, -, -, -, rfl, rfl, rfl, rfl, rfl, rfl, -⟩ := K
  subst hp hS
  intro T locs vm0 X e M hZ ho N
  obtain ⟨cB, kB, q1, q2, q3⟩ := isOf (s := κ.s.setVm vm0) hZ e E
  by_cases hw : κ.w = true
  · rw [hw] at hM
    obtain ⟨v, vm₁, B, -, X', hSi, hgr, hpost, st⟩ := X.interfaceBackS hx (xi := x) (y := y) ho (mvT (s := κ.s.setVm vm0) hZ w1) (mvT (s := κ.s.setVm vm0) hZ w2) (w3 vm0 hZ) (mvT (s := κ.s.setVm vm0) hZ w4) (mvT (s := κ.s.setVm vm0) hZ w5) (mvT (s := κ.s.setVm vm0) hZ w6) (mvT (s := κ.s.setVm vm0) hZ w7) (mvT (s := κ.s.setVm vm0) hZ w8) hx' (Met.backW (s := κ.s.setVm vm0) hM hZ wc wz hf hl) q1 q2 q3 (g := mkF κ.m pc L (argsL.reverse ++ .ref a :: S)) rfl (hL.trans hml.symm) (Steps.refl _) (argsL := argsL) (rest := S) hlen rfl (by show 2 * 0 + _ ≤ _; omega) (hb hby hd) (fun _ _ => ⟨rfl, e, by rw [← hk] at hk'; exact hk', by rw [← hn] at hn'; exact hn'⟩)
    obtain ⟨k0, hS0, hk0⟩ := M.2
    obtain ⟨X'', hS1, hZ1, ho1⟩ := rebS hS0 hk0 X' hSi (e ▸ hgr) hZ ho
    exact Ends.call (Q' := Q') (T1 := ⟨T.setVm vm₁, locs, k, n⟩) M N rfl hpost hk hn X'' ⟨fun q => (by rw [hw] at q; cases q), _, hS1, Nat.le_refl _⟩ hZ1 ho1 st (H v)
  · have hw' : κ.w = false := by simpa using hw
    rw [hw'] at hM
    obtain ⟨v, vm₁, B, -, X', hpost, st⟩ := X.interfaceBack hx (xi := x) (y := y) ho (mvT (s := κ.s.setVm vm0) hZ w1) (mvT (s := κ.s.setVm vm0) hZ w2) (w3 vm0 hZ) (mvT (s := κ.s.setVm vm0) hZ w4) (mvT (s := κ.s.setVm vm0) hZ w5) (mvT (s := κ.s.setVm vm0) hZ w6) (mvT (s := κ.s.setVm vm0) hZ w7) (mvT (s := κ.s.setVm vm0) hZ w8) hx' (Met.back (s := κ.s.setVm vm0) hM hZ wc wz hf hl) q1 q2 q3 (g := mkF κ.m pc L (argsL.reverse ++ .ref a :: S)) rfl (hL.trans hml.symm) (Steps.refl _) (argsL := argsL) (rest := S) hlen rfl (by show 2 * 0 + _ ≤ _; omega) (hb hby hd) (fun _ _ => ⟨rfl, e, by rw [← hk] at hk'; exact hk', by rw [← hn] at hn'; exact hn'⟩)
    refine Ends.call (Q' := Q') (T1 := ⟨T.setVm vm₁, locs, k, n⟩) M N rfl hpost hk hn X' ?_ hZ ho st (H v)
    have e0 := M.1 hw'
    subst e0
    exact Md.start _ _ _
theorem Ary.newR {cA : ClassId} {C : String} {z : Int32} {a : Addr} {N : Nat} (A : Arr Z h a (newA cA (.object C) z) (.object C)) (hz : z.toInt = (N : Int)) : Ary Z h a cA (.object C) N (fun _ => .null) := Ary.of_new (ty := .object C) A hz
theorem WP.anewarray (K : Cx κ w l Z own n0 rm bytes maxL ret nm Q) {i : Nat} {C : String} {z : Int32} {N cap : Nat} (w1 : (Cond.classLink own i C).before a0 Z = true) (w2 : (Cond.arrayOver (.object C)).before a0 Z = true) (hd : decode bytes pc = .ok (.anewarray i, 3)) (hz : z.toInt = (N : Int)) (hcap : N ≤ cap) (hbig : cap * 8 ≤ 536870912) (hk : k + 1 = k') (hn : n + cap = n') (hk' : k' ≤ rm.cells) (hn' : n' ≤ rm.slots) (hp : pc + 3 = pc')
    (H : ∀ (h' : Heap) (a : Addr) (kA : ClassId), @Eq Nat h.size a → Ext h h' → Ary Z h' a kA (.object C) N (fun _ => .null) → Ovr Z kA C → WP κ h' k' n' (mkF κ.m pc' L (.ref a :: S))) : WP κ h k n (mkF κ.m pc L (.int z :: S)) := by
  obtain ⟨hx, hby, -, -, -, hnm, -, -, rfl, rfl, rfl, rfl, -⟩ := K
  subst hp hk hn
  intro T locs vm0 X e M hZ ho N
  obtain ⟨T', h', cA, X', e', E, A, O, st⟩ := RoadKit.newR X hx (s := κ.s.setVm vm0) hZ ho w1 w2 e (g := mkF κ.m pc L (.int z :: S)) rfl (hb hby hd) rfl (by rw [Int32.lt_iff_toInt_lt, hz]; show ¬ _ < (0 : Int); omega) (cap := cap) (by rw [nat_of hz]; exact hcap) hbig hk' hn'
  obtain ⟨t, o, h1, r⟩ := H h' _ cA rfl E (Ary.newR A hz) O T' _ vm0 X' e' (M.mono E.1) hZ ho N
  exact ⟨t, o, st _ h1, r⟩
theorem WP.aastore (K : Cx κ w l Z own n0 rm bytes maxL ret nm Q) {a y : Addr} {kA : ClassId} {ty : FieldType} {C : String} {N i : Nat} {f : Nat → Value} {j : Int32} (A : Ary Z h a kA ty N f) (ht : ty.isReference = true) (O : Ovr Z kA C) (I : Ins Z h y C true) (hj : j.toInt = (i : Int)) (hi : i < N) (ha : n0 ≤ a) (hd : decode bytes pc = .ok (.aastore, 1)) (hp : pc + 1 = pc')
    (H : ∀ h', Wr h h' a i (.ref y) → Ary Z h' a kA ty N (upd f i (.ref y)) → WP κ h' k n (mkF κ.m pc' L S)) : WP κ h k n (mkF κ.m pc L (.ref y :: .int j :: .ref a :: S)) := by
  obtain ⟨hx, hby, -, -, -, hnm, -, -, rfl, rfl, rfl, rfl, -⟩ := K
  subst hp
  have A0 := A
  obtain ⟨c, A, q, r2, -⟩ := A
  intro T locs vm0 X e M hZ ho N
  obtain ⟨T', h', X', e', W, st⟩ := RoadKit.stR X hx (s := κ.s.setVm vm0) hZ e A (in_of r2 hj hi) ht (Sto.ofV A q O I) (g := mkF κ.m pc L (.ref y :: .int j :: .ref a :: S)) rfl rfl (hb hby hd)
  rw [nat_of hj] at W
  obtain ⟨t, o, h1, r⟩ := H h' W (A0.set W (by cases ty <;> first | rfl | (cases ht))) T' _ vm0 X' e' (M.mono (Nat.le_of_eq W.size.symm)) hZ ho (Fr.snoc X' N ha)
  exact ⟨t, o, st _ h1, r⟩
theorem WP.checkcast (K : Cx κ w l Z own n0 rm bytes maxL ret nm Q) {i : Nat} {C : String} {a : Addr} (w1 : (Cond.classLink own i C).before a0 Z = true) (I : Ins Z h a C true) (hd : decode bytes pc = .ok (.checkcast i, 3)) (hp : pc + 3 = pc') (H : WP κ h k n (mkF κ.m pc' L (.ref a :: S))) : WP κ h k n (mkF κ.m pc L (.ref a :: S)) := by
  obtain ⟨hx, hby, -, -, -, hnm, -, -, rfl, rfl, rfl, rfl, -⟩ := K
  subst hp
  intro T locs vm0 X e M hZ ho N
  obtain ⟨T', X', e', st⟩ := castY X hx (s := κ.s.setVm vm0) hZ ho w1 e I (g := mkF κ.m pc L (.ref a :: S)) rfl rfl (hb hby hd)
  obtain ⟨t, o, h1, r⟩ := H T' locs vm0 X' e' M hZ ho N
  exact ⟨t, o, st _ h1, r⟩
theorem WP.instY (K : Cx κ w l Z own n0 rm bytes maxL ret nm Q) {i : Nat} {C : String} {a : Addr} (w1 : (Cond.classLink own i C).before a0 Z = true) (I : Ins Z h a C true) (hd : decode bytes pc = .ok (.instanceof i, 3)) (hp : pc + 3 = pc') (H : WP κ h k n (mkF κ.m pc' L (.int 1 :: S))) : WP κ h k n (mkF κ.m pc L (.ref a :: S)) := by
  obtain ⟨hx, hby, -, -, -, hnm, -, -, rfl, rfl, rfl, rfl, -⟩ := K
  subst hp
  intro T locs vm0 X e M hZ ho N
  obtain ⟨T', X', e', st⟩ := RoadKit.instY X hx (s := κ.s.setVm vm0) hZ ho w1 e I (g := mkF κ.m pc L (.ref a :: S)) rfl rfl (hb hby hd)
  obtain ⟨t, o, h1, r⟩ := H T' locs vm0 X' e' M hZ ho N
  exact ⟨t, o, st _ h1, r⟩
/-- 'ldc' of a String constant (the wide mode alone): some String, of whose text nothing is said -/
theorem WP.ldcS (K : Cx κ true l Z own n0 rm bytes maxL ret nm Q) {i cap : Nat} {text : String} (w1 : (Cond.stringLink own i text).before a0 Z = true) (wS : ∀ a ∈ Bundle.stringAtoms, a.before a0 Z = true) (hd : decode bytes pc = .ok (.ldc i, 2)) (hcap : 4 * text.toList.length ≤ cap) (hbig : cap ≤ 536870912) (hk : k + 2 = k') (hn : n + (cap + 4) = n') (hk' : k' ≤ rm.cells) (hn' : n' ≤ rm.slots) (hp : pc + 2 = pc')
    (H : ∀ (h' : Heap) (a : Addr), Ext h h' → WP κ h' k' n' (mkF κ.m pc' L (.ref a :: S))) : WP κ h k n (mkF κ.m pc L S) := by
  obtain ⟨hx, hby, -, -, -, -, hw, -, rfl, rfl, rfl, rfl, -⟩ := K
  subst hp hk hn
  intro T locs vm0 X e M hZ ho N
  obtain ⟨k0, hS, hk0⟩ := M.2
  obtain ⟨a, T', h', k1, X', e', E, hS', hk1, hZ', ho', st⟩ := RoadKit.ldcS X hx hZ ho w1 wS e hS hk0 (g := mkF κ.m pc L S) rfl (hb hby hd) hcap hbig hk' hn'
  obtain ⟨t, o, h1, r⟩ := H h' a E T' locs T'.vm X' e' ⟨fun q => (by rw [hw] at q; cases q), k1, hS', hk1⟩ hZ' ho' N
  exact ⟨t, o, st _ h1, r⟩
theorem WP.newarrayE (K : Cx κ w l Z own n0 rm bytes maxL ret nm Q) {aty : ArrayType} {z : Int32} {N cap : Nat} {ad : String} (had : "[" ++ (newarray.typeOf aty).toString = ad) (w1 : (Cond.arrayClass (newarray.typeOf aty)).before a0 Z = true) (hd : decode bytes pc = .ok (.newarray aty, 2)) (hz : z.toInt = (N : Int)) (hcap : N ≤ cap) (hbig : cap * 8 ≤ 536870912) (hk : k + 1 = k') (hn : n + cap = n') (hk' : k' ≤ rm.cells) (hn' : n' ≤ rm.slots) (hp : pc + 2 = pc')
    (H : ∀ (h' : Heap) (a : Addr) (kA : ClassId), @Eq Nat h.size a → Ext h h' → Ary Z h' a kA (newarray.typeOf aty) N (fun _ => defaultValue (newarray.typeOf aty)) → Exa Z h' a ad → WP κ h' k' n' (mkF κ.m pc' L (.ref a :: S))) : WP κ h k n (mkF κ.m pc L (.int z :: S)) := by
  obtain ⟨hx, hby, -, -, -, hnm, -, -, rfl, rfl, rfl, rfl, -⟩ := K
  subst hp hk hn
  intro T locs vm0 X e M hZ ho N
  obtain ⟨T', h', cA, X', e', E, A, Ex, st⟩ := newPE X hx (s := κ.s.setVm vm0) hZ w1 e (g := mkF κ.m pc L (.int z :: S)) rfl (hb hby hd) rfl (by rw [Int32.lt_iff_toInt_lt, hz]; show ¬ _ < (0 : Int); omega) (cap := cap) (by rw [nat_of hz]; exact hcap) hbig hk' hn' had
  obtain ⟨t, o, h1, r⟩ := H h' _ cA rfl E (Ary.of_new A hz) Ex T' _ vm0 X' e' (M.mono E.1) hZ ho N
  exact ⟨t, o, st _ h1, r⟩
/-- the native clone of an array -/
theorem WP.cloneA (K : Cx κ w l Z own n0 rm bytes maxL ret nm Q) {i W cap : Nat} {ad : String} {a : Addr} {kA : ClassId} {ty : FieldType} {N : Nat} {f : Nat → Value} (w1 : (Cond.methodLink own i ⟨ad, "clone", "()Ljava/lang/Object;"⟩).before a0 Z = true) (w2 : (Cond.sameMethod ad "java/lang/Object" "clone" "()Ljava/lang/Object;").before a0 Z = true) (w3 : (Cond.native ⟨"java/lang/Object", "clone", "()Ljava/lang/Object;"⟩).before a0 Z = true)
    (w4 : (Cond.instanceMethod ⟨"java/lang/Object", "clone", "()Ljava/lang/Object;"⟩).before a0 Z = true) (w5 : (Cond.selects ad ⟨ad, "clone", "()Ljava/lang/Object;"⟩ ⟨"java/lang/Object", "clone", "()Ljava/lang/Object;"⟩).before a0 Z = true) (w6 : (Cond.castable ad "java/lang/Cloneable").before a0 Z = true)
    (A : Ary Z h a kA ty N f) (E : Exa Z h a ad) (hd : decode bytes pc = .ok (.invokevirtual i, 3)) (hL : L.size = maxL) (hf : 1 ≤ rm.frames) (hW : (S.map fun v => v.category).sum = W) (hl : W + 14 ≤ rm.locals) (hcap : N ≤ cap) (hk : k + 1 = k') (hn : n + cap = n') (hk' : k' ≤ rm.cells) (hn' : n' ≤ rm.slots) (hp : pc + 3 = pc')
    (H : ∀ (h' : Heap) (b : Addr), @Eq Nat h.size b → Ext h h' → Ary Z h' b kA ty N f → Exa Z h' b ad → WP κ h' k' n' (mkF κ.m pc' L (.ref b :: S))) : WP κ h k n (mkF κ.m pc L (.ref a :: S)) := by
  obtain ⟨hx, hby, hml, -, -, -, -, -, rfl, rfl, rfl, rfl, -⟩ := K
  subst hp hk hn
  intro T locs vm0 X e M hZ ho N'
  obtain ⟨c, A, r1, r2, r3, r4, r5⟩ := A
  have FC : FitC κ.Z c := fitC_of A fun i hi v hv => by rw [r4 i (by omega)] at hv; cases hv; exact r5 i (by omega)
  obtain ⟨T', h', X', e', E', A', Ex, st⟩ := RoadKit.cloneA X hx (s := κ.s.setVm vm0) hZ ho w1 w2 w3 w4 w5 w6 e A E FC (g := mkF κ.m pc L (.ref a :: S)) rfl (hL.trans hml.symm) rfl (hb hby hd) hf (W := W) (by show 2 * 0 + _ ≤ _; omega) hl (cap := cap) (by rw [r2]; exact hcap) hk' hn'
  obtain ⟨t, o, h1, r⟩ := H h' _ rfl E' ⟨cloneOf c, A', r1, r2, r3, r4, r5⟩ Ex T' _ vm0 X' e' (M.mono E'.1) hZ ho N'
  exact ⟨t, o, st _ h1, r⟩
/-- a function object made at a site of the class C, that captured one reference -/
def Fun1 (Z : State) (h : Heap) (σ : Lambda.Shape) (C : String) (b a : Addr) : Prop := ∃ (cell : Cell) (d : ClassId) (dk : Class), h[b]? = some cell ∧ cell.vm = .none ∧ cell.slots[0]? = some (.ref a) ∧ Z.vm.classes[d]? = some dk ∧ dk.name = C ∧ Lambda.isMade { classPath := fun _ => none } Z.vm d σ cell.cls = true ∧ Z.lambdaCallable σ cell.cls = true
section Funs
variable {σ : Lambda.Shape} {C : String} {a b : Addr}
theorem Fun1.lt (F : Fun1 Z h σ C b a) : b < h.size := by obtain ⟨cell, _, _, q, _⟩ := F; exact (Array.getElem?_eq_some_iff.mp q).1
theorem Fun1.ext (E : Ext h h') (F : Fun1 Z h σ C b a) : Fun1 Z h' σ C b a := by obtain ⟨cell, d, dk, q, r⟩ := F; exact ⟨cell, d, dk, E.2 _ _ q, r⟩
theorem Fun1.keep {ws : List Addr} (K : Keep h h' ws) (F : Fun1 Z h σ C b a) (q : b ∉ ws) : Fun1 Z h' σ C b a := by obtain ⟨cell, d, dk, p, r⟩ := F; exact ⟨cell, d, dk, K.2.1 _ _ p q, r⟩
theorem Fun1.other {c : Addr} {sl : Nat} {v : Value} (W : Wr h h' c sl v) (F : Fun1 Z h σ C b a) (q : b ≠ c) : Fun1 Z h' σ C b a := Fun1.keep (Keep.wr (Keep.refl h [c]) W (Or.inl (List.mem_singleton.mpr rfl))) F (fun z => q (List.mem_singleton.mp z))
end Funs
/-- a lambda's site that captures one reference: a new function object -/
theorem WP.lambda1 (K : Cx κ w l Z own n0 rm bytes maxL ret nm Q) {x : MethodName} {i W : Nat} {σ : Lambda.Shape} {C0 : String} {a : Addr} (hN : Z.methodNamed? x = some κ.m) (w1 : (Cond.lambdaSite x pc i σ).before a0 Z = true) (wO : (Cond.instantiable "java/lang/Object" 0).before a0 Z = true) (hcap : σ.captured = [.object C0]) (lays : ((σ.file x.cls).bind (layoutFields · 0)).map (·.2.1) = some #[.object C0])
    (hd : decode bytes pc = .ok (.invokedynamic i, 5)) (hL : L.size = maxL) (hW : (S.map fun v => v.category).sum = W) (hl : W + 1 + 3072 ≤ rm.locals) (hk : k + 1 = k') (hn : n + 1 = n') (hk' : k' ≤ rm.cells) (hn' : n' ≤ rm.slots) (hp : pc + 5 = pc')
    (H : ∀ (h' : Heap) (b : Addr), @Eq Nat h.size b → Ext h h' → Fun1 Z h' σ x.cls b a → WP κ h' k' n' (mkF κ.m pc' L (.ref b :: S))) : WP κ h k n (mkF κ.m pc L (.ref a :: S)) := by
  obtain ⟨hx, hby, hml, -, -, -, -, -, rfl, rfl, rfl, rfl, -⟩ := K
  subst hp hk hn
  intro T locs vm0 X e M hZ ho N'
  obtain ⟨cK, one, hat⟩ := Cond.lambdaSite_spec w1
  obtain ⟨m', kS, cfS, i0, p0, lk, hm', hkS, hcfS, hshape, -, hfind, hmade, hcan, hlk⟩ := State.lambdaAt?_spec hat
  cases hN.symm.trans hm'
  obtain ⟨rfl, rfl, -⟩ : lk = .makes cK ∧ one = none ∧ σ.captured ≠ [] := by
    rcases hlk with ⟨a, cell, -, -, h, -⟩ | h
    · rw [hcap] at h; cases h
    · exact h
  obtain ⟨kS', hkS', hnameS⟩ := className_of_methodNamed hN
  cases hkS.symm.trans hkS'
  obtain ⟨bsm, nt, desc, site, hc, hnt, hsite, hpar⟩ := Lambda.shapeOf?_site hshape
  obtain ⟨kK, hkK, htyK, hkindK, hhid⟩ := Lambda.made_types hmade hkS wO (by rw [hnameS]; exact lays)
  obtain ⟨k2, hk2, he2⟩ := hZ.alike.2.2 _ _ hkS
  obtain ⟨k3, hk3, he3⟩ := hZ.alike.2.2 _ _ hkK
  have hty3 : k3.instanceTypes = #[.object C0] := by rw [he3]; exact htyK
  have hkd3 : k3.kind = .ordinary := by rw [he3]; exact hkindK
  have hE : ((k3.instanceTypes.toList.zip [(Value.ref a)]).map fun (t, v) => narrow t v) = [Value.ref a] := by rw [hty3]; rfl
  obtain ⟨X', st⟩ := X.lambdaMakes hx (g := mkF κ.m pc L (.ref a :: S)) rfl (hL.trans hml.symm) (hb hby hd) (vals := [Value.ref a]) (rest := S) hk2 (by rw [he2]; exact hfind) (by rw [he2]; exact hcfS) hc hnt (parseLong_of_parse hsite) (by rw [hpar, hcap]; rfl) rfl hk3
    (by rw [X.admits.platform]; show 2 * 0 + (1 + (S.map fun v => v.category).sum) + 3072 ≤ _; omega) hk' (by rw [hE]; exact hn')
    (fun i v hv => by
      rw [hE] at hv
      match i, hv with
      | 0, hv => simp at hv; subst hv; simp [State.fitsSlot, State.slotType?, hk3, hkd3, hty3, fits]
      | k + 1, hv => simp at hv)
  rw [hE] at X' st
  subst e
  have E : Ext T.heap (T.pushCell { cls := cK, slots := [Value.ref a].toArray, vm := .none }).heap := ext_of fun a q => Array.getElem?_push_lt q |>.trans (Array.getElem?_eq_getElem q).symm
  have F : Fun1 κ.Z (T.pushCell { cls := cK, slots := [Value.ref a].toArray, vm := .none }).heap σ x.cls T.heap.size a := ⟨{ cls := cK, slots := [Value.ref a].toArray, vm := .none }, κ.m.cls, kS, Array.getElem?_push_size, rfl, rfl, hkS, hnameS, hmade, hcan⟩
  obtain ⟨t, o, h1, r⟩ := H _ _ rfl E F _ _ vm0 X' rfl (M.mono E.1) hZ ho N'
  exact ⟨t, o, st _ h1, r⟩
end Rules
end Jvm.OwnW
namespace Jvm.Pilot.@@N@@
open Jvm Jvm.ClassFile Sem Op Lib Jvm.Free Jvm.Stand Jvm.LawKit Jvm.RoadKit Bundle Jvm.OwnW Jvm.Pilot.@@N@@.Jvm.D

def own_One (s : Slot) : Prop := s = .unset ∨ ∃ w : Value, s = .val w ∧ w.category = 1
theorem own_One.u : own_One .unset := Or.inl rfl
theorem own_One.v {w : Value} (h : w.category = 1) : own_One (.val w) := Or.inr ⟨w, rfl, h⟩
def own_max (x y : Int32) : Int32 := if x < y then y else x
def own_lfill (F : Nat → Int64) (k : Nat) (v : Int64) : Nat → Int64 := fun j => if j < k then v else F j
theorem own_lfill_0 (F : Nat → Int64) (v : Int64) : own_lfill F 0 v = F := by funext j; unfold own_lfill; rw [if_neg (by omega)]
theorem own_lfill_step {F : Nat → Int64} {k : Nat} {v : Int64} : fset (own_lfill F k v) k v = own_lfill F (k + 1) v := by
  funext j; unfold fset own_lfill
  by_cases q : j = k
  · subst q; rw [if_pos rfl, if_pos (by omega)]
  · rw [if_neg q]
    by_cases r : j < k
    · rw [if_pos r, if_pos (by omega)]
    · rw [if_neg r, if_neg (by omega)]
theorem own_fsl {F D : Nat → Int64} {i j : Nat} {v z : Int64} (hD : ∀ i, i < 64 → D i = z) (hj : j < 64) : fset (own_lfill F 64 z) i v j = fset D i v j := by
  unfold fset
  by_cases q : j = i
  · rw [if_pos q, if_pos q]
  · rw [if_neg q, if_neg q]; unfold own_lfill; rw [if_pos hj, hD j hj]
theorem own_add2 {x y : Int32} {n k : Nat} (h : x.toInt = (n : Int)) (hy : y.toInt = (k : Int)) (hn : n + k < 2147483648) : (x + y).toInt = ((n + k : Nat) : Int) := by
  have q := c_iadd x y
  have r2 := rng32 (x + y)
  omega
theorem own_mul4 {x y : Int32} {n c : Nat} (hc : y.toInt = (c : Int)) (h : x.toInt = (n : Int)) (hn : c * n < 2147483648) : (y * x).toInt = ((c * n : Nat) : Int) := by
  have q := c_imul y x
  have r2 := rng32 (y * x)
  rw [hc, h] at q
  have e : ((c * n : Nat) : Int) = (c : Int) * (n : Int) := by simp
  omega
theorem own_sub {x y : Int32} {a b : Nat} (hx : x.toInt = (a : Int)) (hy : y.toInt = (b : Int)) (h : b ≤ a) : (x - y).toInt = ((a - b : Nat) : Int) := by
  have q := c_isub x y; have r := rng32 (x - y); have r1 := rng32 x; omega
theorem own_2 {x : Int32} {a : Nat} (hx : x.toInt = (a : Int)) (h : a < 1000) : ((2 : Int32) * x).toInt = ((2 * a : Nat) : Int) := own_mul4 (y := (2 : Int32)) (c := 2) rfl hx (by omega)
theorem own_ix {x y : Int32} {a b : Nat} (hx : x.toInt = (a : Int)) (hy : y.toInt = (b : Int)) (h : a + b < 1000) : ((2 : Int32) * (x + y)).toInt = ((2 * (a + b) : Nat) : Int) := own_2 (own_add2 hx hy (by omega)) h
theorem own_a1 {x : Int32} {a : Nat} (hx : x.toInt = (a : Int)) (h : a < 10000) : (x + (1 : Int32)).toInt = ((a + 1 : Nat) : Int) := own_add2 hx (y := (1 : Int32)) (k := 1) rfl (by omega)
theorem own_a2 {x : Int32} {a : Nat} (hx : x.toInt = (a : Int)) (h : a < 10000) : (x + (2 : Int32)).toInt = ((a + 2 : Nat) : Int) := own_add2 hx (y := (2 : Int32)) (k := 2) rfl (by omega)
theorem own_s1 {x : Int32} {a : Nat} (hx : x.toInt = (a : Int)) (h : 1 ≤ a) : (x - (1 : Int32)).toInt = ((a - 1 : Nat) : Int) := own_sub hx (y := (1 : Int32)) (b := 1) rfl h
theorem own_m1 {x : Int32} {a : Nat} (hx : x.toInt = ((a + 1 : Nat) : Int)) : (x + (-1 : Int32)).toInt = (a : Int) := by
  have q := c_iadd x (-1); have r := rng32 (x + (-1 : Int32)); have r1 := rng32 x; have e : (-1 : Int32).toInt = -1 := (by decide); omega
theorem own_div2 {x : Int32} {a : Nat} (hx : x.toInt = (a : Int)) : (x / (2 : Int32)).toInt = ((a / 2 : Nat) : Int) := by
  rw [(c_idiv x 2 2 (by decide) (by decide)).1 (by omega), hx]; exact (Int.natCast_ediv a 2).symm
theorem own_lt {x y : Int32} {a b : Nat} (hx : x.toInt = (a : Int)) (hy : y.toInt = (b : Int)) : x < y ↔ a < b := by rw [Int32.lt_iff_toInt_lt]; omega
theorem own_eq {x y : Int32} {a b : Nat} (hx : x.toInt = (a : Int)) (hy : y.toInt = (b : Int)) : x = y ↔ a = b := by rw [← Int32.toInt_inj]; omega
theorem own_max4 {x : Int32} {a : Nat} (hx : x.toInt = (a : Int)) (h : a ≤ 4) : own_max (4 : Int32) x = (4 : Int32) := if_neg (by rw [own_lt (a := 4) rfl hx]; omega)
theorem own_nn {x : Int32} (h : 0 ≤ x.toInt ∧ x.toInt < 64) : x.toInt = (x.toInt.toNat : Int) := by omega
theorem own_n64 {x : Int32} (h : 0 ≤ x.toInt ∧ x.toInt < 64) : x.toInt.toNat < 64 := by omega
def own_cons (G : Nat → Int32) (t : Int32) : Nat → Int32 := fun j => if j = 0 then t else G (j - 1)
def own_ins (G : Nat → Int32) (p : Nat) (t : Int32) : Nat → Int32 := fun j => if j < p then G j else if j = p then t else G (j - 1)
def own_pos (G : Nat → Int32) (D : Nat → Int64) (ear : Nat) (v : Int64) : Nat → Nat
  | 0 => 0
  | a + 1 => if ear < a + 1 ∧ v < D (G a).toInt.toNat then own_pos G D ear v a else a + 1
theorem own_pos_le (G : Nat → Int32) (D : Nat → Int64) (ear : Nat) (v : Int64) : ∀ a, own_pos G D ear v a ≤ a := by
  intro a
  induction a with
  | zero => exact Nat.le_refl _
  | succ a ih =>
    rw [own_pos]; split
    · omega
    · omega
def own_E : Int64 := (-9223372036854775807 : Int64)
def own_ae (D : Nat → Int64) (i ear : Nat) : Nat := if D i = own_E then ear + 1 else ear
def own_ag (D : Nat → Int64) (i n ear : Nat) (t : Int32) (G : Nat → Int32) : Nat → Int32 := if D i = own_E then own_cons G t else own_ins G (own_pos G D ear (D i) n) t
def own_bd (n : Nat) (G : Nat → Int32) : Prop := ∀ i, i < n → 0 ≤ (G i).toInt ∧ (G i).toInt < 64
theorem own_bd_ag {D : Nat → Int64} {i n ear : Nat} {t : Int32} {G : Nat → Int32} (h : own_bd n G) (ht : 0 ≤ t.toInt ∧ t.toInt < 64) : own_bd (n + 1) (own_ag D i n ear t G) := by
  intro j hj
  unfold own_ag
  split
  · unfold own_cons
    by_cases q : j = 0
    · rw [if_pos q]; exact ht
    · rw [if_neg q]; exact h _ (by omega)
  · have hp := own_pos_le G D ear (D i) n
    unfold own_ins
    by_cases q : j < own_pos G D ear (D i) n
    · rw [if_pos q]; exact h _ (by omega)
    · rw [if_neg q]
      by_cases r : j = own_pos G D ear (D i) n
      · rw [if_pos r]; exact ht
      · rw [if_neg r]; exact h _ (by omega)
def own_ren (R G : Nat → Int32) (ear : Nat) : Nat → Nat × (Nat → Int32) × Nat
  | 0 => (0, G, 0)
  | i + 1 => if R (G i).toInt.toNat < (0 : Int32) then own_ren R G ear i else ((own_ren R G ear i).1 + 1, fset (own_ren R G ear i).2.1 (own_ren R G ear i).1 (R (G i).toInt.toNat), if i < ear then (own_ren R G ear i).2.2 + 1 else (own_ren R G ear i).2.2)
theorem own_ren_le (R G : Nat → Int32) (ear : Nat) : ∀ i, (own_ren R G ear i).1 ≤ i ∧ (own_ren R G ear i).2.2 ≤ i := by
  intro i
  induction i with
  | zero => exact ⟨Nat.le_refl _, Nat.le_refl _⟩
  | succ i ih =>
    rw [own_ren]; split
    · omega
    · refine ⟨by show (own_ren R G ear i).1 + 1 ≤ _; omega, ?_⟩
      show (if i < ear then (own_ren R G ear i).2.2 + 1 else (own_ren R G ear i).2.2) ≤ _
      split <;> omega
theorem own_ren_bd (R G : Nat → Int32) (ear : Nat) (hR : ∀ j, (R j).toInt < 64) : ∀ i, own_bd (own_ren R G ear i).1 (own_ren R G ear i).2.1 := by
  intro i
  induction i with
  | zero => intro j hj; exact absurd hj (by show ¬ j < 0; omega)
  | succ i ih =>
    rw [own_ren]; split
    · exact ih
    · rename_i q
      intro j hj
      show 0 ≤ (fset (own_ren R G ear i).2.1 (own_ren R G ear i).1 (R (G i).toInt.toNat) j).toInt ∧ (fset (own_ren R G ear i).2.1 (own_ren R G ear i).1 (R (G i).toInt.toNat) j).toInt < 64
      by_cases r : j = (own_ren R G ear i).1
      · rw [r, fset_same]; rw [Int32.lt_iff_toInt_lt] at q; have e : (0 : Int32).toInt = 0 := rfl; exact ⟨by omega, hR _⟩
      · rw [fset_ne _ _ r]; exact ih j (by have : j < (own_ren R G ear i).1 + 1 := hj; omega)
theorem own_cpG {F F0 F1 G : Nat → Int32} {f b n : Nat} (e : F1 = fun x => if (2 * b) ≤ x ∧ x < (2 * b) + (2 * n) then F ((2 * f) + (x - (2 * b))) else F0 x) (hG : ∀ i, i < n → F (2 * (f + i)) = G i) : ∀ i, i < n → F1 (2 * (b + i)) = G i := by
  intro i hi
  rw [e]; dsimp only
  rw [if_pos ⟨by omega, by omega⟩, show 2 * f + (2 * (b + i) - 2 * b) = 2 * (f + i) by omega]
  exact hG i hi
theorem own_consG {F G : Nat → Int32} {f n : Nat} {t z : Int32} (h : 1 ≤ f) (hG : ∀ i, i < n → F (2 * (f + i)) = G i) : ∀ i, i < n + 1 → fset (fset F (2 * (f - 1)) t) (2 * (f - 1) + 1) z (2 * (f - 1 + i)) = own_cons G t i := by
  intro i hi
  rw [fset_ne _ _ (by omega)]
  unfold own_cons
  by_cases q : i = 0
  · rw [if_pos q, q]; exact fset_same _ _ _
  · rw [if_neg q, fset_ne _ _ (by omega), show 2 * (f - 1 + i) = 2 * (f + (i - 1)) by omega]; exact hG _ (by omega)
theorem own_insG {F F1 G : Nat → Int32} {f n p : Nat} {t z : Int32} (hp : p ≤ n) (e : F1 = fun x => if (2 * (f + p) + 2) ≤ x ∧ x < (2 * (f + p) + 2) + (2 * (n - p)) then F ((2 * (f + p)) + (x - (2 * (f + p) + 2))) else F x) (hG : ∀ i, i < n → F (2 * (f + i)) = G i) : ∀ i, i < n + 1 → fset (fset F1 (2 * (f + p)) t) (2 * (f + p) + 1) z (2 * (f + i)) = own_ins G p t i := by
  intro i hi
  rw [fset_ne _ _ (by omega)]
  unfold own_ins
  by_cases q : i = p
  · rw [if_neg (by omega), if_pos q, q]; exact fset_same _ _ _
  · rw [fset_ne _ _ (by omega), e]; dsimp only
    by_cases r : i < p
    · rw [if_pos r, if_neg (by omega)]; exact hG _ (by omega)
    · rw [if_neg r, if_neg q, if_pos ⟨by omega, by omega⟩, show 2 * (f + p) + (2 * (f + i) - (2 * (f + p) + 2)) = 2 * (f + (i - 1)) by omega]; exact hG _ (by omega)
theorem own_appG {F G : Nat → Int32} {f n p : Nat} {t z : Int32} (hp : p = n) (hG : ∀ i, i < n → F (2 * (f + i)) = G i) : ∀ i, i < n + 1 → fset (fset F (2 * (f + p)) t) (2 * (f + p) + 1) z (2 * (f + i)) = own_ins G p t i := by
  intro i hi
  rw [fset_ne _ _ (by omega)]
  unfold own_ins
  by_cases q : i = p
  · rw [if_neg (by omega), if_pos q, q]; exact fset_same _ _ _
  · rw [fset_ne _ _ (by omega), if_pos (by omega)]; exact hG _ (by omega)
theorem own_renA {E H : Nat → Int32} {f k : Nat} {r z : Int32} (h : ∀ j, j < k → E (2 * (f + j)) = H j) : ∀ j, j < k + 1 → fset (fset E (2 * (f + k)) r) (2 * (f + k) + 1) z (2 * (f + j)) = fset H k r j := by
  intro j hj
  rw [fset_ne _ _ (by omega)]
  by_cases q : j = k
  · rw [q, fset_same, fset_same]
  · rw [fset_ne _ _ (by omega), fset_ne _ _ q]; exact h j (by omega)
theorem own_renB {E G : Nat → Int32} {f k i n : Nat} {r z : Int32} (hk : k ≤ i) (h : ∀ j, i ≤ j → j < n → E (2 * (f + j)) = G j) : ∀ j, i + 1 ≤ j → j < n → fset (fset E (2 * (f + k)) r) (2 * (f + k) + 1) z (2 * (f + j)) = G j := by
  intro j hj hn
  rw [fset_ne _ _ (by omega), fset_ne _ _ (by omega)]; exact h j (by omega) hn
theorem own_kw {el en x : Addr} {m : Nat} (h : x = en ∨ m ≤ x) : x ∈ [el, en] ∨ m ≤ x := h.imp (fun q => by rw [q]; simp) id

theorem own_iJ {Z : State} {h : Heap} {a : Addr} {k k' : ClassId} {N M : Nat} {f g : Nat → Value} (A : Ary Z h a k .int N f) (B : Ary Z h a k' .long M g) : False := by
  obtain ⟨c, ⟨a1, ⟨-, kk, a2, comp, a3⟩, -⟩, -⟩ := A
  obtain ⟨c', ⟨b1, ⟨-, kk', b2, comp', b3⟩, -⟩, -⟩ := B
  cases a1.symm.trans b1; cases a2.symm.trans b2; rw [a3] at b3; cases b3

def own_blk (c : Prop) [Decidable c] (t : Int32) (s : Nat × (Nat → Int32)) : Nat × (Nat → Int32) := if c then (s.1 + 1, fset s.2 s.1 t) else s
theorem own_blk_1 (c : Prop) [Decidable c] (t : Int32) (s : Nat × (Nat → Int32)) : (own_blk c t s).1 = s.1 + if c then 1 else 0 := by unfold own_blk; split <;> rfl
theorem own_ab (P Q : Prop) [Decidable P] [Decidable Q] : (if ¬ P ∧ Q then 1 else 0) + (if P ∧ Q then 1 else 0) ≤ 1 := by by_cases p : P <;> by_cases q : Q <;> simp [p, q]
def own_S0 (p0 t0 t1 t2 : Int32) : Nat × (Nat → Int32) := (0, fun _ => (0 : Int32))
def own_S1 (p0 t0 t1 t2 : Int32) : Nat × (Nat → Int32) := own_blk (¬ (p0 &&& (4 : Int32)) = (0 : Int32) ∧ (p0 &&& (32 : Int32)) = (0 : Int32)) t2 (own_S0 p0 t0 t1 t2)
def own_S2 (p0 t0 t1 t2 : Int32) : Nat × (Nat → Int32) := own_blk (¬ (p0 &&& (2 : Int32)) = (0 : Int32) ∧ (p0 &&& (16 : Int32)) = (0 : Int32)) t1 (own_S1 p0 t0 t1 t2)
def own_S3 (p0 t0 t1 t2 : Int32) : Nat × (Nat → Int32) := own_blk (¬ (p0 &&& (1 : Int32)) = (0 : Int32) ∧ (p0 &&& (8 : Int32)) = (0 : Int32)) t0 (own_S2 p0 t0 t1 t2)
def own_S4 (p0 t0 t1 t2 : Int32) : Nat × (Nat → Int32) := own_blk True (63 : Int32) (own_S3 p0 t0 t1 t2)
def own_S5 (p0 t0 t1 t2 : Int32) : Nat × (Nat → Int32) := own_blk ((p0 &&& (1 : Int32)) = (0 : Int32) ∧ (p0 &&& (8 : Int32)) = (0 : Int32)) t0 (own_S4 p0 t0 t1 t2)
def own_S6 (p0 t0 t1 t2 : Int32) : Nat × (Nat → Int32) := own_blk ((p0 &&& (2 : Int32)) = (0 : Int32) ∧ (p0 &&& (16 : Int32)) = (0 : Int32)) t1 (own_S5 p0 t0 t1 t2)
def own_S7 (p0 t0 t1 t2 : Int32) : Nat × (Nat → Int32) := own_blk ((p0 &&& (4 : Int32)) = (0 : Int32) ∧ (p0 &&& (32 : Int32)) = (0 : Int32)) t2 (own_S6 p0 t0 t1 t2)
theorem own_Sle (p0 t0 t1 t2 : Int32) : (own_S0 p0 t0 t1 t2).1 ≤ (own_S1 p0 t0 t1 t2).1 ∧ (own_S1 p0 t0 t1 t2).1 ≤ (own_S2 p0 t0 t1 t2).1 ∧ (own_S2 p0 t0 t1 t2).1 ≤ (own_S3 p0 t0 t1 t2).1 ∧ (own_S3 p0 t0 t1 t2).1 ≤ (own_S4 p0 t0 t1 t2).1 ∧ (own_S4 p0 t0 t1 t2).1 ≤ (own_S5 p0 t0 t1 t2).1 ∧ (own_S5 p0 t0 t1 t2).1 ≤ (own_S6 p0 t0 t1 t2).1 ∧ (own_S6 p0 t0 t1 t2).1 ≤ (own_S7 p0 t0 t1 t2).1 ∧ (own_S7 p0 t0 t1 t2).1 ≤ 4 ∧ (own_S4 p0 t0 t1 t2).1 = (own_S3 p0 t0 t1 t2).1 + 1 := by
  have e1 : (own_S1 p0 t0 t1 t2).1 = (own_S0 p0 t0 t1 t2).1 + (if (¬ (p0 &&& (4 : Int32)) = (0 : Int32) ∧ (p0 &&& (32 : Int32)) = (0 : Int32)) then 1 else 0) := own_blk_1 _ _ _
  have e2 : (own_S2 p0 t0 t1 t2).1 = (own_S1 p0 t0 t1 t2).1 + (if (¬ (p0 &&& (2 : Int32)) = (0 : Int32) ∧ (p0 &&& (16 : Int32)) = (0 : Int32)) then 1 else 0) := own_blk_1 _ _ _
  have e3 : (own_S3 p0 t0 t1 t2).1 = (own_S2 p0 t0 t1 t2).1 + (if (¬ (p0 &&& (1 : Int32)) = (0 : Int32) ∧ (p0 &&& (8 : Int32)) = (0 : Int32)) then 1 else 0) := own_blk_1 _ _ _
  have e4 : (own_S4 p0 t0 t1 t2).1 = (own_S3 p0 t0 t1 t2).1 + (if True then 1 else 0) := own_blk_1 _ _ _
  have e5 : (own_S5 p0 t0 t1 t2).1 = (own_S4 p0 t0 t1 t2).1 + (if ((p0 &&& (1 : Int32)) = (0 : Int32) ∧ (p0 &&& (8 : Int32)) = (0 : Int32)) then 1 else 0) := own_blk_1 _ _ _
  have e6 : (own_S6 p0 t0 t1 t2).1 = (own_S5 p0 t0 t1 t2).1 + (if ((p0 &&& (2 : Int32)) = (0 : Int32) ∧ (p0 &&& (16 : Int32)) = (0 : Int32)) then 1 else 0) := own_blk_1 _ _ _
  have e7 : (own_S7 p0 t0 t1 t2).1 = (own_S6 p0 t0 t1 t2).1 + (if ((p0 &&& (4 : Int32)) = (0 : Int32) ∧ (p0 &&& (32 : Int32)) = (0 : Int32)) then 1 else 0) := own_blk_1 _ _ _
  have z : (own_S0 p0 t0 t1 t2).1 = 0 := rfl
  have a4 := own_ab ((p0 &&& (4 : Int32)) = (0 : Int32)) ((p0 &&& (32 : Int32)) = (0 : Int32))
  have a2 := own_ab ((p0 &&& (2 : Int32)) = (0 : Int32)) ((p0 &&& (16 : Int32)) = (0 : Int32))
  have a1 := own_ab ((p0 &&& (1 : Int32)) = (0 : Int32)) ((p0 &&& (8 : Int32)) = (0 : Int32))
  rw [if_pos trivial] at e4
  omega

def own_se (c : Prop) [Decidable c] (i : Nat) (D : Nat → Int64) : Nat → Int64 := if c then fset D i (-9223372036854775807 : Int64) else D
theorem own_se_ne {c : Prop} [Decidable c] {i j : Nat} {D : Nat → Int64} (h : j ≠ i) : own_se c i D j = D j := by unfold own_se; split; exact fset_ne _ _ h; rfl
theorem own_t {p0 x t : Int32} {k : Int32} (e : (if (p0 &&& k) = (0 : Int32) then ((x &&& (2147483647 : Int32)) % (60 : Int32)) else (-1 : Int32)) = t) : ((p0 &&& k) = (0 : Int32) → 0 ≤ t.toInt ∧ t.toInt < 60) ∧ (¬ (p0 &&& k) = (0 : Int32) → t = (-1 : Int32)) := by
  refine ⟨fun h => ?_, fun h => ?_⟩
  · rw [if_pos h] at e
    have e1 : (x &&& (2147483647 : Int32)).toInt = x.toInt % 2147483648 := c_mask x 2147483647 31 (by decide) (by decide)
    have e2 := (c_irem (x &&& (2147483647 : Int32)) 60 60 (by decide)).1 (by omega)
    rw [e] at e2; omega
  · rw [if_neg h] at e; exact e.symm
def own_D0 : Nat → Int64 := fun _ => (9223372036854775807 : Int64)
def own_D1 (p0 : Int32) : Nat → Int64 := own_se (¬ (p0 &&& (1 : Int32)) = (0 : Int32)) 60 own_D0
def own_D2 (p0 : Int32) : Nat → Int64 := own_se (¬ (p0 &&& (2 : Int32)) = (0 : Int32)) 61 (own_D1 p0)
def own_D3 (p0 : Int32) : Nat → Int64 := own_se (¬ (p0 &&& (4 : Int32)) = (0 : Int32)) 62 (own_D2 p0)
def own_D4 (p0 : Int32) : Nat → Int64 := fset (own_D3 p0) 63 (0 : Int64)
def own_R (t0 t1 t2 : Int32) : Nat → Int32 := fset (fset (fset (fun _ => (0 : Int32)) 60 t0) 61 t1) 62 t2
def own_e1 (p0 : Int32) : Nat := own_ae (own_D4 p0) 60 0
def own_G1 (p0 : Int32) : Nat → Int32 := own_ag (own_D4 p0) 60 0 0 (60 : Int32) (fun _ => (0 : Int32))
def own_e2 (p0 : Int32) : Nat := own_ae (own_D4 p0) 61 (own_e1 p0)
def own_G2 (p0 : Int32) : Nat → Int32 := own_ag (own_D4 p0) 61 1 (own_e1 p0) (61 : Int32) (own_G1 p0)
def own_e3 (p0 : Int32) : Nat := own_ae (own_D4 p0) 62 (own_e2 p0)
def own_G3 (p0 : Int32) : Nat → Int32 := own_ag (own_D4 p0) 62 2 (own_e2 p0) (62 : Int32) (own_G2 p0)
def own_r (p0 t0 t1 t2 : Int32) : Nat × (Nat → Int32) × Nat := own_ren (own_R t0 t1 t2) (own_G3 p0) (own_e3 p0) 3
theorem own_nFV (x : Int64) : ¬ (9223372036854775807 : Int64) < x := by
  rw [Int64.lt_iff_toInt_lt]
  have r := rng64 x
  have e : (9223372036854775807 : Int64).toInt = 9223372036854775807 := by decide
  omega
theorem own_posF (G : Nat → Int32) (D : Nat → Int64) (ear : Nat) : ∀ n, own_pos G D ear (9223372036854775807 : Int64) n = n
  | 0 => rfl
  | a + 1 => by rw [own_pos, if_neg (fun q => own_nFV _ q.2)]
theorem own_pos0 {G : Nat → Int32} {D : Nat → Int64} {ear : Nat} : ∀ k, (∀ a, a < k → (0 : Int64) < D (G a).toInt.toNat) → ear ≤ k → own_pos G D ear (0 : Int64) k = ear
  | 0, _, h => by rw [own_pos]; omega
  | k + 1, h, hle => by
    rw [own_pos]
    by_cases q : ear < k + 1
    · rw [if_pos ⟨q, h k (by omega)⟩]; exact own_pos0 k (fun a ha => h a (by omega)) (by omega)
    · rw [if_neg (fun z => q z.1)]; omega
theorem own_agE {D : Nat → Int64} {i n ear : Nat} {t : Int32} {G : Nat → Int32} (h : D i = own_E) : own_ag D i n ear t G = own_cons G t := if_pos h
theorem own_agN {D : Nat → Int64} {i n ear : Nat} {t : Int32} {G : Nat → Int32} (h : D i = (9223372036854775807 : Int64)) : own_ag D i n ear t G = own_ins G n t := by
  unfold own_ag; rw [h, if_neg (by decide), own_posF]
theorem own_aeE {D : Nat → Int64} {i ear : Nat} (h : D i = own_E) : own_ae D i ear = ear + 1 := if_pos h
theorem own_aeN {D : Nat → Int64} {i ear : Nat} (h : D i = (9223372036854775807 : Int64)) : own_ae D i ear = ear := if_neg (by rw [h]; decide)
def own_stp (i ear : Nat) (r : Int32) (s : Nat × (Nat → Int32) × Nat) : Nat × (Nat → Int32) × Nat := if r < (0 : Int32) then s else (s.1 + 1, fset s.2.1 s.1 r, if i < ear then s.2.2 + 1 else s.2.2)
def own_stpB (i ear : Nat) (d : Bool) (r : Int32) (s : Nat × (Nat → Int32) × Nat) : Nat × (Nat → Int32) × Nat := match d with
  | true => s
  | false => (s.1 + 1, fset s.2.1 s.1 r, if i < ear then s.2.2 + 1 else s.2.2)
theorem own_stp_B (i ear : Nat) (r : Int32) (s : Nat × (Nat → Int32) × Nat) {d : Bool} (h : decide (r < (0 : Int32)) = d) : own_stp i ear r s = own_stpB i ear d r s := by
  subst h
  by_cases q : r < (0 : Int32)
  · rw [decide_eq_true q]; exact if_pos q
  · rw [decide_eq_false q]; exact if_neg q
theorem own_ren3 {R G : Nat → Int32} {ear : Nat} {a b c : Int32} {da db dc : Bool} (ha : R (G 0).toInt.toNat = a) (hb : R (G 1).toInt.toNat = b) (hc : R (G 2).toInt.toNat = c) (qa : decide (a < (0 : Int32)) = da) (qb : decide (b < (0 : Int32)) = db) (qc : decide (c < (0 : Int32)) = dc) :
    own_ren R G ear 3 = own_stpB 2 ear dc c (own_stpB 1 ear db b (own_stpB 0 ear da a (0, G, 0))) := by
  rw [← own_stp_B _ _ _ _ qa, ← own_stp_B _ _ _ _ qb, ← own_stp_B _ _ _ _ qc, ← ha, ← hb, ← hc]
  rfl
theorem own_ren_le2 (R G : Nat → Int32) (ear : Nat) : ∀ i, (own_ren R G ear i).2.2 ≤ (own_ren R G ear i).1 := by
  intro i
  induction i with
  | zero => exact Nat.le_refl _
  | succ i ih =>
    rw [own_ren]; split
    · exact ih
    · show (if i < ear then (own_ren R G ear i).2.2 + 1 else (own_ren R G ear i).2.2) ≤ (own_ren R G ear i).1 + 1
      split <;> omega
theorem own_ren_P (P : Int32 → Prop) (R G : Nat → Int32) (ear : Nat) (h : ∀ j, ¬ R j < (0 : Int32) → P (R j)) : ∀ i j, j < (own_ren R G ear i).1 → P ((own_ren R G ear i).2.1 j) := by
  intro i
  induction i with
  | zero => intro j hj; exact absurd hj (by show ¬ j < 0; omega)
  | succ i ih =>
    rw [own_ren]; split
    · exact ih
    · rename_i q
      intro j hj
      show P (fset (own_ren R G ear i).2.1 (own_ren R G ear i).1 (R (G i).toInt.toNat) j)
      by_cases r : j = (own_ren R G ear i).1
      · rw [r, fset_same]; exact h _ q
      · rw [fset_ne _ _ r]; exact ih j (by have : j < (own_ren R G ear i).1 + 1 := hj; omega)
def own_blkB (c : Bool) (t : Int32) (s : Nat × (Nat → Int32)) : Nat × (Nat → Int32) := match c with
  | true => (s.1 + 1, fset s.2 s.1 t)
  | false => s
theorem own_blk_B (c : Prop) [Decidable c] (t : Int32) (s : Nat × (Nat → Int32)) {b : Bool} (h : decide c = b) : own_blk c t s = own_blkB b t s := by
  subst h
  by_cases q : c
  · rw [decide_eq_true q]; exact if_pos q
  · rw [decide_eq_false q]; exact if_neg q
def own_SB (e0 e1 e2 d0 d1 d2 : Bool) (t0 t1 t2 : Int32) : Nat × (Nat → Int32) :=
  own_blkB (!e2 && !d2) t2 (own_blkB (!e1 && !d1) t1 (own_blkB (!e0 && !d0) t0 (own_blkB true (63 : Int32) (own_blkB (e0 && !d0) t0 (own_blkB (e1 && !d1) t1 (own_blkB (e2 && !d2) t2 (0, fun _ => (0 : Int32))))))))
def own_o3 (ear : Nat) (x y z : Int32 × Bool) (G : Nat → Int32) : Nat × (Nat → Int32) × Nat := own_stpB 2 ear z.2 z.1 (own_stpB 1 ear y.2 y.1 (own_stpB 0 ear x.2 x.1 (0, G, 0)))
def own_rB (G : Nat → Int32) (e0 e1 e2 : Bool) (x0 x1 x2 : Int32 × Bool) : Nat × (Nat → Int32) × Nat := match e0, e1, e2 with
  | true, true, true => own_o3 3 x2 x1 x0 G
  | true, true, false => own_o3 2 x1 x0 x2 G
  | true, false, true => own_o3 2 x2 x0 x1 G
  | true, false, false => own_o3 1 x0 x1 x2 G
  | false, true, true => own_o3 2 x2 x1 x0 G
  | false, true, false => own_o3 1 x1 x0 x2 G
  | false, false, true => own_o3 1 x2 x0 x1 G
  | false, false, false => own_o3 0 x0 x1 x2 G
theorem own_B (G : Nat → Int32) (e0 e1 e2 d0 d1 d2 : Bool) (t0 t1 t2 : Int32) : (own_rB G e0 e1 e2 (t0, d0) (t1, d1) (t2, d2)).1 + 1 = (own_SB e0 e1 e2 d0 d1 d2 t0 t1 t2).1 ∧ ∀ i, i < (own_SB e0 e1 e2 d0 d1 d2 t0 t1 t2).1 → own_ins (own_rB G e0 e1 e2 (t0, d0) (t1, d1) (t2, d2)).2.1 (own_rB G e0 e1 e2 (t0, d0) (t1, d1) (t2, d2)).2.2 (63 : Int32) i = (own_SB e0 e1 e2 d0 d1 d2 t0 t1 t2).2 i := by
  cases e0 <;> cases e1 <;> cases e2 <;> cases d0 <;> cases d1 <;> cases d2 <;> refine ⟨rfl, fun i hi => ?_⟩ <;>
    first
    | (have h : i < 1 := hi
       match i, h with
       | 0, _ => rfl)
    | (have h : i < 2 := hi
       match i, h with
       | 0, _ => rfl
       | 1, _ => rfl)
    | (have h : i < 3 := hi
       match i, h with
       | 0, _ => rfl
       | 1, _ => rfl
       | 2, _ => rfl)
    | (have h : i < 4 := hi
       match i, h with
       | 0, _ => rfl
       | 1, _ => rfl
       | 2, _ => rfl
       | 3, _ => rfl)
theorem own_sg {P : Prop} [Decidable P] {t : Int32} (h : (P → 0 ≤ t.toInt ∧ t.toInt < 60) ∧ (¬ P → t = (-1 : Int32))) : decide (t < (0 : Int32)) = !decide P := by
  by_cases x : P
  · have q : ¬ t < (0 : Int32) := by rw [Int32.lt_iff_toInt_lt]; have := h.1 x; have e : (0 : Int32).toInt = 0 := rfl; omega
    rw [decide_eq_true x, decide_eq_false q]; rfl
  · have q : t < (0 : Int32) := by rw [h.2 x]; decide
    rw [decide_eq_false x, decide_eq_true q]; rfl
theorem own_t60 {P : Prop} {t : Int32} (h : (P → 0 ≤ t.toInt ∧ t.toInt < 60) ∧ (¬ P → t = (-1 : Int32))) (q : ¬ t < (0 : Int32)) : t.toInt.toNat < 60 := by
  by_cases x : P
  · have := h.1 x; omega
  · exact absurd (by rw [h.2 x]; decide) q
theorem own_cA (P Q : Prop) [Decidable P] [Decidable Q] : decide (¬ P ∧ Q) = (!decide P && !(!decide Q)) := by by_cases p : P <;> by_cases q : Q <;> simp [p, q]
theorem own_cB (P Q : Prop) [Decidable P] [Decidable Q] : decide (P ∧ Q) = (!(!decide P) && !(!decide Q)) := by by_cases p : P <;> by_cases q : Q <;> simp [p, q]
theorem own_D4_60 (p0 : Int32) : ((p0 &&& (1 : Int32)) = (0 : Int32) → own_D4 p0 60 = (9223372036854775807 : Int64)) ∧ (¬ (p0 &&& (1 : Int32)) = (0 : Int32) → own_D4 p0 60 = own_E) := by
  have e : own_D4 p0 60 = own_se (¬ (p0 &&& (1 : Int32)) = (0 : Int32)) 60 own_D0 60 := by
    show fset (own_D3 p0) 63 (0 : Int64) 60 = _
    rw [fset_ne _ _ (by decide)]
    exact (own_se_ne (by decide)).trans (own_se_ne (by decide))
  rw [e]
  refine ⟨fun h => ?_, fun h => ?_⟩
  · unfold own_se; rw [if_neg (fun q => q h)]
    rfl
  · unfold own_se; rw [if_pos h]; exact fset_same _ _ _
theorem own_D4_61 (p0 : Int32) : ((p0 &&& (2 : Int32)) = (0 : Int32) → own_D4 p0 61 = (9223372036854775807 : Int64)) ∧ (¬ (p0 &&& (2 : Int32)) = (0 : Int32) → own_D4 p0 61 = own_E) := by
  have e : own_D4 p0 61 = own_se (¬ (p0 &&& (2 : Int32)) = (0 : Int32)) 61 (own_D1 p0) 61 := by
    show fset (own_D3 p0) 63 (0 : Int64) 61 = _
    rw [fset_ne _ _ (by decide)]
    exact own_se_ne (by decide)
  rw [e]
  refine ⟨fun h => ?_, fun h => ?_⟩
  · unfold own_se; rw [if_neg (fun q => q h)]
    exact own_se_ne (by decide)
  · unfold own_se; rw [if_pos h]; exact fset_same _ _ _
theorem own_D4_62 (p0 : Int32) : ((p0 &&& (4 : Int32)) = (0 : Int32) → own_D4 p0 62 = (9223372036854775807 : Int64)) ∧ (¬ (p0 &&& (4 : Int32)) = (0 : Int32) → own_D4 p0 62 = own_E) := by
  have e : own_D4 p0 62 = own_se (¬ (p0 &&& (4 : Int32)) = (0 : Int32)) 62 (own_D2 p0) 62 := by
    show fset (own_D3 p0) 63 (0 : Int64) 62 = _
    rw [fset_ne _ _ (by decide)]
    rfl
  rw [e]
  refine ⟨fun h => ?_, fun h => ?_⟩
  · unfold own_se; rw [if_neg (fun q => q h)]
    exact (own_se_ne (by decide)).trans (own_se_ne (by decide))
  · unfold own_se; rw [if_pos h]; exact fset_same _ _ _
theorem own_D4_lo (p0 : Int32) {j : Nat} (h : j < 60) : own_D4 p0 j = (9223372036854775807 : Int64) := by
  show fset (own_D3 p0) 63 (0 : Int64) j = _
  rw [fset_ne _ _ (by omega)]
  exact (own_se_ne (by omega)).trans ((own_se_ne (by omega)).trans (own_se_ne (by omega)))
theorem own_D4_63 (p0 : Int32) : own_D4 p0 63 = (0 : Int64) := fset_same _ _ _
theorem own_G3_NNN {p0 : Int32} (h0 : own_D4 p0 60 = (9223372036854775807 : Int64)) (h1 : own_D4 p0 61 = (9223372036854775807 : Int64)) (h2 : own_D4 p0 62 = (9223372036854775807 : Int64)) : own_e3 p0 = 0 ∧ own_G3 p0 0 = 60 ∧ own_G3 p0 1 = 61 ∧ own_G3 p0 2 = 62 := by
  have e1 : own_e1 p0 = 0 := own_aeN h0
  have g1 : own_G1 p0 = own_ins (fun _ => (0 : Int32)) 0 (60 : Int32) := own_agN h0
  have e2 : own_e2 p0 = 0 := by
    show own_ae _ _ _ = _
    rw [own_aeN h1, e1]
  have g2 : own_G2 p0 = own_ins (own_G1 p0) 1 (61 : Int32) := own_agN h1
  have e3 : own_e3 p0 = 0 := by
    show own_ae _ _ _ = _
    rw [own_aeN h2, e2]
  have g3 : own_G3 p0 = own_ins (own_G2 p0) 2 (62 : Int32) := own_agN h2
  rw [g3, g2, g1]
  exact ⟨e3, rfl, rfl, rfl⟩
theorem own_G3_NNE {p0 : Int32} (h0 : own_D4 p0 60 = (9223372036854775807 : Int64)) (h1 : own_D4 p0 61 = (9223372036854775807 : Int64)) (h2 : own_D4 p0 62 = own_E) : own_e3 p0 = 1 ∧ own_G3 p0 0 = 62 ∧ own_G3 p0 1 = 60 ∧ own_G3 p0 2 = 61 := by
  have e1 : own_e1 p0 = 0 := own_aeN h0
  have g1 : own_G1 p0 = own_ins (fun _ => (0 : Int32)) 0 (60 : Int32) := own_agN h0
  have e2 : own_e2 p0 = 0 := by
    show own_ae _ _ _ = _
    rw [own_aeN h1, e1]
  have g2 : own_G2 p0 = own_ins (own_G1 p0) 1 (61 : Int32) := own_agN h1
  have e3 : own_e3 p0 = 1 := by
    show own_ae _ _ _ = _
    rw [own_aeE h2, e2]
  have g3 : own_G3 p0 = own_cons (own_G2 p0) (62 : Int32) := own_agE h2
  rw [g3, g2, g1]
  exact ⟨e3, rfl, rfl, rfl⟩
theorem own_G3_NEN {p0 : Int32} (h0 : own_D4 p0 60 = (9223372036854775807 : Int64)) (h1 : own_D4 p0 61 = own_E) (h2 : own_D4 p0 62 = (9223372036854775807 : Int64)) : own_e3 p0 = 1 ∧ own_G3 p0 0 = 61 ∧ own_G3 p0 1 = 60 ∧ own_G3 p0 2 = 62 := by
  have e1 : own_e1 p0 = 0 := own_aeN h0
  have g1 : own_G1 p0 = own_ins (fun _ => (0 : Int32)) 0 (60 : Int32) := own_agN h0
  have e2 : own_e2 p0 = 1 := by
    show own_ae _ _ _ = _
    rw [own_aeE h1, e1]
  have g2 : own_G2 p0 = own_cons (own_G1 p0) (61 : Int32) := own_agE h1
  have e3 : own_e3 p0 = 1 := by
    show own_ae _ _ _ = _
    rw [own_aeN h2, e2]
  have g3 : own_G3 p0 = own_ins (own_G2 p0) 2 (62 : Int32) := own_agN h2
  rw [g3, g2, g1]
  exact ⟨e3, rfl, rfl, rfl⟩
theorem own_G3_NEE {p0 : Int32} (h0 : own_D4 p0 60 = (9223372036854775807 : Int64)) (h1 : own_D4 p0 61 = own_E) (h2 : own_D4 p0 62 = own_E) : own_e3 p0 = 2 ∧ own_G3 p0 0 = 62 ∧ own_G3 p0 1 = 61 ∧ own_G3 p0 2 = 60 := by
  have e1 : own_e1 p0 = 0 := own_aeN h0
  have g1 : own_G1 p0 = own_ins (fun _ => (0 : Int32)) 0 (60 : Int32) := own_agN h0
  have e2 : own_e2 p0 = 1 := by
    show own_ae _ _ _ = _
    rw [own_aeE h1, e1]
  have g2 : own_G2 p0 = own_cons (own_G1 p0) (61 : Int32) := own_agE h1
  have e3 : own_e3 p0 = 2 := by
    show own_ae _ _ _ = _
    rw [own_aeE h2, e2]
  have g3 : own_G3 p0 = own_cons (own_G2 p0) (62 : Int32) := own_agE h2
  rw [g3, g2, g1]
  exact ⟨e3, rfl, rfl, rfl⟩
theorem own_G3_ENN {p0 : Int32} (h0 : own_D4 p0 60 = own_E) (h1 : own_D4 p0 61 = (9223372036854775807 : Int64)) (h2 : own_D4 p0 62 = (9223372036854775807 : Int64)) : own_e3 p0 = 1 ∧ own_G3 p0 0 = 60 ∧ own_G3 p0 1 = 61 ∧ own_G3 p0 2 = 62 := by
  have e1 : own_e1 p0 = 1 := own_aeE h0
  have g1 : own_G1 p0 = own_cons (fun _ => (0 : Int32)) (60 : Int32) := own_agE h0
  have e2 : own_e2 p0 = 1 := by
    show own_ae _ _ _ = _
    rw [own_aeN h1, e1]
  have g2 : own_G2 p0 = own_ins (own_G1 p0) 1 (61 : Int32) := own_agN h1
  have e3 : own_e3 p0 = 1 := by
    show own_ae _ _ _ = _
    rw [own_aeN h2, e2]
  have g3 : own_G3 p0 = own_ins (own_G2 p0) 2 (62 : Int32) := own_agN h2
  rw [g3, g2, g1]
  exact ⟨e3, rfl, rfl, rfl⟩
theorem own_G3_ENE {p0 : Int32} (h0 : own_D4 p0 60 = own_E) (h1 : own_D4 p0 61 = (9223372036854775807 : Int64)) (h2 : own_D4 p0 62 = own_E) : own_e3 p0 = 2 ∧ own_G3 p0 0 = 62 ∧ own_G3 p0 1 = 60 ∧ own_G3 p0 2 = 61 := by
  have e1 : own_e1 p0 = 1 := own_aeE h0
  have g1 : own_G1 p0 = own_cons (fun _ => (0 : Int32)) (60 : Int32) := own_agE h0
  have e2 : own_e2 p0 = 1 := by
    show own_ae _ _ _ = _
    rw [own_aeN h1, e1]
  have g2 : own_G2 p0 = own_ins (own_G1 p0) 1 (61 : Int32) := own_agN h1
  have e3 : own_e3 p0 = 2 := by
    show own_ae _ _ _ = _
    rw [own_aeE h2, e2]
  have g3 : own_G3 p0 = own_cons (own_G2 p0) (62 : Int32) := own_agE h2
  rw [g3, g2, g1]
  exact ⟨e3, rfl, rfl, rfl⟩
theorem own_G3_EEN {p0 : Int32} (h0 : own_D4 p0 60 = own_E) (h1 : own_D4 p0 61 = own_E) (h2 : own_D4 p0 62 = (9223372036854775807 : Int64)) : own_e3 p0 = 2 ∧ own_G3 p0 0 = 61 ∧ own_G3 p0 1 = 60 ∧ own_G3 p0 2 = 62 := by
  have e1 : own_e1 p0 = 1 := own_aeE h0
  have g1 : own_G1 p0 = own_cons (fun _ => (0 : Int32)) (60 : Int32) := own_agE h0
  have e2 : own_e2 p0 = 2 := by
    show own_ae _ _ _ = _
    rw [own_aeE h1, e1]
  have g2 : own_G2 p0 = own_cons (own_G1 p0) (61 : Int32) := own_agE h1
  have e3 : own_e3 p0 = 2 := by
    show own_ae _ _ _ = _
    rw [own_aeN h2, e2]
  have g3 : own_G3 p0 = own_ins (own_G2 p0) 2 (62 : Int32) := own_agN h2
  rw [g3, g2, g1]
  exact ⟨e3, rfl, rfl, rfl⟩
theorem own_G3_EEE {p0 : Int32} (h0 : own_D4 p0 60 = own_E) (h1 : own_D4 p0 61 = own_E) (h2 : own_D4 p0 62 = own_E) : own_e3 p0 = 3 ∧ own_G3 p0 0 = 62 ∧ own_G3 p0 1 = 61 ∧ own_G3 p0 2 = 60 := by
  have e1 : own_e1 p0 = 1 := own_aeE h0
  have g1 : own_G1 p0 = own_cons (fun _ => (0 : Int32)) (60 : Int32) := own_agE h0
  have e2 : own_e2 p0 = 2 := by
    show own_ae _ _ _ = _
    rw [own_aeE h1, e1]
  have g2 : own_G2 p0 = own_cons (own_G1 p0) (61 : Int32) := own_agE h1
  have e3 : own_e3 p0 = 3 := by
    show own_ae _ _ _ = _
    rw [own_aeE h2, e2]
  have g3 : own_G3 p0 = own_cons (own_G2 p0) (62 : Int32) := own_agE h2
  rw [g3, g2, g1]
  exact ⟨e3, rfl, rfl, rfl⟩
theorem own_law (p0 t0 t1 t2 : Int32) (h0 : ((p0 &&& (8 : Int32)) = (0 : Int32) → 0 ≤ t0.toInt ∧ t0.toInt < 60) ∧ (¬ (p0 &&& (8 : Int32)) = (0 : Int32) → t0 = (-1 : Int32))) (h1 : ((p0 &&& (16 : Int32)) = (0 : Int32) → 0 ≤ t1.toInt ∧ t1.toInt < 60) ∧ (¬ (p0 &&& (16 : Int32)) = (0 : Int32) → t1 = (-1 : Int32))) (h2 : ((p0 &&& (32 : Int32)) = (0 : Int32) → 0 ≤ t2.toInt ∧ t2.toInt < 60) ∧ (¬ (p0 &&& (32 : Int32)) = (0 : Int32) → t2 = (-1 : Int32))) : (own_r p0 t0 t1 t2).1 + 1 = (own_S7 p0 t0 t1 t2).1 ∧ ∀ i, i < (own_S7 p0 t0 t1 t2).1 → own_ag (own_D4 p0) 63 (own_r p0 t0 t1 t2).1 (own_r p0 t0 t1 t2).2.2 (63 : Int32) (own_r p0 t0 t1 t2).2.1 i = (own_S7 p0 t0 t1 t2).2 i := by
  have hp := own_pos0 (G := (own_r p0 t0 t1 t2).2.1) (D := own_D4 p0) (ear := (own_r p0 t0 t1 t2).2.2) (own_r p0 t0 t1 t2).1 (own_ren_P (fun x => (0 : Int64) < own_D4 p0 x.toInt.toNat) _ _ _ (fun j hj => by
    show (0 : Int64) < own_D4 p0 (own_R t0 t1 t2 j).toInt.toNat
    rw [own_D4_lo p0 (by
      revert hj; unfold own_R fset
      split; exact own_t60 h2
      split; exact own_t60 h1
      split; exact own_t60 h0
      intro _; exact (by decide : (0 : Int32).toInt.toNat < 60))]
    decide) 3) (own_ren_le2 _ _ _ 3)
  have hag : own_ag (own_D4 p0) 63 (own_r p0 t0 t1 t2).1 (own_r p0 t0 t1 t2).2.2 (63 : Int32) (own_r p0 t0 t1 t2).2.1 = own_ins (own_r p0 t0 t1 t2).2.1 (own_r p0 t0 t1 t2).2.2 (63 : Int32) := by
    unfold own_ag; rw [own_D4_63, if_neg (by decide), hp]
  rw [hag]
  have hr : own_r p0 t0 t1 t2 = own_rB (own_G3 p0) (!decide ((p0 &&& (1 : Int32)) = (0 : Int32))) (!decide ((p0 &&& (2 : Int32)) = (0 : Int32))) (!decide ((p0 &&& (4 : Int32)) = (0 : Int32))) (t0, (!decide ((p0 &&& (8 : Int32)) = (0 : Int32)))) (t1, (!decide ((p0 &&& (16 : Int32)) = (0 : Int32)))) (t2, (!decide ((p0 &&& (32 : Int32)) = (0 : Int32)))) := by
    by_cases x0 : (p0 &&& (1 : Int32)) = (0 : Int32)
    · skip
      by_cases x1 : (p0 &&& (2 : Int32)) = (0 : Int32)
      · skip
        by_cases x2 : (p0 &&& (4 : Int32)) = (0 : Int32)
        · skip
          obtain ⟨e3, g0, g1, g2⟩ := own_G3_NNN ((own_D4_60 p0).1 x0) ((own_D4_61 p0).1 x1) ((own_D4_62 p0).1 x2)
          have q := own_ren3 (R := (own_R t0 t1 t2)) (G := own_G3 p0) (ear := own_e3 p0) (a := t0) (b := t1) (c := t2) (by rw [g0]; rfl) (by rw [g1]; rfl) (by rw [g2]; rfl) (own_sg h0) (own_sg h1) (own_sg h2)
          rw [e3] at q
          show own_ren _ _ (own_e3 p0) 3 = _
          rw [e3, q, decide_eq_true x0, decide_eq_true x1, decide_eq_true x2]
          rfl
        · skip
          obtain ⟨e3, g0, g1, g2⟩ := own_G3_NNE ((own_D4_60 p0).1 x0) ((own_D4_61 p0).1 x1) ((own_D4_62 p0).2 x2)
          have q := own_ren3 (R := (own_R t0 t1 t2)) (G := own_G3 p0) (ear := own_e3 p0) (a := t2) (b := t0) (c := t1) (by rw [g0]; rfl) (by rw [g1]; rfl) (by rw [g2]; rfl) (own_sg h2) (own_sg h0) (own_sg h1)
          rw [e3] at q
          show own_ren _ _ (own_e3 p0) 3 = _
          rw [e3, q, decide_eq_true x0, decide_eq_true x1, decide_eq_false x2]
          rfl
      · skip
        by_cases x2 : (p0 &&& (4 : Int32)) = (0 : Int32)
        · skip
          obtain ⟨e3, g0, g1, g2⟩ := own_G3_NEN ((own_D4_60 p0).1 x0) ((own_D4_61 p0).2 x1) ((own_D4_62 p0).1 x2)
          have q := own_ren3 (R := (own_R t0 t1 t2)) (G := own_G3 p0) (ear := own_e3 p0) (a := t1) (b := t0) (c := t2) (by rw [g0]; rfl) (by rw [g1]; rfl) (by rw [g2]; rfl) (own_sg h1) (own_sg h0) (own_sg h2)
          rw [e3] at q
          show own_ren _ _ (own_e3 p0) 3 = _
          rw [e3, q, decide_eq_true x0, decide_eq_false x1, decide_eq_true x2]
          rfl
        · skip
          obtain ⟨e3, g0, g1, g2⟩ := own_G3_NEE ((own_D4_60 p0).1 x0) ((own_D4_61 p0).2 x1) ((own_D4_62 p0).2 x2)
          have q := own_ren3 (R := (own_R t0 t1 t2)) (G := own_G3 p0) (ear := own_e3 p0) (a := t2) (b := t1) (c := t0) (by rw [g0]; rfl) (by rw [g1]; rfl) (by rw [g2]; rfl) (own_sg h2) (own_sg h1) (own_sg h0)
          rw [e3] at q
          show own_ren _ _ (own_e3 p0) 3 = _
          rw [e3, q, decide_eq_true x0, decide_eq_false x1, decide_eq_false x2]
          rfl
    · skip
      by_cases x1 : (p0 &&& (2 : Int32)) = (0 : Int32)
      · skip
        by_cases x2 : (p0 &&& (4 : Int32)) = (0 : Int32)
        · skip
          obtain ⟨e3, g0, g1, g2⟩ := own_G3_ENN ((own_D4_60 p0).2 x0) ((own_D4_61 p0).1 x1) ((own_D4_62 p0).1 x2)
          have q := own_ren3 (R := (own_R t0 t1 t2)) (G := own_G3 p0) (ear := own_e3 p0) (a := t0) (b := t1) (c := t2) (by rw [g0]; rfl) (by rw [g1]; rfl) (by rw [g2]; rfl) (own_sg h0) (own_sg h1) (own_sg h2)
          rw [e3] at q
          show own_ren _ _ (own_e3 p0) 3 = _
          rw [e3, q, decide_eq_false x0, decide_eq_true x1, decide_eq_true x2]
          rfl
        · skip
          obtain ⟨e3, g0, g1, g2⟩ := own_G3_ENE ((own_D4_60 p0).2 x0) ((own_D4_61 p0).1 x1) ((own_D4_62 p0).2 x2)
          have q := own_ren3 (R := (own_R t0 t1 t2)) (G := own_G3 p0) (ear := own_e3 p0) (a := t2) (b := t0) (c := t1) (by rw [g0]; rfl) (by rw [g1]; rfl) (by rw [g2]; rfl) (own_sg h2) (own_sg h0) (own_sg h1)
          rw [e3] at q
          show own_ren _ _ (own_e3 p0) 3 = _
          rw [e3, q, decide_eq_false x0, decide_eq_true x1, decide_eq_false x2]
          rfl
      · skip
        by_cases x2 : (p0 &&& (4 : Int32)) = (0 : Int32)
        · skip
          obtain ⟨e3, g0, g1, g2⟩ := own_G3_EEN ((own_D4_60 p0).2 x0) ((own_D4_61 p0).2 x1) ((own_D4_62 p0).1 x2)
          have q := own_ren3 (R := (own_R t0 t1 t2)) (G := own_G3 p0) (ear := own_e3 p0) (a := t1) (b := t0) (c := t2) (by rw [g0]; rfl) (by rw [g1]; rfl) (by rw [g2]; rfl) (own_sg h1) (own_sg h0) (own_sg h2)
          rw [e3] at q
          show own_ren _ _ (own_e3 p0) 3 = _
          rw [e3, q, decide_eq_false x0, decide_eq_false x1, decide_eq_true x2]
          rfl
        · skip
          obtain ⟨e3, g0, g1, g2⟩ := own_G3_EEE ((own_D4_60 p0).2 x0) ((own_D4_61 p0).2 x1) ((own_D4_62 p0).2 x2)
          have q := own_ren3 (R := (own_R t0 t1 t2)) (G := own_G3 p0) (ear := own_e3 p0) (a := t2) (b := t1) (c := t0) (by rw [g0]; rfl) (by rw [g1]; rfl) (by rw [g2]; rfl) (own_sg h2) (own_sg h1) (own_sg h0)
          rw [e3] at q
          show own_ren _ _ (own_e3 p0) 3 = _
          rw [e3, q, decide_eq_false x0, decide_eq_false x1, decide_eq_false x2]
          rfl
  have hS : (own_S7 p0 t0 t1 t2) = own_SB (!decide ((p0 &&& (1 : Int32)) = (0 : Int32))) (!decide ((p0 &&& (2 : Int32)) = (0 : Int32))) (!decide ((p0 &&& (4 : Int32)) = (0 : Int32))) (!decide ((p0 &&& (8 : Int32)) = (0 : Int32))) (!decide ((p0 &&& (16 : Int32)) = (0 : Int32))) (!decide ((p0 &&& (32 : Int32)) = (0 : Int32))) t0 t1 t2 := by
    have s1 : (own_S1 p0 t0 t1 t2) = own_blkB ((!decide ((p0 &&& (4 : Int32)) = (0 : Int32))) && !(!decide ((p0 &&& (32 : Int32)) = (0 : Int32)))) t2 (own_S0 p0 t0 t1 t2) := own_blk_B _ _ _ (own_cA _ _)
    have s2 : (own_S2 p0 t0 t1 t2) = own_blkB ((!decide ((p0 &&& (2 : Int32)) = (0 : Int32))) && !(!decide ((p0 &&& (16 : Int32)) = (0 : Int32)))) t1 (own_S1 p0 t0 t1 t2) := own_blk_B _ _ _ (own_cA _ _)
    have s3 : (own_S3 p0 t0 t1 t2) = own_blkB ((!decide ((p0 &&& (1 : Int32)) = (0 : Int32))) && !(!decide ((p0 &&& (8 : Int32)) = (0 : Int32)))) t0 (own_S2 p0 t0 t1 t2) := own_blk_B _ _ _ (own_cA _ _)
    have s4 : (own_S4 p0 t0 t1 t2) = own_blkB true (63 : Int32) (own_S3 p0 t0 t1 t2) := own_blk_B _ _ _ rfl
    have s5 : (own_S5 p0 t0 t1 t2) = own_blkB (!(!decide ((p0 &&& (1 : Int32)) = (0 : Int32))) && !(!decide ((p0 &&& (8 : Int32)) = (0 : Int32)))) t0 (own_S4 p0 t0 t1 t2) := own_blk_B _ _ _ (own_cB _ _)
    have s6 : (own_S6 p0 t0 t1 t2) = own_blkB (!(!decide ((p0 &&& (2 : Int32)) = (0 : Int32))) && !(!decide ((p0 &&& (16 : Int32)) = (0 : Int32)))) t1 (own_S5 p0 t0 t1 t2) := own_blk_B _ _ _ (own_cB _ _)
    have s7 : (own_S7 p0 t0 t1 t2) = own_blkB (!(!decide ((p0 &&& (4 : Int32)) = (0 : Int32))) && !(!decide ((p0 &&& (32 : Int32)) = (0 : Int32)))) t2 (own_S6 p0 t0 t1 t2) := own_blk_B _ _ _ (own_cB _ _)
    rw [s7, s6, s5, s4, s3, s2, s1]
    rfl
  rw [hS, hr]
  exact own_B _ _ _ _ _ _ _ _ _ _
theorem own_Rlt {t0 t1 t2 : Int32} (h0 : t0.toInt < 64) (h1 : t1.toInt < 64) (h2 : t2.toInt < 64) : ∀ j, (own_R t0 t1 t2 j).toInt < 64 := by
  intro j; unfold own_R fset
  split; exact h2
  split; exact h1
  split; exact h0
  exact (by decide : (0 : Int32).toInt < 64)
theorem own_tlt {P : Prop} {t : Int32} (h : (P → 0 ≤ t.toInt ∧ t.toInt < 60) ∧ (¬ P → t = (-1 : Int32))) : t.toInt < 64 := by
  by_cases p : P
  · have := h.1 p; omega
  · rw [h.2 p]; decide
theorem w_0 {Z : State} {a0 : Array Value} (hw : ∀ d ∈ tables_1, d.before a0 Z = true) : (Jvm.Cond.constant "com/example/weir/weir/engine/EndingListRenumberPinLaw" (7 : Nat) (2147483647 : Int32)).before a0 Z = true := hw _ (List.mem_of_getElem? (i := 0) rfl)
theorem w_1 {Z : State} {a0 : Array Value} (hw : ∀ d ∈ tables_1, d.before a0 Z = true) : (Jvm.Cond.arrayClass Jvm.ClassFile.FieldType.int).before a0 Z = true := hw _ (List.mem_of_getElem? (i := 1) rfl)
theorem w_2 {Z : State} {a0 : Array Value} (hw : ∀ d ∈ tables_1, d.before a0 Z = true) : (Jvm.Cond.classLink "com/example/weir/weir/engine/EndingListRenumberPinLaw" (8 : Nat) "com/example/weir/weir/engine/TripleTable").before a0 Z = true := hw _ (List.mem_of_getElem? (i := 2) rfl)
theorem w_3 {Z : State} {a0 : Array Value} (hw : ∀ d ∈ tables_1, d.before a0 Z = true) : (Jvm.Cond.instantiable "com/example/weir/weir/engine/TripleTable" (9 : Nat)).before a0 Z = true := hw _ (List.mem_of_getElem? (i := 3) rfl)
theorem w_4 {Z : State} {a0 : Array Value} (hw : ∀ d ∈ tables_1, d.before a0 Z = true) : (Jvm.Cond.initialized "com/example/weir/weir/engine/TripleTable").before a0 Z = true := hw _ (List.mem_of_getElem? (i := 4) rfl)
theorem w_5 {Z : State} {a0 : Array Value} (hw : ∀ d ∈ tables_1, d.before a0 Z = true) : (Jvm.Cond.methodLink "com/example/weir/weir/engine/EndingListRenumberPinLaw" (10 : Nat) ({ cls := "com/example/weir/weir/engine/TripleTable", name := "<init>", desc := "()V" } : Jvm.MethodName)).before a0 Z = true := hw _ (List.mem_of_getElem? (i := 5) rfl)
theorem w_6 {Z : State} {a0 : Array Value} (hw : ∀ d ∈ tables_1, d.before a0 Z = true) : (Jvm.Cond.instanceMethod ({ cls := "com/example/weir/weir/engine/TripleTable", name := "<init>", desc := "()V" } : Jvm.MethodName)).before a0 Z = true := hw _ (List.mem_of_getElem? (i := 6) rfl)
theorem w_7 {Z : State} {a0 : Array Value} (hw : ∀ d ∈ tables_1, d.before a0 Z = true) : (Jvm.Cond.code ({ cls := "com/example/weir/weir/engine/TripleTable", name := "<init>", desc := "()V" } : Jvm.MethodName) prog_51_method_1_code (1 : Nat) (Option.none : Option Jvm.ClassFile.FieldType)).before a0 Z = true := hw _ (List.mem_of_getElem? (i := 7) rfl)
theorem w_8 {Z : State} {a0 : Array Value} (hw : ∀ d ∈ tables_1, d.before a0 Z = true) : (Jvm.Cond.methodLink "com/example/weir/weir/engine/TripleTable" (3 : Nat) ({ cls := "java/lang/Object", name := "<init>", desc := "()V" } : Jvm.MethodName)).before a0 Z = true := hw _ (List.mem_of_getElem? (i := 8) rfl)
theorem w_9 {Z : State} {a0 : Array Value} (hw : ∀ d ∈ tables_1, d.before a0 Z = true) : (Jvm.Cond.instanceMethod ({ cls := "java/lang/Object", name := "<init>", desc := "()V" } : Jvm.MethodName)).before a0 Z = true := hw _ (List.mem_of_getElem? (i := 9) rfl)
theorem w_10 {Z : State} {a0 : Array Value} (hw : ∀ d ∈ tables_1, d.before a0 Z = true) : (Jvm.Cond.code ({ cls := "java/lang/Object", name := "<init>", desc := "()V" } : Jvm.MethodName) object_method_1_code (1 : Nat) (Option.none : Option Jvm.ClassFile.FieldType)).before a0 Z = true := hw _ (List.mem_of_getElem? (i := 10) rfl)
theorem w_11 {Z : State} {a0 : Array Value} (hw : ∀ d ∈ tables_1, d.before a0 Z = true) : (Jvm.Cond.fieldLink "com/example/weir/weir/engine/TripleTable" (11 : Nat) "com/example/weir/weir/engine/TripleTable" "terms" "[I").before a0 Z = true := hw _ (List.mem_of_getElem? (i := 11) rfl)
theorem w_12 {Z : State} {a0 : Array Value} (hw : ∀ d ∈ tables_1, d.before a0 Z = true) : (Jvm.Cond.lays "com/example/weir/weir/engine/TripleTable" "com/example/weir/weir/engine/TripleTable" "terms" "[I").before a0 Z = true := hw _ (List.mem_of_getElem? (i := 12) rfl)
theorem w_13 {Z : State} {a0 : Array Value} (hw : ∀ d ∈ tables_1, d.before a0 Z = true) : (Jvm.Cond.classLink "com/example/weir/weir/engine/TripleTable" (15 : Nat) "com/example/weir/weir/engine/Numbers").before a0 Z = true := hw _ (List.mem_of_getElem? (i := 13) rfl)
theorem w_14 {Z : State} {a0 : Array Value} (hw : ∀ d ∈ tables_1, d.before a0 Z = true) : (Jvm.Cond.instantiable "com/example/weir/weir/engine/Numbers" (2 : Nat)).before a0 Z = true := hw _ (List.mem_of_getElem? (i := 14) rfl)
theorem w_15 {Z : State} {a0 : Array Value} (hw : ∀ d ∈ tables_1, d.before a0 Z = true) : (Jvm.Cond.initialized "com/example/weir/weir/engine/Numbers").before a0 Z = true := hw _ (List.mem_of_getElem? (i := 15) rfl)
theorem w_16 {Z : State} {a0 : Array Value} (hw : ∀ d ∈ tables_1, d.before a0 Z = true) : (Jvm.Cond.methodLink "com/example/weir/weir/engine/TripleTable" (17 : Nat) ({ cls := "com/example/weir/weir/engine/Numbers", name := "<init>", desc := "()V" } : Jvm.MethodName)).before a0 Z = true := hw _ (List.mem_of_getElem? (i := 16) rfl)
theorem w_17 {Z : State} {a0 : Array Value} (hw : ∀ d ∈ tables_1, d.before a0 Z = true) : (Jvm.Cond.instanceMethod ({ cls := "com/example/weir/weir/engine/Numbers", name := "<init>", desc := "()V" } : Jvm.MethodName)).before a0 Z = true := hw _ (List.mem_of_getElem? (i := 17) rfl)
theorem w_18 {Z : State} {a0 : Array Value} (hw : ∀ d ∈ tables_1, d.before a0 Z = true) : (Jvm.Cond.code ({ cls := "com/example/weir/weir/engine/Numbers", name := "<init>", desc := "()V" } : Jvm.MethodName) prog_42_method_1_code (1 : Nat) (Option.none : Option Jvm.ClassFile.FieldType)).before a0 Z = true := hw _ (List.mem_of_getElem? (i := 18) rfl)
theorem w_19 {Z : State} {a0 : Array Value} (hw : ∀ d ∈ tables_1, d.before a0 Z = true) : (Jvm.Cond.methodLink "com/example/weir/weir/engine/Numbers" (1 : Nat) ({ cls := "java/lang/Object", name := "<init>", desc := "()V" } : Jvm.MethodName)).before a0 Z = true := hw _ (List.mem_of_getElem? (i := 19) rfl)
theorem w_20 {Z : State} {a0 : Array Value} (hw : ∀ d ∈ tables_1, d.before a0 Z = true) : (Jvm.Cond.classLink "com/example/weir/weir/engine/Numbers" (7 : Nat) "com/example/weir/weir/engine/IntList").before a0 Z = true := hw _ (List.mem_of_getElem? (i := 20) rfl)
theorem w_21 {Z : State} {a0 : Array Value} (hw : ∀ d ∈ tables_1, d.before a0 Z = true) : (Jvm.Cond.instantiable "com/example/weir/weir/engine/IntList" (2 : Nat)).before a0 Z = true := hw _ (List.mem_of_getElem? (i := 21) rfl)
theorem w_22 {Z : State} {a0 : Array Value} (hw : ∀ d ∈ tables_1, d.before a0 Z = true) : (Jvm.Cond.initialized "com/example/weir/weir/engine/IntList").before a0 Z = true := hw _ (List.mem_of_getElem? (i := 22) rfl)
theorem w_23 {Z : State} {a0 : Array Value} (hw : ∀ d ∈ tables_1, d.before a0 Z = true) : (Jvm.Cond.methodLink "com/example/weir/weir/engine/Numbers" (9 : Nat) ({ cls := "com/example/weir/weir/engine/IntList", name := "<init>", desc := "()V" } : Jvm.MethodName)).before a0 Z = true := hw _ (List.mem_of_getElem? (i := 23) rfl)
theorem w_24 {Z : State} {a0 : Array Value} (hw : ∀ d ∈ tables_1, d.before a0 Z = true) : (Jvm.Cond.instanceMethod ({ cls := "com/example/weir/weir/engine/IntList", name := "<init>", desc := "()V" } : Jvm.MethodName)).before a0 Z = true := hw _ (List.mem_of_getElem? (i := 24) rfl)
theorem w_25 {Z : State} {a0 : Array Value} (hw : ∀ d ∈ tables_1, d.before a0 Z = true) : (Jvm.Cond.code ({ cls := "com/example/weir/weir/engine/IntList", name := "<init>", desc := "()V" } : Jvm.MethodName) prog_28_method_1_code (1 : Nat) (Option.none : Option Jvm.ClassFile.FieldType)).before a0 Z = true := hw _ (List.mem_of_getElem? (i := 25) rfl)
theorem w_26 {Z : State} {a0 : Array Value} (hw : ∀ d ∈ tables_1, d.before a0 Z = true) : (Jvm.Cond.methodLink "com/example/weir/weir/engine/IntList" (1 : Nat) ({ cls := "java/lang/Object", name := "<init>", desc := "()V" } : Jvm.MethodName)).before a0 Z = true := hw _ (List.mem_of_getElem? (i := 26) rfl)
theorem w_27 {Z : State} {a0 : Array Value} (hw : ∀ d ∈ tables_1, d.before a0 Z = true) : (Jvm.Cond.fieldLink "com/example/weir/weir/engine/IntList" (9 : Nat) "com/example/weir/weir/engine/IntList" "values" "[I").before a0 Z = true := hw _ (List.mem_of_getElem? (i := 27) rfl)
theorem w_28 {Z : State} {a0 : Array Value} (hw : ∀ d ∈ tables_1, d.before a0 Z = true) : (Jvm.Cond.lays "com/example/weir/weir/engine/IntList" "com/example/weir/weir/engine/IntList" "values" "[I").before a0 Z = true := hw _ (List.mem_of_getElem? (i := 28) rfl)
theorem w_29 {Z : State} {a0 : Array Value} (hw : ∀ d ∈ tables_1, d.before a0 Z = true) : (Jvm.Cond.fieldLink "com/example/weir/weir/engine/Numbers" (10 : Nat) "com/example/weir/weir/engine/Numbers" "free" "Lcom/example/weir/weir/engine/IntList;").before a0 Z = true := hw _ (List.mem_of_getElem? (i := 29) rfl)
theorem w_30 {Z : State} {a0 : Array Value} (hw : ∀ d ∈ tables_1, d.before a0 Z = true) : (Jvm.Cond.lays "com/example/weir/weir/engine/Numbers" "com/example/weir/weir/engine/Numbers" "free" "Lcom/example/weir/weir/engine/IntList;").before a0 Z = true := hw _ (List.mem_of_getElem? (i := 30) rfl)
theorem w_31 {Z : State} {a0 : Array Value} (hw : ∀ d ∈ tables_1, d.before a0 Z = true) : (Jvm.Cond.fieldLink "com/example/weir/weir/engine/TripleTable" (18 : Nat) "com/example/weir/weir/engine/TripleTable" "numbers" "Lcom/example/weir/weir/engine/Numbers;").before a0 Z = true := hw _ (List.mem_of_getElem? (i := 31) rfl)
theorem w_32 {Z : State} {a0 : Array Value} (hw : ∀ d ∈ tables_1, d.before a0 Z = true) : (Jvm.Cond.laysFinal "com/example/weir/weir/engine/TripleTable" "com/example/weir/weir/engine/TripleTable" "numbers" "Lcom/example/weir/weir/engine/Numbers;").before a0 Z = true := hw _ (List.mem_of_getElem? (i := 32) rfl)
theorem w_33 {Z : State} {a0 : Array Value} (hw : ∀ d ∈ tables_1, d.before a0 Z = true) : (Jvm.Cond.classLink "com/example/weir/weir/engine/TripleTable" (22 : Nat) "com/example/weir/weir/engine/SubjectIndex").before a0 Z = true := hw _ (List.mem_of_getElem? (i := 33) rfl)
theorem w_34 {Z : State} {a0 : Array Value} (hw : ∀ d ∈ tables_1, d.before a0 Z = true) : (Jvm.Cond.instantiable "com/example/weir/weir/engine/SubjectIndex" (3 : Nat)).before a0 Z = true := hw _ (List.mem_of_getElem? (i := 34) rfl)
theorem w_35 {Z : State} {a0 : Array Value} (hw : ∀ d ∈ tables_1, d.before a0 Z = true) : (Jvm.Cond.initialized "com/example/weir/weir/engine/SubjectIndex").before a0 Z = true := hw _ (List.mem_of_getElem? (i := 35) rfl)
theorem w_36 {Z : State} {a0 : Array Value} (hw : ∀ d ∈ tables_1, d.before a0 Z = true) : (Jvm.Cond.lambdaSite ({ cls := "com/example/weir/weir/engine/TripleTable", name := "<init>", desc := "()V" } : Jvm.MethodName) (30 : Nat) (24 : Nat) (Jvm.Lambda.Shape.mk "com/example/weir/weir/engine/SubjectIndex$Terms" "term" (Jvm.ClassFile.MethodDescriptor.mk ([Jvm.ClassFile.FieldType.int, Jvm.ClassFile.FieldType.int] : List Jvm.ClassFile.FieldType) (Option.some Jvm.ClassFile.FieldType.int)) ([(Jvm.ClassFile.FieldType.object "com/example/weir/weir/engine/TripleTable")] : List Jvm.ClassFile.FieldType) (5 : Nat) "com/example/weir/weir/engine/TripleTable" "term" (Jvm.ClassFile.MethodDescriptor.mk ([Jvm.ClassFile.FieldType.int, Jvm.ClassFile.FieldType.int] : List Jvm.ClassFile.FieldType) (Option.some Jvm.ClassFile.FieldType.int)) false (Jvm.ClassFile.MethodDescriptor.mk ([Jvm.ClassFile.FieldType.int, Jvm.ClassFile.FieldType.int] : List Jvm.ClassFile.FieldType) (Option.some Jvm.ClassFile.FieldType.int)))).before a0 Z = true := hw _ (List.mem_of_getElem? (i := 36) rfl)
theorem w_39 {Z : State} {a0 : Array Value} (hw : ∀ d ∈ tables_1, d.before a0 Z = true) : (Jvm.Cond.instantiable "java/lang/Object" (0 : Nat)).before a0 Z = true := hw _ (List.mem_of_getElem? (i := 39) rfl)
theorem w_40 {Z : State} {a0 : Array Value} (hw : ∀ d ∈ tables_1, d.before a0 Z = true) : (Jvm.Cond.methodLink "com/example/weir/weir/engine/TripleTable" (28 : Nat) ({ cls := "com/example/weir/weir/engine/SubjectIndex", name := "<init>", desc := "(Lcom/example/weir/weir/engine/SubjectIndex$Terms;)V" } : Jvm.MethodName)).before a0 Z = true := hw _ (List.mem_of_getElem? (i := 40) rfl)
theorem w_41 {Z : State} {a0 : Array Value} (hw : ∀ d ∈ tables_1, d.before a0 Z = true) : (Jvm.Cond.instanceMethod ({ cls := "com/example/weir/weir/engine/SubjectIndex", name := "<init>", desc := "(Lcom/example/weir/weir/engine/SubjectIndex$Terms;)V" } : Jvm.MethodName)).before a0 Z = true := hw _ (List.mem_of_getElem? (i := 41) rfl)
theorem w_42 {Z : State} {a0 : Array Value} (hw : ∀ d ∈ tables_1, d.before a0 Z = true) : (Jvm.Cond.code ({ cls := "com/example/weir/weir/engine/SubjectIndex", name := "<init>", desc := "(Lcom/example/weir/weir/engine/SubjectIndex$Terms;)V" } : Jvm.MethodName) prog_44_method_1_code (2 : Nat) (Option.none : Option Jvm.ClassFile.FieldType)).before a0 Z = true := hw _ (List.mem_of_getElem? (i := 42) rfl)
theorem w_43 {Z : State} {a0 : Array Value} (hw : ∀ d ∈ tables_1, d.before a0 Z = true) : (Jvm.Cond.methodLink "com/example/weir/weir/engine/SubjectIndex" (3 : Nat) ({ cls := "java/lang/Object", name := "<init>", desc := "()V" } : Jvm.MethodName)).before a0 Z = true := hw _ (List.mem_of_getElem? (i := 43) rfl)
theorem w_44 {Z : State} {a0 : Array Value} (hw : ∀ d ∈ tables_1, d.before a0 Z = true) : (Jvm.Cond.classLink "com/example/weir/weir/engine/SubjectIndex" (9 : Nat) "com/example/weir/weir/engine/IntIntMap").before a0 Z = true := hw _ (List.mem_of_getElem? (i := 44) rfl)
theorem w_45 {Z : State} {a0 : Array Value} (hw : ∀ d ∈ tables_1, d.before a0 Z = true) : (Jvm.Cond.instantiable "com/example/weir/weir/engine/IntIntMap" (9 : Nat)).before a0 Z = true := hw _ (List.mem_of_getElem? (i := 45) rfl)
theorem w_46 {Z : State} {a0 : Array Value} (hw : ∀ d ∈ tables_1, d.before a0 Z = true) : (Jvm.Cond.initialized "com/example/weir/weir/engine/IntIntMap").before a0 Z = true := hw _ (List.mem_of_getElem? (i := 46) rfl)
theorem w_47 {Z : State} {a0 : Array Value} (hw : ∀ d ∈ tables_1, d.before a0 Z = true) : (Jvm.Cond.methodLink "com/example/weir/weir/engine/SubjectIndex" (11 : Nat) ({ cls := "com/example/weir/weir/engine/IntIntMap", name := "<init>", desc := "()V" } : Jvm.MethodName)).before a0 Z = true := hw _ (List.mem_of_getElem? (i := 47) rfl)
theorem w_48 {Z : State} {a0 : Array Value} (hw : ∀ d ∈ tables_1, d.before a0 Z = true) : (Jvm.Cond.instanceMethod ({ cls := "com/example/weir/weir/engine/IntIntMap", name := "<init>", desc := "()V" } : Jvm.MethodName)).before a0 Z = true := hw _ (List.mem_of_getElem? (i := 48) rfl)
theorem w_49 {Z : State} {a0 : Array Value} (hw : ∀ d ∈ tables_1, d.before a0 Z = true) : (Jvm.Cond.code ({ cls := "com/example/weir/weir/engine/IntIntMap", name := "<init>", desc := "()V" } : Jvm.MethodName) prog_27_method_1_code (1 : Nat) (Option.none : Option Jvm.ClassFile.FieldType)).before a0 Z = true := hw _ (List.mem_of_getElem? (i := 49) rfl)
theorem w_50 {Z : State} {a0 : Array Value} (hw : ∀ d ∈ tables_1, d.before a0 Z = true) : (Jvm.Cond.methodLink "com/example/weir/weir/engine/IntIntMap" (1 : Nat) ({ cls := "com/example/weir/weir/engine/IntIntMap", name := "<init>", desc := "(I)V" } : Jvm.MethodName)).before a0 Z = true := hw _ (List.mem_of_getElem? (i := 50) rfl)
theorem w_51 {Z : State} {a0 : Array Value} (hw : ∀ d ∈ tables_1, d.before a0 Z = true) : (Jvm.Cond.instanceMethod ({ cls := "com/example/weir/weir/engine/IntIntMap", name := "<init>", desc := "(I)V" } : Jvm.MethodName)).before a0 Z = true := hw _ (List.mem_of_getElem? (i := 51) rfl)
theorem w_52 {Z : State} {a0 : Array Value} (hw : ∀ d ∈ tables_1, d.before a0 Z = true) : (Jvm.Cond.code ({ cls := "com/example/weir/weir/engine/IntIntMap", name := "<init>", desc := "(I)V" } : Jvm.MethodName) prog_27_method_2_code (2 : Nat) (Option.none : Option Jvm.ClassFile.FieldType)).before a0 Z = true := hw _ (List.mem_of_getElem? (i := 52) rfl)
theorem w_53 {Z : State} {a0 : Array Value} (hw : ∀ d ∈ tables_1, d.before a0 Z = true) : (Jvm.Cond.methodLink "com/example/weir/weir/engine/IntIntMap" (7 : Nat) ({ cls := "java/lang/Object", name := "<init>", desc := "()V" } : Jvm.MethodName)).before a0 Z = true := hw _ (List.mem_of_getElem? (i := 53) rfl)
theorem w_54 {Z : State} {a0 : Array Value} (hw : ∀ d ∈ tables_1, d.before a0 Z = true) : (Jvm.Cond.fieldLink "com/example/weir/weir/engine/IntIntMap" (12 : Nat) "com/example/weir/weir/engine/IntIntMap" "width" "I").before a0 Z = true := hw _ (List.mem_of_getElem? (i := 54) rfl)
theorem w_55 {Z : State} {a0 : Array Value} (hw : ∀ d ∈ tables_1, d.before a0 Z = true) : (Jvm.Cond.laysFinal "com/example/weir/weir/engine/IntIntMap" "com/example/weir/weir/engine/IntIntMap" "width" "I").before a0 Z = true := hw _ (List.mem_of_getElem? (i := 55) rfl)
theorem w_56 {Z : State} {a0 : Array Value} (hw : ∀ d ∈ tables_1, d.before a0 Z = true) : (Jvm.Cond.fieldLink "com/example/weir/weir/engine/IntIntMap" (16 : Nat) "com/example/weir/weir/engine/IntIntMap" "stride" "I").before a0 Z = true := hw _ (List.mem_of_getElem? (i := 56) rfl)
theorem w_57 {Z : State} {a0 : Array Value} (hw : ∀ d ∈ tables_1, d.before a0 Z = true) : (Jvm.Cond.laysFinal "com/example/weir/weir/engine/IntIntMap" "com/example/weir/weir/engine/IntIntMap" "stride" "I").before a0 Z = true := hw _ (List.mem_of_getElem? (i := 57) rfl)
theorem w_58 {Z : State} {a0 : Array Value} (hw : ∀ d ∈ tables_1, d.before a0 Z = true) : (Jvm.Cond.methodLink "com/example/weir/weir/engine/IntIntMap" (19 : Nat) ({ cls := "com/example/weir/weir/engine/IntIntMap", name := "emptyTable", desc := "(IZ)V" } : Jvm.MethodName)).before a0 Z = true := hw _ (List.mem_of_getElem? (i := 58) rfl)
theorem w_59 {Z : State} {a0 : Array Value} (hw : ∀ d ∈ tables_1, d.before a0 Z = true) : (Jvm.Cond.instanceMethod ({ cls := "com/example/weir/weir/engine/IntIntMap", name := "emptyTable", desc := "(IZ)V" } : Jvm.MethodName)).before a0 Z = true := hw _ (List.mem_of_getElem? (i := 59) rfl)
theorem w_60 {Z : State} {a0 : Array Value} (hw : ∀ d ∈ tables_1, d.before a0 Z = true) : (Jvm.Cond.privateMethod ({ cls := "com/example/weir/weir/engine/IntIntMap", name := "emptyTable", desc := "(IZ)V" } : Jvm.MethodName)).before a0 Z = true := hw _ (List.mem_of_getElem? (i := 60) rfl)
theorem w_61 {Z : State} {a0 : Array Value} (hw : ∀ d ∈ tables_1, d.before a0 Z = true) : (Jvm.Cond.code ({ cls := "com/example/weir/weir/engine/IntIntMap", name := "emptyTable", desc := "(IZ)V" } : Jvm.MethodName) prog_27_method_22_code (3 : Nat) (Option.none : Option Jvm.ClassFile.FieldType)).before a0 Z = true := hw _ (List.mem_of_getElem? (i := 61) rfl)
theorem w_62 {Z : State} {a0 : Array Value} (hw : ∀ d ∈ tables_1, d.before a0 Z = true) : (Jvm.Cond.fieldLink "com/example/weir/weir/engine/IntIntMap" (30 : Nat) "com/example/weir/weir/engine/IntIntMap" "entries" "[I").before a0 Z = true := hw _ (List.mem_of_getElem? (i := 62) rfl)
theorem w_63 {Z : State} {a0 : Array Value} (hw : ∀ d ∈ tables_1, d.before a0 Z = true) : (Jvm.Cond.lays "com/example/weir/weir/engine/IntIntMap" "com/example/weir/weir/engine/IntIntMap" "entries" "[I").before a0 Z = true := hw _ (List.mem_of_getElem? (i := 63) rfl)
theorem w_64 {Z : State} {a0 : Array Value} (hw : ∀ d ∈ tables_1, d.before a0 Z = true) : (Jvm.Cond.fieldLink "com/example/weir/weir/engine/IntIntMap" (68 : Nat) "com/example/weir/weir/engine/IntIntMap" "slots" "I").before a0 Z = true := hw _ (List.mem_of_getElem? (i := 64) rfl)
theorem w_65 {Z : State} {a0 : Array Value} (hw : ∀ d ∈ tables_1, d.before a0 Z = true) : (Jvm.Cond.lays "com/example/weir/weir/engine/IntIntMap" "com/example/weir/weir/engine/IntIntMap" "slots" "I").before a0 Z = true := hw _ (List.mem_of_getElem? (i := 65) rfl)
theorem w_66 {Z : State} {a0 : Array Value} (hw : ∀ d ∈ tables_1, d.before a0 Z = true) : (Jvm.Cond.fieldLink "com/example/weir/weir/engine/IntIntMap" (80 : Nat) "com/example/weir/weir/engine/IntIntMap" "objects" "[Ljava/lang/Object;").before a0 Z = true := hw _ (List.mem_of_getElem? (i := 66) rfl)
theorem w_67 {Z : State} {a0 : Array Value} (hw : ∀ d ∈ tables_1, d.before a0 Z = true) : (Jvm.Cond.lays "com/example/weir/weir/engine/IntIntMap" "com/example/weir/weir/engine/IntIntMap" "objects" "[Ljava/lang/Object;").before a0 Z = true := hw _ (List.mem_of_getElem? (i := 67) rfl)
theorem w_68 {Z : State} {a0 : Array Value} (hw : ∀ d ∈ tables_1, d.before a0 Z = true) : (Jvm.Cond.fieldLink "com/example/weir/weir/engine/IntIntMap" (54 : Nat) "com/example/weir/weir/engine/IntIntMap" "greatestKey" "I").before a0 Z = true := hw _ (List.mem_of_getElem? (i := 68) rfl)
theorem w_69 {Z : State} {a0 : Array Value} (hw : ∀ d ∈ tables_1, d.before a0 Z = true) : (Jvm.Cond.lays "com/example/weir/weir/engine/IntIntMap" "com/example/weir/weir/engine/IntIntMap" "greatestKey" "I").before a0 Z = true := hw _ (List.mem_of_getElem? (i := 69) rfl)
theorem w_70 {Z : State} {a0 : Array Value} (hw : ∀ d ∈ tables_1, d.before a0 Z = true) : (Jvm.Cond.fieldLink "com/example/weir/weir/engine/SubjectIndex" (12 : Nat) "com/example/weir/weir/engine/SubjectIndex" "subjects" "Lcom/example/weir/weir/engine/IntIntMap;").before a0 Z = true := hw _ (List.mem_of_getElem? (i := 70) rfl)
theorem w_71 {Z : State} {a0 : Array Value} (hw : ∀ d ∈ tables_1, d.before a0 Z = true) : (Jvm.Cond.laysFinal "com/example/weir/weir/engine/SubjectIndex" "com/example/weir/weir/engine/SubjectIndex" "subjects" "Lcom/example/weir/weir/engine/IntIntMap;").before a0 Z = true := hw _ (List.mem_of_getElem? (i := 71) rfl)
theorem w_72 {Z : State} {a0 : Array Value} (hw : ∀ d ∈ tables_1, d.before a0 Z = true) : (Jvm.Cond.fieldLink "com/example/weir/weir/engine/SubjectIndex" (16 : Nat) "com/example/weir/weir/engine/SubjectIndex" "NO_LINKS" "[I").before a0 Z = true := hw _ (List.mem_of_getElem? (i := 72) rfl)
theorem w_73 {Z : State} {a0 : Array Value} (hw : ∀ d ∈ tables_1, d.before a0 Z = true) : (Jvm.Cond.laysStatic "com/example/weir/weir/engine/SubjectIndex" "NO_LINKS" "[I").before a0 Z = true := hw _ (List.mem_of_getElem? (i := 73) rfl)
theorem w_74 {Z : State} {a0 : Array Value} (hw : ∀ d ∈ tables_1, d.before a0 Z = true) : (Jvm.Cond.fieldLink "com/example/weir/weir/engine/SubjectIndex" (20 : Nat) "com/example/weir/weir/engine/SubjectIndex" "next" "[I").before a0 Z = true := hw _ (List.mem_of_getElem? (i := 74) rfl)
theorem w_75 {Z : State} {a0 : Array Value} (hw : ∀ d ∈ tables_1, d.before a0 Z = true) : (Jvm.Cond.lays "com/example/weir/weir/engine/SubjectIndex" "com/example/weir/weir/engine/SubjectIndex" "next" "[I").before a0 Z = true := hw _ (List.mem_of_getElem? (i := 75) rfl)
theorem w_76 {Z : State} {a0 : Array Value} (hw : ∀ d ∈ tables_1, d.before a0 Z = true) : (Jvm.Cond.fieldLink "com/example/weir/weir/engine/SubjectIndex" (23 : Nat) "com/example/weir/weir/engine/SubjectIndex" "terms" "Lcom/example/weir/weir/engine/SubjectIndex$Terms;").before a0 Z = true := hw _ (List.mem_of_getElem? (i := 76) rfl)
theorem w_77 {Z : State} {a0 : Array Value} (hw : ∀ d ∈ tables_1, d.before a0 Z = true) : (Jvm.Cond.laysFinal "com/example/weir/weir/engine/SubjectIndex" "com/example/weir/weir/engine/SubjectIndex" "terms" "Lcom/example/weir/weir/engine/SubjectIndex$Terms;").before a0 Z = true := hw _ (List.mem_of_getElem? (i := 77) rfl)
theorem w_78 {Z : State} {a0 : Array Value} (hw : ∀ d ∈ tables_1, d.before a0 Z = true) : (Jvm.Cond.fieldLink "com/example/weir/weir/engine/TripleTable" (31 : Nat) "com/example/weir/weir/engine/TripleTable" "index" "Lcom/example/weir/weir/engine/SubjectIndex;").before a0 Z = true := hw _ (List.mem_of_getElem? (i := 78) rfl)
theorem w_79 {Z : State} {a0 : Array Value} (hw : ∀ d ∈ tables_1, d.before a0 Z = true) : (Jvm.Cond.lays "com/example/weir/weir/engine/TripleTable" "com/example/weir/weir/engine/TripleTable" "index" "Lcom/example/weir/weir/engine/SubjectIndex;").before a0 Z = true := hw _ (List.mem_of_getElem? (i := 79) rfl)
theorem w_80 {Z : State} {a0 : Array Value} (hw : ∀ d ∈ tables_1, d.before a0 Z = true) : (Jvm.Cond.methodLink "com/example/weir/weir/engine/EndingListRenumberPinLaw" (13 : Nat) ({ cls := "com/example/weir/weir/engine/TripleTable", name := "setEnd", desc := "(IJ)V" } : Jvm.MethodName)).before a0 Z = true := hw _ (List.mem_of_getElem? (i := 80) rfl)
theorem w_81 {Z : State} {a0 : Array Value} (hw : ∀ d ∈ tables_1, d.before a0 Z = true) : (Jvm.Cond.declares ({ cls := "com/example/weir/weir/engine/TripleTable", name := "setEnd", desc := "(IJ)V" } : Jvm.MethodName)).before a0 Z = true := hw _ (List.mem_of_getElem? (i := 81) rfl)
theorem w_82 {Z : State} {a0 : Array Value} (hw : ∀ d ∈ tables_1, d.before a0 Z = true) : (Jvm.Cond.instanceMethod ({ cls := "com/example/weir/weir/engine/TripleTable", name := "setEnd", desc := "(IJ)V" } : Jvm.MethodName)).before a0 Z = true := hw _ (List.mem_of_getElem? (i := 82) rfl)
theorem w_83 {Z : State} {a0 : Array Value} (hw : ∀ d ∈ tables_1, d.before a0 Z = true) : (Jvm.Cond.selects "com/example/weir/weir/engine/TripleTable" ({ cls := "com/example/weir/weir/engine/TripleTable", name := "setEnd", desc := "(IJ)V" } : Jvm.MethodName) ({ cls := "com/example/weir/weir/engine/TripleTable", name := "setEnd", desc := "(IJ)V" } : Jvm.MethodName)).before a0 Z = true := hw _ (List.mem_of_getElem? (i := 83) rfl)
theorem w_84 {Z : State} {a0 : Array Value} (hw : ∀ d ∈ tables_1, d.before a0 Z = true) : (Jvm.Cond.code ({ cls := "com/example/weir/weir/engine/TripleTable", name := "setEnd", desc := "(IJ)V" } : Jvm.MethodName) prog_51_method_9_code (4 : Nat) (Option.none : Option Jvm.ClassFile.FieldType)).before a0 Z = true := hw _ (List.mem_of_getElem? (i := 84) rfl)
theorem w_85 {Z : State} {a0 : Array Value} (hw : ∀ d ∈ tables_1, d.before a0 Z = true) : (Jvm.Cond.methodLink "com/example/weir/weir/engine/TripleTable" (53 : Nat) ({ cls := "com/example/weir/weir/engine/TripleTable", name := "uncountEnd", desc := "(I)V" } : Jvm.MethodName)).before a0 Z = true := hw _ (List.mem_of_getElem? (i := 85) rfl)
theorem w_86 {Z : State} {a0 : Array Value} (hw : ∀ d ∈ tables_1, d.before a0 Z = true) : (Jvm.Cond.instanceMethod ({ cls := "com/example/weir/weir/engine/TripleTable", name := "uncountEnd", desc := "(I)V" } : Jvm.MethodName)).before a0 Z = true := hw _ (List.mem_of_getElem? (i := 86) rfl)
theorem w_87 {Z : State} {a0 : Array Value} (hw : ∀ d ∈ tables_1, d.before a0 Z = true) : (Jvm.Cond.privateMethod ({ cls := "com/example/weir/weir/engine/TripleTable", name := "uncountEnd", desc := "(I)V" } : Jvm.MethodName)).before a0 Z = true := hw _ (List.mem_of_getElem? (i := 87) rfl)
theorem w_88 {Z : State} {a0 : Array Value} (hw : ∀ d ∈ tables_1, d.before a0 Z = true) : (Jvm.Cond.code ({ cls := "com/example/weir/weir/engine/TripleTable", name := "uncountEnd", desc := "(I)V" } : Jvm.MethodName) prog_51_method_22_code (4 : Nat) (Option.none : Option Jvm.ClassFile.FieldType)).before a0 Z = true := hw _ (List.mem_of_getElem? (i := 88) rfl)
theorem w_89 {Z : State} {a0 : Array Value} (hw : ∀ d ∈ tables_1, d.before a0 Z = true) : (Jvm.Cond.methodLink "com/example/weir/weir/engine/TripleTable" (130 : Nat) ({ cls := "com/example/weir/weir/engine/TripleTable", name := "end", desc := "(I)J" } : Jvm.MethodName)).before a0 Z = true := hw _ (List.mem_of_getElem? (i := 89) rfl)
theorem w_90 {Z : State} {a0 : Array Value} (hw : ∀ d ∈ tables_1, d.before a0 Z = true) : (Jvm.Cond.declares ({ cls := "com/example/weir/weir/engine/TripleTable", name := "end", desc := "(I)J" } : Jvm.MethodName)).before a0 Z = true := hw _ (List.mem_of_getElem? (i := 90) rfl)
theorem w_91 {Z : State} {a0 : Array Value} (hw : ∀ d ∈ tables_1, d.before a0 Z = true) : (Jvm.Cond.instanceMethod ({ cls := "com/example/weir/weir/engine/TripleTable", name := "end", desc := "(I)J" } : Jvm.MethodName)).before a0 Z = true := hw _ (List.mem_of_getElem? (i := 91) rfl)
theorem w_92 {Z : State} {a0 : Array Value} (hw : ∀ d ∈ tables_1, d.before a0 Z = true) : (Jvm.Cond.selects "com/example/weir/weir/engine/TripleTable" ({ cls := "com/example/weir/weir/engine/TripleTable", name := "end", desc := "(I)J" } : Jvm.MethodName) ({ cls := "com/example/weir/weir/engine/TripleTable", name := "end", desc := "(I)J" } : Jvm.MethodName)).before a0 Z = true := hw _ (List.mem_of_getElem? (i := 92) rfl)
theorem w_93 {Z : State} {a0 : Array Value} (hw : ∀ d ∈ tables_1, d.before a0 Z = true) : (Jvm.Cond.code ({ cls := "com/example/weir/weir/engine/TripleTable", name := "end", desc := "(I)J" } : Jvm.MethodName) prog_51_method_8_code (2 : Nat) (Option.some Jvm.ClassFile.FieldType.long)).before a0 Z = true := hw _ (List.mem_of_getElem? (i := 93) rfl)
theorem w_94 {Z : State} {a0 : Array Value} (hw : ∀ d ∈ tables_1, d.before a0 Z = true) : (Jvm.Cond.fieldLink "com/example/weir/weir/engine/TripleTable" (47 : Nat) "com/example/weir/weir/engine/TripleTable" "ends" "[J").before a0 Z = true := hw _ (List.mem_of_getElem? (i := 94) rfl)
theorem w_95 {Z : State} {a0 : Array Value} (hw : ∀ d ∈ tables_1, d.before a0 Z = true) : (Jvm.Cond.lays "com/example/weir/weir/engine/TripleTable" "com/example/weir/weir/engine/TripleTable" "ends" "[J").before a0 Z = true := hw _ (List.mem_of_getElem? (i := 95) rfl)
theorem w_96 {Z : State} {a0 : Array Value} (hw : ∀ d ∈ tables_1, d.before a0 Z = true) : (Jvm.Cond.constantLong "com/example/weir/weir/engine/TripleTable" (51 : Nat) (9223372036854775807 : Int64)).before a0 Z = true := hw _ (List.mem_of_getElem? (i := 96) rfl)
theorem w_97 {Z : State} {a0 : Array Value} (hw : ∀ d ∈ tables_1, d.before a0 Z = true) : (Jvm.Cond.constantLong "com/example/weir/weir/engine/TripleTable" (134 : Nat) (-9223372036854775807 : Int64)).before a0 Z = true := hw _ (List.mem_of_getElem? (i := 97) rfl)
theorem w_98 {Z : State} {a0 : Array Value} (hw : ∀ d ∈ tables_1, d.before a0 Z = true) : (Jvm.Cond.methodLink "com/example/weir/weir/engine/TripleTable" (57 : Nat) ({ cls := "com/example/weir/weir/engine/TripleTable", name := "putEnd", desc := "(IJ)V" } : Jvm.MethodName)).before a0 Z = true := hw _ (List.mem_of_getElem? (i := 98) rfl)
theorem w_99 {Z : State} {a0 : Array Value} (hw : ∀ d ∈ tables_1, d.before a0 Z = true) : (Jvm.Cond.instanceMethod ({ cls := "com/example/weir/weir/engine/TripleTable", name := "putEnd", desc := "(IJ)V" } : Jvm.MethodName)).before a0 Z = true := hw _ (List.mem_of_getElem? (i := 99) rfl)
theorem w_100 {Z : State} {a0 : Array Value} (hw : ∀ d ∈ tables_1, d.before a0 Z = true) : (Jvm.Cond.privateMethod ({ cls := "com/example/weir/weir/engine/TripleTable", name := "putEnd", desc := "(IJ)V" } : Jvm.MethodName)).before a0 Z = true := hw _ (List.mem_of_getElem? (i := 100) rfl)
theorem w_101 {Z : State} {a0 : Array Value} (hw : ∀ d ∈ tables_1, d.before a0 Z = true) : (Jvm.Cond.code ({ cls := "com/example/weir/weir/engine/TripleTable", name := "putEnd", desc := "(IJ)V" } : Jvm.MethodName) prog_51_method_23_code (4 : Nat) (Option.none : Option Jvm.ClassFile.FieldType)).before a0 Z = true := hw _ (List.mem_of_getElem? (i := 101) rfl)
theorem w_102 {Z : State} {a0 : Array Value} (hw : ∀ d ∈ tables_1, d.before a0 Z = true) : (Jvm.Cond.methodLink "com/example/weir/weir/engine/TripleTable" (67 : Nat) ({ cls := "com/example/weir/weir/engine/TripleTable", name := "capacity", desc := "()I" } : Jvm.MethodName)).before a0 Z = true := hw _ (List.mem_of_getElem? (i := 102) rfl)
theorem w_103 {Z : State} {a0 : Array Value} (hw : ∀ d ∈ tables_1, d.before a0 Z = true) : (Jvm.Cond.declares ({ cls := "com/example/weir/weir/engine/TripleTable", name := "capacity", desc := "()I" } : Jvm.MethodName)).before a0 Z = true := hw _ (List.mem_of_getElem? (i := 103) rfl)
theorem w_104 {Z : State} {a0 : Array Value} (hw : ∀ d ∈ tables_1, d.before a0 Z = true) : (Jvm.Cond.instanceMethod ({ cls := "com/example/weir/weir/engine/TripleTable", name := "capacity", desc := "()I" } : Jvm.MethodName)).before a0 Z = true := hw _ (List.mem_of_getElem? (i := 104) rfl)
theorem w_105 {Z : State} {a0 : Array Value} (hw : ∀ d ∈ tables_1, d.before a0 Z = true) : (Jvm.Cond.selects "com/example/weir/weir/engine/TripleTable" ({ cls := "com/example/weir/weir/engine/TripleTable", name := "capacity", desc := "()I" } : Jvm.MethodName) ({ cls := "com/example/weir/weir/engine/TripleTable", name := "capacity", desc := "()I" } : Jvm.MethodName)).before a0 Z = true := hw _ (List.mem_of_getElem? (i := 105) rfl)
theorem w_106 {Z : State} {a0 : Array Value} (hw : ∀ d ∈ tables_1, d.before a0 Z = true) : (Jvm.Cond.code ({ cls := "com/example/weir/weir/engine/TripleTable", name := "capacity", desc := "()I" } : Jvm.MethodName) prog_51_method_4_code (1 : Nat) (Option.some Jvm.ClassFile.FieldType.int)).before a0 Z = true := hw _ (List.mem_of_getElem? (i := 106) rfl)
theorem w_107 {Z : State} {a0 : Array Value} (hw : ∀ d ∈ tables_1, d.before a0 Z = true) : (Jvm.Cond.arrayClass Jvm.ClassFile.FieldType.long).before a0 Z = true := hw _ (List.mem_of_getElem? (i := 107) rfl)
theorem w_108 {Z : State} {a0 : Array Value} (hw : ∀ d ∈ tables_1, d.before a0 Z = true) : (Jvm.Cond.methodLink "com/example/weir/weir/engine/TripleTable" (136 : Nat) ({ cls := "java/util/Arrays", name := "fill", desc := "([JJ)V" } : Jvm.MethodName)).before a0 Z = true := hw _ (List.mem_of_getElem? (i := 108) rfl)
theorem w_109 {Z : State} {a0 : Array Value} (hw : ∀ d ∈ tables_1, d.before a0 Z = true) : (Jvm.Cond.static ({ cls := "java/util/Arrays", name := "fill", desc := "([JJ)V" } : Jvm.MethodName)).before a0 Z = true := hw _ (List.mem_of_getElem? (i := 109) rfl)
theorem w_110 {Z : State} {a0 : Array Value} (hw : ∀ d ∈ tables_1, d.before a0 Z = true) : (Jvm.Cond.initialized "java/util/Arrays").before a0 Z = true := hw _ (List.mem_of_getElem? (i := 110) rfl)
theorem w_111 {Z : State} {a0 : Array Value} (hw : ∀ d ∈ tables_1, d.before a0 Z = true) : (Jvm.Cond.code ({ cls := "java/util/Arrays", name := "fill", desc := "([JJ)V" } : Jvm.MethodName) jdk_65_method_101_code (5 : Nat) (Option.none : Option Jvm.ClassFile.FieldType)).before a0 Z = true := hw _ (List.mem_of_getElem? (i := 111) rfl)
theorem w_112 {Z : State} {a0 : Array Value} (hw : ∀ d ∈ tables_1, d.before a0 Z = true) : (Jvm.Cond.fieldLink "com/example/weir/weir/engine/TripleTable" (76 : Nat) "com/example/weir/weir/engine/TripleTable" "ending" "I").before a0 Z = true := hw _ (List.mem_of_getElem? (i := 112) rfl)
theorem w_113 {Z : State} {a0 : Array Value} (hw : ∀ d ∈ tables_1, d.before a0 Z = true) : (Jvm.Cond.lays "com/example/weir/weir/engine/TripleTable" "com/example/weir/weir/engine/TripleTable" "ending" "I").before a0 Z = true := hw _ (List.mem_of_getElem? (i := 113) rfl)
theorem w_114 {Z : State} {a0 : Array Value} (hw : ∀ d ∈ tables_1, d.before a0 Z = true) : (Jvm.Cond.classLink "com/example/weir/weir/engine/EndingListRenumberPinLaw" (17 : Nat) "com/example/weir/weir/engine/EndingList").before a0 Z = true := hw _ (List.mem_of_getElem? (i := 114) rfl)
theorem w_115 {Z : State} {a0 : Array Value} (hw : ∀ d ∈ tables_1, d.before a0 Z = true) : (Jvm.Cond.instantiable "com/example/weir/weir/engine/EndingList" (5 : Nat)).before a0 Z = true := hw _ (List.mem_of_getElem? (i := 115) rfl)
theorem w_116 {Z : State} {a0 : Array Value} (hw : ∀ d ∈ tables_1, d.before a0 Z = true) : (Jvm.Cond.initialized "com/example/weir/weir/engine/EndingList").before a0 Z = true := hw _ (List.mem_of_getElem? (i := 116) rfl)
theorem w_117 {Z : State} {a0 : Array Value} (hw : ∀ d ∈ tables_1, d.before a0 Z = true) : (Jvm.Cond.methodLink "com/example/weir/weir/engine/EndingListRenumberPinLaw" (19 : Nat) ({ cls := "com/example/weir/weir/engine/EndingList", name := "<init>", desc := "()V" } : Jvm.MethodName)).before a0 Z = true := hw _ (List.mem_of_getElem? (i := 117) rfl)
theorem w_118 {Z : State} {a0 : Array Value} (hw : ∀ d ∈ tables_1, d.before a0 Z = true) : (Jvm.Cond.instanceMethod ({ cls := "com/example/weir/weir/engine/EndingList", name := "<init>", desc := "()V" } : Jvm.MethodName)).before a0 Z = true := hw _ (List.mem_of_getElem? (i := 118) rfl)
theorem w_119 {Z : State} {a0 : Array Value} (hw : ∀ d ∈ tables_1, d.before a0 Z = true) : (Jvm.Cond.code ({ cls := "com/example/weir/weir/engine/EndingList", name := "<init>", desc := "()V" } : Jvm.MethodName) prog_25_method_1_code (1 : Nat) (Option.none : Option Jvm.ClassFile.FieldType)).before a0 Z = true := hw _ (List.mem_of_getElem? (i := 119) rfl)
theorem w_120 {Z : State} {a0 : Array Value} (hw : ∀ d ∈ tables_1, d.before a0 Z = true) : (Jvm.Cond.methodLink "com/example/weir/weir/engine/EndingList" (1 : Nat) ({ cls := "java/lang/Object", name := "<init>", desc := "()V" } : Jvm.MethodName)).before a0 Z = true := hw _ (List.mem_of_getElem? (i := 120) rfl)
theorem w_121 {Z : State} {a0 : Array Value} (hw : ∀ d ∈ tables_1, d.before a0 Z = true) : (Jvm.Cond.fieldLink "com/example/weir/weir/engine/EndingList" (9 : Nat) "com/example/weir/weir/engine/EndingList" "entries" "[I").before a0 Z = true := hw _ (List.mem_of_getElem? (i := 121) rfl)
theorem w_122 {Z : State} {a0 : Array Value} (hw : ∀ d ∈ tables_1, d.before a0 Z = true) : (Jvm.Cond.lays "com/example/weir/weir/engine/EndingList" "com/example/weir/weir/engine/EndingList" "entries" "[I").before a0 Z = true := hw _ (List.mem_of_getElem? (i := 122) rfl)
theorem w_123 {Z : State} {a0 : Array Value} (hw : ∀ d ∈ tables_1, d.before a0 Z = true) : (Jvm.Cond.methodLink "com/example/weir/weir/engine/EndingListRenumberPinLaw" (20 : Nat) ({ cls := "com/example/weir/weir/engine/EndingList", name := "add", desc := "(Lcom/example/weir/weir/engine/TripleTable;I)V" } : Jvm.MethodName)).before a0 Z = true := hw _ (List.mem_of_getElem? (i := 123) rfl)
theorem w_124 {Z : State} {a0 : Array Value} (hw : ∀ d ∈ tables_1, d.before a0 Z = true) : (Jvm.Cond.declares ({ cls := "com/example/weir/weir/engine/EndingList", name := "add", desc := "(Lcom/example/weir/weir/engine/TripleTable;I)V" } : Jvm.MethodName)).before a0 Z = true := hw _ (List.mem_of_getElem? (i := 124) rfl)
theorem w_125 {Z : State} {a0 : Array Value} (hw : ∀ d ∈ tables_1, d.before a0 Z = true) : (Jvm.Cond.instanceMethod ({ cls := "com/example/weir/weir/engine/EndingList", name := "add", desc := "(Lcom/example/weir/weir/engine/TripleTable;I)V" } : Jvm.MethodName)).before a0 Z = true := hw _ (List.mem_of_getElem? (i := 125) rfl)
theorem w_126 {Z : State} {a0 : Array Value} (hw : ∀ d ∈ tables_1, d.before a0 Z = true) : (Jvm.Cond.selects "com/example/weir/weir/engine/EndingList" ({ cls := "com/example/weir/weir/engine/EndingList", name := "add", desc := "(Lcom/example/weir/weir/engine/TripleTable;I)V" } : Jvm.MethodName) ({ cls := "com/example/weir/weir/engine/EndingList", name := "add", desc := "(Lcom/example/weir/weir/engine/TripleTable;I)V" } : Jvm.MethodName)).before a0 Z = true := hw _ (List.mem_of_getElem? (i := 126) rfl)
theorem w_127 {Z : State} {a0 : Array Value} (hw : ∀ d ∈ tables_1, d.before a0 Z = true) : (Jvm.Cond.code ({ cls := "com/example/weir/weir/engine/EndingList", name := "add", desc := "(Lcom/example/weir/weir/engine/TripleTable;I)V" } : Jvm.MethodName) prog_25_method_6_code (3 : Nat) (Option.none : Option Jvm.ClassFile.FieldType)).before a0 Z = true := hw _ (List.mem_of_getElem? (i := 127) rfl)
theorem w_128 {Z : State} {a0 : Array Value} (hw : ∀ d ∈ tables_1, d.before a0 Z = true) : (Jvm.Cond.fieldLink "com/example/weir/weir/engine/EndingList" (13 : Nat) "com/example/weir/weir/engine/EndingList" "held" "I").before a0 Z = true := hw _ (List.mem_of_getElem? (i := 128) rfl)
theorem w_129 {Z : State} {a0 : Array Value} (hw : ∀ d ∈ tables_1, d.before a0 Z = true) : (Jvm.Cond.lays "com/example/weir/weir/engine/EndingList" "com/example/weir/weir/engine/EndingList" "held" "I").before a0 Z = true := hw _ (List.mem_of_getElem? (i := 129) rfl)
theorem w_130 {Z : State} {a0 : Array Value} (hw : ∀ d ∈ tables_1, d.before a0 Z = true) : (Jvm.Cond.methodLink "com/example/weir/weir/engine/EndingList" (32 : Nat) ({ cls := "com/example/weir/weir/engine/EndingList", name := "place", desc := "(Lcom/example/weir/weir/engine/TripleTable;I)V" } : Jvm.MethodName)).before a0 Z = true := hw _ (List.mem_of_getElem? (i := 130) rfl)
theorem w_131 {Z : State} {a0 : Array Value} (hw : ∀ d ∈ tables_1, d.before a0 Z = true) : (Jvm.Cond.instanceMethod ({ cls := "com/example/weir/weir/engine/EndingList", name := "place", desc := "(Lcom/example/weir/weir/engine/TripleTable;I)V" } : Jvm.MethodName)).before a0 Z = true := hw _ (List.mem_of_getElem? (i := 131) rfl)
theorem w_132 {Z : State} {a0 : Array Value} (hw : ∀ d ∈ tables_1, d.before a0 Z = true) : (Jvm.Cond.privateMethod ({ cls := "com/example/weir/weir/engine/EndingList", name := "place", desc := "(Lcom/example/weir/weir/engine/TripleTable;I)V" } : Jvm.MethodName)).before a0 Z = true := hw _ (List.mem_of_getElem? (i := 132) rfl)
theorem w_133 {Z : State} {a0 : Array Value} (hw : ∀ d ∈ tables_1, d.before a0 Z = true) : (Jvm.Cond.code ({ cls := "com/example/weir/weir/engine/EndingList", name := "place", desc := "(Lcom/example/weir/weir/engine/TripleTable;I)V" } : Jvm.MethodName) prog_25_method_11_code (7 : Nat) (Option.none : Option Jvm.ClassFile.FieldType)).before a0 Z = true := hw _ (List.mem_of_getElem? (i := 133) rfl)
theorem w_134 {Z : State} {a0 : Array Value} (hw : ∀ d ∈ tables_1, d.before a0 Z = true) : (Jvm.Cond.methodLink "com/example/weir/weir/engine/EndingList" (40 : Nat) ({ cls := "com/example/weir/weir/engine/TripleTable", name := "end", desc := "(I)J" } : Jvm.MethodName)).before a0 Z = true := hw _ (List.mem_of_getElem? (i := 134) rfl)
theorem w_135 {Z : State} {a0 : Array Value} (hw : ∀ d ∈ tables_1, d.before a0 Z = true) : (Jvm.Cond.constantLong "com/example/weir/weir/engine/EndingList" (44 : Nat) (-9223372036854775807 : Int64)).before a0 Z = true := hw _ (List.mem_of_getElem? (i := 135) rfl)
theorem w_136 {Z : State} {a0 : Array Value} (hw : ∀ d ∈ tables_1, d.before a0 Z = true) : (Jvm.Cond.fieldLink "com/example/weir/weir/engine/EndingList" (17 : Nat) "com/example/weir/weir/engine/EndingList" "size" "I").before a0 Z = true := hw _ (List.mem_of_getElem? (i := 136) rfl)
theorem w_137 {Z : State} {a0 : Array Value} (hw : ∀ d ∈ tables_1, d.before a0 Z = true) : (Jvm.Cond.lays "com/example/weir/weir/engine/EndingList" "com/example/weir/weir/engine/EndingList" "size" "I").before a0 Z = true := hw _ (List.mem_of_getElem? (i := 137) rfl)
theorem w_138 {Z : State} {a0 : Array Value} (hw : ∀ d ∈ tables_1, d.before a0 Z = true) : (Jvm.Cond.fieldLink "com/example/weir/weir/engine/EndingList" (46 : Nat) "com/example/weir/weir/engine/EndingList" "earliest" "I").before a0 Z = true := hw _ (List.mem_of_getElem? (i := 138) rfl)
theorem w_139 {Z : State} {a0 : Array Value} (hw : ∀ d ∈ tables_1, d.before a0 Z = true) : (Jvm.Cond.lays "com/example/weir/weir/engine/EndingList" "com/example/weir/weir/engine/EndingList" "earliest" "I").before a0 Z = true := hw _ (List.mem_of_getElem? (i := 139) rfl)
theorem w_140 {Z : State} {a0 : Array Value} (hw : ∀ d ∈ tables_1, d.before a0 Z = true) : (Jvm.Cond.fieldLink "com/example/weir/weir/engine/EndingList" (20 : Nat) "com/example/weir/weir/engine/EndingList" "first" "I").before a0 Z = true := hw _ (List.mem_of_getElem? (i := 140) rfl)
theorem w_141 {Z : State} {a0 : Array Value} (hw : ∀ d ∈ tables_1, d.before a0 Z = true) : (Jvm.Cond.lays "com/example/weir/weir/engine/EndingList" "com/example/weir/weir/engine/EndingList" "first" "I").before a0 Z = true := hw _ (List.mem_of_getElem? (i := 141) rfl)
theorem w_142 {Z : State} {a0 : Array Value} (hw : ∀ d ∈ tables_1, d.before a0 Z = true) : (Jvm.Cond.methodLink "com/example/weir/weir/engine/EndingList" (27 : Nat) ({ cls := "com/example/weir/weir/engine/TripleTable", name := "moves", desc := "(I)I" } : Jvm.MethodName)).before a0 Z = true := hw _ (List.mem_of_getElem? (i := 142) rfl)
theorem w_143 {Z : State} {a0 : Array Value} (hw : ∀ d ∈ tables_1, d.before a0 Z = true) : (Jvm.Cond.declares ({ cls := "com/example/weir/weir/engine/TripleTable", name := "moves", desc := "(I)I" } : Jvm.MethodName)).before a0 Z = true := hw _ (List.mem_of_getElem? (i := 143) rfl)
theorem w_144 {Z : State} {a0 : Array Value} (hw : ∀ d ∈ tables_1, d.before a0 Z = true) : (Jvm.Cond.instanceMethod ({ cls := "com/example/weir/weir/engine/TripleTable", name := "moves", desc := "(I)I" } : Jvm.MethodName)).before a0 Z = true := hw _ (List.mem_of_getElem? (i := 144) rfl)
theorem w_145 {Z : State} {a0 : Array Value} (hw : ∀ d ∈ tables_1, d.before a0 Z = true) : (Jvm.Cond.selects "com/example/weir/weir/engine/TripleTable" ({ cls := "com/example/weir/weir/engine/TripleTable", name := "moves", desc := "(I)I" } : Jvm.MethodName) ({ cls := "com/example/weir/weir/engine/TripleTable", name := "moves", desc := "(I)I" } : Jvm.MethodName)).before a0 Z = true := hw _ (List.mem_of_getElem? (i := 145) rfl)
theorem w_146 {Z : State} {a0 : Array Value} (hw : ∀ d ∈ tables_1, d.before a0 Z = true) : (Jvm.Cond.code ({ cls := "com/example/weir/weir/engine/TripleTable", name := "moves", desc := "(I)I" } : Jvm.MethodName) prog_51_method_15_code (2 : Nat) (Option.some Jvm.ClassFile.FieldType.int)).before a0 Z = true := hw _ (List.mem_of_getElem? (i := 146) rfl)
theorem w_147 {Z : State} {a0 : Array Value} (hw : ∀ d ∈ tables_1, d.before a0 Z = true) : (Jvm.Cond.fieldLink "com/example/weir/weir/engine/TripleTable" (79 : Nat) "com/example/weir/weir/engine/TripleTable" "moves" "[I").before a0 Z = true := hw _ (List.mem_of_getElem? (i := 147) rfl)
theorem w_148 {Z : State} {a0 : Array Value} (hw : ∀ d ∈ tables_1, d.before a0 Z = true) : (Jvm.Cond.lays "com/example/weir/weir/engine/TripleTable" "com/example/weir/weir/engine/TripleTable" "moves" "[I").before a0 Z = true := hw _ (List.mem_of_getElem? (i := 148) rfl)
theorem w_149 {Z : State} {a0 : Array Value} (hw : ∀ d ∈ tables_1, d.before a0 Z = true) : (Jvm.Cond.methodLink "com/example/weir/weir/engine/EndingList" (36 : Nat) ({ cls := "com/example/weir/weir/engine/EndingList", name := "dropEntriesNotCurrentIfMany", desc := "(Lcom/example/weir/weir/engine/TripleTable;)V" } : Jvm.MethodName)).before a0 Z = true := hw _ (List.mem_of_getElem? (i := 149) rfl)
theorem w_150 {Z : State} {a0 : Array Value} (hw : ∀ d ∈ tables_1, d.before a0 Z = true) : (Jvm.Cond.instanceMethod ({ cls := "com/example/weir/weir/engine/EndingList", name := "dropEntriesNotCurrentIfMany", desc := "(Lcom/example/weir/weir/engine/TripleTable;)V" } : Jvm.MethodName)).before a0 Z = true := hw _ (List.mem_of_getElem? (i := 150) rfl)
theorem w_151 {Z : State} {a0 : Array Value} (hw : ∀ d ∈ tables_1, d.before a0 Z = true) : (Jvm.Cond.privateMethod ({ cls := "com/example/weir/weir/engine/EndingList", name := "dropEntriesNotCurrentIfMany", desc := "(Lcom/example/weir/weir/engine/TripleTable;)V" } : Jvm.MethodName)).before a0 Z = true := hw _ (List.mem_of_getElem? (i := 151) rfl)
theorem w_152 {Z : State} {a0 : Array Value} (hw : ∀ d ∈ tables_1, d.before a0 Z = true) : (Jvm.Cond.code ({ cls := "com/example/weir/weir/engine/EndingList", name := "dropEntriesNotCurrentIfMany", desc := "(Lcom/example/weir/weir/engine/TripleTable;)V" } : Jvm.MethodName) prog_25_method_13_code (2 : Nat) (Option.none : Option Jvm.ClassFile.FieldType)).before a0 Z = true := hw _ (List.mem_of_getElem? (i := 152) rfl)
theorem w_153 {Z : State} {a0 : Array Value} (hw : ∀ d ∈ tables_1, d.before a0 Z = true) : (Jvm.Cond.methodLink "com/example/weir/weir/engine/EndingList" (23 : Nat) ({ cls := "com/example/weir/weir/engine/EndingList", name := "triple", desc := "(I)I" } : Jvm.MethodName)).before a0 Z = true := hw _ (List.mem_of_getElem? (i := 153) rfl)
theorem w_154 {Z : State} {a0 : Array Value} (hw : ∀ d ∈ tables_1, d.before a0 Z = true) : (Jvm.Cond.declares ({ cls := "com/example/weir/weir/engine/EndingList", name := "triple", desc := "(I)I" } : Jvm.MethodName)).before a0 Z = true := hw _ (List.mem_of_getElem? (i := 154) rfl)
theorem w_155 {Z : State} {a0 : Array Value} (hw : ∀ d ∈ tables_1, d.before a0 Z = true) : (Jvm.Cond.instanceMethod ({ cls := "com/example/weir/weir/engine/EndingList", name := "triple", desc := "(I)I" } : Jvm.MethodName)).before a0 Z = true := hw _ (List.mem_of_getElem? (i := 155) rfl)
theorem w_156 {Z : State} {a0 : Array Value} (hw : ∀ d ∈ tables_1, d.before a0 Z = true) : (Jvm.Cond.selects "com/example/weir/weir/engine/EndingList" ({ cls := "com/example/weir/weir/engine/EndingList", name := "triple", desc := "(I)I" } : Jvm.MethodName) ({ cls := "com/example/weir/weir/engine/EndingList", name := "triple", desc := "(I)I" } : Jvm.MethodName)).before a0 Z = true := hw _ (List.mem_of_getElem? (i := 156) rfl)
theorem w_157 {Z : State} {a0 : Array Value} (hw : ∀ d ∈ tables_1, d.before a0 Z = true) : (Jvm.Cond.code ({ cls := "com/example/weir/weir/engine/EndingList", name := "triple", desc := "(I)I" } : Jvm.MethodName) prog_25_method_4_code (2 : Nat) (Option.some Jvm.ClassFile.FieldType.int)).before a0 Z = true := hw _ (List.mem_of_getElem? (i := 157) rfl)
theorem w_158 {Z : State} {a0 : Array Value} (hw : ∀ d ∈ tables_1, d.before a0 Z = true) : (Jvm.Cond.methodLink "com/example/weir/weir/engine/EndingListRenumberPinLaw" (24 : Nat) ({ cls := "com/example/weir/weir/engine/EndingList", name := "renumber", desc := "([I)V" } : Jvm.MethodName)).before a0 Z = true := hw _ (List.mem_of_getElem? (i := 158) rfl)
theorem w_159 {Z : State} {a0 : Array Value} (hw : ∀ d ∈ tables_1, d.before a0 Z = true) : (Jvm.Cond.declares ({ cls := "com/example/weir/weir/engine/EndingList", name := "renumber", desc := "([I)V" } : Jvm.MethodName)).before a0 Z = true := hw _ (List.mem_of_getElem? (i := 159) rfl)
theorem w_160 {Z : State} {a0 : Array Value} (hw : ∀ d ∈ tables_1, d.before a0 Z = true) : (Jvm.Cond.instanceMethod ({ cls := "com/example/weir/weir/engine/EndingList", name := "renumber", desc := "([I)V" } : Jvm.MethodName)).before a0 Z = true := hw _ (List.mem_of_getElem? (i := 160) rfl)
theorem w_161 {Z : State} {a0 : Array Value} (hw : ∀ d ∈ tables_1, d.before a0 Z = true) : (Jvm.Cond.selects "com/example/weir/weir/engine/EndingList" ({ cls := "com/example/weir/weir/engine/EndingList", name := "renumber", desc := "([I)V" } : Jvm.MethodName) ({ cls := "com/example/weir/weir/engine/EndingList", name := "renumber", desc := "([I)V" } : Jvm.MethodName)).before a0 Z = true := hw _ (List.mem_of_getElem? (i := 161) rfl)
theorem w_162 {Z : State} {a0 : Array Value} (hw : ∀ d ∈ tables_1, d.before a0 Z = true) : (Jvm.Cond.code ({ cls := "com/example/weir/weir/engine/EndingList", name := "renumber", desc := "([I)V" } : Jvm.MethodName) prog_25_method_10_code (7 : Nat) (Option.none : Option Jvm.ClassFile.FieldType)).before a0 Z = true := hw _ (List.mem_of_getElem? (i := 162) rfl)
theorem w_163 {Z : State} {a0 : Array Value} (hw : ∀ d ∈ tables_1, d.before a0 Z = true) : (Jvm.Cond.methodLink "com/example/weir/weir/engine/EndingList" (72 : Nat) ({ cls := "java/lang/System", name := "arraycopy", desc := "(Ljava/lang/Object;ILjava/lang/Object;II)V" } : Jvm.MethodName)).before a0 Z = true := hw _ (List.mem_of_getElem? (i := 163) rfl)
theorem w_164 {Z : State} {a0 : Array Value} (hw : ∀ d ∈ tables_1, d.before a0 Z = true) : (Jvm.Cond.static ({ cls := "java/lang/System", name := "arraycopy", desc := "(Ljava/lang/Object;ILjava/lang/Object;II)V" } : Jvm.MethodName)).before a0 Z = true := hw _ (List.mem_of_getElem? (i := 164) rfl)
theorem w_165 {Z : State} {a0 : Array Value} (hw : ∀ d ∈ tables_1, d.before a0 Z = true) : (Jvm.Cond.initialized "java/lang/System").before a0 Z = true := hw _ (List.mem_of_getElem? (i := 165) rfl)
theorem w_166 {Z : State} {a0 : Array Value} (hw : ∀ d ∈ tables_1, d.before a0 Z = true) : (Jvm.Cond.native ({ cls := "java/lang/System", name := "arraycopy", desc := "(Ljava/lang/Object;ILjava/lang/Object;II)V" } : Jvm.MethodName)).before a0 Z = true := hw _ (List.mem_of_getElem? (i := 166) rfl)
theorem w_167 {Z : State} {a0 : Array Value} (hw : ∀ d ∈ tables_1, d.before a0 Z = true) : (Jvm.Cond.methodLink "com/example/weir/weir/engine/EndingListRenumberPinLaw" (28 : Nat) ({ cls := "com/example/weir/weir/engine/EndingList", name := "size", desc := "()I" } : Jvm.MethodName)).before a0 Z = true := hw _ (List.mem_of_getElem? (i := 167) rfl)
theorem w_168 {Z : State} {a0 : Array Value} (hw : ∀ d ∈ tables_1, d.before a0 Z = true) : (Jvm.Cond.declares ({ cls := "com/example/weir/weir/engine/EndingList", name := "size", desc := "()I" } : Jvm.MethodName)).before a0 Z = true := hw _ (List.mem_of_getElem? (i := 168) rfl)
theorem w_169 {Z : State} {a0 : Array Value} (hw : ∀ d ∈ tables_1, d.before a0 Z = true) : (Jvm.Cond.instanceMethod ({ cls := "com/example/weir/weir/engine/EndingList", name := "size", desc := "()I" } : Jvm.MethodName)).before a0 Z = true := hw _ (List.mem_of_getElem? (i := 169) rfl)
theorem w_170 {Z : State} {a0 : Array Value} (hw : ∀ d ∈ tables_1, d.before a0 Z = true) : (Jvm.Cond.selects "com/example/weir/weir/engine/EndingList" ({ cls := "com/example/weir/weir/engine/EndingList", name := "size", desc := "()I" } : Jvm.MethodName) ({ cls := "com/example/weir/weir/engine/EndingList", name := "size", desc := "()I" } : Jvm.MethodName)).before a0 Z = true := hw _ (List.mem_of_getElem? (i := 170) rfl)
theorem w_171 {Z : State} {a0 : Array Value} (hw : ∀ d ∈ tables_1, d.before a0 Z = true) : (Jvm.Cond.code ({ cls := "com/example/weir/weir/engine/EndingList", name := "size", desc := "()I" } : Jvm.MethodName) prog_25_method_3_code (1 : Nat) (Option.some Jvm.ClassFile.FieldType.int)).before a0 Z = true := hw _ (List.mem_of_getElem? (i := 171) rfl)
theorem w_172 {Z : State} {a0 : Array Value} (hw : ∀ d ∈ tables_1, d.before a0 Z = true) : (Jvm.Cond.methodLink "com/example/weir/weir/engine/EndingListRenumberPinLaw" (32 : Nat) ({ cls := "com/example/weir/weir/engine/EndingList", name := "triple", desc := "(I)I" } : Jvm.MethodName)).before a0 Z = true := hw _ (List.mem_of_getElem? (i := 172) rfl)
theorem w_173 {Z : State} {a0 : Array Value} (hw : ∀ d ∈ tables_1, d.before a0 Z = true) : (Jvm.Cond.constantLong "com/example/weir/weir/engine/EndingListRenumberPinLaw" (11 : Nat) (-9223372036854775807 : Int64)).before a0 Z = true := hw _ (List.mem_of_getElem? (i := 173) rfl)
theorem w_174 {Z : State} {a0 : Array Value} (hw : ∀ d ∈ tables_1, d.before a0 Z = true) : (Jvm.Cond.fieldLink "com/example/weir/weir/engine/TripleTable" (61 : Nat) "com/example/weir/weir/engine/TripleTable" "earliest" "I").before a0 Z = true := hw _ (List.mem_of_getElem? (i := 174) rfl)
theorem w_175 {Z : State} {a0 : Array Value} (hw : ∀ d ∈ tables_1, d.before a0 Z = true) : (Jvm.Cond.lays "com/example/weir/weir/engine/TripleTable" "com/example/weir/weir/engine/TripleTable" "earliest" "I").before a0 Z = true := hw _ (List.mem_of_getElem? (i := 175) rfl)
theorem w_176 {Z : State} {a0 : Array Value} (hw : ∀ d ∈ tables_1, d.before a0 Z = true) : (Jvm.Cond.methodLink "com/example/weir/weir/engine/EndingList" (69 : Nat) ({ cls := "com/example/weir/weir/engine/EndingList", name := "placeFirst", desc := "(Lcom/example/weir/weir/engine/TripleTable;I)V" } : Jvm.MethodName)).before a0 Z = true := hw _ (List.mem_of_getElem? (i := 176) rfl)
theorem w_177 {Z : State} {a0 : Array Value} (hw : ∀ d ∈ tables_1, d.before a0 Z = true) : (Jvm.Cond.instanceMethod ({ cls := "com/example/weir/weir/engine/EndingList", name := "placeFirst", desc := "(Lcom/example/weir/weir/engine/TripleTable;I)V" } : Jvm.MethodName)).before a0 Z = true := hw _ (List.mem_of_getElem? (i := 177) rfl)
theorem w_178 {Z : State} {a0 : Array Value} (hw : ∀ d ∈ tables_1, d.before a0 Z = true) : (Jvm.Cond.privateMethod ({ cls := "com/example/weir/weir/engine/EndingList", name := "placeFirst", desc := "(Lcom/example/weir/weir/engine/TripleTable;I)V" } : Jvm.MethodName)).before a0 Z = true := hw _ (List.mem_of_getElem? (i := 178) rfl)
theorem w_179 {Z : State} {a0 : Array Value} (hw : ∀ d ∈ tables_1, d.before a0 Z = true) : (Jvm.Cond.code ({ cls := "com/example/weir/weir/engine/EndingList", name := "placeFirst", desc := "(Lcom/example/weir/weir/engine/TripleTable;I)V" } : Jvm.MethodName) prog_25_method_12_code (5 : Nat) (Option.none : Option Jvm.ClassFile.FieldType)).before a0 Z = true := hw _ (List.mem_of_getElem? (i := 179) rfl)
theorem w_180 {Z : State} {a0 : Array Value} (hw : ∀ d ∈ tables_1, d.before a0 Z = true) : (Jvm.Cond.methodLink "com/example/weir/weir/engine/EndingList" (78 : Nat) ({ cls := "java/lang/Math", name := "max", desc := "(II)I" } : Jvm.MethodName)).before a0 Z = true := hw _ (List.mem_of_getElem? (i := 180) rfl)
theorem w_181 {Z : State} {a0 : Array Value} (hw : ∀ d ∈ tables_1, d.before a0 Z = true) : (Jvm.Cond.static ({ cls := "java/lang/Math", name := "max", desc := "(II)I" } : Jvm.MethodName)).before a0 Z = true := hw _ (List.mem_of_getElem? (i := 181) rfl)
theorem w_182 {Z : State} {a0 : Array Value} (hw : ∀ d ∈ tables_1, d.before a0 Z = true) : (Jvm.Cond.initialized "java/lang/Math").before a0 Z = true := hw _ (List.mem_of_getElem? (i := 182) rfl)
theorem w_183 {Z : State} {a0 : Array Value} (hw : ∀ d ∈ tables_1, d.before a0 Z = true) : (Jvm.Cond.code ({ cls := "java/lang/Math", name := "max", desc := "(II)I" } : Jvm.MethodName) jdk_29_method_65_code (2 : Nat) (Option.some Jvm.ClassFile.FieldType.int)).before a0 Z = true := hw _ (List.mem_of_getElem? (i := 183) rfl)
theorem w_184 {Z : State} {a0 : Array Value} (hw : ∀ d ∈ tables_1, d.before a0 Z = true) : (Jvm.Cond.methodLink "com/example/weir/weir/engine/EndingList" (84 : Nat) ({ cls := "com/example/weir/weir/engine/EndingList", name := "moveTo", desc := "(II)V" } : Jvm.MethodName)).before a0 Z = true := hw _ (List.mem_of_getElem? (i := 184) rfl)
theorem w_185 {Z : State} {a0 : Array Value} (hw : ∀ d ∈ tables_1, d.before a0 Z = true) : (Jvm.Cond.instanceMethod ({ cls := "com/example/weir/weir/engine/EndingList", name := "moveTo", desc := "(II)V" } : Jvm.MethodName)).before a0 Z = true := hw _ (List.mem_of_getElem? (i := 185) rfl)
theorem w_186 {Z : State} {a0 : Array Value} (hw : ∀ d ∈ tables_1, d.before a0 Z = true) : (Jvm.Cond.privateMethod ({ cls := "com/example/weir/weir/engine/EndingList", name := "moveTo", desc := "(II)V" } : Jvm.MethodName)).before a0 Z = true := hw _ (List.mem_of_getElem? (i := 186) rfl)
theorem w_187 {Z : State} {a0 : Array Value} (hw : ∀ d ∈ tables_1, d.before a0 Z = true) : (Jvm.Cond.code ({ cls := "com/example/weir/weir/engine/EndingList", name := "moveTo", desc := "(II)V" } : Jvm.MethodName) prog_25_method_16_code (4 : Nat) (Option.none : Option Jvm.ClassFile.FieldType)).before a0 Z = true := hw _ (List.mem_of_getElem? (i := 187) rfl)
theorem w_188 {Z : State} {a0 : Array Value} (hw : ∀ d ∈ tables_1, d.before a0 Z = true) : (Jvm.Cond.methodLink "com/example/weir/weir/engine/EndingList" (65 : Nat) ({ cls := "com/example/weir/weir/engine/EndingList", name := "moveTo", desc := "(I)V" } : Jvm.MethodName)).before a0 Z = true := hw _ (List.mem_of_getElem? (i := 188) rfl)
theorem w_189 {Z : State} {a0 : Array Value} (hw : ∀ d ∈ tables_1, d.before a0 Z = true) : (Jvm.Cond.instanceMethod ({ cls := "com/example/weir/weir/engine/EndingList", name := "moveTo", desc := "(I)V" } : Jvm.MethodName)).before a0 Z = true := hw _ (List.mem_of_getElem? (i := 189) rfl)
theorem w_190 {Z : State} {a0 : Array Value} (hw : ∀ d ∈ tables_1, d.before a0 Z = true) : (Jvm.Cond.privateMethod ({ cls := "com/example/weir/weir/engine/EndingList", name := "moveTo", desc := "(I)V" } : Jvm.MethodName)).before a0 Z = true := hw _ (List.mem_of_getElem? (i := 190) rfl)
theorem w_191 {Z : State} {a0 : Array Value} (hw : ∀ d ∈ tables_1, d.before a0 Z = true) : (Jvm.Cond.code ({ cls := "com/example/weir/weir/engine/EndingList", name := "moveTo", desc := "(I)V" } : Jvm.MethodName) prog_25_method_15_code (2 : Nat) (Option.none : Option Jvm.ClassFile.FieldType)).before a0 Z = true := hw _ (List.mem_of_getElem? (i := 191) rfl)
theorem pd_0 : parseMethodDescriptor "()V" = some ⟨[], none⟩ := by decide +kernel
theorem pd_1 : parseMethodDescriptor "(IZ)V" = some ⟨[.int, .boolean], none⟩ := by decide +kernel
theorem pd_2 : parseMethodDescriptor "(I)V" = some ⟨[.int], none⟩ := by decide +kernel
theorem pd_3 : parseMethodDescriptor "(Lcom/example/weir/weir/engine/SubjectIndex$Terms;)V" = some ⟨[(.object "com/example/weir/weir/engine/SubjectIndex$Terms")], none⟩ := by decide +kernel
theorem pd_4 : parseMethodDescriptor "(I)J" = some ⟨[.int], some .long⟩ := by decide +kernel
theorem pd_5 : parseMethodDescriptor "()I" = some ⟨[], some .int⟩ := by decide +kernel
theorem pd_6 : parseMethodDescriptor "([JJ)V" = some ⟨[(.array .long), .long], none⟩ := by decide +kernel
theorem pd_7 : parseMethodDescriptor "(IJ)V" = some ⟨[.int, .long], none⟩ := by decide +kernel
theorem pd_8 : parseMethodDescriptor "(II)V" = some ⟨[.int, .int], none⟩ := by decide +kernel
theorem pd_9 : parseMethodDescriptor "(I)I" = some ⟨[.int], some .int⟩ := by decide +kernel
theorem pd_10 : parseMethodDescriptor "(II)I" = some ⟨[.int, .int], some .int⟩ := by decide +kernel
theorem pd_11 : parseMethodDescriptor "(Lcom/example/weir/weir/engine/TripleTable;I)V" = some ⟨[(.object "com/example/weir/weir/engine/TripleTable"), .int], none⟩ := by decide +kernel
theorem pd_12 : parseMethodDescriptor "(Lcom/example/weir/weir/engine/TripleTable;)V" = some ⟨[(.object "com/example/weir/weir/engine/TripleTable")], none⟩ := by decide +kernel
theorem pd_13 : parseMethodDescriptor "([I)V" = some ⟨[(.array .int)], none⟩ := by decide +kernel
theorem d10_0 : decode prog_51_method_22_code 0 = .ok (.aload_n 0, 1) := by decide +kernel
theorem d10_1 : decode prog_51_method_22_code 1 = .ok (.iload_n 1, 1) := by decide +kernel
theorem d10_10 : decode prog_51_method_22_code 10 = .ok (.lcmp, 1) := by decide +kernel
theorem d10_11 : decode prog_51_method_22_code 11 = .ok (.ifCond .eq 13, 3) := by decide +kernel
theorem d10_2 : decode prog_51_method_22_code 2 = .ok (.invokevirtual 130, 3) := by decide +kernel
theorem d10_24 : decode prog_51_method_22_code 24 = .ok (.lload_n 2, 1) := by decide +kernel
theorem d10_25 : decode prog_51_method_22_code 25 = .ok (.ldc2_w 134, 3) := by decide +kernel
theorem d10_28 : decode prog_51_method_22_code 28 = .ok (.lcmp, 1) := by decide +kernel
theorem d10_29 : decode prog_51_method_22_code 29 = .ok (.ifCond .ne 13, 3) := by decide +kernel
theorem d10_42 : decode prog_51_method_22_code 42 = .ok (.return_, 1) := by decide +kernel
theorem d10_5 : decode prog_51_method_22_code 5 = .ok (.lstore_n 2, 1) := by decide +kernel
theorem d10_6 : decode prog_51_method_22_code 6 = .ok (.lload_n 2, 1) := by decide +kernel
theorem d10_7 : decode prog_51_method_22_code 7 = .ok (.ldc2_w 51, 3) := by decide +kernel
theorem d11_0 : decode prog_51_method_8_code 0 = .ok (.aload_n 0, 1) := by decide +kernel
theorem d11_1 : decode prog_51_method_8_code 1 = .ok (.getfield 47, 3) := by decide +kernel
theorem d11_10 : decode prog_51_method_8_code 10 = .ok (.goto 9, 3) := by decide +kernel
theorem d11_13 : decode prog_51_method_8_code 13 = .ok (.aload_n 0, 1) := by decide +kernel
theorem d11_14 : decode prog_51_method_8_code 14 = .ok (.getfield 47, 3) := by decide +kernel
theorem d11_17 : decode prog_51_method_8_code 17 = .ok (.iload_n 1, 1) := by decide +kernel
theorem d11_18 : decode prog_51_method_8_code 18 = .ok (.laload, 1) := by decide +kernel
theorem d11_19 : decode prog_51_method_8_code 19 = .ok (.lreturn, 1) := by decide +kernel
theorem d11_4 : decode prog_51_method_8_code 4 = .ok (.ifnonnull 9, 3) := by decide +kernel
theorem d11_7 : decode prog_51_method_8_code 7 = .ok (.ldc2_w 51, 3) := by decide +kernel
theorem d12_0 : decode prog_51_method_23_code 0 = .ok (.lload_n 2, 1) := by decide +kernel
theorem d12_1 : decode prog_51_method_23_code 1 = .ok (.ldc2_w 51, 3) := by decide +kernel
theorem d12_25 : decode prog_51_method_23_code 25 = .ok (.aload_n 0, 1) := by decide +kernel
theorem d12_26 : decode prog_51_method_23_code 26 = .ok (.getfield 47, 3) := by decide +kernel
theorem d12_29 : decode prog_51_method_23_code 29 = .ok (.ifnonnull 23, 3) := by decide +kernel
theorem d12_32 : decode prog_51_method_23_code 32 = .ok (.aload_n 0, 1) := by decide +kernel
theorem d12_33 : decode prog_51_method_23_code 33 = .ok (.aload_n 0, 1) := by decide +kernel
theorem d12_34 : decode prog_51_method_23_code 34 = .ok (.invokevirtual 67, 3) := by decide +kernel
theorem d12_37 : decode prog_51_method_23_code 37 = .ok (.newarray .long, 2) := by decide +kernel
theorem d12_39 : decode prog_51_method_23_code 39 = .ok (.putfield 47, 3) := by decide +kernel
theorem d12_4 : decode prog_51_method_23_code 4 = .ok (.lcmp, 1) := by decide +kernel
theorem d12_42 : decode prog_51_method_23_code 42 = .ok (.aload_n 0, 1) := by decide +kernel
theorem d12_43 : decode prog_51_method_23_code 43 = .ok (.getfield 47, 3) := by decide +kernel
theorem d12_46 : decode prog_51_method_23_code 46 = .ok (.ldc2_w 51, 3) := by decide +kernel
theorem d12_49 : decode prog_51_method_23_code 49 = .ok (.invokestatic 136, 3) := by decide +kernel
theorem d12_5 : decode prog_51_method_23_code 5 = .ok (.ifCond .ne 20, 3) := by decide +kernel
theorem d12_52 : decode prog_51_method_23_code 52 = .ok (.aload_n 0, 1) := by decide +kernel
theorem d12_53 : decode prog_51_method_23_code 53 = .ok (.getfield 47, 3) := by decide +kernel
theorem d12_56 : decode prog_51_method_23_code 56 = .ok (.iload_n 1, 1) := by decide +kernel
theorem d12_57 : decode prog_51_method_23_code 57 = .ok (.lload_n 2, 1) := by decide +kernel
theorem d12_58 : decode prog_51_method_23_code 58 = .ok (.lastore, 1) := by decide +kernel
theorem d12_59 : decode prog_51_method_23_code 59 = .ok (.aload_n 0, 1) := by decide +kernel
theorem d12_60 : decode prog_51_method_23_code 60 = .ok (.dup, 1) := by decide +kernel
theorem d12_61 : decode prog_51_method_23_code 61 = .ok (.getfield 76, 3) := by decide +kernel
theorem d12_64 : decode prog_51_method_23_code 64 = .ok (.iconst 1, 1) := by decide +kernel
theorem d12_65 : decode prog_51_method_23_code 65 = .ok (.iadd, 1) := by decide +kernel
theorem d12_66 : decode prog_51_method_23_code 66 = .ok (.putfield 76, 3) := by decide +kernel
theorem d12_69 : decode prog_51_method_23_code 69 = .ok (.lload_n 2, 1) := by decide +kernel
theorem d12_70 : decode prog_51_method_23_code 70 = .ok (.ldc2_w 134, 3) := by decide +kernel
theorem d12_73 : decode prog_51_method_23_code 73 = .ok (.lcmp, 1) := by decide +kernel
theorem d12_74 : decode prog_51_method_23_code 74 = .ok (.ifCond .ne 13, 3) := by decide +kernel
theorem d12_77 : decode prog_51_method_23_code 77 = .ok (.aload_n 0, 1) := by decide +kernel
theorem d12_78 : decode prog_51_method_23_code 78 = .ok (.dup, 1) := by decide +kernel
theorem d12_79 : decode prog_51_method_23_code 79 = .ok (.getfield 61, 3) := by decide +kernel
theorem d12_82 : decode prog_51_method_23_code 82 = .ok (.iconst 1, 1) := by decide +kernel
theorem d12_83 : decode prog_51_method_23_code 83 = .ok (.iadd, 1) := by decide +kernel
theorem d12_84 : decode prog_51_method_23_code 84 = .ok (.putfield 61, 3) := by decide +kernel
theorem d12_87 : decode prog_51_method_23_code 87 = .ok (.return_, 1) := by decide +kernel
theorem d13_0 : decode prog_51_method_4_code 0 = .ok (.aload_n 0, 1) := by decide +kernel
theorem d13_1 : decode prog_51_method_4_code 1 = .ok (.getfield 11, 3) := by decide +kernel
theorem d13_4 : decode prog_51_method_4_code 4 = .ok (.arraylength, 1) := by decide +kernel
theorem d13_5 : decode prog_51_method_4_code 5 = .ok (.iconst 3, 1) := by decide +kernel
theorem d13_6 : decode prog_51_method_4_code 6 = .ok (.idiv, 1) := by decide +kernel
theorem d13_7 : decode prog_51_method_4_code 7 = .ok (.ireturn, 1) := by decide +kernel
theorem d14_0 : decode jdk_65_method_101_code 0 = .ok (.iconst 0, 1) := by decide +kernel
theorem d14_1 : decode jdk_65_method_101_code 1 = .ok (.istore_n 3, 1) := by decide +kernel
theorem d14_12 : decode jdk_65_method_101_code 12 = .ok (.aload_n 0, 1) := by decide +kernel
theorem d14_13 : decode jdk_65_method_101_code 13 = .ok (.iload_n 3, 1) := by decide +kernel
theorem d14_14 : decode jdk_65_method_101_code 14 = .ok (.lload_n 1, 1) := by decide +kernel
theorem d14_15 : decode jdk_65_method_101_code 15 = .ok (.lastore, 1) := by decide +kernel
theorem d14_16 : decode jdk_65_method_101_code 16 = .ok (.iinc 3 1, 3) := by decide +kernel
theorem d14_19 : decode jdk_65_method_101_code 19 = .ok (.goto (-13), 3) := by decide +kernel
theorem d14_2 : decode jdk_65_method_101_code 2 = .ok (.aload_n 0, 1) := by decide +kernel
theorem d14_22 : decode jdk_65_method_101_code 22 = .ok (.return_, 1) := by decide +kernel
theorem d14_3 : decode jdk_65_method_101_code 3 = .ok (.arraylength, 1) := by decide +kernel
theorem d14_4 : decode jdk_65_method_101_code 4 = .ok (.istore 4, 2) := by decide +kernel
theorem d14_6 : decode jdk_65_method_101_code 6 = .ok (.iload_n 3, 1) := by decide +kernel
theorem d14_7 : decode jdk_65_method_101_code 7 = .ok (.iload 4, 2) := by decide +kernel
theorem d14_9 : decode jdk_65_method_101_code 9 = .ok (.if_icmp .ge 13, 3) := by decide +kernel
theorem d15_0 : decode prog_25_method_1_code 0 = .ok (.aload_n 0, 1) := by decide +kernel
theorem d15_1 : decode prog_25_method_1_code 1 = .ok (.invokespecial 1, 3) := by decide +kernel
theorem d15_12 : decode prog_25_method_1_code 12 = .ok (.return_, 1) := by decide +kernel
theorem d15_4 : decode prog_25_method_1_code 4 = .ok (.aload_n 0, 1) := by decide +kernel
theorem d15_5 : decode prog_25_method_1_code 5 = .ok (.bipush 8, 2) := by decide +kernel
theorem d15_7 : decode prog_25_method_1_code 7 = .ok (.newarray .int, 2) := by decide +kernel
theorem d15_9 : decode prog_25_method_1_code 9 = .ok (.putfield 9, 3) := by decide +kernel
theorem d16_0 : decode prog_25_method_6_code 0 = .ok (.aload_n 0, 1) := by decide +kernel
theorem d16_1 : decode prog_25_method_6_code 1 = .ok (.dup, 1) := by decide +kernel
theorem d16_10 : decode prog_25_method_6_code 10 = .ok (.aload_n 0, 1) := by decide +kernel
theorem d16_11 : decode prog_25_method_6_code 11 = .ok (.aload_n 1, 1) := by decide +kernel
theorem d16_12 : decode prog_25_method_6_code 12 = .ok (.iload_n 2, 1) := by decide +kernel
theorem d16_13 : decode prog_25_method_6_code 13 = .ok (.invokevirtual 32, 3) := by decide +kernel
theorem d16_16 : decode prog_25_method_6_code 16 = .ok (.aload_n 0, 1) := by decide +kernel
theorem d16_17 : decode prog_25_method_6_code 17 = .ok (.aload_n 1, 1) := by decide +kernel
theorem d16_18 : decode prog_25_method_6_code 18 = .ok (.invokevirtual 36, 3) := by decide +kernel
theorem d16_2 : decode prog_25_method_6_code 2 = .ok (.getfield 13, 3) := by decide +kernel
theorem d16_21 : decode prog_25_method_6_code 21 = .ok (.return_, 1) := by decide +kernel
theorem d16_5 : decode prog_25_method_6_code 5 = .ok (.iconst 1, 1) := by decide +kernel
theorem d16_6 : decode prog_25_method_6_code 6 = .ok (.iadd, 1) := by decide +kernel
theorem d16_7 : decode prog_25_method_6_code 7 = .ok (.putfield 13, 3) := by decide +kernel
theorem d17_0 : decode prog_25_method_11_code 0 = .ok (.aload_n 1, 1) := by decide +kernel
theorem d17_1 : decode prog_25_method_11_code 1 = .ok (.iload_n 2, 1) := by decide +kernel
theorem d17_10 : decode prog_25_method_11_code 10 = .ok (.lcmp, 1) := by decide +kernel
theorem d17_101 : decode prog_25_method_11_code 101 = .ok (.goto 7, 3) := by decide +kernel
theorem d17_104 : decode prog_25_method_11_code 104 = .ok (.iconst 2, 1) := by decide +kernel
theorem d17_105 : decode prog_25_method_11_code 105 = .ok (.iload 6, 2) := by decide +kernel
theorem d17_107 : decode prog_25_method_11_code 107 = .ok (.imul, 1) := by decide +kernel
theorem d17_108 : decode prog_25_method_11_code 108 = .ok (.invokevirtual 65, 3) := by decide +kernel
theorem d17_11 : decode prog_25_method_11_code 11 = .ok (.ifCond .ne 10, 3) := by decide +kernel
theorem d17_111 : decode prog_25_method_11_code 111 = .ok (.iconst 2, 1) := by decide +kernel
theorem d17_112 : decode prog_25_method_11_code 112 = .ok (.aload_n 0, 1) := by decide +kernel
theorem d17_113 : decode prog_25_method_11_code 113 = .ok (.getfield 20, 3) := by decide +kernel
theorem d17_116 : decode prog_25_method_11_code 116 = .ok (.iload 5, 2) := by decide +kernel
theorem d17_118 : decode prog_25_method_11_code 118 = .ok (.iadd, 1) := by decide +kernel
theorem d17_119 : decode prog_25_method_11_code 119 = .ok (.imul, 1) := by decide +kernel
theorem d17_120 : decode prog_25_method_11_code 120 = .ok (.istore 6, 2) := by decide +kernel
theorem d17_122 : decode prog_25_method_11_code 122 = .ok (.iload 5, 2) := by decide +kernel
theorem d17_124 : decode prog_25_method_11_code 124 = .ok (.aload_n 0, 1) := by decide +kernel
theorem d17_125 : decode prog_25_method_11_code 125 = .ok (.getfield 17, 3) := by decide +kernel
theorem d17_128 : decode prog_25_method_11_code 128 = .ok (.if_icmp .ge 29, 3) := by decide +kernel
theorem d17_131 : decode prog_25_method_11_code 131 = .ok (.aload_n 0, 1) := by decide +kernel
theorem d17_132 : decode prog_25_method_11_code 132 = .ok (.getfield 9, 3) := by decide +kernel
theorem d17_135 : decode prog_25_method_11_code 135 = .ok (.iload 6, 2) := by decide +kernel
theorem d17_137 : decode prog_25_method_11_code 137 = .ok (.aload_n 0, 1) := by decide +kernel
theorem d17_138 : decode prog_25_method_11_code 138 = .ok (.getfield 9, 3) := by decide +kernel
theorem d17_14 : decode prog_25_method_11_code 14 = .ok (.aload_n 0, 1) := by decide +kernel
theorem d17_141 : decode prog_25_method_11_code 141 = .ok (.iload 6, 2) := by decide +kernel
theorem d17_143 : decode prog_25_method_11_code 143 = .ok (.iconst 2, 1) := by decide +kernel
theorem d17_144 : decode prog_25_method_11_code 144 = .ok (.iadd, 1) := by decide +kernel
theorem d17_145 : decode prog_25_method_11_code 145 = .ok (.iconst 2, 1) := by decide +kernel
theorem d17_146 : decode prog_25_method_11_code 146 = .ok (.aload_n 0, 1) := by decide +kernel
theorem d17_147 : decode prog_25_method_11_code 147 = .ok (.getfield 17, 3) := by decide +kernel
theorem d17_15 : decode prog_25_method_11_code 15 = .ok (.aload_n 1, 1) := by decide +kernel
theorem d17_150 : decode prog_25_method_11_code 150 = .ok (.iload 5, 2) := by decide +kernel
theorem d17_152 : decode prog_25_method_11_code 152 = .ok (.isub, 1) := by decide +kernel
theorem d17_153 : decode prog_25_method_11_code 153 = .ok (.imul, 1) := by decide +kernel
theorem d17_154 : decode prog_25_method_11_code 154 = .ok (.invokestatic 72, 3) := by decide +kernel
theorem d17_157 : decode prog_25_method_11_code 157 = .ok (.aload_n 0, 1) := by decide +kernel
theorem d17_158 : decode prog_25_method_11_code 158 = .ok (.getfield 9, 3) := by decide +kernel
theorem d17_16 : decode prog_25_method_11_code 16 = .ok (.iload_n 2, 1) := by decide +kernel
theorem d17_161 : decode prog_25_method_11_code 161 = .ok (.iload 6, 2) := by decide +kernel
theorem d17_163 : decode prog_25_method_11_code 163 = .ok (.iload_n 2, 1) := by decide +kernel
theorem d17_164 : decode prog_25_method_11_code 164 = .ok (.iastore, 1) := by decide +kernel
theorem d17_165 : decode prog_25_method_11_code 165 = .ok (.aload_n 0, 1) := by decide +kernel
theorem d17_166 : decode prog_25_method_11_code 166 = .ok (.getfield 9, 3) := by decide +kernel
theorem d17_169 : decode prog_25_method_11_code 169 = .ok (.iload 6, 2) := by decide +kernel
theorem d17_17 : decode prog_25_method_11_code 17 = .ok (.invokevirtual 69, 3) := by decide +kernel
theorem d17_171 : decode prog_25_method_11_code 171 = .ok (.iconst 1, 1) := by decide +kernel
theorem d17_172 : decode prog_25_method_11_code 172 = .ok (.iadd, 1) := by decide +kernel
theorem d17_173 : decode prog_25_method_11_code 173 = .ok (.aload_n 1, 1) := by decide +kernel
theorem d17_174 : decode prog_25_method_11_code 174 = .ok (.iload_n 2, 1) := by decide +kernel
theorem d17_175 : decode prog_25_method_11_code 175 = .ok (.invokevirtual 27, 3) := by decide +kernel
theorem d17_178 : decode prog_25_method_11_code 178 = .ok (.iastore, 1) := by decide +kernel
theorem d17_179 : decode prog_25_method_11_code 179 = .ok (.aload_n 0, 1) := by decide +kernel
theorem d17_180 : decode prog_25_method_11_code 180 = .ok (.dup, 1) := by decide +kernel
theorem d17_181 : decode prog_25_method_11_code 181 = .ok (.getfield 17, 3) := by decide +kernel
theorem d17_184 : decode prog_25_method_11_code 184 = .ok (.iconst 1, 1) := by decide +kernel
theorem d17_185 : decode prog_25_method_11_code 185 = .ok (.iadd, 1) := by decide +kernel
theorem d17_186 : decode prog_25_method_11_code 186 = .ok (.putfield 17, 3) := by decide +kernel
theorem d17_189 : decode prog_25_method_11_code 189 = .ok (.return_, 1) := by decide +kernel
theorem d17_2 : decode prog_25_method_11_code 2 = .ok (.invokevirtual 40, 3) := by decide +kernel
theorem d17_20 : decode prog_25_method_11_code 20 = .ok (.return_, 1) := by decide +kernel
theorem d17_21 : decode prog_25_method_11_code 21 = .ok (.aload_n 0, 1) := by decide +kernel
theorem d17_22 : decode prog_25_method_11_code 22 = .ok (.getfield 17, 3) := by decide +kernel
theorem d17_25 : decode prog_25_method_11_code 25 = .ok (.istore 5, 2) := by decide +kernel
theorem d17_27 : decode prog_25_method_11_code 27 = .ok (.iload 5, 2) := by decide +kernel
theorem d17_29 : decode prog_25_method_11_code 29 = .ok (.aload_n 0, 1) := by decide +kernel
theorem d17_30 : decode prog_25_method_11_code 30 = .ok (.getfield 46, 3) := by decide +kernel
theorem d17_33 : decode prog_25_method_11_code 33 = .ok (.if_icmp .le 26, 3) := by decide +kernel
theorem d17_36 : decode prog_25_method_11_code 36 = .ok (.aload_n 1, 1) := by decide +kernel
theorem d17_37 : decode prog_25_method_11_code 37 = .ok (.aload_n 0, 1) := by decide +kernel
theorem d17_38 : decode prog_25_method_11_code 38 = .ok (.iload 5, 2) := by decide +kernel
theorem d17_40 : decode prog_25_method_11_code 40 = .ok (.iconst 1, 1) := by decide +kernel
theorem d17_41 : decode prog_25_method_11_code 41 = .ok (.isub, 1) := by decide +kernel
theorem d17_42 : decode prog_25_method_11_code 42 = .ok (.invokevirtual 23, 3) := by decide +kernel
theorem d17_45 : decode prog_25_method_11_code 45 = .ok (.invokevirtual 40, 3) := by decide +kernel
theorem d17_48 : decode prog_25_method_11_code 48 = .ok (.lload_n 3, 1) := by decide +kernel
theorem d17_49 : decode prog_25_method_11_code 49 = .ok (.lcmp, 1) := by decide +kernel
theorem d17_5 : decode prog_25_method_11_code 5 = .ok (.lstore_n 3, 1) := by decide +kernel
theorem d17_50 : decode prog_25_method_11_code 50 = .ok (.ifCond .le 9, 3) := by decide +kernel
theorem d17_53 : decode prog_25_method_11_code 53 = .ok (.iinc 5 (-1), 3) := by decide +kernel
theorem d17_56 : decode prog_25_method_11_code 56 = .ok (.goto (-29), 3) := by decide +kernel
theorem d17_59 : decode prog_25_method_11_code 59 = .ok (.iconst 2, 1) := by decide +kernel
theorem d17_6 : decode prog_25_method_11_code 6 = .ok (.lload_n 3, 1) := by decide +kernel
theorem d17_60 : decode prog_25_method_11_code 60 = .ok (.aload_n 0, 1) := by decide +kernel
theorem d17_61 : decode prog_25_method_11_code 61 = .ok (.getfield 20, 3) := by decide +kernel
theorem d17_64 : decode prog_25_method_11_code 64 = .ok (.aload_n 0, 1) := by decide +kernel
theorem d17_65 : decode prog_25_method_11_code 65 = .ok (.getfield 17, 3) := by decide +kernel
theorem d17_68 : decode prog_25_method_11_code 68 = .ok (.iadd, 1) := by decide +kernel
theorem d17_69 : decode prog_25_method_11_code 69 = .ok (.imul, 1) := by decide +kernel
theorem d17_7 : decode prog_25_method_11_code 7 = .ok (.ldc2_w 44, 3) := by decide +kernel
theorem d17_70 : decode prog_25_method_11_code 70 = .ok (.aload_n 0, 1) := by decide +kernel
theorem d17_71 : decode prog_25_method_11_code 71 = .ok (.getfield 9, 3) := by decide +kernel
theorem d17_74 : decode prog_25_method_11_code 74 = .ok (.arraylength, 1) := by decide +kernel
theorem d17_75 : decode prog_25_method_11_code 75 = .ok (.if_icmp .ne 36, 3) := by decide +kernel
theorem d17_78 : decode prog_25_method_11_code 78 = .ok (.aload_n 0, 1) := by decide +kernel
theorem d17_79 : decode prog_25_method_11_code 79 = .ok (.getfield 9, 3) := by decide +kernel
theorem d17_82 : decode prog_25_method_11_code 82 = .ok (.arraylength, 1) := by decide +kernel
theorem d17_83 : decode prog_25_method_11_code 83 = .ok (.istore 6, 2) := by decide +kernel
theorem d17_85 : decode prog_25_method_11_code 85 = .ok (.aload_n 0, 1) := by decide +kernel
theorem d17_86 : decode prog_25_method_11_code 86 = .ok (.iconst 2, 1) := by decide +kernel
theorem d17_87 : decode prog_25_method_11_code 87 = .ok (.aload_n 0, 1) := by decide +kernel
theorem d17_88 : decode prog_25_method_11_code 88 = .ok (.getfield 17, 3) := by decide +kernel
theorem d17_91 : decode prog_25_method_11_code 91 = .ok (.imul, 1) := by decide +kernel
theorem d17_92 : decode prog_25_method_11_code 92 = .ok (.iload 6, 2) := by decide +kernel
theorem d17_94 : decode prog_25_method_11_code 94 = .ok (.iconst 2, 1) := by decide +kernel
theorem d17_95 : decode prog_25_method_11_code 95 = .ok (.idiv, 1) := by decide +kernel
theorem d17_96 : decode prog_25_method_11_code 96 = .ok (.if_icmp .ge 8, 3) := by decide +kernel
theorem d17_99 : decode prog_25_method_11_code 99 = .ok (.iload 6, 2) := by decide +kernel
theorem d18_0 : decode prog_51_method_15_code 0 = .ok (.aload_n 0, 1) := by decide +kernel
theorem d18_1 : decode prog_51_method_15_code 1 = .ok (.getfield 79, 3) := by decide +kernel
theorem d18_17 : decode prog_51_method_15_code 17 = .ok (.ireturn, 1) := by decide +kernel
theorem d18_4 : decode prog_51_method_15_code 4 = .ok (.ifnonnull 7, 3) := by decide +kernel
theorem d18_7 : decode prog_51_method_15_code 7 = .ok (.iconst 0, 1) := by decide +kernel
theorem d18_8 : decode prog_51_method_15_code 8 = .ok (.goto 9, 3) := by decide +kernel
theorem d19_0 : decode prog_25_method_13_code 0 = .ok (.aload_n 0, 1) := by decide +kernel
theorem d19_1 : decode prog_25_method_13_code 1 = .ok (.getfield 17, 3) := by decide +kernel
theorem d19_10 : decode prog_25_method_13_code 10 = .ok (.iconst 4, 1) := by decide +kernel
theorem d19_11 : decode prog_25_method_13_code 11 = .ok (.iadd, 1) := by decide +kernel
theorem d19_12 : decode prog_25_method_13_code 12 = .ok (.if_icmp .lt 8, 3) := by decide +kernel
theorem d19_20 : decode prog_25_method_13_code 20 = .ok (.return_, 1) := by decide +kernel
theorem d19_4 : decode prog_25_method_13_code 4 = .ok (.iconst 2, 1) := by decide +kernel
theorem d19_5 : decode prog_25_method_13_code 5 = .ok (.aload_n 0, 1) := by decide +kernel
theorem d19_6 : decode prog_25_method_13_code 6 = .ok (.getfield 13, 3) := by decide +kernel
theorem d19_9 : decode prog_25_method_13_code 9 = .ok (.imul, 1) := by decide +kernel
theorem d1_0 : decode prog_51_method_1_code 0 = .ok (.aload_n 0, 1) := by decide +kernel
theorem d1_1 : decode prog_51_method_1_code 1 = .ok (.invokespecial 3, 3) := by decide +kernel
theorem d1_10 : decode prog_51_method_1_code 10 = .ok (.putfield 11, 3) := by decide +kernel
theorem d1_13 : decode prog_51_method_1_code 13 = .ok (.aload_n 0, 1) := by decide +kernel
theorem d1_14 : decode prog_51_method_1_code 14 = .ok (.new 15, 3) := by decide +kernel
theorem d1_17 : decode prog_51_method_1_code 17 = .ok (.dup, 1) := by decide +kernel
theorem d1_18 : decode prog_51_method_1_code 18 = .ok (.invokespecial 17, 3) := by decide +kernel
theorem d1_21 : decode prog_51_method_1_code 21 = .ok (.putfield 18, 3) := by decide +kernel
theorem d1_24 : decode prog_51_method_1_code 24 = .ok (.aload_n 0, 1) := by decide +kernel
theorem d1_25 : decode prog_51_method_1_code 25 = .ok (.new 22, 3) := by decide +kernel
theorem d1_28 : decode prog_51_method_1_code 28 = .ok (.dup, 1) := by decide +kernel
theorem d1_29 : decode prog_51_method_1_code 29 = .ok (.aload_n 0, 1) := by decide +kernel
theorem d1_30 : decode prog_51_method_1_code 30 = .ok (.invokedynamic 24, 5) := by decide +kernel
theorem d1_35 : decode prog_51_method_1_code 35 = .ok (.invokespecial 28, 3) := by decide +kernel
theorem d1_38 : decode prog_51_method_1_code 38 = .ok (.putfield 31, 3) := by decide +kernel
theorem d1_4 : decode prog_51_method_1_code 4 = .ok (.aload_n 0, 1) := by decide +kernel
theorem d1_41 : decode prog_51_method_1_code 41 = .ok (.return_, 1) := by decide +kernel
theorem d1_5 : decode prog_51_method_1_code 5 = .ok (.sipush 192, 3) := by decide +kernel
theorem d1_8 : decode prog_51_method_1_code 8 = .ok (.newarray .int, 2) := by decide +kernel
theorem d20_0 : decode prog_25_method_4_code 0 = .ok (.aload_n 0, 1) := by decide +kernel
theorem d20_1 : decode prog_25_method_4_code 1 = .ok (.getfield 9, 3) := by decide +kernel
theorem d20_10 : decode prog_25_method_4_code 10 = .ok (.iadd, 1) := by decide +kernel
theorem d20_11 : decode prog_25_method_4_code 11 = .ok (.imul, 1) := by decide +kernel
theorem d20_12 : decode prog_25_method_4_code 12 = .ok (.iaload, 1) := by decide +kernel
theorem d20_13 : decode prog_25_method_4_code 13 = .ok (.ireturn, 1) := by decide +kernel
theorem d20_4 : decode prog_25_method_4_code 4 = .ok (.iconst 2, 1) := by decide +kernel
theorem d20_5 : decode prog_25_method_4_code 5 = .ok (.aload_n 0, 1) := by decide +kernel
theorem d20_6 : decode prog_25_method_4_code 6 = .ok (.getfield 20, 3) := by decide +kernel
theorem d20_9 : decode prog_25_method_4_code 9 = .ok (.iload_n 1, 1) := by decide +kernel
theorem d21_0 : decode prog_25_method_10_code 0 = .ok (.iconst 0, 1) := by decide +kernel
theorem d21_1 : decode prog_25_method_10_code 1 = .ok (.istore_n 2, 1) := by decide +kernel
theorem d21_10 : decode prog_25_method_10_code 10 = .ok (.getfield 17, 3) := by decide +kernel
theorem d21_100 : decode prog_25_method_10_code 100 = .ok (.goto (-93), 3) := by decide +kernel
theorem d21_103 : decode prog_25_method_10_code 103 = .ok (.aload_n 0, 1) := by decide +kernel
theorem d21_104 : decode prog_25_method_10_code 104 = .ok (.iload_n 2, 1) := by decide +kernel
theorem d21_105 : decode prog_25_method_10_code 105 = .ok (.putfield 17, 3) := by decide +kernel
theorem d21_108 : decode prog_25_method_10_code 108 = .ok (.aload_n 0, 1) := by decide +kernel
theorem d21_109 : decode prog_25_method_10_code 109 = .ok (.iload_n 3, 1) := by decide +kernel
theorem d21_110 : decode prog_25_method_10_code 110 = .ok (.putfield 46, 3) := by decide +kernel
theorem d21_113 : decode prog_25_method_10_code 113 = .ok (.return_, 1) := by decide +kernel
theorem d21_13 : decode prog_25_method_10_code 13 = .ok (.if_icmp .ge 90, 3) := by decide +kernel
theorem d21_16 : decode prog_25_method_10_code 16 = .ok (.iconst 2, 1) := by decide +kernel
theorem d21_17 : decode prog_25_method_10_code 17 = .ok (.aload_n 0, 1) := by decide +kernel
theorem d21_18 : decode prog_25_method_10_code 18 = .ok (.getfield 20, 3) := by decide +kernel
theorem d21_2 : decode prog_25_method_10_code 2 = .ok (.iconst 0, 1) := by decide +kernel
theorem d21_21 : decode prog_25_method_10_code 21 = .ok (.iload 4, 2) := by decide +kernel
theorem d21_23 : decode prog_25_method_10_code 23 = .ok (.iadd, 1) := by decide +kernel
theorem d21_24 : decode prog_25_method_10_code 24 = .ok (.imul, 1) := by decide +kernel
theorem d21_25 : decode prog_25_method_10_code 25 = .ok (.istore 5, 2) := by decide +kernel
theorem d21_27 : decode prog_25_method_10_code 27 = .ok (.aload_n 1, 1) := by decide +kernel
theorem d21_28 : decode prog_25_method_10_code 28 = .ok (.aload_n 0, 1) := by decide +kernel
theorem d21_29 : decode prog_25_method_10_code 29 = .ok (.getfield 9, 3) := by decide +kernel
theorem d21_3 : decode prog_25_method_10_code 3 = .ok (.istore_n 3, 1) := by decide +kernel
theorem d21_32 : decode prog_25_method_10_code 32 = .ok (.iload 5, 2) := by decide +kernel
theorem d21_34 : decode prog_25_method_10_code 34 = .ok (.iaload, 1) := by decide +kernel
theorem d21_35 : decode prog_25_method_10_code 35 = .ok (.iaload, 1) := by decide +kernel
theorem d21_36 : decode prog_25_method_10_code 36 = .ok (.istore 6, 2) := by decide +kernel
theorem d21_38 : decode prog_25_method_10_code 38 = .ok (.iload 6, 2) := by decide +kernel
theorem d21_4 : decode prog_25_method_10_code 4 = .ok (.iconst 0, 1) := by decide +kernel
theorem d21_40 : decode prog_25_method_10_code 40 = .ok (.ifCond .lt 57, 3) := by decide +kernel
theorem d21_43 : decode prog_25_method_10_code 43 = .ok (.aload_n 0, 1) := by decide +kernel
theorem d21_44 : decode prog_25_method_10_code 44 = .ok (.getfield 9, 3) := by decide +kernel
theorem d21_47 : decode prog_25_method_10_code 47 = .ok (.iconst 2, 1) := by decide +kernel
theorem d21_48 : decode prog_25_method_10_code 48 = .ok (.aload_n 0, 1) := by decide +kernel
theorem d21_49 : decode prog_25_method_10_code 49 = .ok (.getfield 20, 3) := by decide +kernel
theorem d21_5 : decode prog_25_method_10_code 5 = .ok (.istore 4, 2) := by decide +kernel
theorem d21_52 : decode prog_25_method_10_code 52 = .ok (.iload_n 2, 1) := by decide +kernel
theorem d21_53 : decode prog_25_method_10_code 53 = .ok (.iadd, 1) := by decide +kernel
theorem d21_54 : decode prog_25_method_10_code 54 = .ok (.imul, 1) := by decide +kernel
theorem d21_55 : decode prog_25_method_10_code 55 = .ok (.iload 6, 2) := by decide +kernel
theorem d21_57 : decode prog_25_method_10_code 57 = .ok (.iastore, 1) := by decide +kernel
theorem d21_58 : decode prog_25_method_10_code 58 = .ok (.aload_n 0, 1) := by decide +kernel
theorem d21_59 : decode prog_25_method_10_code 59 = .ok (.getfield 9, 3) := by decide +kernel
theorem d21_62 : decode prog_25_method_10_code 62 = .ok (.iconst 2, 1) := by decide +kernel
theorem d21_63 : decode prog_25_method_10_code 63 = .ok (.aload_n 0, 1) := by decide +kernel
theorem d21_64 : decode prog_25_method_10_code 64 = .ok (.getfield 20, 3) := by decide +kernel
theorem d21_67 : decode prog_25_method_10_code 67 = .ok (.iload_n 2, 1) := by decide +kernel
theorem d21_68 : decode prog_25_method_10_code 68 = .ok (.iadd, 1) := by decide +kernel
theorem d21_69 : decode prog_25_method_10_code 69 = .ok (.imul, 1) := by decide +kernel
theorem d21_7 : decode prog_25_method_10_code 7 = .ok (.iload 4, 2) := by decide +kernel
theorem d21_70 : decode prog_25_method_10_code 70 = .ok (.iconst 1, 1) := by decide +kernel
theorem d21_71 : decode prog_25_method_10_code 71 = .ok (.iadd, 1) := by decide +kernel
theorem d21_72 : decode prog_25_method_10_code 72 = .ok (.aload_n 0, 1) := by decide +kernel
theorem d21_73 : decode prog_25_method_10_code 73 = .ok (.getfield 9, 3) := by decide +kernel
theorem d21_76 : decode prog_25_method_10_code 76 = .ok (.iload 5, 2) := by decide +kernel
theorem d21_78 : decode prog_25_method_10_code 78 = .ok (.iconst 1, 1) := by decide +kernel
theorem d21_79 : decode prog_25_method_10_code 79 = .ok (.iadd, 1) := by decide +kernel
theorem d21_80 : decode prog_25_method_10_code 80 = .ok (.iaload, 1) := by decide +kernel
theorem d21_81 : decode prog_25_method_10_code 81 = .ok (.iastore, 1) := by decide +kernel
theorem d21_82 : decode prog_25_method_10_code 82 = .ok (.iinc 2 1, 3) := by decide +kernel
theorem d21_85 : decode prog_25_method_10_code 85 = .ok (.iload 4, 2) := by decide +kernel
theorem d21_87 : decode prog_25_method_10_code 87 = .ok (.aload_n 0, 1) := by decide +kernel
theorem d21_88 : decode prog_25_method_10_code 88 = .ok (.getfield 46, 3) := by decide +kernel
theorem d21_9 : decode prog_25_method_10_code 9 = .ok (.aload_n 0, 1) := by decide +kernel
theorem d21_91 : decode prog_25_method_10_code 91 = .ok (.if_icmp .ge 6, 3) := by decide +kernel
theorem d21_94 : decode prog_25_method_10_code 94 = .ok (.iinc 3 1, 3) := by decide +kernel
theorem d21_97 : decode prog_25_method_10_code 97 = .ok (.iinc 4 1, 3) := by decide +kernel
theorem d22_0 : decode prog_25_method_3_code 0 = .ok (.aload_n 0, 1) := by decide +kernel
theorem d22_1 : decode prog_25_method_3_code 1 = .ok (.getfield 17, 3) := by decide +kernel
theorem d22_4 : decode prog_25_method_3_code 4 = .ok (.ireturn, 1) := by decide +kernel
theorem d23_0 : decode prog_25_method_12_code 0 = .ok (.aload_n 0, 1) := by decide +kernel
theorem d23_1 : decode prog_25_method_12_code 1 = .ok (.getfield 20, 3) := by decide +kernel
theorem d23_102 : decode prog_25_method_12_code 102 = .ok (.aload_n 0, 1) := by decide +kernel
theorem d23_103 : decode prog_25_method_12_code 103 = .ok (.dup, 1) := by decide +kernel
theorem d23_104 : decode prog_25_method_12_code 104 = .ok (.getfield 46, 3) := by decide +kernel
theorem d23_107 : decode prog_25_method_12_code 107 = .ok (.iconst 1, 1) := by decide +kernel
theorem d23_108 : decode prog_25_method_12_code 108 = .ok (.iadd, 1) := by decide +kernel
theorem d23_109 : decode prog_25_method_12_code 109 = .ok (.putfield 46, 3) := by decide +kernel
theorem d23_112 : decode prog_25_method_12_code 112 = .ok (.return_, 1) := by decide +kernel
theorem d23_12 : decode prog_25_method_12_code 12 = .ok (.invokestatic 78, 3) := by decide +kernel
theorem d23_15 : decode prog_25_method_12_code 15 = .ok (.istore_n 3, 1) := by decide +kernel
theorem d23_16 : decode prog_25_method_12_code 16 = .ok (.aload_n 0, 1) := by decide +kernel
theorem d23_17 : decode prog_25_method_12_code 17 = .ok (.getfield 9, 3) := by decide +kernel
theorem d23_20 : decode prog_25_method_12_code 20 = .ok (.arraylength, 1) := by decide +kernel
theorem d23_21 : decode prog_25_method_12_code 21 = .ok (.istore 4, 2) := by decide +kernel
theorem d23_23 : decode prog_25_method_12_code 23 = .ok (.iload 4, 2) := by decide +kernel
theorem d23_25 : decode prog_25_method_12_code 25 = .ok (.iconst 2, 1) := by decide +kernel
theorem d23_26 : decode prog_25_method_12_code 26 = .ok (.iload_n 3, 1) := by decide +kernel
theorem d23_27 : decode prog_25_method_12_code 27 = .ok (.aload_n 0, 1) := by decide +kernel
theorem d23_28 : decode prog_25_method_12_code 28 = .ok (.getfield 17, 3) := by decide +kernel
theorem d23_31 : decode prog_25_method_12_code 31 = .ok (.iadd, 1) := by decide +kernel
theorem d23_32 : decode prog_25_method_12_code 32 = .ok (.imul, 1) := by decide +kernel
theorem d23_33 : decode prog_25_method_12_code 33 = .ok (.if_icmp .ge 12, 3) := by decide +kernel
theorem d23_36 : decode prog_25_method_12_code 36 = .ok (.iload 4, 2) := by decide +kernel
theorem d23_38 : decode prog_25_method_12_code 38 = .ok (.iconst 2, 1) := by decide +kernel
theorem d23_39 : decode prog_25_method_12_code 39 = .ok (.imul, 1) := by decide +kernel
theorem d23_4 : decode prog_25_method_12_code 4 = .ok (.ifCond .ne 48, 3) := by decide +kernel
theorem d23_40 : decode prog_25_method_12_code 40 = .ok (.istore 4, 2) := by decide +kernel
theorem d23_42 : decode prog_25_method_12_code 42 = .ok (.goto (-19), 3) := by decide +kernel
theorem d23_45 : decode prog_25_method_12_code 45 = .ok (.aload_n 0, 1) := by decide +kernel
theorem d23_46 : decode prog_25_method_12_code 46 = .ok (.iload 4, 2) := by decide +kernel
theorem d23_48 : decode prog_25_method_12_code 48 = .ok (.iload_n 3, 1) := by decide +kernel
theorem d23_49 : decode prog_25_method_12_code 49 = .ok (.invokevirtual 84, 3) := by decide +kernel
theorem d23_52 : decode prog_25_method_12_code 52 = .ok (.aload_n 0, 1) := by decide +kernel
theorem d23_53 : decode prog_25_method_12_code 53 = .ok (.dup, 1) := by decide +kernel
theorem d23_54 : decode prog_25_method_12_code 54 = .ok (.getfield 20, 3) := by decide +kernel
theorem d23_57 : decode prog_25_method_12_code 57 = .ok (.iconst 1, 1) := by decide +kernel
theorem d23_58 : decode prog_25_method_12_code 58 = .ok (.isub, 1) := by decide +kernel
theorem d23_59 : decode prog_25_method_12_code 59 = .ok (.putfield 20, 3) := by decide +kernel
theorem d23_62 : decode prog_25_method_12_code 62 = .ok (.aload_n 0, 1) := by decide +kernel
theorem d23_63 : decode prog_25_method_12_code 63 = .ok (.getfield 9, 3) := by decide +kernel
theorem d23_66 : decode prog_25_method_12_code 66 = .ok (.iconst 2, 1) := by decide +kernel
theorem d23_67 : decode prog_25_method_12_code 67 = .ok (.aload_n 0, 1) := by decide +kernel
theorem d23_68 : decode prog_25_method_12_code 68 = .ok (.getfield 20, 3) := by decide +kernel
theorem d23_7 : decode prog_25_method_12_code 7 = .ok (.iconst 4, 1) := by decide +kernel
theorem d23_71 : decode prog_25_method_12_code 71 = .ok (.imul, 1) := by decide +kernel
theorem d23_72 : decode prog_25_method_12_code 72 = .ok (.iload_n 2, 1) := by decide +kernel
theorem d23_73 : decode prog_25_method_12_code 73 = .ok (.iastore, 1) := by decide +kernel
theorem d23_74 : decode prog_25_method_12_code 74 = .ok (.aload_n 0, 1) := by decide +kernel
theorem d23_75 : decode prog_25_method_12_code 75 = .ok (.getfield 9, 3) := by decide +kernel
theorem d23_78 : decode prog_25_method_12_code 78 = .ok (.iconst 2, 1) := by decide +kernel
theorem d23_79 : decode prog_25_method_12_code 79 = .ok (.aload_n 0, 1) := by decide +kernel
theorem d23_8 : decode prog_25_method_12_code 8 = .ok (.aload_n 0, 1) := by decide +kernel
theorem d23_80 : decode prog_25_method_12_code 80 = .ok (.getfield 20, 3) := by decide +kernel
theorem d23_83 : decode prog_25_method_12_code 83 = .ok (.imul, 1) := by decide +kernel
theorem d23_84 : decode prog_25_method_12_code 84 = .ok (.iconst 1, 1) := by decide +kernel
theorem d23_85 : decode prog_25_method_12_code 85 = .ok (.iadd, 1) := by decide +kernel
theorem d23_86 : decode prog_25_method_12_code 86 = .ok (.aload_n 1, 1) := by decide +kernel
theorem d23_87 : decode prog_25_method_12_code 87 = .ok (.iload_n 2, 1) := by decide +kernel
theorem d23_88 : decode prog_25_method_12_code 88 = .ok (.invokevirtual 27, 3) := by decide +kernel
theorem d23_9 : decode prog_25_method_12_code 9 = .ok (.getfield 17, 3) := by decide +kernel
theorem d23_91 : decode prog_25_method_12_code 91 = .ok (.iastore, 1) := by decide +kernel
theorem d23_92 : decode prog_25_method_12_code 92 = .ok (.aload_n 0, 1) := by decide +kernel
theorem d23_93 : decode prog_25_method_12_code 93 = .ok (.dup, 1) := by decide +kernel
theorem d23_94 : decode prog_25_method_12_code 94 = .ok (.getfield 17, 3) := by decide +kernel
theorem d23_97 : decode prog_25_method_12_code 97 = .ok (.iconst 1, 1) := by decide +kernel
theorem d23_98 : decode prog_25_method_12_code 98 = .ok (.iadd, 1) := by decide +kernel
theorem d23_99 : decode prog_25_method_12_code 99 = .ok (.putfield 17, 3) := by decide +kernel
theorem d24_0 : decode jdk_29_method_65_code 0 = .ok (.iload_n 0, 1) := by decide +kernel
theorem d24_1 : decode jdk_29_method_65_code 1 = .ok (.iload_n 1, 1) := by decide +kernel
theorem d24_10 : decode jdk_29_method_65_code 10 = .ok (.ireturn, 1) := by decide +kernel
theorem d24_2 : decode jdk_29_method_65_code 2 = .ok (.if_icmp .lt 7, 3) := by decide +kernel
theorem d24_5 : decode jdk_29_method_65_code 5 = .ok (.iload_n 0, 1) := by decide +kernel
theorem d24_6 : decode jdk_29_method_65_code 6 = .ok (.goto 4, 3) := by decide +kernel
theorem d24_9 : decode jdk_29_method_65_code 9 = .ok (.iload_n 1, 1) := by decide +kernel
theorem d25_0 : decode prog_25_method_16_code 0 = .ok (.iload_n 1, 1) := by decide +kernel
theorem d25_1 : decode prog_25_method_16_code 1 = .ok (.aload_n 0, 1) := by decide +kernel
theorem d25_10 : decode prog_25_method_16_code 10 = .ok (.getfield 9, 3) := by decide +kernel
theorem d25_13 : decode prog_25_method_16_code 13 = .ok (.goto 6, 3) := by decide +kernel
theorem d25_16 : decode prog_25_method_16_code 16 = .ok (.iload_n 1, 1) := by decide +kernel
theorem d25_17 : decode prog_25_method_16_code 17 = .ok (.newarray .int, 2) := by decide +kernel
theorem d25_19 : decode prog_25_method_16_code 19 = .ok (.astore_n 3, 1) := by decide +kernel
theorem d25_2 : decode prog_25_method_16_code 2 = .ok (.getfield 9, 3) := by decide +kernel
theorem d25_20 : decode prog_25_method_16_code 20 = .ok (.aload_n 0, 1) := by decide +kernel
theorem d25_21 : decode prog_25_method_16_code 21 = .ok (.getfield 9, 3) := by decide +kernel
theorem d25_24 : decode prog_25_method_16_code 24 = .ok (.iconst 2, 1) := by decide +kernel
theorem d25_25 : decode prog_25_method_16_code 25 = .ok (.aload_n 0, 1) := by decide +kernel
theorem d25_26 : decode prog_25_method_16_code 26 = .ok (.getfield 20, 3) := by decide +kernel
theorem d25_29 : decode prog_25_method_16_code 29 = .ok (.imul, 1) := by decide +kernel
theorem d25_30 : decode prog_25_method_16_code 30 = .ok (.aload_n 3, 1) := by decide +kernel
theorem d25_31 : decode prog_25_method_16_code 31 = .ok (.iconst 2, 1) := by decide +kernel
theorem d25_32 : decode prog_25_method_16_code 32 = .ok (.iload_n 2, 1) := by decide +kernel
theorem d25_33 : decode prog_25_method_16_code 33 = .ok (.imul, 1) := by decide +kernel
theorem d25_34 : decode prog_25_method_16_code 34 = .ok (.iconst 2, 1) := by decide +kernel
theorem d25_35 : decode prog_25_method_16_code 35 = .ok (.aload_n 0, 1) := by decide +kernel
theorem d25_36 : decode prog_25_method_16_code 36 = .ok (.getfield 17, 3) := by decide +kernel
theorem d25_39 : decode prog_25_method_16_code 39 = .ok (.imul, 1) := by decide +kernel
theorem d25_40 : decode prog_25_method_16_code 40 = .ok (.invokestatic 72, 3) := by decide +kernel
theorem d25_43 : decode prog_25_method_16_code 43 = .ok (.aload_n 0, 1) := by decide +kernel
theorem d25_44 : decode prog_25_method_16_code 44 = .ok (.aload_n 3, 1) := by decide +kernel
theorem d25_45 : decode prog_25_method_16_code 45 = .ok (.putfield 9, 3) := by decide +kernel
theorem d25_48 : decode prog_25_method_16_code 48 = .ok (.aload_n 0, 1) := by decide +kernel
theorem d25_49 : decode prog_25_method_16_code 49 = .ok (.iload_n 2, 1) := by decide +kernel
theorem d25_5 : decode prog_25_method_16_code 5 = .ok (.arraylength, 1) := by decide +kernel
theorem d25_50 : decode prog_25_method_16_code 50 = .ok (.putfield 20, 3) := by decide +kernel
theorem d25_53 : decode prog_25_method_16_code 53 = .ok (.return_, 1) := by decide +kernel
theorem d25_6 : decode prog_25_method_16_code 6 = .ok (.if_icmp .ne 10, 3) := by decide +kernel
theorem d25_9 : decode prog_25_method_16_code 9 = .ok (.aload_n 0, 1) := by decide +kernel
theorem d26_0 : decode prog_25_method_15_code 0 = .ok (.aload_n 0, 1) := by decide +kernel
theorem d26_1 : decode prog_25_method_15_code 1 = .ok (.iload_n 1, 1) := by decide +kernel
theorem d26_2 : decode prog_25_method_15_code 2 = .ok (.iconst 0, 1) := by decide +kernel
theorem d26_3 : decode prog_25_method_15_code 3 = .ok (.invokevirtual 84, 3) := by decide +kernel
theorem d26_6 : decode prog_25_method_15_code 6 = .ok (.return_, 1) := by decide +kernel
theorem d3_0 : decode prog_42_method_1_code 0 = .ok (.aload_n 0, 1) := by decide +kernel
theorem d3_1 : decode prog_42_method_1_code 1 = .ok (.invokespecial 1, 3) := by decide +kernel
theorem d3_12 : decode prog_42_method_1_code 12 = .ok (.putfield 10, 3) := by decide +kernel
theorem d3_15 : decode prog_42_method_1_code 15 = .ok (.return_, 1) := by decide +kernel
theorem d3_4 : decode prog_42_method_1_code 4 = .ok (.aload_n 0, 1) := by decide +kernel
theorem d3_5 : decode prog_42_method_1_code 5 = .ok (.new 7, 3) := by decide +kernel
theorem d3_8 : decode prog_42_method_1_code 8 = .ok (.dup, 1) := by decide +kernel
theorem d3_9 : decode prog_42_method_1_code 9 = .ok (.invokespecial 9, 3) := by decide +kernel
theorem d4_0 : decode prog_28_method_1_code 0 = .ok (.aload_n 0, 1) := by decide +kernel
theorem d4_1 : decode prog_28_method_1_code 1 = .ok (.invokespecial 1, 3) := by decide +kernel
theorem d4_11 : decode prog_28_method_1_code 11 = .ok (.return_, 1) := by decide +kernel
theorem d4_4 : decode prog_28_method_1_code 4 = .ok (.aload_n 0, 1) := by decide +kernel
theorem d4_5 : decode prog_28_method_1_code 5 = .ok (.iconst 4, 1) := by decide +kernel
theorem d4_6 : decode prog_28_method_1_code 6 = .ok (.newarray .int, 2) := by decide +kernel
theorem d4_8 : decode prog_28_method_1_code 8 = .ok (.putfield 9, 3) := by decide +kernel
theorem d5_0 : decode prog_44_method_1_code 0 = .ok (.aload_n 0, 1) := by decide +kernel
theorem d5_1 : decode prog_44_method_1_code 1 = .ok (.invokespecial 3, 3) := by decide +kernel
theorem d5_12 : decode prog_44_method_1_code 12 = .ok (.putfield 12, 3) := by decide +kernel
theorem d5_15 : decode prog_44_method_1_code 15 = .ok (.aload_n 0, 1) := by decide +kernel
theorem d5_16 : decode prog_44_method_1_code 16 = .ok (.getstatic 16, 3) := by decide +kernel
theorem d5_19 : decode prog_44_method_1_code 19 = .ok (.putfield 20, 3) := by decide +kernel
theorem d5_22 : decode prog_44_method_1_code 22 = .ok (.aload_n 0, 1) := by decide +kernel
theorem d5_23 : decode prog_44_method_1_code 23 = .ok (.aload_n 1, 1) := by decide +kernel
theorem d5_24 : decode prog_44_method_1_code 24 = .ok (.putfield 23, 3) := by decide +kernel
theorem d5_27 : decode prog_44_method_1_code 27 = .ok (.return_, 1) := by decide +kernel
theorem d5_4 : decode prog_44_method_1_code 4 = .ok (.aload_n 0, 1) := by decide +kernel
theorem d5_5 : decode prog_44_method_1_code 5 = .ok (.new 9, 3) := by decide +kernel
theorem d5_8 : decode prog_44_method_1_code 8 = .ok (.dup, 1) := by decide +kernel
theorem d5_9 : decode prog_44_method_1_code 9 = .ok (.invokespecial 11, 3) := by decide +kernel
theorem d6_0 : decode prog_27_method_1_code 0 = .ok (.aload_n 0, 1) := by decide +kernel
theorem d6_1 : decode prog_27_method_1_code 1 = .ok (.iconst 1, 1) := by decide +kernel
theorem d6_2 : decode prog_27_method_1_code 2 = .ok (.invokespecial 1, 3) := by decide +kernel
theorem d6_5 : decode prog_27_method_1_code 5 = .ok (.return_, 1) := by decide +kernel
theorem d7_0 : decode prog_27_method_2_code 0 = .ok (.aload_n 0, 1) := by decide +kernel
theorem d7_1 : decode prog_27_method_2_code 1 = .ok (.invokespecial 7, 3) := by decide +kernel
theorem d7_10 : decode prog_27_method_2_code 10 = .ok (.iload_n 1, 1) := by decide +kernel
theorem d7_11 : decode prog_27_method_2_code 11 = .ok (.iconst 1, 1) := by decide +kernel
theorem d7_12 : decode prog_27_method_2_code 12 = .ok (.iadd, 1) := by decide +kernel
theorem d7_13 : decode prog_27_method_2_code 13 = .ok (.putfield 16, 3) := by decide +kernel
theorem d7_16 : decode prog_27_method_2_code 16 = .ok (.aload_n 0, 1) := by decide +kernel
theorem d7_17 : decode prog_27_method_2_code 17 = .ok (.bipush 8, 2) := by decide +kernel
theorem d7_19 : decode prog_27_method_2_code 19 = .ok (.iconst 0, 1) := by decide +kernel
theorem d7_20 : decode prog_27_method_2_code 20 = .ok (.invokevirtual 19, 3) := by decide +kernel
theorem d7_23 : decode prog_27_method_2_code 23 = .ok (.return_, 1) := by decide +kernel
theorem d7_4 : decode prog_27_method_2_code 4 = .ok (.aload_n 0, 1) := by decide +kernel
theorem d7_5 : decode prog_27_method_2_code 5 = .ok (.iload_n 1, 1) := by decide +kernel
theorem d7_6 : decode prog_27_method_2_code 6 = .ok (.putfield 12, 3) := by decide +kernel
theorem d7_9 : decode prog_27_method_2_code 9 = .ok (.aload_n 0, 1) := by decide +kernel
theorem d8_0 : decode prog_27_method_22_code 0 = .ok (.aload_n 0, 1) := by decide +kernel
theorem d8_1 : decode prog_27_method_22_code 1 = .ok (.aload_n 0, 1) := by decide +kernel
theorem d8_12 : decode prog_27_method_22_code 12 = .ok (.aload_n 0, 1) := by decide +kernel
theorem d8_13 : decode prog_27_method_22_code 13 = .ok (.iload_n 1, 1) := by decide +kernel
theorem d8_14 : decode prog_27_method_22_code 14 = .ok (.putfield 68, 3) := by decide +kernel
theorem d8_17 : decode prog_27_method_22_code 17 = .ok (.aload_n 0, 1) := by decide +kernel
theorem d8_18 : decode prog_27_method_22_code 18 = .ok (.iload_n 2, 1) := by decide +kernel
theorem d8_19 : decode prog_27_method_22_code 19 = .ok (.ifCond .eq 10, 3) := by decide +kernel
theorem d8_2 : decode prog_27_method_22_code 2 = .ok (.getfield 16, 3) := by decide +kernel
theorem d8_29 : decode prog_27_method_22_code 29 = .ok (.aconst_null, 1) := by decide +kernel
theorem d8_30 : decode prog_27_method_22_code 30 = .ok (.putfield 80, 3) := by decide +kernel
theorem d8_33 : decode prog_27_method_22_code 33 = .ok (.aload_n 0, 1) := by decide +kernel
theorem d8_34 : decode prog_27_method_22_code 34 = .ok (.iconst 0, 1) := by decide +kernel
theorem d8_35 : decode prog_27_method_22_code 35 = .ok (.putfield 54, 3) := by decide +kernel
theorem d8_38 : decode prog_27_method_22_code 38 = .ok (.return_, 1) := by decide +kernel
theorem d8_5 : decode prog_27_method_22_code 5 = .ok (.iload_n 1, 1) := by decide +kernel
theorem d8_6 : decode prog_27_method_22_code 6 = .ok (.imul, 1) := by decide +kernel
theorem d8_7 : decode prog_27_method_22_code 7 = .ok (.newarray .int, 2) := by decide +kernel
theorem d8_9 : decode prog_27_method_22_code 9 = .ok (.putfield 30, 3) := by decide +kernel
theorem d9_0 : decode prog_51_method_9_code 0 = .ok (.aload_n 0, 1) := by decide +kernel
theorem d9_1 : decode prog_51_method_9_code 1 = .ok (.iload_n 1, 1) := by decide +kernel
theorem d9_11 : decode prog_51_method_9_code 11 = .ok (.return_, 1) := by decide +kernel
theorem d9_2 : decode prog_51_method_9_code 2 = .ok (.invokevirtual 53, 3) := by decide +kernel
theorem d9_5 : decode prog_51_method_9_code 5 = .ok (.aload_n 0, 1) := by decide +kernel
theorem d9_6 : decode prog_51_method_9_code 6 = .ok (.iload_n 1, 1) := by decide +kernel
theorem d9_7 : decode prog_51_method_9_code 7 = .ok (.lload_n 2, 1) := by decide +kernel
theorem d9_8 : decode prog_51_method_9_code 8 = .ok (.invokevirtual 57, 3) := by decide +kernel
/-- an object of class com/example/weir/weir/engine/IntList, and what its fields hold -/
def IsIL (Z : State) (h : Heap) (a : Addr) (v_values : Value) : Prop := Exa Z h a "com/example/weir/weir/engine/IntList" ∧ Fld Z h a "com/example/weir/weir/engine/IntList" "values" "[I" v_values
theorem IsIL.exa {Z : State} {h : Heap} {a : Addr} {v_values : Value} (O : IsIL Z h a v_values) : Exa Z h a "com/example/weir/weir/engine/IntList" := O.1
theorem IsIL.lt {Z : State} {h : Heap} {a : Addr} {v_values : Value} (O : IsIL Z h a v_values) : a < h.size := (IsIL.exa O).lt
theorem IsIL.f_values {Z : State} {h : Heap} {a : Addr} {v_values : Value} (O : IsIL Z h a v_values) : Fld Z h a "com/example/weir/weir/engine/IntList" "values" "[I" v_values := O.2
theorem IsIL.ext {Z : State} {h h' : Heap} {a : Addr} {v_values : Value} (E : Ext h h') (O : IsIL Z h a v_values) : IsIL Z h' a v_values := ⟨(O.1).ext E, (O.2).ext E⟩
theorem IsIL.keep {Z : State} {h h' : Heap} {a : Addr} {v_values : Value} {ws : List Addr} (K : Keep h h' ws) (O : IsIL Z h a v_values) (q : a ∉ ws) : IsIL Z h' a v_values := ⟨(O.1).keep K, (O.2).keep K q⟩
theorem IsIL.other {Z : State} {h h' : Heap} {a b : Addr} {v_values : Value} {sl : Nat} {v : Value} (W : Wr h h' b sl v) (O : IsIL Z h a v_values) (q : a ≠ b) : IsIL Z h' a v_values := ⟨(O.1).wr W, (O.2).other W (Or.inl q)⟩
theorem IsIL.s_values {Z : State} {h h' : Heap} {a : Addr} {v_values : Value} {v : Value} {a0 : Array Value} (hw : ∀ d ∈ tables_1, d.before a0 Z = true) (W : Wr h h' a (RoadKit.slotOf Z "com/example/weir/weir/engine/IntList" "values" "[I") v) (O : IsIL Z h a v_values) : IsIL Z h' a v := ⟨(O.1).wr W, (O.2).same W⟩
/-- an object of class com/example/weir/weir/engine/Numbers, and what its fields hold -/
def IsNu (Z : State) (h : Heap) (a : Addr) (v_free : Value) : Prop := Exa Z h a "com/example/weir/weir/engine/Numbers" ∧ Fld Z h a "com/example/weir/weir/engine/Numbers" "free" "Lcom/example/weir/weir/engine/IntList;" v_free
theorem IsNu.exa {Z : State} {h : Heap} {a : Addr} {v_free : Value} (O : IsNu Z h a v_free) : Exa Z h a "com/example/weir/weir/engine/Numbers" := O.1
theorem IsNu.lt {Z : State} {h : Heap} {a : Addr} {v_free : Value} (O : IsNu Z h a v_free) : a < h.size := (IsNu.exa O).lt
theorem IsNu.f_free {Z : State} {h : Heap} {a : Addr} {v_free : Value} (O : IsNu Z h a v_free) : Fld Z h a "com/example/weir/weir/engine/Numbers" "free" "Lcom/example/weir/weir/engine/IntList;" v_free := O.2
theorem IsNu.ext {Z : State} {h h' : Heap} {a : Addr} {v_free : Value} (E : Ext h h') (O : IsNu Z h a v_free) : IsNu Z h' a v_free := ⟨(O.1).ext E, (O.2).ext E⟩
theorem IsNu.keep {Z : State} {h h' : Heap} {a : Addr} {v_free : Value} {ws : List Addr} (K : Keep h h' ws) (O : IsNu Z h a v_free) (q : a ∉ ws) : IsNu Z h' a v_free := ⟨(O.1).keep K, (O.2).keep K q⟩
theorem IsNu.other {Z : State} {h h' : Heap} {a b : Addr} {v_free : Value} {sl : Nat} {v : Value} (W : Wr h h' b sl v) (O : IsNu Z h a v_free) (q : a ≠ b) : IsNu Z h' a v_free := ⟨(O.1).wr W, (O.2).other W (Or.inl q)⟩
theorem IsNu.s_free {Z : State} {h h' : Heap} {a : Addr} {v_free : Value} {v : Value} {a0 : Array Value} (hw : ∀ d ∈ tables_1, d.before a0 Z = true) (W : Wr h h' a (RoadKit.slotOf Z "com/example/weir/weir/engine/Numbers" "free" "Lcom/example/weir/weir/engine/IntList;") v) (O : IsNu Z h a v_free) : IsNu Z h' a v := ⟨(O.1).wr W, (O.2).same W⟩
/-- an object of class com/example/weir/weir/engine/IntIntMap, and what its fields hold -/
def IsMap (Z : State) (h : Heap) (a : Addr) (v_width v_stride v_entries v_slots v_objects v_greatestKey : Value) : Prop := Exa Z h a "com/example/weir/weir/engine/IntIntMap" ∧ Fld Z h a "com/example/weir/weir/engine/IntIntMap" "width" "I" v_width ∧ Fld Z h a "com/example/weir/weir/engine/IntIntMap" "stride" "I" v_stride ∧ Fld Z h a "com/example/weir/weir/engine/IntIntMap" "entries" "[I" v_entries ∧ Fld Z h a "com/example/weir/weir/engine/IntIntMap" "slots" "I" v_slots ∧ Fld Z h a "com/example/weir/weir/engine/IntIntMap" "objects" "[Ljava/lang/Object;" v_objects ∧ Fld Z h a "com/example/weir/weir/engine/IntIntMap" "greatestKey" "I" v_greatestKey
theorem IsMap.exa {Z : State} {h : Heap} {a : Addr} {v_width v_stride v_entries v_slots v_objects v_greatestKey : Value} (O : IsMap Z h a v_width v_stride v_entries v_slots v_objects v_greatestKey) : Exa Z h a "com/example/weir/weir/engine/IntIntMap" := O.1
theorem IsMap.lt {Z : State} {h : Heap} {a : Addr} {v_width v_stride v_entries v_slots v_objects v_greatestKey : Value} (O : IsMap Z h a v_width v_stride v_entries v_slots v_objects v_greatestKey) : a < h.size := (IsMap.exa O).lt
theorem IsMap.f_width {Z : State} {h : Heap} {a : Addr} {v_width v_stride v_entries v_slots v_objects v_greatestKey : Value} (O : IsMap Z h a v_width v_stride v_entries v_slots v_objects v_greatestKey) : Fld Z h a "com/example/weir/weir/engine/IntIntMap" "width" "I" v_width := O.2.1
theorem IsMap.f_stride {Z : State} {h : Heap} {a : Addr} {v_width v_stride v_entries v_slots v_objects v_greatestKey : Value} (O : IsMap Z h a v_width v_stride v_entries v_slots v_objects v_greatestKey) : Fld Z h a "com/example/weir/weir/engine/IntIntMap" "stride" "I" v_stride := O.2.2.1
theorem IsMap.f_entries {Z : State} {h : Heap} {a : Addr} {v_width v_stride v_entries v_slots v_objects v_greatestKey : Value} (O : IsMap Z h a v_width v_stride v_entries v_slots v_objects v_greatestKey) : Fld Z h a "com/example/weir/weir/engine/IntIntMap" "entries" "[I" v_entries := O.2.2.2.1
theorem IsMap.f_slots {Z : State} {h : Heap} {a : Addr} {v_width v_stride v_entries v_slots v_objects v_greatestKey : Value} (O : IsMap Z h a v_width v_stride v_entries v_slots v_objects v_greatestKey) : Fld Z h a "com/example/weir/weir/engine/IntIntMap" "slots" "I" v_slots := O.2.2.2.2.1
theorem IsMap.f_objects {Z : State} {h : Heap} {a : Addr} {v_width v_stride v_entries v_slots v_objects v_greatestKey : Value} (O : IsMap Z h a v_width v_stride v_entries v_slots v_objects v_greatestKey) : Fld Z h a "com/example/weir/weir/engine/IntIntMap" "objects" "[Ljava/lang/Object;" v_objects := O.2.2.2.2.2.1
theorem IsMap.f_greatestKey {Z : State} {h : Heap} {a : Addr} {v_width v_stride v_entries v_slots v_objects v_greatestKey : Value} (O : IsMap Z h a v_width v_stride v_entries v_slots v_objects v_greatestKey) : Fld Z h a "com/example/weir/weir/engine/IntIntMap" "greatestKey" "I" v_greatestKey := O.2.2.2.2.2.2
theorem IsMap.ext {Z : State} {h h' : Heap} {a : Addr} {v_width v_stride v_entries v_slots v_objects v_greatestKey : Value} (E : Ext h h') (O : IsMap Z h a v_width v_stride v_entries v_slots v_objects v_greatestKey) : IsMap Z h' a v_width v_stride v_entries v_slots v_objects v_greatestKey := ⟨(O.1).ext E, (O.2.1).ext E, (O.2.2.1).ext E, (O.2.2.2.1).ext E, (O.2.2.2.2.1).ext E, (O.2.2.2.2.2.1).ext E, (O.2.2.2.2.2.2).ext E⟩
theorem IsMap.keep {Z : State} {h h' : Heap} {a : Addr} {v_width v_stride v_entries v_slots v_objects v_greatestKey : Value} {ws : List Addr} (K : Keep h h' ws) (O : IsMap Z h a v_width v_stride v_entries v_slots v_objects v_greatestKey) (q : a ∉ ws) : IsMap Z h' a v_width v_stride v_entries v_slots v_objects v_greatestKey := ⟨(O.1).keep K, (O.2.1).keep K q, (O.2.2.1).keep K q, (O.2.2.2.1).keep K q, (O.2.2.2.2.1).keep K q, (O.2.2.2.2.2.1).keep K q, (O.2.2.2.2.2.2).keep K q⟩
theorem IsMap.other {Z : State} {h h' : Heap} {a b : Addr} {v_width v_stride v_entries v_slots v_objects v_greatestKey : Value} {sl : Nat} {v : Value} (W : Wr h h' b sl v) (O : IsMap Z h a v_width v_stride v_entries v_slots v_objects v_greatestKey) (q : a ≠ b) : IsMap Z h' a v_width v_stride v_entries v_slots v_objects v_greatestKey := ⟨(O.1).wr W, (O.2.1).other W (Or.inl q), (O.2.2.1).other W (Or.inl q), (O.2.2.2.1).other W (Or.inl q), (O.2.2.2.2.1).other W (Or.inl q), (O.2.2.2.2.2.1).other W (Or.inl q), (O.2.2.2.2.2.2).other W (Or.inl q)⟩
theorem IsMap.s_width {Z : State} {h h' : Heap} {a : Addr} {v_width v_stride v_entries v_slots v_objects v_greatestKey : Value} {v : Value} {a0 : Array Value} (hw : ∀ d ∈ tables_1, d.before a0 Z = true) (W : Wr h h' a (RoadKit.slotOf Z "com/example/weir/weir/engine/IntIntMap" "width" "I") v) (O : IsMap Z h a v_width v_stride v_entries v_slots v_objects v_greatestKey) : IsMap Z h' a v v_stride v_entries v_slots v_objects v_greatestKey := ⟨(O.1).wr W, (O.2.1).same W, (O.2.2.1).other W (Or.inr (slot_ne (a0 := a0) (C := "com/example/weir/weir/engine/IntIntMap") (Or.inr (w_57 hw)) (Or.inr (w_55 hw)) (by decide) (t := .int) (t' := .int) (by decide) (by decide))), (O.2.2.2.1).other W (Or.inr (slot_ne (a0 := a0) (C := "com/example/weir/weir/engine/IntIntMap") (Or.inl (w_63 hw)) (Or.inr (w_55 hw)) (by decide) (t := (.array .int)) (t' := .int) (by decide) (by decide))), (O.2.2.2.2.1).other W (Or.inr (slot_ne (a0 := a0) (C := "com/example/weir/weir/engine/IntIntMap") (Or.inl (w_65 hw)) (Or.inr (w_55 hw)) (by decide) (t := .int) (t' := .int) (by decide) (by decide))), (O.2.2.2.2.2.1).other W (Or.inr (slot_ne (a0 := a0) (C := "com/example/weir/weir/engine/IntIntMap") (Or.inl (w_67 hw)) (Or.inr (w_55 hw)) (by decide) (t := (.array (.object "java/lang/Object"))) (t' := .int) (by decide) (by decide))), (O.2.2.2.2.2.2).other W (Or.inr (slot_ne (a0 := a0) (C := "com/example/weir/weir/engine/IntIntMap") (Or.inl (w_69 hw)) (Or.inr (w_55 hw)) (by decide) (t := .int) (t' := .int) (by decide) (by decide)))⟩
theorem IsMap.s_stride {Z : State} {h h' : Heap} {a : Addr} {v_width v_stride v_entries v_slots v_objects v_greatestKey : Value} {v : Value} {a0 : Array Value} (hw : ∀ d ∈ tables_1, d.before a0 Z = true) (W : Wr h h' a (RoadKit.slotOf Z "com/example/weir/weir/engine/IntIntMap" "stride" "I") v) (O : IsMap Z h a v_width v_stride v_entries v_slots v_objects v_greatestKey) : IsMap Z h' a v_width v v_entries v_slots v_objects v_greatestKey := ⟨(O.1).wr W, (O.2.1).other W (Or.inr (slot_ne (a0 := a0) (C := "com/example/weir/weir/engine/IntIntMap") (Or.inr (w_55 hw)) (Or.inr (w_57 hw)) (by decide) (t := .int) (t' := .int) (by decide) (by decide))), (O.2.2.1).same W, (O.2.2.2.1).other W (Or.inr (slot_ne (a0 := a0) (C := "com/example/weir/weir/engine/IntIntMap") (Or.inl (w_63 hw)) (Or.inr (w_57 hw)) (by decide) (t := (.array .int)) (t' := .int) (by decide) (by decide))), (O.2.2.2.2.1).other W (Or.inr (slot_ne (a0 := a0) (C := "com/example/weir/weir/engine/IntIntMap") (Or.inl (w_65 hw)) (Or.inr (w_57 hw)) (by decide) (t := .int) (t' := .int) (by decide) (by decide))), (O.2.2.2.2.2.1).other W (Or.inr (slot_ne (a0 := a0) (C := "com/example/weir/weir/engine/IntIntMap") (Or.inl (w_67 hw)) (Or.inr (w_57 hw)) (by decide) (t := (.array (.object "java/lang/Object"))) (t' := .int) (by decide) (by decide))), (O.2.2.2.2.2.2).other W (Or.inr (slot_ne (a0 := a0) (C := "com/example/weir/weir/engine/IntIntMap") (Or.inl (w_69 hw)) (Or.inr (w_57 hw)) (by decide) (t := .int) (t' := .int) (by decide) (by decide)))⟩
theorem IsMap.s_entries {Z : State} {h h' : Heap} {a : Addr} {v_width v_stride v_entries v_slots v_objects v_greatestKey : Value} {v : Value} {a0 : Array Value} (hw : ∀ d ∈ tables_1, d.before a0 Z = true) (W : Wr h h' a (RoadKit.slotOf Z "com/example/weir/weir/engine/IntIntMap" "entries" "[I") v) (O : IsMap Z h a v_width v_stride v_entries v_slots v_objects v_greatestKey) : IsMap Z h' a v_width v_stride v v_slots v_objects v_greatestKey := ⟨(O.1).wr W, (O.2.1).other W (Or.inr (slot_ne (a0 := a0) (C := "com/example/weir/weir/engine/IntIntMap") (Or.inr (w_55 hw)) (Or.inl (w_63 hw)) (by decide) (t := .int) (t' := (.array .int)) (by decide) (by decide))), (O.2.2.1).other W (Or.inr (slot_ne (a0 := a0) (C := "com/example/weir/weir/engine/IntIntMap") (Or.inr (w_57 hw)) (Or.inl (w_63 hw)) (by decide) (t := .int) (t' := (.array .int)) (by decide) (by decide))), (O.2.2.2.1).same W, (O.2.2.2.2.1).other W (Or.inr (slot_ne (a0 := a0) (C := "com/example/weir/weir/engine/IntIntMap") (Or.inl (w_65 hw)) (Or.inl (w_63 hw)) (by decide) (t := .int) (t' := (.array .int)) (by decide) (by decide))), (O.2.2.2.2.2.1).other W (Or.inr (slot_ne (a0 := a0) (C := "com/example/weir/weir/engine/IntIntMap") (Or.inl (w_67 hw)) (Or.inl (w_63 hw)) (by decide) (t := (.array (.object "java/lang/Object"))) (t' := (.array .int)) (by decide) (by decide))), (O.2.2.2.2.2.2).other W (Or.inr (slot_ne (a0 := a0) (C := "com/example/weir/weir/engine/IntIntMap") (Or.inl (w_69 hw)) (Or.inl (w_63 hw)) (by decide) (t := .int) (t' := (.array .int)) (by decide) (by decide)))⟩
theorem IsMap.s_slots {Z : State} {h h' : Heap} {a : Addr} {v_width v_stride v_entries v_slots v_objects v_greatestKey : Value} {v : Value} {a0 : Array Value} (hw : ∀ d ∈ tables_1, d.before a0 Z = true) (W : Wr h h' a (RoadKit.slotOf Z "com/example/weir/weir/engine/IntIntMap" "slots" "I") v) (O : IsMap Z h a v_width v_stride v_entries v_slots v_objects v_greatestKey) : IsMap Z h' a v_width v_stride v_entries v v_objects v_greatestKey := ⟨(O.1).wr W, (O.2.1).other W (Or.inr (slot_ne (a0 := a0) (C := "com/example/weir/weir/engine/IntIntMap") (Or.inr (w_55 hw)) (Or.inl (w_65 hw)) (by decide) (t := .int) (t' := .int) (by decide) (by decide))), (O.2.2.1).other W (Or.inr (slot_ne (a0 := a0) (C := "com/example/weir/weir/engine/IntIntMap") (Or.inr (w_57 hw)) (Or.inl (w_65 hw)) (by decide) (t := .int) (t' := .int) (by decide) (by decide))), (O.2.2.2.1).other W (Or.inr (slot_ne (a0 := a0) (C := "com/example/weir/weir/engine/IntIntMap") (Or.inl (w_63 hw)) (Or.inl (w_65 hw)) (by decide) (t := (.array .int)) (t' := .int) (by decide) (by decide))), (O.2.2.2.2.1).same W, (O.2.2.2.2.2.1).other W (Or.inr (slot_ne (a0 := a0) (C := "com/example/weir/weir/engine/IntIntMap") (Or.inl (w_67 hw)) (Or.inl (w_65 hw)) (by decide) (t := (.array (.object "java/lang/Object"))) (t' := .int) (by decide) (by decide))), (O.2.2.2.2.2.2).other W (Or.inr (slot_ne (a0 := a0) (C := "com/example/weir/weir/engine/IntIntMap") (Or.inl (w_69 hw)) (Or.inl (w_65 hw)) (by decide) (t := .int) (t' := .int) (by decide) (by decide)))⟩
theorem IsMap.s_objects {Z : State} {h h' : Heap} {a : Addr} {v_width v_stride v_entries v_slots v_objects v_greatestKey : Value} {v : Value} {a0 : Array Value} (hw : ∀ d ∈ tables_1, d.before a0 Z = true) (W : Wr h h' a (RoadKit.slotOf Z "com/example/weir/weir/engine/IntIntMap" "objects" "[Ljava/lang/Object;") v) (O : IsMap Z h a v_width v_stride v_entries v_slots v_objects v_greatestKey) : IsMap Z h' a v_width v_stride v_entries v_slots v v_greatestKey := ⟨(O.1).wr W, (O.2.1).other W (Or.inr (slot_ne (a0 := a0) (C := "com/example/weir/weir/engine/IntIntMap") (Or.inr (w_55 hw)) (Or.inl (w_67 hw)) (by decide) (t := .int) (t' := (.array (.object "java/lang/Object"))) (by decide) (by decide))), (O.2.2.1).other W (Or.inr (slot_ne (a0 := a0) (C := "com/example/weir/weir/engine/IntIntMap") (Or.inr (w_57 hw)) (Or.inl (w_67 hw)) (by decide) (t := .int) (t' := (.array (.object "java/lang/Object"))) (by decide) (by decide))), (O.2.2.2.1).other W (Or.inr (slot_ne (a0 := a0) (C := "com/example/weir/weir/engine/IntIntMap") (Or.inl (w_63 hw)) (Or.inl (w_67 hw)) (by decide) (t := (.array .int)) (t' := (.array (.object "java/lang/Object"))) (by decide) (by decide))), (O.2.2.2.2.1).other W (Or.inr (slot_ne (a0 := a0) (C := "com/example/weir/weir/engine/IntIntMap") (Or.inl (w_65 hw)) (Or.inl (w_67 hw)) (by decide) (t := .int) (t' := (.array (.object "java/lang/Object"))) (by decide) (by decide))), (O.2.2.2.2.2.1).same W, (O.2.2.2.2.2.2).other W (Or.inr (slot_ne (a0 := a0) (C := "com/example/weir/weir/engine/IntIntMap") (Or.inl (w_69 hw)) (Or.inl (w_67 hw)) (by decide) (t := .int) (t' := (.array (.object "java/lang/Object"))) (by decide) (by decide)))⟩
theorem IsMap.s_greatestKey {Z : State} {h h' : Heap} {a : Addr} {v_width v_stride v_entries v_slots v_objects v_greatestKey : Value} {v : Value} {a0 : Array Value} (hw : ∀ d ∈ tables_1, d.before a0 Z = true) (W : Wr h h' a (RoadKit.slotOf Z "com/example/weir/weir/engine/IntIntMap" "greatestKey" "I") v) (O : IsMap Z h a v_width v_stride v_entries v_slots v_objects v_greatestKey) : IsMap Z h' a v_width v_stride v_entries v_slots v_objects v := ⟨(O.1).wr W, (O.2.1).other W (Or.inr (slot_ne (a0 := a0) (C := "com/example/weir/weir/engine/IntIntMap") (Or.inr (w_55 hw)) (Or.inl (w_69 hw)) (by decide) (t := .int) (t' := .int) (by decide) (by decide))), (O.2.2.1).other W (Or.inr (slot_ne (a0 := a0) (C := "com/example/weir/weir/engine/IntIntMap") (Or.inr (w_57 hw)) (Or.inl (w_69 hw)) (by decide) (t := .int) (t' := .int) (by decide) (by decide))), (O.2.2.2.1).other W (Or.inr (slot_ne (a0 := a0) (C := "com/example/weir/weir/engine/IntIntMap") (Or.inl (w_63 hw)) (Or.inl (w_69 hw)) (by decide) (t := (.array .int)) (t' := .int) (by decide) (by decide))), (O.2.2.2.2.1).other W (Or.inr (slot_ne (a0 := a0) (C := "com/example/weir/weir/engine/IntIntMap") (Or.inl (w_65 hw)) (Or.inl (w_69 hw)) (by decide) (t := .int) (t' := .int) (by decide) (by decide))), (O.2.2.2.2.2.1).other W (Or.inr (slot_ne (a0 := a0) (C := "com/example/weir/weir/engine/IntIntMap") (Or.inl (w_67 hw)) (Or.inl (w_69 hw)) (by decide) (t := (.array (.object "java/lang/Object"))) (t' := .int) (by decide) (by decide))), (O.2.2.2.2.2.2).same W⟩
/-- an object of class com/example/weir/weir/engine/SubjectIndex, and what its fields hold -/
def IsSI (Z : State) (h : Heap) (a : Addr) (v_subjects v_next v_terms : Value) : Prop := Exa Z h a "com/example/weir/weir/engine/SubjectIndex" ∧ Fld Z h a "com/example/weir/weir/engine/SubjectIndex" "subjects" "Lcom/example/weir/weir/engine/IntIntMap;" v_subjects ∧ Fld Z h a "com/example/weir/weir/engine/SubjectIndex" "next" "[I" v_next ∧ Fld Z h a "com/example/weir/weir/engine/SubjectIndex" "terms" "Lcom/example/weir/weir/engine/SubjectIndex$Terms;" v_terms
theorem IsSI.exa {Z : State} {h : Heap} {a : Addr} {v_subjects v_next v_terms : Value} (O : IsSI Z h a v_subjects v_next v_terms) : Exa Z h a "com/example/weir/weir/engine/SubjectIndex" := O.1
theorem IsSI.lt {Z : State} {h : Heap} {a : Addr} {v_subjects v_next v_terms : Value} (O : IsSI Z h a v_subjects v_next v_terms) : a < h.size := (IsSI.exa O).lt
theorem IsSI.f_subjects {Z : State} {h : Heap} {a : Addr} {v_subjects v_next v_terms : Value} (O : IsSI Z h a v_subjects v_next v_terms) : Fld Z h a "com/example/weir/weir/engine/SubjectIndex" "subjects" "Lcom/example/weir/weir/engine/IntIntMap;" v_subjects := O.2.1
theorem IsSI.f_next {Z : State} {h : Heap} {a : Addr} {v_subjects v_next v_terms : Value} (O : IsSI Z h a v_subjects v_next v_terms) : Fld Z h a "com/example/weir/weir/engine/SubjectIndex" "next" "[I" v_next := O.2.2.1
theorem IsSI.f_terms {Z : State} {h : Heap} {a : Addr} {v_subjects v_next v_terms : Value} (O : IsSI Z h a v_subjects v_next v_terms) : Fld Z h a "com/example/weir/weir/engine/SubjectIndex" "terms" "Lcom/example/weir/weir/engine/SubjectIndex$Terms;" v_terms := O.2.2.2
theorem IsSI.ext {Z : State} {h h' : Heap} {a : Addr} {v_subjects v_next v_terms : Value} (E : Ext h h') (O : IsSI Z h a v_subjects v_next v_terms) : IsSI Z h' a v_subjects v_next v_terms := ⟨(O.1).ext E, (O.2.1).ext E, (O.2.2.1).ext E, (O.2.2.2).ext E⟩
theorem IsSI.keep {Z : State} {h h' : Heap} {a : Addr} {v_subjects v_next v_terms : Value} {ws : List Addr} (K : Keep h h' ws) (O : IsSI Z h a v_subjects v_next v_terms) (q : a ∉ ws) : IsSI Z h' a v_subjects v_next v_terms := ⟨(O.1).keep K, (O.2.1).keep K q, (O.2.2.1).keep K q, (O.2.2.2).keep K q⟩
theorem IsSI.other {Z : State} {h h' : Heap} {a b : Addr} {v_subjects v_next v_terms : Value} {sl : Nat} {v : Value} (W : Wr h h' b sl v) (O : IsSI Z h a v_subjects v_next v_terms) (q : a ≠ b) : IsSI Z h' a v_subjects v_next v_terms := ⟨(O.1).wr W, (O.2.1).other W (Or.inl q), (O.2.2.1).other W (Or.inl q), (O.2.2.2).other W (Or.inl q)⟩
theorem IsSI.s_subjects {Z : State} {h h' : Heap} {a : Addr} {v_subjects v_next v_terms : Value} {v : Value} {a0 : Array Value} (hw : ∀ d ∈ tables_1, d.before a0 Z = true) (W : Wr h h' a (RoadKit.slotOf Z "com/example/weir/weir/engine/SubjectIndex" "subjects" "Lcom/example/weir/weir/engine/IntIntMap;") v) (O : IsSI Z h a v_subjects v_next v_terms) : IsSI Z h' a v v_next v_terms := ⟨(O.1).wr W, (O.2.1).same W, (O.2.2.1).other W (Or.inr (slot_ne (a0 := a0) (C := "com/example/weir/weir/engine/SubjectIndex") (Or.inl (w_75 hw)) (Or.inr (w_71 hw)) (by decide) (t := (.array .int)) (t' := (.object "com/example/weir/weir/engine/IntIntMap")) (by decide) (by decide))), (O.2.2.2).other W (Or.inr (slot_ne (a0 := a0) (C := "com/example/weir/weir/engine/SubjectIndex") (Or.inr (w_77 hw)) (Or.inr (w_71 hw)) (by decide) (t := (.object "com/example/weir/weir/engine/SubjectIndex$Terms")) (t' := (.object "com/example/weir/weir/engine/IntIntMap")) (by decide) (by decide)))⟩
theorem IsSI.s_next {Z : State} {h h' : Heap} {a : Addr} {v_subjects v_next v_terms : Value} {v : Value} {a0 : Array Value} (hw : ∀ d ∈ tables_1, d.before a0 Z = true) (W : Wr h h' a (RoadKit.slotOf Z "com/example/weir/weir/engine/SubjectIndex" "next" "[I") v) (O : IsSI Z h a v_subjects v_next v_terms) : IsSI Z h' a v_subjects v v_terms := ⟨(O.1).wr W, (O.2.1).other W (Or.inr (slot_ne (a0 := a0) (C := "com/example/weir/weir/engine/SubjectIndex") (Or.inr (w_71 hw)) (Or.inl (w_75 hw)) (by decide) (t := (.object "com/example/weir/weir/engine/IntIntMap")) (t' := (.array .int)) (by decide) (by decide))), (O.2.2.1).same W, (O.2.2.2).other W (Or.inr (slot_ne (a0 := a0) (C := "com/example/weir/weir/engine/SubjectIndex") (Or.inr (w_77 hw)) (Or.inl (w_75 hw)) (by decide) (t := (.object "com/example/weir/weir/engine/SubjectIndex$Terms")) (t' := (.array .int)) (by decide) (by decide)))⟩
theorem IsSI.s_terms {Z : State} {h h' : Heap} {a : Addr} {v_subjects v_next v_terms : Value} {v : Value} {a0 : Array Value} (hw : ∀ d ∈ tables_1, d.before a0 Z = true) (W : Wr h h' a (RoadKit.slotOf Z "com/example/weir/weir/engine/SubjectIndex" "terms" "Lcom/example/weir/weir/engine/SubjectIndex$Terms;") v) (O : IsSI Z h a v_subjects v_next v_terms) : IsSI Z h' a v_subjects v_next v := ⟨(O.1).wr W, (O.2.1).other W (Or.inr (slot_ne (a0 := a0) (C := "com/example/weir/weir/engine/SubjectIndex") (Or.inr (w_71 hw)) (Or.inr (w_77 hw)) (by decide) (t := (.object "com/example/weir/weir/engine/IntIntMap")) (t' := (.object "com/example/weir/weir/engine/SubjectIndex$Terms")) (by decide) (by decide))), (O.2.2.1).other W (Or.inr (slot_ne (a0 := a0) (C := "com/example/weir/weir/engine/SubjectIndex") (Or.inl (w_75 hw)) (Or.inr (w_77 hw)) (by decide) (t := (.array .int)) (t' := (.object "com/example/weir/weir/engine/SubjectIndex$Terms")) (by decide) (by decide))), (O.2.2.2).same W⟩
/-- an object of class com/example/weir/weir/engine/TripleTable, and what its fields hold -/
def IsTb (Z : State) (h : Heap) (a : Addr) (v_terms v_numbers v_index v_ends v_ending v_moves v_earliest : Value) : Prop := Exa Z h a "com/example/weir/weir/engine/TripleTable" ∧ Fld Z h a "com/example/weir/weir/engine/TripleTable" "terms" "[I" v_terms ∧ Fld Z h a "com/example/weir/weir/engine/TripleTable" "numbers" "Lcom/example/weir/weir/engine/Numbers;" v_numbers ∧ Fld Z h a "com/example/weir/weir/engine/TripleTable" "index" "Lcom/example/weir/weir/engine/SubjectIndex;" v_index ∧ Fld Z h a "com/example/weir/weir/engine/TripleTable" "ends" "[J" v_ends ∧ Fld Z h a "com/example/weir/weir/engine/TripleTable" "ending" "I" v_ending ∧ Fld Z h a "com/example/weir/weir/engine/TripleTable" "moves" "[I" v_moves ∧ Fld Z h a "com/example/weir/weir/engine/TripleTable" "earliest" "I" v_earliest
theorem IsTb.exa {Z : State} {h : Heap} {a : Addr} {v_terms v_numbers v_index v_ends v_ending v_moves v_earliest : Value} (O : IsTb Z h a v_terms v_numbers v_index v_ends v_ending v_moves v_earliest) : Exa Z h a "com/example/weir/weir/engine/TripleTable" := O.1
theorem IsTb.lt {Z : State} {h : Heap} {a : Addr} {v_terms v_numbers v_index v_ends v_ending v_moves v_earliest : Value} (O : IsTb Z h a v_terms v_numbers v_index v_ends v_ending v_moves v_earliest) : a < h.size := (IsTb.exa O).lt
theorem IsTb.f_terms {Z : State} {h : Heap} {a : Addr} {v_terms v_numbers v_index v_ends v_ending v_moves v_earliest : Value} (O : IsTb Z h a v_terms v_numbers v_index v_ends v_ending v_moves v_earliest) : Fld Z h a "com/example/weir/weir/engine/TripleTable" "terms" "[I" v_terms := O.2.1
theorem IsTb.f_numbers {Z : State} {h : Heap} {a : Addr} {v_terms v_numbers v_index v_ends v_ending v_moves v_earliest : Value} (O : IsTb Z h a v_terms v_numbers v_index v_ends v_ending v_moves v_earliest) : Fld Z h a "com/example/weir/weir/engine/TripleTable" "numbers" "Lcom/example/weir/weir/engine/Numbers;" v_numbers := O.2.2.1
theorem IsTb.f_index {Z : State} {h : Heap} {a : Addr} {v_terms v_numbers v_index v_ends v_ending v_moves v_earliest : Value} (O : IsTb Z h a v_terms v_numbers v_index v_ends v_ending v_moves v_earliest) : Fld Z h a "com/example/weir/weir/engine/TripleTable" "index" "Lcom/example/weir/weir/engine/SubjectIndex;" v_index := O.2.2.2.1
theorem IsTb.f_ends {Z : State} {h : Heap} {a : Addr} {v_terms v_numbers v_index v_ends v_ending v_moves v_earliest : Value} (O : IsTb Z h a v_terms v_numbers v_index v_ends v_ending v_moves v_earliest) : Fld Z h a "com/example/weir/weir/engine/TripleTable" "ends" "[J" v_ends := O.2.2.2.2.1
theorem IsTb.f_ending {Z : State} {h : Heap} {a : Addr} {v_terms v_numbers v_index v_ends v_ending v_moves v_earliest : Value} (O : IsTb Z h a v_terms v_numbers v_index v_ends v_ending v_moves v_earliest) : Fld Z h a "com/example/weir/weir/engine/TripleTable" "ending" "I" v_ending := O.2.2.2.2.2.1
theorem IsTb.f_moves {Z : State} {h : Heap} {a : Addr} {v_terms v_numbers v_index v_ends v_ending v_moves v_earliest : Value} (O : IsTb Z h a v_terms v_numbers v_index v_ends v_ending v_moves v_earliest) : Fld Z h a "com/example/weir/weir/engine/TripleTable" "moves" "[I" v_moves := O.2.2.2.2.2.2.1
theorem IsTb.f_earliest {Z : State} {h : Heap} {a : Addr} {v_terms v_numbers v_index v_ends v_ending v_moves v_earliest : Value} (O : IsTb Z h a v_terms v_numbers v_index v_ends v_ending v_moves v_earliest) : Fld Z h a "com/example/weir/weir/engine/TripleTable" "earliest" "I" v_earliest := O.2.2.2.2.2.2.2
theorem IsTb.ext {Z : State} {h h' : Heap} {a : Addr} {v_terms v_numbers v_index v_ends v_ending v_moves v_earliest : Value} (E : Ext h h') (O : IsTb Z h a v_terms v_numbers v_index v_ends v_ending v_moves v_earliest) : IsTb Z h' a v_terms v_numbers v_index v_ends v_ending v_moves v_earliest := ⟨(O.1).ext E, (O.2.1).ext E, (O.2.2.1).ext E, (O.2.2.2.1).ext E, (O.2.2.2.2.1).ext E, (O.2.2.2.2.2.1).ext E, (O.2.2.2.2.2.2.1).ext E, (O.2.2.2.2.2.2.2).ext E⟩
theorem IsTb.keep {Z : State} {h h' : Heap} {a : Addr} {v_terms v_numbers v_index v_ends v_ending v_moves v_earliest : Value} {ws : List Addr} (K : Keep h h' ws) (O : IsTb Z h a v_terms v_numbers v_index v_ends v_ending v_moves v_earliest) (q : a ∉ ws) : IsTb Z h' a v_terms v_numbers v_index v_ends v_ending v_moves v_earliest := ⟨(O.1).keep K, (O.2.1).keep K q, (O.2.2.1).keep K q, (O.2.2.2.1).keep K q, (O.2.2.2.2.1).keep K q, (O.2.2.2.2.2.1).keep K q, (O.2.2.2.2.2.2.1).keep K q, (O.2.2.2.2.2.2.2).keep K q⟩
theorem IsTb.other {Z : State} {h h' : Heap} {a b : Addr} {v_terms v_numbers v_index v_ends v_ending v_moves v_earliest : Value} {sl : Nat} {v : Value} (W : Wr h h' b sl v) (O : IsTb Z h a v_terms v_numbers v_index v_ends v_ending v_moves v_earliest) (q : a ≠ b) : IsTb Z h' a v_terms v_numbers v_index v_ends v_ending v_moves v_earliest := ⟨(O.1).wr W, (O.2.1).other W (Or.inl q), (O.2.2.1).other W (Or.inl q), (O.2.2.2.1).other W (Or.inl q), (O.2.2.2.2.1).other W (Or.inl q), (O.2.2.2.2.2.1).other W (Or.inl q), (O.2.2.2.2.2.2.1).other W (Or.inl q), (O.2.2.2.2.2.2.2).other W (Or.inl q)⟩
theorem IsTb.s_terms {Z : State} {h h' : Heap} {a : Addr} {v_terms v_numbers v_index v_ends v_ending v_moves v_earliest : Value} {v : Value} {a0 : Array Value} (hw : ∀ d ∈ tables_1, d.before a0 Z = true) (W : Wr h h' a (RoadKit.slotOf Z "com/example/weir/weir/engine/TripleTable" "terms" "[I") v) (O : IsTb Z h a v_terms v_numbers v_index v_ends v_ending v_moves v_earliest) : IsTb Z h' a v v_numbers v_index v_ends v_ending v_moves v_earliest := ⟨(O.1).wr W, (O.2.1).same W, (O.2.2.1).other W (Or.inr (slot_ne (a0 := a0) (C := "com/example/weir/weir/engine/TripleTable") (Or.inr (w_32 hw)) (Or.inl (w_12 hw)) (by decide) (t := (.object "com/example/weir/weir/engine/Numbers")) (t' := (.array .int)) (by decide) (by decide))), (O.2.2.2.1).other W (Or.inr (slot_ne (a0 := a0) (C := "com/example/weir/weir/engine/TripleTable") (Or.inl (w_79 hw)) (Or.inl (w_12 hw)) (by decide) (t := (.object "com/example/weir/weir/engine/SubjectIndex")) (t' := (.array .int)) (by decide) (by decide))), (O.2.2.2.2.1).other W (Or.inr (slot_ne (a0 := a0) (C := "com/example/weir/weir/engine/TripleTable") (Or.inl (w_95 hw)) (Or.inl (w_12 hw)) (by decide) (t := (.array .long)) (t' := (.array .int)) (by decide) (by decide))), (O.2.2.2.2.2.1).other W (Or.inr (slot_ne (a0 := a0) (C := "com/example/weir/weir/engine/TripleTable") (Or.inl (w_113 hw)) (Or.inl (w_12 hw)) (by decide) (t := .int) (t' := (.array .int)) (by decide) (by decide))), (O.2.2.2.2.2.2.1).other W (Or.inr (slot_ne (a0 := a0) (C := "com/example/weir/weir/engine/TripleTable") (Or.inl (w_148 hw)) (Or.inl (w_12 hw)) (by decide) (t := (.array .int)) (t' := (.array .int)) (by decide) (by decide))), (O.2.2.2.2.2.2.2).other W (Or.inr (slot_ne (a0 := a0) (C := "com/example/weir/weir/engine/TripleTable") (Or.inl (w_175 hw)) (Or.inl (w_12 hw)) (by decide) (t := .int) (t' := (.array .int)) (by decide) (by decide)))⟩
theorem IsTb.s_numbers {Z : State} {h h' : Heap} {a : Addr} {v_terms v_numbers v_index v_ends v_ending v_moves v_earliest : Value} {v : Value} {a0 : Array Value} (hw : ∀ d ∈ tables_1, d.before a0 Z = true) (W : Wr h h' a (RoadKit.slotOf Z "com/example/weir/weir/engine/TripleTable" "numbers" "Lcom/example/weir/weir/engine/Numbers;") v) (O : IsTb Z h a v_terms v_numbers v_index v_ends v_ending v_moves v_earliest) : IsTb Z h' a v_terms v v_index v_ends v_ending v_moves v_earliest := ⟨(O.1).wr W, (O.2.1).other W (Or.inr (slot_ne (a0 := a0) (C := "com/example/weir/weir/engine/TripleTable") (Or.inl (w_12 hw)) (Or.inr (w_32 hw)) (by decide) (t := (.array .int)) (t' := (.object "com/example/weir/weir/engine/Numbers")) (by decide) (by decide))), (O.2.2.1).same W, (O.2.2.2.1).other W (Or.inr (slot_ne (a0 := a0) (C := "com/example/weir/weir/engine/TripleTable") (Or.inl (w_79 hw)) (Or.inr (w_32 hw)) (by decide) (t := (.object "com/example/weir/weir/engine/SubjectIndex")) (t' := (.object "com/example/weir/weir/engine/Numbers")) (by decide) (by decide))), (O.2.2.2.2.1).other W (Or.inr (slot_ne (a0 := a0) (C := "com/example/weir/weir/engine/TripleTable") (Or.inl (w_95 hw)) (Or.inr (w_32 hw)) (by decide) (t := (.array .long)) (t' := (.object "com/example/weir/weir/engine/Numbers")) (by decide) (by decide))), (O.2.2.2.2.2.1).other W (Or.inr (slot_ne (a0 := a0) (C := "com/example/weir/weir/engine/TripleTable") (Or.inl (w_113 hw)) (Or.inr (w_32 hw)) (by decide) (t := .int) (t' := (.object "com/example/weir/weir/engine/Numbers")) (by decide) (by decide))), (O.2.2.2.2.2.2.1).other W (Or.inr (slot_ne (a0 := a0) (C := "com/example/weir/weir/engine/TripleTable") (Or.inl (w_148 hw)) (Or.inr (w_32 hw)) (by decide) (t := (.array .int)) (t' := (.object "com/example/weir/weir/engine/Numbers")) (by decide) (by decide))), (O.2.2.2.2.2.2.2).other W (Or.inr (slot_ne (a0 := a0) (C := "com/example/weir/weir/engine/TripleTable") (Or.inl (w_175 hw)) (Or.inr (w_32 hw)) (by decide) (t := .int) (t' := (.object "com/example/weir/weir/engine/Numbers")) (by decide) (by decide)))⟩
theorem IsTb.s_index {Z : State} {h h' : Heap} {a : Addr} {v_terms v_numbers v_index v_ends v_ending v_moves v_earliest : Value} {v : Value} {a0 : Array Value} (hw : ∀ d ∈ tables_1, d.before a0 Z = true) (W : Wr h h' a (RoadKit.slotOf Z "com/example/weir/weir/engine/TripleTable" "index" "Lcom/example/weir/weir/engine/SubjectIndex;") v) (O : IsTb Z h a v_terms v_numbers v_index v_ends v_ending v_moves v_earliest) : IsTb Z h' a v_terms v_numbers v v_ends v_ending v_moves v_earliest := ⟨(O.1).wr W, (O.2.1).other W (Or.inr (slot_ne (a0 := a0) (C := "com/example/weir/weir/engine/TripleTable") (Or.inl (w_12 hw)) (Or.inl (w_79 hw)) (by decide) (t := (.array .int)) (t' := (.object "com/example/weir/weir/engine/SubjectIndex")) (by decide) (by decide))), (O.2.2.1).other W (Or.inr (slot_ne (a0 := a0) (C := "com/example/weir/weir/engine/TripleTable") (Or.inr (w_32 hw)) (Or.inl (w_79 hw)) (by decide) (t := (.object "com/example/weir/weir/engine/Numbers")) (t' := (.object "com/example/weir/weir/engine/SubjectIndex")) (by decide) (by decide))), (O.2.2.2.1).same W, (O.2.2.2.2.1).other W (Or.inr (slot_ne (a0 := a0) (C := "com/example/weir/weir/engine/TripleTable") (Or.inl (w_95 hw)) (Or.inl (w_79 hw)) (by decide) (t := (.array .long)) (t' := (.object "com/example/weir/weir/engine/SubjectIndex")) (by decide) (by decide))), (O.2.2.2.2.2.1).other W (Or.inr (slot_ne (a0 := a0) (C := "com/example/weir/weir/engine/TripleTable") (Or.inl (w_113 hw)) (Or.inl (w_79 hw)) (by decide) (t := .int) (t' := (.object "com/example/weir/weir/engine/SubjectIndex")) (by decide) (by decide))), (O.2.2.2.2.2.2.1).other W (Or.inr (slot_ne (a0 := a0) (C := "com/example/weir/weir/engine/TripleTable") (Or.inl (w_148 hw)) (Or.inl (w_79 hw)) (by decide) (t := (.array .int)) (t' := (.object "com/example/weir/weir/engine/SubjectIndex")) (by decide) (by decide))), (O.2.2.2.2.2.2.2).other W (Or.inr (slot_ne (a0 := a0) (C := "com/example/weir/weir/engine/TripleTable") (Or.inl (w_175 hw)) (Or.inl (w_79 hw)) (by decide) (t := .int) (t' := (.object "com/example/weir/weir/engine/SubjectIndex")) (by decide) (by decide)))⟩
theorem IsTb.s_ends {Z : State} {h h' : Heap} {a : Addr} {v_terms v_numbers v_index v_ends v_ending v_moves v_earliest : Value} {v : Value} {a0 : Array Value} (hw : ∀ d ∈ tables_1, d.before a0 Z = true) (W : Wr h h' a (RoadKit.slotOf Z "com/example/weir/weir/engine/TripleTable" "ends" "[J") v) (O : IsTb Z h a v_terms v_numbers v_index v_ends v_ending v_moves v_earliest) : IsTb Z h' a v_terms v_numbers v_index v v_ending v_moves v_earliest := ⟨(O.1).wr W, (O.2.1).other W (Or.inr (slot_ne (a0 := a0) (C := "com/example/weir/weir/engine/TripleTable") (Or.inl (w_12 hw)) (Or.inl (w_95 hw)) (by decide) (t := (.array .int)) (t' := (.array .long)) (by decide) (by decide))), (O.2.2.1).other W (Or.inr (slot_ne (a0 := a0) (C := "com/example/weir/weir/engine/TripleTable") (Or.inr (w_32 hw)) (Or.inl (w_95 hw)) (by decide) (t := (.object "com/example/weir/weir/engine/Numbers")) (t' := (.array .long)) (by decide) (by decide))), (O.2.2.2.1).other W (Or.inr (slot_ne (a0 := a0) (C := "com/example/weir/weir/engine/TripleTable") (Or.inl (w_79 hw)) (Or.inl (w_95 hw)) (by decide) (t := (.object "com/example/weir/weir/engine/SubjectIndex")) (t' := (.array .long)) (by decide) (by decide))), (O.2.2.2.2.1).same W, (O.2.2.2.2.2.1).other W (Or.inr (slot_ne (a0 := a0) (C := "com/example/weir/weir/engine/TripleTable") (Or.inl (w_113 hw)) (Or.inl (w_95 hw)) (by decide) (t := .int) (t' := (.array .long)) (by decide) (by decide))), (O.2.2.2.2.2.2.1).other W (Or.inr (slot_ne (a0 := a0) (C := "com/example/weir/weir/engine/TripleTable") (Or.inl (w_148 hw)) (Or.inl (w_95 hw)) (by decide) (t := (.array .int)) (t' := (.array .long)) (by decide) (by decide))), (O.2.2.2.2.2.2.2).other W (Or.inr (slot_ne (a0 := a0) (C := "com/example/weir/weir/engine/TripleTable") (Or.inl (w_175 hw)) (Or.inl (w_95 hw)) (by decide) (t := .int) (t' := (.array .long)) (by decide) (by decide)))⟩
theorem IsTb.s_ending {Z : State} {h h' : Heap} {a : Addr} {v_terms v_numbers v_index v_ends v_ending v_moves v_earliest : Value} {v : Value} {a0 : Array Value} (hw : ∀ d ∈ tables_1, d.before a0 Z = true) (W : Wr h h' a (RoadKit.slotOf Z "com/example/weir/weir/engine/TripleTable" "ending" "I") v) (O : IsTb Z h a v_terms v_numbers v_index v_ends v_ending v_moves v_earliest) : IsTb Z h' a v_terms v_numbers v_index v_ends v v_moves v_earliest := ⟨(O.1).wr W, (O.2.1).other W (Or.inr (slot_ne (a0 := a0) (C := "com/example/weir/weir/engine/TripleTable") (Or.inl (w_12 hw)) (Or.inl (w_113 hw)) (by decide) (t := (.array .int)) (t' := .int) (by decide) (by decide))), (O.2.2.1).other W (Or.inr (slot_ne (a0 := a0) (C := "com/example/weir/weir/engine/TripleTable") (Or.inr (w_32 hw)) (Or.inl (w_113 hw)) (by decide) (t := (.object "com/example/weir/weir/engine/Numbers")) (t' := .int) (by decide) (by decide))), (O.2.2.2.1).other W (Or.inr (slot_ne (a0 := a0) (C := "com/example/weir/weir/engine/TripleTable") (Or.inl (w_79 hw)) (Or.inl (w_113 hw)) (by decide) (t := (.object "com/example/weir/weir/engine/SubjectIndex")) (t' := .int) (by decide) (by decide))), (O.2.2.2.2.1).other W (Or.inr (slot_ne (a0 := a0) (C := "com/example/weir/weir/engine/TripleTable") (Or.inl (w_95 hw)) (Or.inl (w_113 hw)) (by decide) (t := (.array .long)) (t' := .int) (by decide) (by decide))), (O.2.2.2.2.2.1).same W, (O.2.2.2.2.2.2.1).other W (Or.inr (slot_ne (a0 := a0) (C := "com/example/weir/weir/engine/TripleTable") (Or.inl (w_148 hw)) (Or.inl (w_113 hw)) (by decide) (t := (.array .int)) (t' := .int) (by decide) (by decide))), (O.2.2.2.2.2.2.2).other W (Or.inr (slot_ne (a0 := a0) (C := "com/example/weir/weir/engine/TripleTable") (Or.inl (w_175 hw)) (Or.inl (w_113 hw)) (by decide) (t := .int) (t' := .int) (by decide) (by decide)))⟩
theorem IsTb.s_moves {Z : State} {h h' : Heap} {a : Addr} {v_terms v_numbers v_index v_ends v_ending v_moves v_earliest : Value} {v : Value} {a0 : Array Value} (hw : ∀ d ∈ tables_1, d.before a0 Z = true) (W : Wr h h' a (RoadKit.slotOf Z "com/example/weir/weir/engine/TripleTable" "moves" "[I") v) (O : IsTb Z h a v_terms v_numbers v_index v_ends v_ending v_moves v_earliest) : IsTb Z h' a v_terms v_numbers v_index v_ends v_ending v v_earliest := ⟨(O.1).wr W, (O.2.1).other W (Or.inr (slot_ne (a0 := a0) (C := "com/example/weir/weir/engine/TripleTable") (Or.inl (w_12 hw)) (Or.inl (w_148 hw)) (by decide) (t := (.array .int)) (t' := (.array .int)) (by decide) (by decide))), (O.2.2.1).other W (Or.inr (slot_ne (a0 := a0) (C := "com/example/weir/weir/engine/TripleTable") (Or.inr (w_32 hw)) (Or.inl (w_148 hw)) (by decide) (t := (.object "com/example/weir/weir/engine/Numbers")) (t' := (.array .int)) (by decide) (by decide))), (O.2.2.2.1).other W (Or.inr (slot_ne (a0 := a0) (C := "com/example/weir/weir/engine/TripleTable") (Or.inl (w_79 hw)) (Or.inl (w_148 hw)) (by decide) (t := (.object "com/example/weir/weir/engine/SubjectIndex")) (t' := (.array .int)) (by decide) (by decide))), (O.2.2.2.2.1).other W (Or.inr (slot_ne (a0 := a0) (C := "com/example/weir/weir/engine/TripleTable") (Or.inl (w_95 hw)) (Or.inl (w_148 hw)) (by decide) (t := (.array .long)) (t' := (.array .int)) (by decide) (by decide))), (O.2.2.2.2.2.1).other W (Or.inr (slot_ne (a0 := a0) (C := "com/example/weir/weir/engine/TripleTable") (Or.inl (w_113 hw)) (Or.inl (w_148 hw)) (by decide) (t := .int) (t' := (.array .int)) (by decide) (by decide))), (O.2.2.2.2.2.2.1).same W, (O.2.2.2.2.2.2.2).other W (Or.inr (slot_ne (a0 := a0) (C := "com/example/weir/weir/engine/TripleTable") (Or.inl (w_175 hw)) (Or.inl (w_148 hw)) (by decide) (t := .int) (t' := (.array .int)) (by decide) (by decide)))⟩
theorem IsTb.s_earliest {Z : State} {h h' : Heap} {a : Addr} {v_terms v_numbers v_index v_ends v_ending v_moves v_earliest : Value} {v : Value} {a0 : Array Value} (hw : ∀ d ∈ tables_1, d.before a0 Z = true) (W : Wr h h' a (RoadKit.slotOf Z "com/example/weir/weir/engine/TripleTable" "earliest" "I") v) (O : IsTb Z h a v_terms v_numbers v_index v_ends v_ending v_moves v_earliest) : IsTb Z h' a v_terms v_numbers v_index v_ends v_ending v_moves v := ⟨(O.1).wr W, (O.2.1).other W (Or.inr (slot_ne (a0 := a0) (C := "com/example/weir/weir/engine/TripleTable") (Or.inl (w_12 hw)) (Or.inl (w_175 hw)) (by decide) (t := (.array .int)) (t' := .int) (by decide) (by decide))), (O.2.2.1).other W (Or.inr (slot_ne (a0 := a0) (C := "com/example/weir/weir/engine/TripleTable") (Or.inr (w_32 hw)) (Or.inl (w_175 hw)) (by decide) (t := (.object "com/example/weir/weir/engine/Numbers")) (t' := .int) (by decide) (by decide))), (O.2.2.2.1).other W (Or.inr (slot_ne (a0 := a0) (C := "com/example/weir/weir/engine/TripleTable") (Or.inl (w_79 hw)) (Or.inl (w_175 hw)) (by decide) (t := (.object "com/example/weir/weir/engine/SubjectIndex")) (t' := .int) (by decide) (by decide))), (O.2.2.2.2.1).other W (Or.inr (slot_ne (a0 := a0) (C := "com/example/weir/weir/engine/TripleTable") (Or.inl (w_95 hw)) (Or.inl (w_175 hw)) (by decide) (t := (.array .long)) (t' := .int) (by decide) (by decide))), (O.2.2.2.2.2.1).other W (Or.inr (slot_ne (a0 := a0) (C := "com/example/weir/weir/engine/TripleTable") (Or.inl (w_113 hw)) (Or.inl (w_175 hw)) (by decide) (t := .int) (t' := .int) (by decide) (by decide))), (O.2.2.2.2.2.2.1).other W (Or.inr (slot_ne (a0 := a0) (C := "com/example/weir/weir/engine/TripleTable") (Or.inl (w_148 hw)) (Or.inl (w_175 hw)) (by decide) (t := (.array .int)) (t' := .int) (by decide) (by decide))), (O.2.2.2.2.2.2.2).same W⟩
def own_shape : Lambda.Shape := (Jvm.Lambda.Shape.mk "com/example/weir/weir/engine/SubjectIndex$Terms" "term" (Jvm.ClassFile.MethodDescriptor.mk ([Jvm.ClassFile.FieldType.int, Jvm.ClassFile.FieldType.int] : List Jvm.ClassFile.FieldType) (Option.some Jvm.ClassFile.FieldType.int)) ([(Jvm.ClassFile.FieldType.object "com/example/weir/weir/engine/TripleTable")] : List Jvm.ClassFile.FieldType) (5 : Nat) "com/example/weir/weir/engine/TripleTable" "term" (Jvm.ClassFile.MethodDescriptor.mk ([Jvm.ClassFile.FieldType.int, Jvm.ClassFile.FieldType.int] : List Jvm.ClassFile.FieldType) (Option.some Jvm.ClassFile.FieldType.int)) false (Jvm.ClassFile.MethodDescriptor.mk ([Jvm.ClassFile.FieldType.int, Jvm.ClassFile.FieldType.int] : List Jvm.ClassFile.FieldType) (Option.some Jvm.ClassFile.FieldType.int)))
theorem own_shape_lays : ((own_shape.file "com/example/weir/weir/engine/TripleTable").bind (layoutFields · 0)).map (·.2.1) = some #[.object "com/example/weir/weir/engine/TripleTable"] := by decide +kernel
set_option maxRecDepth 65536 in
set_option maxHeartbeats 40000000 in
theorem rm_il (w : Bool) (l : Launch) (Z : State) (a0 : Array Value) (hw : ∀ d ∈ tables_1, d.before a0 Z = true) (il : Addr) (u_values : Value)  (h0 : Heap) (n0 : Nat) (Z0 : n0 ≤ h0.size) (O_il : IsIL Z h0 il u_values) (old_il : n0 ≤ il)  :
    Met w l Z (⟨"com/example/weir/weir/engine/IntList", "<init>", "()V"⟩ : MethodName) prog_28_method_1_code 1 none [] ({ frames := 1, cells := 1, slots := 4, locals := 12 } : Room) #[(.ref il)] h0 n0 (fun v h => v = none ∧ Keep h0 h [il]) := by
  refine Met.of (plainFor_of_name (by first | (simp [plainName, overriddenIn]; done) | decide +kernel)) fun κ K => ?_
  refine WP.frame (g' := (mkF κ.m 0 #[.val (.ref il)] [])) (by first | (simp [entryFrame, mkF, argsToLocals, Value.category]; done) | rfl) ?_
  have KP := Keep.refl h0 [il]
  refine WP.aloadN K d4_0 rfl rfl (pc' := 1) rfl ?_
  refine WP.initO K (w_26 hw) (w_9 hw) (w_10 hw) d4_1 rfl (by decide) (W := 0) rfl (by decide) (pc' := 4) rfl ?_
  refine WP.aloadN K d4_4 rfl rfl (pc' := 5) rfl ?_
  refine WP.iconst K d4_5 (v := (4 : Int32)) rfl (pc' := 6) rfl ?_
  refine WP.newarray (aty := .int) K (w_1 hw) d4_6 (N := 4) (cap := 4) rfl (Nat.le_refl _) (by decide) (k' := 1) (n' := 4) rfl rfl (by decide) (by decide) (pc' := 8) rfl fun h1 ar kA_ar g1 E1 A_ar => ?_
  have ne_il_ar : il ≠ ar := fun z_ => by have q_ : @LT.lt Nat _ il h0.size := (IsIL.lt O_il); have r_ : @Eq Nat il ar := z_; omega
  have old_ar : n0 ≤ ar := by have q_ := Z0; omega
  have osz_ar : h0.size ≤ ar := by have q_ := KP.1; omega
  have O_il := IsIL.ext E1 O_il
  have KP := Keep.ext KP E1
  have Z0 := Nat.le_trans Z0 E1.1
  refine WP.putF K (w_27 hw) Via.refl (IsIL.f_values O_il) (IsIL.exa O_il) (Or.inl (w_28 hw)) (w_21 hw) (ty := (.array .int)) (by decide) rfl rfl old_il d4_8 (pc' := 11) rfl fun h2 W2 => ?_
  have A_ar := Ary.other W2 A_ar (Ne.symm ne_il_ar)
  have KP := Keep.wr KP W2 (Or.inl (List.mem_of_getElem? (i := 0) rfl))
  have Z0 := Nat.le_trans Z0 (Nat.le_of_eq W2.size.symm)
  have O_il := IsIL.s_values hw W2 O_il
  exact WP.ret0 K d4_11 (by decide) (by decide) ⟨rfl, KP⟩
set_option maxRecDepth 65536 in
set_option maxHeartbeats 40000000 in
theorem rm_nu (w : Bool) (l : Launch) (Z : State) (a0 : Array Value) (hw : ∀ d ∈ tables_1, d.before a0 Z = true) (nu : Addr) (u_free : Value)  (h0 : Heap) (n0 : Nat) (Z0 : n0 ≤ h0.size) (O_nu : IsNu Z h0 nu u_free) (old_nu : n0 ≤ nu)  :
    Met w l Z (⟨"com/example/weir/weir/engine/Numbers", "<init>", "()V"⟩ : MethodName) prog_42_method_1_code 1 none [] ({ frames := 2, cells := 2, slots := 6, locals := 26 } : Room) #[(.ref nu)] h0 n0 (fun v h => v = none ∧ Keep h0 h [nu]) := by
  refine Met.of (plainFor_of_name (by first | (simp [plainName, overriddenIn]; done) | decide +kernel)) fun κ K => ?_
  refine WP.frame (g' := (mkF κ.m 0 #[.val (.ref nu)] [])) (by first | (simp [entryFrame, mkF, argsToLocals, Value.category]; done) | rfl) ?_
  have KP := Keep.refl h0 [nu]
  refine WP.aloadN K d3_0 rfl rfl (pc' := 1) rfl ?_
  refine WP.initO K (w_19 hw) (w_9 hw) (w_10 hw) d3_1 rfl (by decide) (W := 0) rfl (by decide) (pc' := 4) rfl ?_
  refine WP.aloadN K d3_4 rfl rfl (pc' := 5) rfl ?_
  refine WP.new K (w_20 hw) (w_21 hw) (w_22 hw) d3_5 (k' := 1) (n' := 2) rfl rfl (by decide) (by decide) (pc' := 8) rfl fun h3 il g3 E3 X3 D3 => ?_
  have ne_nu_il : nu ≠ il := fun z_ => by have q_ : @LT.lt Nat _ nu h0.size := (IsNu.lt O_nu); have r_ : @Eq Nat nu il := z_; omega
  have old_il : n0 ≤ il := by have q_ := Z0; omega
  have osz_il : h0.size ≤ il := by have q_ := KP.1; omega
  have O_nu := IsNu.ext E3 O_nu
  have KP := Keep.ext KP E3
  have Z0 := Nat.le_trans Z0 E3.1
  have O_il : IsIL Z h3 il .null := ⟨X3, D3 (O := "com/example/weir/weir/engine/IntList") (f := "values") (d := "[I") (Or.inl (w_28 hw)) (ty := (.array .int)) (by decide)⟩
  refine WP.dup K d3_8 rfl (pc' := 9) rfl ?_
  refine WP.callI K (a := il) (argsL := []) (S := [(.ref il), (.ref nu)]) rfl (w_23 hw) (w_24 hw) (rm_il w l Z a0 hw il _  h3 n0 Z0 O_il old_il) (w_25 hw) (w_22 hw) (by decide) rfl (lenOf pd_0 rfl) rfl (W := 2) rfl (by decide) (by decide) (k' := 2) (n' := 6) rfl rfl (by decide) (by decide) d3_9 (pc' := 12) rfl fun v h4 hq => ?_
  obtain ⟨rfl, K0⟩ := hq
  have O_nu := IsNu.keep K0 O_nu (ninS ne_nu_il nin0)
  have KP := Keep.trans KP K0 (allS (Or.inr osz_il) all0)
  have Z0 := Nat.le_trans Z0 K0.1
  show WP κ h4 2 6 (mkF κ.m 12 #[.val (.ref nu)] [(.ref il), (.ref nu)])
  refine WP.putF K (w_29 hw) Via.refl (IsNu.f_free O_nu) (IsNu.exa O_nu) (Or.inl (w_30 hw)) (w_14 hw) (ty := (.object "com/example/weir/weir/engine/IntList")) (by decide) rfl rfl old_nu d3_12 (pc' := 15) rfl fun h5 W5 => ?_
  have KP := Keep.wr KP W5 (Or.inl (List.mem_of_getElem? (i := 0) rfl))
  have Z0 := Nat.le_trans Z0 (Nat.le_of_eq W5.size.symm)
  have O_nu := IsNu.s_free hw W5 O_nu
  exact WP.ret0 K d3_15 (by decide) (by decide) ⟨rfl, KP⟩
set_option maxRecDepth 65536 in
set_option maxHeartbeats 40000000 in
theorem rm_empty (w : Bool) (l : Launch) (Z : State) (a0 : Array Value) (hw : ∀ d ∈ tables_1, d.before a0 Z = true) (mp : Addr) (u_width u_entries u_slots u_objects u_greatestKey : Value) (h0 : Heap) (n0 : Nat) (Z0 : n0 ≤ h0.size) (O_mp : IsMap Z h0 mp u_width (.int (2 : Int32)) u_entries u_slots u_objects u_greatestKey) (old_mp : n0 ≤ mp) :
    Met w l Z (⟨"com/example/weir/weir/engine/IntIntMap", "emptyTable", "(IZ)V"⟩ : MethodName) prog_27_method_22_code 3 none [] ({ frames := 0, cells := 1, slots := 16, locals := 0 } : Room) #[(.ref mp), (.int (8 : Int32)), (.int (0 : Int32))] h0 n0 (fun v h => v = none ∧ Keep h0 h [mp]) := by
  refine Met.of (plainFor_of_name (by first | (simp [plainName, overriddenIn]; done) | decide +kernel)) fun κ K => ?_
  refine WP.frame (g' := (mkF κ.m 0 #[.val (.ref mp), .val (.int (8 : Int32)), .val (.int (0 : Int32))] [])) (by first | (simp [entryFrame, mkF, argsToLocals, Value.category]; done) | rfl) ?_
  have KP := Keep.refl h0 [mp]
  refine WP.aloadN K d8_0 rfl rfl (pc' := 1) rfl ?_
  refine WP.aloadN K d8_1 rfl rfl (pc' := 2) rfl ?_
  refine WP.getF K (w_56 hw) Via.refl (IsMap.f_stride O_mp) d8_2 (pc' := 5) rfl ?_
  refine WP.iloadN K d8_5 rfl (pc' := 6) rfl ?_
  refine WP.imul K d8_6 (pc' := 7) rfl ?_
  show WP κ h0 0 0 (mkF κ.m 7 #[.val (.ref mp), .val (.int (8 : Int32)), .val (.int (0 : Int32))] [(.int (16 : Int32)), (.ref mp)])
  refine WP.newarray (aty := .int) K (w_1 hw) d8_7 (N := 16) (cap := 16) rfl (Nat.le_refl _) (by decide) (k' := 1) (n' := 16) rfl rfl (by decide) (by decide) (pc' := 9) rfl fun h6 en kA_en g6 E6 A_en => ?_
  have ne_mp_en : mp ≠ en := fun z_ => by have q_ : @LT.lt Nat _ mp h0.size := (IsMap.lt O_mp); have r_ : @Eq Nat mp en := z_; omega
  have old_en : n0 ≤ en := by have q_ := Z0; omega
  have osz_en : h0.size ≤ en := by have q_ := KP.1; omega
  have O_mp := IsMap.ext E6 O_mp
  have KP := Keep.ext KP E6
  have Z0 := Nat.le_trans Z0 E6.1
  refine WP.putF K (w_62 hw) Via.refl (IsMap.f_entries O_mp) (IsMap.exa O_mp) (Or.inl (w_63 hw)) (w_45 hw) (ty := (.array .int)) (by decide) rfl rfl old_mp d8_9 (pc' := 12) rfl fun h7 W7 => ?_
  have A_en := Ary.other W7 A_en (Ne.symm ne_mp_en)
  have KP := Keep.wr KP W7 (Or.inl (List.mem_of_getElem? (i := 0) rfl))
  have Z0 := Nat.le_trans Z0 (Nat.le_of_eq W7.size.symm)
  have O_mp := IsMap.s_entries hw W7 O_mp
  refine WP.aloadN K d8_12 rfl rfl (pc' := 13) rfl ?_
  refine WP.iloadN K d8_13 rfl (pc' := 14) rfl ?_
  refine WP.putF K (w_64 hw) Via.refl (IsMap.f_slots O_mp) (IsMap.exa O_mp) (Or.inl (w_65 hw)) (w_45 hw) (ty := .int) (by decide) rfl rfl old_mp d8_14 (pc' := 17) rfl fun h8 W8 => ?_
  have A_en := Ary.other W8 A_en (Ne.symm ne_mp_en)
  have KP := Keep.wr KP W8 (Or.inl (List.mem_of_getElem? (i := 0) rfl))
  have Z0 := Nat.le_trans Z0 (Nat.le_of_eq W8.size.symm)
  have O_mp := IsMap.s_slots hw W8 O_mp
  refine WP.aloadN K d8_17 rfl rfl (pc' := 18) rfl ?_
  refine WP.iloadN K d8_18 rfl (pc' := 19) rfl ?_
  refine WP.if0T K d8_19 (by decide) (by decide) (pc' := 29) (by decide) ?_
  refine WP.aconst_null K d8_29 (pc' := 30) rfl ?_
  refine WP.putF K (w_66 hw) Via.refl (IsMap.f_objects O_mp) (IsMap.exa O_mp) (Or.inl (w_67 hw)) (w_45 hw) (ty := (.array (.object "java/lang/Object"))) (by decide) rfl rfl old_mp d8_30 (pc' := 33) rfl fun h9 W9 => ?_
  have A_en := Ary.other W9 A_en (Ne.symm ne_mp_en)
  have KP := Keep.wr KP W9 (Or.inl (List.mem_of_getElem? (i := 0) rfl))
  have Z0 := Nat.le_trans Z0 (Nat.le_of_eq W9.size.symm)
  have O_mp := IsMap.s_objects hw W9 O_mp
  refine WP.aloadN K d8_33 rfl rfl (pc' := 34) rfl ?_
  refine WP.iconst K d8_34 (v := (0 : Int32)) rfl (pc' := 35) rfl ?_
  refine WP.putF K (w_68 hw) Via.refl (IsMap.f_greatestKey O_mp) (IsMap.exa O_mp) (Or.inl (w_69 hw)) (w_45 hw) (ty := .int) (by decide) rfl rfl old_mp d8_35 (pc' := 38) rfl fun h10 W10 => ?_
  have A_en := Ary.other W10 A_en (Ne.symm ne_mp_en)
  have KP := Keep.wr KP W10 (Or.inl (List.mem_of_getElem? (i := 0) rfl))
  have Z0 := Nat.le_trans Z0 (Nat.le_of_eq W10.size.symm)
  have O_mp := IsMap.s_greatestKey hw W10 O_mp
  exact WP.ret0 K d8_38 (by decide) (by decide) ⟨rfl, KP⟩
set_option maxRecDepth 65536 in
set_option maxHeartbeats 40000000 in
theorem rm_map1 (w : Bool) (l : Launch) (Z : State) (a0 : Array Value) (hw : ∀ d ∈ tables_1, d.before a0 Z = true) (mp : Addr) (u_width u_stride u_entries u_slots u_objects u_greatestKey : Value)  (h0 : Heap) (n0 : Nat) (Z0 : n0 ≤ h0.size) (O_mp : IsMap Z h0 mp u_width u_stride u_entries u_slots u_objects u_greatestKey) (old_mp : n0 ≤ mp)  :
    Met w l Z (⟨"com/example/weir/weir/engine/IntIntMap", "<init>", "(I)V"⟩ : MethodName) prog_27_method_2_code 2 none [] ({ frames := 1, cells := 1, slots := 16, locals := 14 } : Room) #[(.ref mp), (.int (1 : Int32))] h0 n0 (fun v h => v = none ∧ Keep h0 h [mp]) := by
  refine Met.of (plainFor_of_name (by first | (simp [plainName, overriddenIn]; done) | decide +kernel)) fun κ K => ?_
  refine WP.frame (g' := (mkF κ.m 0 #[.val (.ref mp), .val (.int (1 : Int32))] [])) (by first | (simp [entryFrame, mkF, argsToLocals, Value.category]; done) | rfl) ?_
  have KP := Keep.refl h0 [mp]
  refine WP.aloadN K d7_0 rfl rfl (pc' := 1) rfl ?_
  refine WP.initO K (w_53 hw) (w_9 hw) (w_10 hw) d7_1 rfl (by decide) (W := 0) rfl (by decide) (pc' := 4) rfl ?_
  refine WP.aloadN K d7_4 rfl rfl (pc' := 5) rfl ?_
  refine WP.iloadN K d7_5 rfl (pc' := 6) rfl ?_
  refine WP.putF K (w_54 hw) Via.refl (IsMap.f_width O_mp) (IsMap.exa O_mp) (Or.inr ⟨(w_55 hw), rfl, rfl⟩) (w_45 hw) (ty := .int) (by decide) rfl rfl old_mp d7_6 (pc' := 9) rfl fun h11 W11 => ?_
  have KP := Keep.wr KP W11 (Or.inl (List.mem_of_getElem? (i := 0) rfl))
  have Z0 := Nat.le_trans Z0 (Nat.le_of_eq W11.size.symm)
  have O_mp := IsMap.s_width hw W11 O_mp
  refine WP.aloadN K d7_9 rfl rfl (pc' := 10) rfl ?_
  refine WP.iloadN K d7_10 rfl (pc' := 11) rfl ?_
  refine WP.iconst K d7_11 (v := (1 : Int32)) rfl (pc' := 12) rfl ?_
  refine WP.iadd K d7_12 (pc' := 13) rfl ?_
  show WP κ h11 0 0 (mkF κ.m 13 #[.val (.ref mp), .val (.int (1 : Int32))] [(.int (2 : Int32)), (.ref mp)])
  refine WP.putF K (w_56 hw) Via.refl (IsMap.f_stride O_mp) (IsMap.exa O_mp) (Or.inr ⟨(w_57 hw), rfl, rfl⟩) (w_45 hw) (ty := .int) (by decide) rfl rfl old_mp d7_13 (pc' := 16) rfl fun h12 W12 => ?_
  have KP := Keep.wr KP W12 (Or.inl (List.mem_of_getElem? (i := 0) rfl))
  have Z0 := Nat.le_trans Z0 (Nat.le_of_eq W12.size.symm)
  have O_mp := IsMap.s_stride hw W12 O_mp
  refine WP.aloadN K d7_16 rfl rfl (pc' := 17) rfl ?_
  refine WP.bipush K d7_17 (v := (8 : Int32)) rfl (pc' := 19) rfl ?_
  refine WP.iconst K d7_19 (v := (0 : Int32)) rfl (pc' := 20) rfl ?_
  refine WP.callP K (a := mp) (argsL := [(.int (8 : Int32)), (.int (0 : Int32))]) (S := []) (w_58 hw) (w_59 hw) (w_45 hw) (w_60 hw) (IsMap.exa O_mp) (rm_empty w l Z a0 hw mp _ _ _ _ _ h12 n0 Z0 O_mp old_mp) (w_61 hw) (w_46 hw) (by decide) rfl (lenOf pd_1 rfl) rfl (W := 0) rfl (by decide) (by decide) (k' := 1) (n' := 16) rfl rfl (by decide) (by decide) d7_20 (pc' := 23) rfl fun v h13 hq => ?_
  obtain ⟨rfl, K0⟩ := hq
  have KP := Keep.trans KP K0 (allS (Or.inl (List.mem_of_getElem? (i := 0) rfl)) all0)
  have Z0 := Nat.le_trans Z0 K0.1
  show WP κ h13 1 16 (mkF κ.m 23 #[.val (.ref mp), .val (.int (1 : Int32))] [])
  exact WP.ret0 K d7_23 (by decide) (by decide) ⟨rfl, KP⟩
set_option maxRecDepth 65536 in
set_option maxHeartbeats 40000000 in
theorem rm_map0 (w : Bool) (l : Launch) (Z : State) (a0 : Array Value) (hw : ∀ d ∈ tables_1, d.before a0 Z = true) (mp : Addr) (u_width u_stride u_entries u_slots u_objects u_greatestKey : Value)  (h0 : Heap) (n0 : Nat) (Z0 : n0 ≤ h0.size) (O_mp : IsMap Z h0 mp u_width u_stride u_entries u_slots u_objects u_greatestKey) (old_mp : n0 ≤ mp)  :
    Met w l Z (⟨"com/example/weir/weir/engine/IntIntMap", "<init>", "()V"⟩ : MethodName) prog_27_method_1_code 1 none [] ({ frames := 2, cells := 1, slots := 16, locals := 27 } : Room) #[(.ref mp)] h0 n0 (fun v h => v = none ∧ Keep h0 h [mp]) := by
  refine Met.of (plainFor_of_name (by first | (simp [plainName, overriddenIn]; done) | decide +kernel)) fun κ K => ?_
  refine WP.frame (g' := (mkF κ.m 0 #[.val (.ref mp)] [])) (by first | (simp [entryFrame, mkF, argsToLocals, Value.category]; done) | rfl) ?_
  have KP := Keep.refl h0 [mp]
  refine WP.aloadN K d6_0 rfl rfl (pc' := 1) rfl ?_
  refine WP.iconst K d6_1 (v := (1 : Int32)) rfl (pc' := 2) rfl ?_
  refine WP.callI K (a := mp) (argsL := [(.int (1 : Int32))]) (S := []) rfl (w_50 hw) (w_51 hw) (rm_map1 w l Z a0 hw mp _ _ _ _ _ _  h0 n0 Z0 O_mp old_mp) (w_52 hw) (w_46 hw) (by decide) rfl (lenOf pd_2 rfl) rfl (W := 0) rfl (by decide) (by decide) (k' := 1) (n' := 16) rfl rfl (by decide) (by decide) d6_2 (pc' := 5) rfl fun v h14 hq => ?_
  obtain ⟨rfl, K0⟩ := hq
  have KP := Keep.trans KP K0 (allS (Or.inl (List.mem_of_getElem? (i := 0) rfl)) all0)
  have Z0 := Nat.le_trans Z0 K0.1
  show WP κ h14 1 16 (mkF κ.m 5 #[.val (.ref mp)] [])
  exact WP.ret0 K d6_5 (by decide) (by decide) ⟨rfl, KP⟩
set_option maxRecDepth 65536 in
set_option maxHeartbeats 40000000 in
theorem rm_si (w : Bool) (l : Launch) (Z : State) (a0 : Array Value) (hw : ∀ d ∈ tables_1, d.before a0 Z = true) (si : Addr) (u_subjects u_next u_terms : Value) (fn : Addr) (nl : Addr) (kL : ClassId) (fL : Nat → Value) (h0 : Heap) (n0 : Nat) (Z0 : n0 ≤ h0.size) (O_si : IsSI Z h0 si u_subjects u_next u_terms) (old_si : n0 ≤ si) (S_nl : Sta Z Z.heap "com/example/weir/weir/engine/SubjectIndex" "NO_LINKS" "[I" (.ref nl)) (A_nl : Ary Z Z.heap nl kL .int 0 fL) (OLD : Old Z n0 h0) :
    Met w l Z (⟨"com/example/weir/weir/engine/SubjectIndex", "<init>", "(Lcom/example/weir/weir/engine/SubjectIndex$Terms;)V"⟩ : MethodName) prog_44_method_1_code 2 none [] ({ frames := 3, cells := 2, slots := 25, locals := 41 } : Room) #[(.ref si), (.ref fn)] h0 n0 (fun v h => v = none ∧ Keep h0 h [si]) := by
  refine Met.of (plainFor_of_name (by first | (simp [plainName, overriddenIn]; done) | decide +kernel)) fun κ K => ?_
  refine WP.frame (g' := (mkF κ.m 0 #[.val (.ref si), .val (.ref fn)] [])) (by first | (simp [entryFrame, mkF, argsToLocals, Value.category]; done) | rfl) ?_
  have KP := Keep.refl h0 [si]
  refine WP.aloadN K d5_0 rfl rfl (pc' := 1) rfl ?_
  refine WP.initO K (w_43 hw) (w_9 hw) (w_10 hw) d5_1 rfl (by decide) (W := 0) rfl (by decide) (pc' := 4) rfl ?_
  refine WP.aloadN K d5_4 rfl rfl (pc' := 5) rfl ?_
  refine WP.new K (w_44 hw) (w_45 hw) (w_46 hw) d5_5 (k' := 1) (n' := 9) rfl rfl (by decide) (by decide) (pc' := 8) rfl fun h15 mp g15 E15 X15 D15 => ?_
  have ne_si_mp : si ≠ mp := fun z_ => by have q_ : @LT.lt Nat _ si h0.size := (IsSI.lt O_si); have r_ : @Eq Nat si mp := z_; omega
  have ne_nl_mp : nl ≠ mp := fun z_ => by have q_ : @LT.lt Nat _ nl h0.size := (Ary.lt (Ary.ext OLD.2 A_nl)); have r_ : @Eq Nat nl mp := z_; omega
  have old_mp : n0 ≤ mp := by have q_ := Z0; omega
  have osz_mp : h0.size ≤ mp := by have q_ := KP.1; omega
  have O_si := IsSI.ext E15 O_si
  have KP := Keep.ext KP E15
  have OLD := Old.ext OLD E15
  have Z0 := Nat.le_trans Z0 E15.1
  have O_mp : IsMap Z h15 mp (.int (0 : Int32)) (.int (0 : Int32)) .null (.int (0 : Int32)) .null (.int (0 : Int32)) := ⟨X15, D15 (O := "com/example/weir/weir/engine/IntIntMap") (f := "width") (d := "I") (Or.inr (w_55 hw)) (ty := .int) (by decide), D15 (O := "com/example/weir/weir/engine/IntIntMap") (f := "stride") (d := "I") (Or.inr (w_57 hw)) (ty := .int) (by decide), D15 (O := "com/example/weir/weir/engine/IntIntMap") (f := "entries") (d := "[I") (Or.inl (w_63 hw)) (ty := (.array .int)) (by decide), D15 (O := "com/example/weir/weir/engine/IntIntMap") (f := "slots") (d := "I") (Or.inl (w_65 hw)) (ty := .int) (by decide), D15 (O := "com/example/weir/weir/engine/IntIntMap") (f := "objects") (d := "[Ljava/lang/Object;") (Or.inl (w_67 hw)) (ty := (.array (.object "java/lang/Object"))) (by decide), D15 (O := "com/example/weir/weir/engine/IntIntMap") (f := "greatestKey") (d := "I") (Or.inl (w_69 hw)) (ty := .int) (by decide)⟩
  refine WP.dup K d5_8 rfl (pc' := 9) rfl ?_
  refine WP.callI K (a := mp) (argsL := []) (S := [(.ref mp), (.ref si)]) rfl (w_47 hw) (w_48 hw) (rm_map0 w l Z a0 hw mp _ _ _ _ _ _  h15 n0 Z0 O_mp old_mp) (w_49 hw) (w_46 hw) (by decide) rfl (lenOf pd_0 rfl) rfl (W := 2) rfl (by decide) (by decide) (k' := 2) (n' := 25) rfl rfl (by decide) (by decide) d5_9 (pc' := 12) rfl fun v h16 hq => ?_
  obtain ⟨rfl, K0⟩ := hq
  have O_si := IsSI.keep K0 O_si (ninS ne_si_mp nin0)
  have KP := Keep.trans KP K0 (allS (Or.inr osz_mp) all0)
  have OLD := Old.keep OLD K0 (allS old_mp all0)
  have Z0 := Nat.le_trans Z0 K0.1
  show WP κ h16 2 25 (mkF κ.m 12 #[.val (.ref si), .val (.ref fn)] [(.ref mp), (.ref si)])
  refine WP.putF K (w_70 hw) Via.refl (IsSI.f_subjects O_si) (IsSI.exa O_si) (Or.inr ⟨(w_71 hw), rfl, rfl⟩) (w_34 hw) (ty := (.object "com/example/weir/weir/engine/IntIntMap")) (by decide) rfl rfl old_si d5_12 (pc' := 15) rfl fun h17 W17 => ?_
  have KP := Keep.wr KP W17 (Or.inl (List.mem_of_getElem? (i := 0) rfl))
  have OLD := Old.wr OLD W17 old_si
  have Z0 := Nat.le_trans Z0 (Nat.le_of_eq W17.size.symm)
  have O_si := IsSI.s_subjects hw W17 O_si
  refine WP.aloadN K d5_15 rfl rfl (pc' := 16) rfl ?_
  refine WP.getS K (w_72 hw) Via.refl (Sta.ext OLD.2 S_nl) d5_16 (pc' := 19) rfl ?_
  refine WP.putF K (w_74 hw) Via.refl (IsSI.f_next O_si) (IsSI.exa O_si) (Or.inl (w_75 hw)) (w_34 hw) (ty := (.array .int)) (by decide) rfl rfl old_si d5_19 (pc' := 22) rfl fun h18 W18 => ?_
  have KP := Keep.wr KP W18 (Or.inl (List.mem_of_getElem? (i := 0) rfl))
  have OLD := Old.wr OLD W18 old_si
  have Z0 := Nat.le_trans Z0 (Nat.le_of_eq W18.size.symm)
  have O_si := IsSI.s_next hw W18 O_si
  refine WP.aloadN K d5_22 rfl rfl (pc' := 23) rfl ?_
  refine WP.aloadN K d5_23 rfl rfl (pc' := 24) rfl ?_
  refine WP.putF K (w_76 hw) Via.refl (IsSI.f_terms O_si) (IsSI.exa O_si) (Or.inr ⟨(w_77 hw), rfl, rfl⟩) (w_34 hw) (ty := (.object "com/example/weir/weir/engine/SubjectIndex$Terms")) (by decide) rfl rfl old_si d5_24 (pc' := 27) rfl fun h19 W19 => ?_
  have KP := Keep.wr KP W19 (Or.inl (List.mem_of_getElem? (i := 0) rfl))
  have OLD := Old.wr OLD W19 old_si
  have Z0 := Nat.le_trans Z0 (Nat.le_of_eq W19.size.symm)
  have O_si := IsSI.s_terms hw W19 O_si
  exact WP.ret0 K d5_27 (by decide) (by decide) ⟨rfl, KP⟩
set_option maxRecDepth 65536 in
set_option maxHeartbeats 40000000 in
theorem rm_tt (w : Bool) (l : Launch) (Z : State) (a0 : Array Value) (hw : ∀ d ∈ tables_1, d.before a0 Z = true) (tb : Addr) (u_terms u_numbers u_index u_ends u_ending u_moves u_earliest : Value) (nl : Addr) (kL : ClassId) (fL : Nat → Value) (h0 : Heap) (n0 : Nat) (Z0 : n0 ≤ h0.size) (O_tb : IsTb Z h0 tb u_terms u_numbers u_index u_ends u_ending u_moves u_earliest) (old_tb : n0 ≤ tb) (S_nl : Sta Z Z.heap "com/example/weir/weir/engine/SubjectIndex" "NO_LINKS" "[I" (.ref nl)) (A_nl : Ary Z Z.heap nl kL .int 0 fL) (OLD : Old Z n0 h0) :
    Met w l Z (⟨"com/example/weir/weir/engine/TripleTable", "<init>", "()V"⟩ : MethodName) prog_51_method_1_code 1 none [] ({ frames := 4, cells := 8, slots := 229, locals := 3076 } : Room) #[(.ref tb)] h0 n0 (fun v h => v = none ∧ Keep h0 h [tb] ∧ ∃ (te nu si : Addr) (kE : ClassId) (f : Nat → Value), h0.size ≤ te ∧ IsTb Z h tb (.ref te) (.ref nu) (.ref si) u_ends u_ending u_moves u_earliest ∧ Ary Z h te kE .int 192 f) := by
  refine Met.ofN (plainFor_of_name (by first | (simp [plainName, overriddenIn]; done) | decide +kernel)) fun κ K hN => ?_
  refine WP.frame (g' := (mkF κ.m 0 #[.val (.ref tb)] [])) (by first | (simp [entryFrame, mkF, argsToLocals, Value.category]; done) | rfl) ?_
  have KP := Keep.refl h0 [tb]
  refine WP.aloadN K d1_0 rfl rfl (pc' := 1) rfl ?_
  refine WP.initO K (w_8 hw) (w_9 hw) (w_10 hw) d1_1 rfl (by decide) (W := 0) rfl (by decide) (pc' := 4) rfl ?_
  refine WP.aloadN K d1_4 rfl rfl (pc' := 5) rfl ?_
  refine WP.sipush K d1_5 (v := (192 : Int32)) rfl (pc' := 8) rfl ?_
  refine WP.newarray (aty := .int) K (w_1 hw) d1_8 (N := 192) (cap := 192) rfl (Nat.le_refl _) (by decide) (k' := 1) (n' := 192) rfl rfl (by decide) (by decide) (pc' := 10) rfl fun h20 te kA_te g20 E20 A_te => ?_
  have ne_nl_te : nl ≠ te := fun z_ => by have q_ : @LT.lt Nat _ nl h0.size := (Ary.lt (Ary.ext OLD.2 A_nl)); have r_ : @Eq Nat nl te := z_; omega
  have ne_tb_te : tb ≠ te := fun z_ => by have q_ : @LT.lt Nat _ tb h0.size := (IsTb.lt O_tb); have r_ : @Eq Nat tb te := z_; omega
  have old_te : n0 ≤ te := by have q_ := Z0; omega
  have osz_te : h0.size ≤ te := by have q_ := KP.1; omega
  have O_tb := IsTb.ext E20 O_tb
  have KP := Keep.ext KP E20
  have OLD := Old.ext OLD E20
  have Z0 := Nat.le_trans Z0 E20.1
  refine WP.putF K (w_11 hw) Via.refl (IsTb.f_terms O_tb) (IsTb.exa O_tb) (Or.inl (w_12 hw)) (w_3 hw) (ty := (.array .int)) (by decide) rfl rfl old_tb d1_10 (pc' := 13) rfl fun h21 W21 => ?_
  have A_te := Ary.other W21 A_te (Ne.symm ne_tb_te)
  have KP := Keep.wr KP W21 (Or.inl (List.mem_of_getElem? (i := 0) rfl))
  have OLD := Old.wr OLD W21 old_tb
  have Z0 := Nat.le_trans Z0 (Nat.le_of_eq W21.size.symm)
  have O_tb := IsTb.s_terms hw W21 O_tb
  refine WP.aloadN K d1_13 rfl rfl (pc' := 14) rfl ?_
  refine WP.new K (w_13 hw) (w_14 hw) (w_15 hw) d1_14 (k' := 2) (n' := 194) rfl rfl (by decide) (by decide) (pc' := 17) rfl fun h22 nu g22 E22 X22 D22 => ?_
  have ne_nl_nu : nl ≠ nu := fun z_ => by have q_ : @LT.lt Nat _ nl h21.size := (Ary.lt (Ary.ext OLD.2 A_nl)); have r_ : @Eq Nat nl nu := z_; omega
  have ne_tb_nu : tb ≠ nu := fun z_ => by have q_ : @LT.lt Nat _ tb h21.size := (IsTb.lt O_tb); have r_ : @Eq Nat tb nu := z_; omega
  have ne_te_nu : te ≠ nu := fun z_ => by have q_ : @LT.lt Nat _ te h21.size := (Ary.lt A_te); have r_ : @Eq Nat te nu := z_; omega
  have old_nu : n0 ≤ nu := by have q_ := Z0; omega
  have osz_nu : h0.size ≤ nu := by have q_ := KP.1; omega
  have O_tb := IsTb.ext E22 O_tb
  have A_te := Ary.ext E22 A_te
  have KP := Keep.ext KP E22
  have OLD := Old.ext OLD E22
  have Z0 := Nat.le_trans Z0 E22.1
  have O_nu : IsNu Z h22 nu .null := ⟨X22, D22 (O := "com/example/weir/weir/engine/Numbers") (f := "free") (d := "Lcom/example/weir/weir/engine/IntList;") (Or.inl (w_30 hw)) (ty := (.object "com/example/weir/weir/engine/IntList")) (by decide)⟩
  refine WP.dup K d1_17 rfl (pc' := 18) rfl ?_
  refine WP.callI K (a := nu) (argsL := []) (S := [(.ref nu), (.ref tb)]) rfl (w_16 hw) (w_17 hw) (rm_nu w l Z a0 hw nu _  h22 n0 Z0 O_nu old_nu) (w_18 hw) (w_15 hw) (by decide) rfl (lenOf pd_0 rfl) rfl (W := 2) rfl (by decide) (by decide) (k' := 4) (n' := 200) rfl rfl (by decide) (by decide) d1_18 (pc' := 21) rfl fun v h23 hq => ?_
  obtain ⟨rfl, K0⟩ := hq
  have O_tb := IsTb.keep K0 O_tb (ninS ne_tb_nu nin0)
  have A_te := Ary.keep K0 A_te (ninS ne_te_nu nin0)
  have KP := Keep.trans KP K0 (allS (Or.inr osz_nu) all0)
  have OLD := Old.keep OLD K0 (allS old_nu all0)
  have Z0 := Nat.le_trans Z0 K0.1
  show WP κ h23 4 200 (mkF κ.m 21 #[.val (.ref tb)] [(.ref nu), (.ref tb)])
  refine WP.putF K (w_31 hw) Via.refl (IsTb.f_numbers O_tb) (IsTb.exa O_tb) (Or.inr ⟨(w_32 hw), rfl, rfl⟩) (w_3 hw) (ty := (.object "com/example/weir/weir/engine/Numbers")) (by decide) rfl rfl old_tb d1_21 (pc' := 24) rfl fun h24 W24 => ?_
  have A_te := Ary.other W24 A_te (Ne.symm ne_tb_te)
  have KP := Keep.wr KP W24 (Or.inl (List.mem_of_getElem? (i := 0) rfl))
  have OLD := Old.wr OLD W24 old_tb
  have Z0 := Nat.le_trans Z0 (Nat.le_of_eq W24.size.symm)
  have O_tb := IsTb.s_numbers hw W24 O_tb
  refine WP.aloadN K d1_24 rfl rfl (pc' := 25) rfl ?_
  refine WP.new K (w_33 hw) (w_34 hw) (w_35 hw) d1_25 (k' := 5) (n' := 203) rfl rfl (by decide) (by decide) (pc' := 28) rfl fun h25 si g25 E25 X25 D25 => ?_
  have ne_nl_si : nl ≠ si := fun z_ => by have q_ : @LT.lt Nat _ nl h24.size := (Ary.lt (Ary.ext OLD.2 A_nl)); have r_ : @Eq Nat nl si := z_; omega
  have ne_tb_si : tb ≠ si := fun z_ => by have q_ : @LT.lt Nat _ tb h24.size := (IsTb.lt O_tb); have r_ : @Eq Nat tb si := z_; omega
  have ne_te_si : te ≠ si := fun z_ => by have q_ : @LT.lt Nat _ te h24.size := (Ary.lt A_te); have r_ : @Eq Nat te si := z_; omega
  have old_si : n0 ≤ si := by have q_ := Z0; omega
  have osz_si : h0.size ≤ si := by have q_ := KP.1; omega
  have O_tb := IsTb.ext E25 O_tb
  have A_te := Ary.ext E25 A_te
  have KP := Keep.ext KP E25
  have OLD := Old.ext OLD E25
  have Z0 := Nat.le_trans Z0 E25.1
  have O_si : IsSI Z h25 si .null .null .null := ⟨X25, D25 (O := "com/example/weir/weir/engine/SubjectIndex") (f := "subjects") (d := "Lcom/example/weir/weir/engine/IntIntMap;") (Or.inr (w_71 hw)) (ty := (.object "com/example/weir/weir/engine/IntIntMap")) (by decide), D25 (O := "com/example/weir/weir/engine/SubjectIndex") (f := "next") (d := "[I") (Or.inl (w_75 hw)) (ty := (.array .int)) (by decide), D25 (O := "com/example/weir/weir/engine/SubjectIndex") (f := "terms") (d := "Lcom/example/weir/weir/engine/SubjectIndex$Terms;") (Or.inr (w_77 hw)) (ty := (.object "com/example/weir/weir/engine/SubjectIndex$Terms")) (by decide)⟩
  refine WP.dup K d1_28 rfl (pc' := 29) rfl ?_
  refine WP.aloadN K d1_29 rfl rfl (pc' := 30) rfl ?_
  refine WP.lambda1 K (σ := own_shape) hN (w_36 hw) (w_39 hw) rfl own_shape_lays d1_30 rfl (W := 3) rfl (by decide) (k' := 6) (n' := 204) rfl rfl (by decide) (by decide) (pc' := 35) rfl fun h26 fn g26 E26 F_fn => ?_
  have ne_nl_fn : nl ≠ fn := fun z_ => by have q_ : @LT.lt Nat _ nl h25.size := (Ary.lt (Ary.ext OLD.2 A_nl)); have r_ : @Eq Nat nl fn := z_; omega
  have ne_tb_fn : tb ≠ fn := fun z_ => by have q_ : @LT.lt Nat _ tb h25.size := (IsTb.lt O_tb); have r_ : @Eq Nat tb fn := z_; omega
  have ne_te_fn : te ≠ fn := fun z_ => by have q_ : @LT.lt Nat _ te h25.size := (Ary.lt A_te); have r_ : @Eq Nat te fn := z_; omega
  have ne_si_fn : si ≠ fn := fun z_ => by have q_ : @LT.lt Nat _ si h25.size := (IsSI.lt O_si); have r_ : @Eq Nat si fn := z_; omega
  have old_fn : n0 ≤ fn := by have q_ := Z0; omega
  have osz_fn : h0.size ≤ fn := by have q_ := KP.1; omega
  have O_tb := IsTb.ext E26 O_tb
  have A_te := Ary.ext E26 A_te
  have O_si := IsSI.ext E26 O_si
  have KP := Keep.ext KP E26
  have OLD := Old.ext OLD E26
  have Z0 := Nat.le_trans Z0 E26.1
  refine WP.callI K (a := si) (argsL := [(.ref fn)]) (S := [(.ref si), (.ref tb)]) rfl (w_40 hw) (w_41 hw) (rm_si w l Z a0 hw si _ _ _ fn nl kL fL h26 n0 Z0 O_si old_si S_nl A_nl OLD) (w_42 hw) (w_35 hw) (by decide) rfl (lenOf pd_3 rfl) rfl (W := 2) rfl (by decide) (by decide) (k' := 8) (n' := 229) rfl rfl (by decide) (by decide) d1_35 (pc' := 38) rfl fun v h27 hq => ?_
  obtain ⟨rfl, K0⟩ := hq
  have O_tb := IsTb.keep K0 O_tb (ninS ne_tb_si nin0)
  have A_te := Ary.keep K0 A_te (ninS ne_te_si nin0)
  have KP := Keep.trans KP K0 (allS (Or.inr osz_si) all0)
  have OLD := Old.keep OLD K0 (allS old_si all0)
  have Z0 := Nat.le_trans Z0 K0.1
  show WP κ h27 8 229 (mkF κ.m 38 #[.val (.ref tb)] [(.ref si), (.ref tb)])
  refine WP.putF K (w_78 hw) Via.refl (IsTb.f_index O_tb) (IsTb.exa O_tb) (Or.inl (w_79 hw)) (w_3 hw) (ty := (.object "com/example/weir/weir/engine/SubjectIndex")) (by decide) rfl rfl old_tb d1_38 (pc' := 41) rfl fun h28 W28 => ?_
  have A_te := Ary.other W28 A_te (Ne.symm ne_tb_te)
  have KP := Keep.wr KP W28 (Or.inl (List.mem_of_getElem? (i := 0) rfl))
  have OLD := Old.wr OLD W28 old_tb
  have Z0 := Nat.le_trans Z0 (Nat.le_of_eq W28.size.symm)
  have O_tb := IsTb.s_index hw W28 O_tb
  exact WP.ret0 K d1_41 (by decide) (by decide) ⟨rfl, KP, te, nu, si, kA_te, _, osz_te, O_tb, A_te⟩
/-- a TripleTable of 64 places without moves: D i is the end of i; its parts lie from A up to B -/
def IsTT (Z : State) (h : Heap) (A B : Nat) (tb : Addr) (D : Nat → Int64) : Prop := @LE.le Nat _ A tb ∧ @LT.lt Nat _ tb B ∧ ∃ (te : Addr) (kT : ClassId) (f : Nat → Value) (en u_numbers u_index : Value) (ec es : Int32), @LT.lt Nat _ te B ∧ IsTb Z h tb (.ref te) u_numbers u_index en (.int ec) .null (.int es) ∧ Ary Z h te kT .int 192 f ∧ ((en = .null ∧ ∀ i, i < 64 → D i = (9223372036854775807 : Int64)) ∨ ∃ (ea : Addr) (kD : ClassId), @LE.le Nat _ A ea ∧ @LT.lt Nat _ ea B ∧ en = .ref ea ∧ Ary Z h ea kD .long 64 (fun j => .long (D j)))
theorem IsTT.exa {Z : State} {h : Heap} {A B : Nat} {tb : Addr} {D : Nat → Int64} (T : IsTT Z h A B tb D) : Exa Z h tb "com/example/weir/weir/engine/TripleTable" := by
  obtain ⟨a1, a2, te, kT, f, en, u1, u2, ec, es, a3, O, At, C⟩ := T
  exact IsTb.exa O
theorem IsTT.lt {Z : State} {h : Heap} {A B : Nat} {tb : Addr} {D : Nat → Int64} (T : IsTT Z h A B tb D) : tb < h.size := (IsTT.exa T).lt
theorem IsTT.ext {Z : State} {h h' : Heap} {A B : Nat} {tb : Addr} {D : Nat → Int64} (Ex : Ext h h') (T : IsTT Z h A B tb D) : IsTT Z h' A B tb D := by
  obtain ⟨a1, a2, te, kT, f, en, u1, u2, ec, es, a3, O, At, C⟩ := T
  exact ⟨a1, a2, te, kT, f, en, u1, u2, ec, es, a3, IsTb.ext Ex O, Ary.ext Ex At, C.imp id fun ⟨ea, kD, b1, b2, b3, Ae⟩ => ⟨ea, kD, b1, b2, b3, Ary.ext Ex Ae⟩⟩
theorem IsTT.keep {Z : State} {h h' : Heap} {A B : Nat} {tb : Addr} {D : Nat → Int64} {ws : List Addr} (K : Keep h h' ws) (T : IsTT Z h A B tb D) (q : ∀ y ∈ ws, @LE.le Nat _ B y) : IsTT Z h' A B tb D := by
  obtain ⟨a1, a2, te, kT, f, en, u1, u2, ec, es, a3, O, At, C⟩ := T
  have nm : ∀ x : Addr, @LT.lt Nat _ x B → x ∉ ws := fun x hx hm => absurd (q x hm) (Nat.not_le_of_lt hx)
  exact ⟨a1, a2, te, kT, f, en, u1, u2, ec, es, a3, IsTb.keep K O (nm _ a2), Ary.keep K At (nm _ a3), C.imp id fun ⟨ea, kD, b1, b2, b3, Ae⟩ => ⟨ea, kD, b1, b2, b3, Ary.keep K Ae (nm _ b2)⟩⟩
theorem IsTT.wr {Z : State} {h h' : Heap} {A B : Nat} {tb : Addr} {D : Nat → Int64} {b : Addr} {sl : Nat} {v : Value} (W : Wr h h' b sl v) (T : IsTT Z h A B tb D) (q : @LE.le Nat _ B b) : IsTT Z h' A B tb D := by
  obtain ⟨a1, a2, te, kT, f, en, u1, u2, ec, es, a3, O, At, C⟩ := T
  have nm : ∀ x : Addr, @LT.lt Nat _ x B → x ≠ b := fun x hx hm => absurd (hm ▸ q : @LE.le Nat _ B x) (Nat.not_le_of_lt hx)
  exact ⟨a1, a2, te, kT, f, en, u1, u2, ec, es, a3, IsTb.other W O (nm _ a2), Ary.other W At (nm _ a3), C.imp id fun ⟨ea, kD, b1, b2, b3, Ae⟩ => ⟨ea, kD, b1, b2, b3, Ary.other W Ae (nm _ b2)⟩⟩
set_option maxRecDepth 65536 in
set_option maxHeartbeats 40000000 in
theorem rm_fillJ (w : Bool) (l : Launch) (Z : State) (a0 : Array Value) (hw : ∀ d ∈ tables_1, d.before a0 Z = true) (a : Addr) (kA : ClassId) (N : Nat) (F : Nat → Int64) (z : Int64) (h0 : Heap) (n0 : Nat) (Z0 : n0 ≤ h0.size) (A_a : Ary Z h0 a kA .long N (fun j => .long (F j))) (old_a : n0 ≤ a) :
    Met w l Z (⟨"java/util/Arrays", "fill", "([JJ)V"⟩ : MethodName) jdk_65_method_101_code 5 none [] ({ frames := 0, cells := 0, slots := 0, locals := 0 } : Room) #[(.ref a), (.long z)] h0 n0 (fun v h => v = none ∧ Keep h0 h [a] ∧ Ary Z h a kA .long N (fun j => .long (own_lfill F N z j))) := by
  refine Met.of (plainFor_of_name (by first | (simp [plainName, overriddenIn]; done) | decide +kernel)) fun κ K => ?_
  refine WP.frame (g' := (mkF κ.m 0 #[.val (.ref a), .val (.long z), .second, .unset, .unset] [])) (by first | (simp [entryFrame, mkF, argsToLocals, Value.category]; done) | rfl) ?_
  have KP := Keep.refl h0 [a]
  have hN := A_a.len
  have eN : (Int32.ofNat N).toInt = (N : Int) := Int32.toInt_ofNat_small hN
  refine WP.iconst K d14_0 (v := (0 : Int32)) rfl (pc' := 1) rfl ?_
  refine WP.istoreN K d14_1 (L' := #[.val (.ref a), .val (.long z), .second, .val (.int (0 : Int32)), .unset]) rfl (pc' := 2) rfl ?_
  refine WP.aloadN K d14_2 rfl rfl (pc' := 3) rfl ?_
  refine WP.arraylength K A_a d14_3 (pc' := 4) rfl ?_
  refine WP.istore K d14_4 (L' := #[.val (.ref a), .val (.long z), .second, .val (.int (0 : Int32)), .val (.int (Int32.ofNat N))]) rfl (pc' := 6) rfl ?_
  have LOOP : ∀ (d k : Nat) (c : Int32) (h : Heap), k + d = N → c.toInt = (k : Int) → Ary Z h a kA .long N (fun j => .long (own_lfill F k z j)) → Keep h0 h [a] → n0 ≤ h.size → WP κ h 0 0 (mkF κ.m 6 #[.val (.ref a), .val (.long z), .second, .val (.int c), .val (.int (Int32.ofNat N))] []) := by
    intro d
    induction d with
    | zero =>
      intro k c h hkd hc A_a KP Z0
      have e : N = k := by omega
      subst e
      refine WP.iloadN K d14_6 rfl (pc' := 7) rfl ?_
      refine WP.iload K d14_7 rfl (pc' := 9) rfl ?_
      have q : ¬ (c < (Int32.ofNat N)) := by rw [Int32.lt_iff_toInt_lt]; omega
      refine WP.icmpT K d14_9 (flt q).2.1 (by decide) (pc' := 22) (by decide) ?_
      exact WP.ret0 K d14_22 (by decide) (by decide) ⟨rfl, KP, A_a⟩
    | succ d ih =>
      intro k c h hkd hc A_a KP Z0
      refine WP.iloadN K d14_6 rfl (pc' := 7) rfl ?_
      refine WP.iload K d14_7 rfl (pc' := 9) rfl ?_
      have q : c < (Int32.ofNat N) := by rw [Int32.lt_iff_toInt_lt]; omega
      refine WP.icmpF K d14_9 (tlt q).2.1 (pc' := 12) rfl ?_
      refine WP.aloadN K d14_12 rfl rfl (pc' := 13) rfl ?_
      refine WP.iloadN K d14_13 rfl (pc' := 14) rfl ?_
      refine WP.lloadN K d14_14 rfl (pc' := 15) rfl ?_
      refine WP.lastore K (i := k) A_a hc (by omega) old_a d14_15 (pc' := 16) rfl fun h29 W29 A_n => ?_
      have KP := Keep.wr KP W29 (Or.inl (List.mem_of_getElem? (i := 0) rfl))
      have Z0 := Nat.le_trans Z0 (Nat.le_of_eq W29.size.symm)
      have A_a := A_n
      rw [upd_long] at A_a
      refine WP.iinc K d14_16 (v := (1 : Int32)) rfl rfl (L' := #[.val (.ref a), .val (.long z), .second, .val (.int (c + (1 : Int32))), .val (.int (Int32.ofNat N))]) rfl (pc' := 19) rfl ?_
      refine WP.goto K d14_19 (by decide) (pc' := 6) (by decide) ?_
      exact ih (k + 1) _ _ (by omega) (own_add2 hc (y := (1 : Int32)) (k := 1) rfl (by omega)) (by rw [← own_lfill_step]; exact A_a) KP Z0
  exact LOOP N 0 (0 : Int32) h0 (by omega) rfl (by rw [own_lfill_0]; exact A_a) KP Z0
set_option maxRecDepth 65536 in
set_option maxHeartbeats 40000000 in
theorem rm_cap (w : Bool) (l : Launch) (Z : State) (a0 : Array Value) (hw : ∀ d ∈ tables_1, d.before a0 Z = true) (tb te : Addr) (kT : ClassId) (f_te : Nat → Value) (u_numbers u_index u_ends u_ending u_moves u_earliest : Value) (h0 : Heap) (n0 : Nat) (Z0 : n0 ≤ h0.size) (O_tb : IsTb Z h0 tb (.ref te) u_numbers u_index u_ends u_ending u_moves u_earliest) (A_te : Ary Z h0 te kT .int 192 f_te) :
    Met w l Z (⟨"com/example/weir/weir/engine/TripleTable", "capacity", "()I"⟩ : MethodName) prog_51_method_4_code 1 (some .int) [] ({ frames := 0, cells := 0, slots := 0, locals := 0 } : Room) #[(.ref tb)] h0 n0 (fun v h => v = some (.int (64 : Int32)) ∧ h0 = h) := by
  refine Met.of (plainFor_of_name (by first | (simp [plainName, overriddenIn]; done) | decide +kernel)) fun κ K => ?_
  refine WP.frame (g' := (mkF κ.m 0 #[.val (.ref tb)] [])) (by first | (simp [entryFrame, mkF, argsToLocals, Value.category]; done) | rfl) ?_
  refine WP.aloadN K d13_0 rfl rfl (pc' := 1) rfl ?_
  refine WP.getF K (w_11 hw) Via.refl (IsTb.f_terms O_tb) d13_1 (pc' := 4) rfl ?_
  refine WP.arraylength K A_te d13_4 (pc' := 5) rfl ?_
  show WP κ h0 0 0 (mkF κ.m 5 #[.val (.ref tb)] [(.int (192 : Int32))])
  refine WP.iconst K d13_5 (v := (3 : Int32)) rfl (pc' := 6) rfl ?_
  refine WP.idiv K d13_6 (by decide) (pc' := 7) rfl ?_
  exact WP.retI K d13_7 (by decide) (by decide) ⟨congrArg (fun z => some (Value.int z)) (by decide : (192 : Int32) / (3 : Int32) = (64 : Int32)), rfl⟩
set_option maxRecDepth 65536 in
set_option maxHeartbeats 40000000 in
theorem rm_end (w : Bool) (l : Launch) (Z : State) (a0 : Array Value) (hw : ∀ d ∈ tables_1, d.before a0 Z = true) (tb : Addr) (A B : Nat) (D : Nat → Int64) (x : Int32) (i : Nat) (h0 : Heap) (n0 : Nat) (Z0 : n0 ≤ h0.size) (T_ : IsTT Z h0 A B tb D) (hx : x.toInt = (i : Int)) (hi : i < 64) :
    Met w l Z (⟨"com/example/weir/weir/engine/TripleTable", "end", "(I)J"⟩ : MethodName) prog_51_method_8_code 2 (some .long) [] ({ frames := 0, cells := 0, slots := 0, locals := 0 } : Room) #[(.ref tb), (.int x)] h0 n0 (fun v h => v = some (.long (D i)) ∧ h0 = h) := by
  refine Met.of (plainFor_of_name (by first | (simp [plainName, overriddenIn]; done) | decide +kernel)) fun κ K => ?_
  refine WP.frame (g' := (mkF κ.m 0 #[.val (.ref tb), .val (.int x)] [])) (by first | (simp [entryFrame, mkF, argsToLocals, Value.category]; done) | rfl) ?_
  obtain ⟨a1, a2, te, kT, f_te, en_, u_numbers, u_index, ec, es, a3, O_tb, A_te, C⟩ := T_
  rcases C with ⟨rfl, hD⟩ | ⟨ea, kD, b1, b2, rfl, A_ea⟩
  · refine WP.aloadN K d11_0 rfl rfl (pc' := 1) rfl ?_
    refine WP.getF K (w_94 hw) Via.refl (IsTb.f_ends O_tb) d11_1 (pc' := 4) rfl ?_
    refine WP.ifnonnullF K (b := 0) d11_4 (pc' := 7) rfl ?_
    refine WP.ldc2J K (w_96 hw) d11_7 (pc' := 10) rfl ?_
    refine WP.goto K d11_10 (by decide) (pc' := 19) (by decide) ?_
    exact WP.retJ K d11_19 (by decide) (by decide) ⟨by rw [hD i hi], rfl⟩
  · refine WP.aloadN K d11_0 rfl rfl (pc' := 1) rfl ?_
    refine WP.getF K (w_94 hw) Via.refl (IsTb.f_ends O_tb) d11_1 (pc' := 4) rfl ?_
    refine WP.ifnonnullT K (b := ea) d11_4 (by decide) (pc' := 13) (by decide) ?_
    refine WP.aloadN K d11_13 rfl rfl (pc' := 14) rfl ?_
    refine WP.getF K (w_94 hw) Via.refl (IsTb.f_ends O_tb) d11_14 (pc' := 17) rfl ?_
    refine WP.iloadN K d11_17 rfl (pc' := 18) rfl ?_
    refine WP.laload K (i := i) A_ea hx hi (v := (.long (D i))) rfl d11_18 (pc' := 19) rfl ?_
    exact WP.retJ K d11_19 (by decide) (by decide) ⟨rfl, rfl⟩
set_option maxRecDepth 65536 in
set_option maxHeartbeats 40000000 in
theorem rm_moves (w : Bool) (l : Launch) (Z : State) (a0 : Array Value) (hw : ∀ d ∈ tables_1, d.before a0 Z = true) (tb : Addr) (A B : Nat) (D : Nat → Int64) (x : Int32) (h0 : Heap) (n0 : Nat) (Z0 : n0 ≤ h0.size) (T_ : IsTT Z h0 A B tb D) :
    Met w l Z (⟨"com/example/weir/weir/engine/TripleTable", "moves", "(I)I"⟩ : MethodName) prog_51_method_15_code 2 (some .int) [] ({ frames := 0, cells := 0, slots := 0, locals := 0 } : Room) #[(.ref tb), (.int x)] h0 n0 (fun v h => v = some (.int (0 : Int32)) ∧ h0 = h) := by
  refine Met.of (plainFor_of_name (by first | (simp [plainName, overriddenIn]; done) | decide +kernel)) fun κ K => ?_
  refine WP.frame (g' := (mkF κ.m 0 #[.val (.ref tb), .val (.int x)] [])) (by first | (simp [entryFrame, mkF, argsToLocals, Value.category]; done) | rfl) ?_
  obtain ⟨a1, a2, te, kT, f_te, en_, u_numbers, u_index, ec, es, a3, O_tb, A_te, C⟩ := T_
  refine WP.aloadN K d18_0 rfl rfl (pc' := 1) rfl ?_
  refine WP.getF K (w_147 hw) Via.refl (IsTb.f_moves O_tb) d18_1 (pc' := 4) rfl ?_
  refine WP.ifnonnullF K (b := 0) d18_4 (pc' := 7) rfl ?_
  refine WP.iconst K d18_7 (v := (0 : Int32)) rfl (pc' := 8) rfl ?_
  refine WP.goto K d18_8 (by decide) (pc' := 17) (by decide) ?_
  exact WP.retI K d18_17 (by decide) (by decide) ⟨rfl, rfl⟩
set_option maxRecDepth 65536 in
set_option maxHeartbeats 40000000 in
theorem rm_unc (w : Bool) (l : Launch) (Z : State) (a0 : Array Value) (hw : ∀ d ∈ tables_1, d.before a0 Z = true) (tb : Addr) (A B : Nat) (D : Nat → Int64) (x : Int32) (i : Nat) (h0 : Heap) (n0 : Nat) (Z0 : n0 ≤ h0.size) (T_ : IsTT Z h0 A B tb D) (hx : x.toInt = (i : Int)) (hi : i < 64) (hF : D i = (9223372036854775807 : Int64)) :
    Met w l Z (⟨"com/example/weir/weir/engine/TripleTable", "uncountEnd", "(I)V"⟩ : MethodName) prog_51_method_22_code 4 none [] ({ frames := 1, cells := 0, slots := 0, locals := 13 } : Room) #[(.ref tb), (.int x)] h0 n0 (fun v h => v = none ∧ h0 = h) := by
  refine Met.of (plainFor_of_name (by first | (simp [plainName, overriddenIn]; done) | decide +kernel)) fun κ K => ?_
  refine WP.frame (g' := (mkF κ.m 0 #[.val (.ref tb), .val (.int x), .unset, .unset] [])) (by first | (simp [entryFrame, mkF, argsToLocals, Value.category]; done) | rfl) ?_
  obtain ⟨a1, a2, te, kT, f_te, en_, u_numbers, u_index, ec, es, a3, O_tb, A_te, C⟩ := id T_
  refine WP.aloadN K d10_0 rfl rfl (pc' := 1) rfl ?_
  refine WP.iloadN K d10_1 rfl (pc' := 2) rfl ?_
  refine WP.callV K (a := tb) (argsL := [(.int x)]) (S := []) (w_89 hw) (w_90 hw) (fun vm0 hZ => notFace_of_selects (args := #[]) (mvT (s := κ.s.setVm vm0) hZ (w_92 hw))) (w_92 hw) (w_91 hw) (by decide) (IsTb.exa O_tb) (rm_end w l Z a0 hw tb A B D x i h0 n0 Z0 T_ hx hi) (w_93 hw) (w_4 hw) (by decide) rfl (lenOf pd_4 rfl) rfl (W := 0) rfl (by decide) (by decide) (k' := 0) (n' := 0) rfl rfl (by decide) (by decide) d10_2 (pc' := 5) rfl fun v h30 hq => ?_
  obtain ⟨rfl, rfl⟩ := hq
  show WP κ h0 0 0 (mkF κ.m 5 #[.val (.ref tb), .val (.int x), .unset, .unset] [(.long (D i))])
  refine WP.lstoreN K d10_5 (L' := #[.val (.ref tb), .val (.int x), .val (.long (D i)), .second]) rfl (pc' := 6) rfl ?_
  refine WP.lloadN K d10_6 rfl (pc' := 7) rfl ?_
  refine WP.ldc2J K (w_96 hw) d10_7 (pc' := 10) rfl ?_
  refine WP.lcmp K d10_10 (pc' := 11) rfl ?_
  refine WP.if0T K d10_11 ((if0 _ _).trans (teq ((lw_eq _ _).mpr hF)).1) (by decide) (pc' := 24) (by decide) ?_
  refine WP.lloadN K d10_24 rfl (pc' := 25) rfl ?_
  refine WP.ldc2J K (w_97 hw) d10_25 (pc' := 28) rfl ?_
  refine WP.lcmp K d10_28 (pc' := 29) rfl ?_
  have hE : ¬ (D i) = (-9223372036854775807 : Int64) := by rw [hF]; decide
  refine WP.if0T K d10_29 ((if0 _ _).trans (feq (fun q => hE ((lw_eq _ _).mp q))).2) (by decide) (pc' := 42) (by decide) ?_
  exact WP.ret0 K d10_42 (by decide) (by decide) ⟨rfl, rfl⟩
set_option maxRecDepth 65536 in
set_option maxHeartbeats 40000000 in
theorem rm_put (w : Bool) (l : Launch) (Z : State) (a0 : Array Value) (hw : ∀ d ∈ tables_1, d.before a0 Z = true) (tb : Addr) (A B : Nat) (D : Nat → Int64) (x : Int32) (i : Nat) (vv : Int64) (h0 : Heap) (n0 : Nat) (Z0 : n0 ≤ h0.size) (T_ : IsTT Z h0 A B tb D) (hx : x.toInt = (i : Int)) (hi : i < 64) (hv : ¬ vv = (9223372036854775807 : Int64)) (old_A : n0 ≤ A) :
    Met w l Z (⟨"com/example/weir/weir/engine/TripleTable", "putEnd", "(IJ)V"⟩ : MethodName) prog_51_method_23_code 4 none [] ({ frames := 1, cells := 1, slots := 64, locals := 16 } : Room) #[(.ref tb), (.int x), (.long vv)] h0 n0 (fun v h => v = none ∧ IsTT Z h A h.size tb (fset D i vv) ∧ ∃ ws : List Addr, Keep h0 h ws ∧ ∀ y ∈ ws, @LE.le Nat _ A y) := by
  refine Met.of (plainFor_of_name (by first | (simp [plainName, overriddenIn]; done) | decide +kernel)) fun κ K => ?_
  refine WP.frame (g' := (mkF κ.m 0 #[.val (.ref tb), .val (.int x), .val (.long vv), .second] [])) (by first | (simp [entryFrame, mkF, argsToLocals, Value.category]; done) | rfl) ?_
  obtain ⟨a1, a2, te, kT, f_te, en_, u_numbers, u_index, ec, es, a3, O_tb, A_te, C⟩ := T_
  have old_tb : n0 ≤ tb := Nat.le_trans old_A a1
  have z_tb : @LT.lt Nat _ tb h0.size := IsTb.lt O_tb
  rcases C with ⟨rfl, hD⟩ | ⟨ea, kD, b1, b2, rfl, A_ea⟩
  · have KP := Keep.refl h0 [tb]
    refine WP.lloadN K d12_0 rfl (pc' := 1) rfl ?_
    refine WP.ldc2J K (w_96 hw) d12_1 (pc' := 4) rfl ?_
    refine WP.lcmp K d12_4 (pc' := 5) rfl ?_
    refine WP.if0T K d12_5 ((if0 _ _).trans (feq (fun q => hv ((lw_eq _ _).mp q))).2) (by decide) (pc' := 25) (by decide) ?_
    refine WP.aloadN K d12_25 rfl rfl (pc' := 26) rfl ?_
    refine WP.getF K (w_94 hw) Via.refl (IsTb.f_ends O_tb) d12_26 (pc' := 29) rfl ?_
    refine WP.ifnonnullF K (b := 0) d12_29 (pc' := 32) rfl ?_
    refine WP.aloadN K d12_32 rfl rfl (pc' := 33) rfl ?_
    refine WP.aloadN K d12_33 rfl rfl (pc' := 34) rfl ?_
    refine WP.callV K (a := tb) (argsL := []) (S := [(.ref tb)]) (w_102 hw) (w_103 hw) (fun vm0 hZ => notFace_of_selects (args := #[]) (mvT (s := κ.s.setVm vm0) hZ (w_105 hw))) (w_105 hw) (w_104 hw) (by decide) (IsTb.exa O_tb) (rm_cap w l Z a0 hw tb te kT f_te _ _ _ _ _ _ h0 n0 Z0 O_tb A_te) (w_106 hw) (w_4 hw) (by decide) rfl (lenOf pd_5 rfl) rfl (W := 1) rfl (by decide) (by decide) (k' := 0) (n' := 0) rfl rfl (by decide) (by decide) d12_34 (pc' := 37) rfl fun v h31 hq => ?_
    obtain ⟨rfl, rfl⟩ := hq
    show WP κ h0 0 0 (mkF κ.m 37 #[.val (.ref tb), .val (.int x), .val (.long vv), .second] [(.int (64 : Int32)), (.ref tb)])
    refine WP.newarray (aty := .long) K (w_107 hw) d12_37 (N := 64) (cap := 64) rfl (Nat.le_refl _) (by decide) (k' := 1) (n' := 64) rfl rfl (by decide) (by decide) (pc' := 39) rfl fun h32 ea kA_ea g32 E32 A_ea => ?_
    have ne_tb_ea : tb ≠ ea := fun z_ => by have q_ : @LT.lt Nat _ tb h0.size := (IsTb.lt O_tb); have r_ : @Eq Nat tb ea := z_; omega
    have ne_te_ea : te ≠ ea := fun z_ => by have q_ : @LT.lt Nat _ te h0.size := (Ary.lt A_te); have r_ : @Eq Nat te ea := z_; omega
    have old_ea : n0 ≤ ea := by have q_ := Z0; omega
    have osz_ea : h0.size ≤ ea := by have q_ := KP.1; omega
    have O_tb := IsTb.ext E32 O_tb
    have A_te := Ary.ext E32 A_te
    have KP := Keep.ext KP E32
    have Z0 := Nat.le_trans Z0 E32.1
    have A_ea : Ary Z h32 ea kA_ea .long 64 (fun j => .long ((fun _ => (0 : Int64)) j)) := A_ea
    refine WP.putF K (w_94 hw) Via.refl (IsTb.f_ends O_tb) (IsTb.exa O_tb) (Or.inl (w_95 hw)) (w_3 hw) (ty := (.array .long)) (by decide) rfl rfl old_tb d12_39 (pc' := 42) rfl fun h33 W33 => ?_
    have A_te := Ary.other W33 A_te (Ne.symm (Ary.ne (IsTb.exa O_tb) A_te (w_3 hw)))
    have A_ea := Ary.other W33 A_ea (Ne.symm ne_tb_ea)
    have KP := Keep.wr KP W33 (Or.inl (List.mem_of_getElem? (i := 0) rfl))
    have Z0 := Nat.le_trans Z0 (Nat.le_of_eq W33.size.symm)
    have O_tb := IsTb.s_ends hw W33 O_tb
    refine WP.aloadN K d12_42 rfl rfl (pc' := 43) rfl ?_
    refine WP.getF K (w_94 hw) Via.refl (IsTb.f_ends O_tb) d12_43 (pc' := 46) rfl ?_
    refine WP.ldc2J K (w_96 hw) d12_46 (pc' := 49) rfl ?_
    refine WP.callS K (argsL := [(.ref ea), (.long (9223372036854775807 : Int64))]) (S := []) (w_108 hw) (w_109 hw) (rm_fillJ w l Z a0 hw ea kA_ea 64 (fun _ => (0 : Int64)) (9223372036854775807 : Int64) h33 n0 Z0 A_ea old_ea) (w_111 hw) (w_110 hw) (by decide) rfl (lenOf pd_6 rfl) rfl (W := 0) rfl (by decide) (by decide) (k' := 1) (n' := 64) rfl rfl (by decide) (by decide) d12_49 (pc' := 52) rfl fun v h34 hq => ?_
    obtain ⟨rfl, K1, A_ea⟩ := hq
    have O_tb := IsTb.keep K1 O_tb (ninS ne_tb_ea nin0)
    have A_te := Ary.keep K1 A_te (ninS ne_te_ea nin0)
    have KP := Keep.trans KP K1 (allS (Or.inr osz_ea) all0)
    have Z0 := Nat.le_trans Z0 K1.1
    show WP κ h34 1 64 (mkF κ.m 52 #[.val (.ref tb), .val (.int x), .val (.long vv), .second] [])
    refine WP.aloadN K d12_52 rfl rfl (pc' := 53) rfl ?_
    refine WP.getF K (w_94 hw) Via.refl (IsTb.f_ends O_tb) d12_53 (pc' := 56) rfl ?_
    refine WP.iloadN K d12_56 rfl (pc' := 57) rfl ?_
    refine WP.lloadN K d12_57 rfl (pc' := 58) rfl ?_
    refine WP.lastore K (i := i) A_ea hx hi old_ea d12_58 (pc' := 59) rfl fun h35 W35 A_n => ?_
    have O_tb := IsTb.other W35 O_tb ne_tb_ea
    have A_te := Ary.other W35 A_te ne_te_ea
    have KP := Keep.wr KP W35 (Or.inr osz_ea)
    have Z0 := Nat.le_trans Z0 (Nat.le_of_eq W35.size.symm)
    have A_ea := A_n
    rw [upd_long] at A_ea
    refine WP.aloadN K d12_59 rfl rfl (pc' := 60) rfl ?_
    refine WP.dup K d12_60 rfl (pc' := 61) rfl ?_
    refine WP.getF K (w_112 hw) Via.refl (IsTb.f_ending O_tb) d12_61 (pc' := 64) rfl ?_
    refine WP.iconst K d12_64 (v := (1 : Int32)) rfl (pc' := 65) rfl ?_
    refine WP.iadd K d12_65 (pc' := 66) rfl ?_
    refine WP.putF K (w_112 hw) Via.refl (IsTb.f_ending O_tb) (IsTb.exa O_tb) (Or.inl (w_113 hw)) (w_3 hw) (ty := .int) (by decide) rfl rfl old_tb d12_66 (pc' := 69) rfl fun h36 W36 => ?_
    have A_te := Ary.other W36 A_te (Ne.symm (Ary.ne (IsTb.exa O_tb) A_te (w_3 hw)))
    have A_ea := Ary.other W36 A_ea (Ne.symm ne_tb_ea)
    have KP := Keep.wr KP W36 (Or.inl (List.mem_of_getElem? (i := 0) rfl))
    have Z0 := Nat.le_trans Z0 (Nat.le_of_eq W36.size.symm)
    have O_tb := IsTb.s_ending hw W36 O_tb
    refine WP.lloadN K d12_69 rfl (pc' := 70) rfl ?_
    refine WP.ldc2J K (w_97 hw) d12_70 (pc' := 73) rfl ?_
    refine WP.lcmp K d12_73 (pc' := 74) rfl ?_
    by_cases cE : vv = (-9223372036854775807 : Int64)
    · refine WP.if0F K d12_74 ((if0 _ _).trans (teq ((lw_eq _ _).mpr cE)).2) (pc' := 77) rfl ?_
      refine WP.aloadN K d12_77 rfl rfl (pc' := 78) rfl ?_
      refine WP.dup K d12_78 rfl (pc' := 79) rfl ?_
      refine WP.getF K (w_174 hw) Via.refl (IsTb.f_earliest O_tb) d12_79 (pc' := 82) rfl ?_
      refine WP.iconst K d12_82 (v := (1 : Int32)) rfl (pc' := 83) rfl ?_
      refine WP.iadd K d12_83 (pc' := 84) rfl ?_
      refine WP.putF K (w_174 hw) Via.refl (IsTb.f_earliest O_tb) (IsTb.exa O_tb) (Or.inl (w_175 hw)) (w_3 hw) (ty := .int) (by decide) rfl rfl old_tb d12_84 (pc' := 87) rfl fun h37 W37 => ?_
      have A_te := Ary.other W37 A_te (Ne.symm (Ary.ne (IsTb.exa O_tb) A_te (w_3 hw)))
      have A_ea := Ary.other W37 A_ea (Ne.symm ne_tb_ea)
      have KP := Keep.wr KP W37 (Or.inl (List.mem_of_getElem? (i := 0) rfl))
      have Z0 := Nat.le_trans Z0 (Nat.le_of_eq W37.size.symm)
      have O_tb := IsTb.s_earliest hw W37 O_tb
      have A_e2 := Ary.congr A_ea (f' := fun j => .long (fset D i vv j)) (fun j hj => congrArg Value.long (own_fsl hD hj))
      exact WP.ret0 K d12_87 (by decide) (by decide) ⟨rfl, ⟨a1, IsTb.lt O_tb, te, kT, f_te, .ref ea, u_numbers, u_index, (ec + (1 : Int32)), (es + (1 : Int32)), Ary.lt A_te, O_tb, A_te, Or.inr ⟨ea, kA_ea, by omega, Ary.lt A_ea, rfl, A_e2⟩⟩, [tb], KP, allS a1 all0⟩
    · refine WP.if0T K d12_74 ((if0 _ _).trans (feq (fun q => cE ((lw_eq _ _).mp q))).2) (by decide) (pc' := 87) (by decide) ?_
      have A_e2 := Ary.congr A_ea (f' := fun j => .long (fset D i vv j)) (fun j hj => congrArg Value.long (own_fsl hD hj))
      exact WP.ret0 K d12_87 (by decide) (by decide) ⟨rfl, ⟨a1, IsTb.lt O_tb, te, kT, f_te, .ref ea, u_numbers, u_index, (ec + (1 : Int32)), es, Ary.lt A_te, O_tb, A_te, Or.inr ⟨ea, kA_ea, by omega, Ary.lt A_ea, rfl, A_e2⟩⟩, [tb], KP, allS a1 all0⟩
  · have old_ea : n0 ≤ ea := Nat.le_trans old_A b1
    have KP := Keep.refl h0 [tb, ea]
    have ne_te_ea : te ≠ ea := fun z_ => by subst z_; exact own_iJ A_te A_ea
    refine WP.lloadN K d12_0 rfl (pc' := 1) rfl ?_
    refine WP.ldc2J K (w_96 hw) d12_1 (pc' := 4) rfl ?_
    refine WP.lcmp K d12_4 (pc' := 5) rfl ?_
    refine WP.if0T K d12_5 ((if0 _ _).trans (feq (fun q => hv ((lw_eq _ _).mp q))).2) (by decide) (pc' := 25) (by decide) ?_
    refine WP.aloadN K d12_25 rfl rfl (pc' := 26) rfl ?_
    refine WP.getF K (w_94 hw) Via.refl (IsTb.f_ends O_tb) d12_26 (pc' := 29) rfl ?_
    refine WP.ifnonnullT K (b := ea) d12_29 (by decide) (pc' := 52) (by decide) ?_
    refine WP.aloadN K d12_52 rfl rfl (pc' := 53) rfl ?_
    refine WP.getF K (w_94 hw) Via.refl (IsTb.f_ends O_tb) d12_53 (pc' := 56) rfl ?_
    refine WP.iloadN K d12_56 rfl (pc' := 57) rfl ?_
    refine WP.lloadN K d12_57 rfl (pc' := 58) rfl ?_
    refine WP.lastore K (i := i) A_ea hx hi old_ea d12_58 (pc' := 59) rfl fun h38 W38 A_n => ?_
    have O_tb := IsTb.other W38 O_tb (Ary.ne (IsTb.exa O_tb) A_ea (w_3 hw))
    have A_te := Ary.other W38 A_te ne_te_ea
    have KP := Keep.wr KP W38 (Or.inl (List.mem_of_getElem? (i := 1) rfl))
    have Z0 := Nat.le_trans Z0 (Nat.le_of_eq W38.size.symm)
    have A_ea := A_n
    rw [upd_long] at A_ea
    refine WP.aloadN K d12_59 rfl rfl (pc' := 60) rfl ?_
    refine WP.dup K d12_60 rfl (pc' := 61) rfl ?_
    refine WP.getF K (w_112 hw) Via.refl (IsTb.f_ending O_tb) d12_61 (pc' := 64) rfl ?_
    refine WP.iconst K d12_64 (v := (1 : Int32)) rfl (pc' := 65) rfl ?_
    refine WP.iadd K d12_65 (pc' := 66) rfl ?_
    refine WP.putF K (w_112 hw) Via.refl (IsTb.f_ending O_tb) (IsTb.exa O_tb) (Or.inl (w_113 hw)) (w_3 hw) (ty := .int) (by decide) rfl rfl old_tb d12_66 (pc' := 69) rfl fun h39 W39 => ?_
    have A_te := Ary.other W39 A_te (Ne.symm (Ary.ne (IsTb.exa O_tb) A_te (w_3 hw)))
    have A_ea := Ary.other W39 A_ea (Ne.symm (Ary.ne (IsTb.exa O_tb) A_ea (w_3 hw)))
    have KP := Keep.wr KP W39 (Or.inl (List.mem_of_getElem? (i := 0) rfl))
    have Z0 := Nat.le_trans Z0 (Nat.le_of_eq W39.size.symm)
    have O_tb := IsTb.s_ending hw W39 O_tb
    refine WP.lloadN K d12_69 rfl (pc' := 70) rfl ?_
    refine WP.ldc2J K (w_97 hw) d12_70 (pc' := 73) rfl ?_
    refine WP.lcmp K d12_73 (pc' := 74) rfl ?_
    by_cases cE : vv = (-9223372036854775807 : Int64)
    · refine WP.if0F K d12_74 ((if0 _ _).trans (teq ((lw_eq _ _).mpr cE)).2) (pc' := 77) rfl ?_
      refine WP.aloadN K d12_77 rfl rfl (pc' := 78) rfl ?_
      refine WP.dup K d12_78 rfl (pc' := 79) rfl ?_
      refine WP.getF K (w_174 hw) Via.refl (IsTb.f_earliest O_tb) d12_79 (pc' := 82) rfl ?_
      refine WP.iconst K d12_82 (v := (1 : Int32)) rfl (pc' := 83) rfl ?_
      refine WP.iadd K d12_83 (pc' := 84) rfl ?_
      refine WP.putF K (w_174 hw) Via.refl (IsTb.f_earliest O_tb) (IsTb.exa O_tb) (Or.inl (w_175 hw)) (w_3 hw) (ty := .int) (by decide) rfl rfl old_tb d12_84 (pc' := 87) rfl fun h40 W40 => ?_
      have A_te := Ary.other W40 A_te (Ne.symm (Ary.ne (IsTb.exa O_tb) A_te (w_3 hw)))
      have A_ea := Ary.other W40 A_ea (Ne.symm (Ary.ne (IsTb.exa O_tb) A_ea (w_3 hw)))
      have KP := Keep.wr KP W40 (Or.inl (List.mem_of_getElem? (i := 0) rfl))
      have Z0 := Nat.le_trans Z0 (Nat.le_of_eq W40.size.symm)
      have O_tb := IsTb.s_earliest hw W40 O_tb
      have A_e2 := A_ea
      exact WP.ret0 K d12_87 (by decide) (by decide) ⟨rfl, ⟨a1, IsTb.lt O_tb, te, kT, f_te, .ref ea, u_numbers, u_index, (ec + (1 : Int32)), (es + (1 : Int32)), Ary.lt A_te, O_tb, A_te, Or.inr ⟨ea, kD, b1, Ary.lt A_ea, rfl, A_e2⟩⟩, [tb, ea], KP, allS a1 (allS b1 all0)⟩
    · refine WP.if0T K d12_74 ((if0 _ _).trans (feq (fun q => cE ((lw_eq _ _).mp q))).2) (by decide) (pc' := 87) (by decide) ?_
      have A_e2 := A_ea
      exact WP.ret0 K d12_87 (by decide) (by decide) ⟨rfl, ⟨a1, IsTb.lt O_tb, te, kT, f_te, .ref ea, u_numbers, u_index, (ec + (1 : Int32)), es, Ary.lt A_te, O_tb, A_te, Or.inr ⟨ea, kD, b1, Ary.lt A_ea, rfl, A_e2⟩⟩, [tb, ea], KP, allS a1 (allS b1 all0)⟩
set_option maxRecDepth 65536 in
set_option maxHeartbeats 40000000 in
theorem rm_set (w : Bool) (l : Launch) (Z : State) (a0 : Array Value) (hw : ∀ d ∈ tables_1, d.before a0 Z = true) (tb : Addr) (A B : Nat) (D : Nat → Int64) (x : Int32) (i : Nat) (vv : Int64) (h0 : Heap) (n0 : Nat) (Z0 : n0 ≤ h0.size) (T_ : IsTT Z h0 A B tb D) (hx : x.toInt = (i : Int)) (hi : i < 64) (hF : D i = (9223372036854775807 : Int64)) (hv : ¬ vv = (9223372036854775807 : Int64)) (old_A : n0 ≤ A) :
    Met w l Z (⟨"com/example/weir/weir/engine/TripleTable", "setEnd", "(IJ)V"⟩ : MethodName) prog_51_method_9_code 4 none [] ({ frames := 2, cells := 1, slots := 64, locals := 31 } : Room) #[(.ref tb), (.int x), (.long vv)] h0 n0 (fun v h => v = none ∧ IsTT Z h A h.size tb (fset D i vv) ∧ ∃ ws : List Addr, Keep h0 h ws ∧ ∀ y ∈ ws, @LE.le Nat _ A y) := by
  refine Met.of (plainFor_of_name (by first | (simp [plainName, overriddenIn]; done) | decide +kernel)) fun κ K => ?_
  refine WP.frame (g' := (mkF κ.m 0 #[.val (.ref tb), .val (.int x), .val (.long vv), .second] [])) (by first | (simp [entryFrame, mkF, argsToLocals, Value.category]; done) | rfl) ?_
  obtain ⟨a1, a2, te, kT, f_te, en_, u_numbers, u_index, ec, es, a3, O_tb, A_te, C⟩ := id T_
  refine WP.aloadN K d9_0 rfl rfl (pc' := 1) rfl ?_
  refine WP.iloadN K d9_1 rfl (pc' := 2) rfl ?_
  refine WP.callP K (a := tb) (argsL := [(.int x)]) (S := []) (w_85 hw) (w_86 hw) (w_3 hw) (w_87 hw) (IsTb.exa O_tb) (rm_unc w l Z a0 hw tb A B D x i h0 n0 Z0 T_ hx hi hF) (w_88 hw) (w_4 hw) (by decide) rfl (lenOf pd_2 rfl) rfl (W := 0) rfl (by decide) (by decide) (k' := 0) (n' := 0) rfl rfl (by decide) (by decide) d9_2 (pc' := 5) rfl fun v h41 hq => ?_
  obtain ⟨rfl, rfl⟩ := hq
  show WP κ h0 0 0 (mkF κ.m 5 #[.val (.ref tb), .val (.int x), .val (.long vv), .second] [])
  refine WP.aloadN K d9_5 rfl rfl (pc' := 6) rfl ?_
  refine WP.iloadN K d9_6 rfl (pc' := 7) rfl ?_
  refine WP.lloadN K d9_7 rfl (pc' := 8) rfl ?_
  refine WP.callP K (a := tb) (argsL := [(.int x), (.long vv)]) (S := []) (w_98 hw) (w_99 hw) (w_3 hw) (w_100 hw) (IsTb.exa O_tb) (rm_put w l Z a0 hw tb A B D x i vv h0 n0 Z0 T_ hx hi hv old_A) (w_101 hw) (w_4 hw) (by decide) rfl (lenOf pd_7 rfl) rfl (W := 0) rfl (by decide) (by decide) (k' := 1) (n' := 64) rfl rfl (by decide) (by decide) d9_8 (pc' := 11) rfl fun v h42 hq => ?_
  obtain ⟨rfl, T1, ws, K1, hws⟩ := hq
  show WP κ h42 1 64 (mkF κ.m 11 #[.val (.ref tb), .val (.int x), .val (.long vv), .second] [])
  exact WP.ret0 K d9_11 (by decide) (by decide) ⟨rfl, T1, ws, K1, hws⟩
/-- an object of class com/example/weir/weir/engine/EndingList, and what its fields hold -/
def IsEl (Z : State) (h : Heap) (a : Addr) (v_entries v_held v_size v_earliest v_first : Value) : Prop := Exa Z h a "com/example/weir/weir/engine/EndingList" ∧ Fld Z h a "com/example/weir/weir/engine/EndingList" "entries" "[I" v_entries ∧ Fld Z h a "com/example/weir/weir/engine/EndingList" "held" "I" v_held ∧ Fld Z h a "com/example/weir/weir/engine/EndingList" "size" "I" v_size ∧ Fld Z h a "com/example/weir/weir/engine/EndingList" "earliest" "I" v_earliest ∧ Fld Z h a "com/example/weir/weir/engine/EndingList" "first" "I" v_first
theorem IsEl.exa {Z : State} {h : Heap} {a : Addr} {v_entries v_held v_size v_earliest v_first : Value} (O : IsEl Z h a v_entries v_held v_size v_earliest v_first) : Exa Z h a "com/example/weir/weir/engine/EndingList" := O.1
theorem IsEl.lt {Z : State} {h : Heap} {a : Addr} {v_entries v_held v_size v_earliest v_first : Value} (O : IsEl Z h a v_entries v_held v_size v_earliest v_first) : a < h.size := (IsEl.exa O).lt
theorem IsEl.f_entries {Z : State} {h : Heap} {a : Addr} {v_entries v_held v_size v_earliest v_first : Value} (O : IsEl Z h a v_entries v_held v_size v_earliest v_first) : Fld Z h a "com/example/weir/weir/engine/EndingList" "entries" "[I" v_entries := O.2.1
theorem IsEl.f_held {Z : State} {h : Heap} {a : Addr} {v_entries v_held v_size v_earliest v_first : Value} (O : IsEl Z h a v_entries v_held v_size v_earliest v_first) : Fld Z h a "com/example/weir/weir/engine/EndingList" "held" "I" v_held := O.2.2.1
theorem IsEl.f_size {Z : State} {h : Heap} {a : Addr} {v_entries v_held v_size v_earliest v_first : Value} (O : IsEl Z h a v_entries v_held v_size v_earliest v_first) : Fld Z h a "com/example/weir/weir/engine/EndingList" "size" "I" v_size := O.2.2.2.1
theorem IsEl.f_earliest {Z : State} {h : Heap} {a : Addr} {v_entries v_held v_size v_earliest v_first : Value} (O : IsEl Z h a v_entries v_held v_size v_earliest v_first) : Fld Z h a "com/example/weir/weir/engine/EndingList" "earliest" "I" v_earliest := O.2.2.2.2.1
theorem IsEl.f_first {Z : State} {h : Heap} {a : Addr} {v_entries v_held v_size v_earliest v_first : Value} (O : IsEl Z h a v_entries v_held v_size v_earliest v_first) : Fld Z h a "com/example/weir/weir/engine/EndingList" "first" "I" v_first := O.2.2.2.2.2
theorem IsEl.ext {Z : State} {h h' : Heap} {a : Addr} {v_entries v_held v_size v_earliest v_first : Value} (E : Ext h h') (O : IsEl Z h a v_entries v_held v_size v_earliest v_first) : IsEl Z h' a v_entries v_held v_size v_earliest v_first := ⟨(O.1).ext E, (O.2.1).ext E, (O.2.2.1).ext E, (O.2.2.2.1).ext E, (O.2.2.2.2.1).ext E, (O.2.2.2.2.2).ext E⟩
theorem IsEl.keep {Z : State} {h h' : Heap} {a : Addr} {v_entries v_held v_size v_earliest v_first : Value} {ws : List Addr} (K : Keep h h' ws) (O : IsEl Z h a v_entries v_held v_size v_earliest v_first) (q : a ∉ ws) : IsEl Z h' a v_entries v_held v_size v_earliest v_first := ⟨(O.1).keep K, (O.2.1).keep K q, (O.2.2.1).keep K q, (O.2.2.2.1).keep K q, (O.2.2.2.2.1).keep K q, (O.2.2.2.2.2).keep K q⟩
theorem IsEl.other {Z : State} {h h' : Heap} {a b : Addr} {v_entries v_held v_size v_earliest v_first : Value} {sl : Nat} {v : Value} (W : Wr h h' b sl v) (O : IsEl Z h a v_entries v_held v_size v_earliest v_first) (q : a ≠ b) : IsEl Z h' a v_entries v_held v_size v_earliest v_first := ⟨(O.1).wr W, (O.2.1).other W (Or.inl q), (O.2.2.1).other W (Or.inl q), (O.2.2.2.1).other W (Or.inl q), (O.2.2.2.2.1).other W (Or.inl q), (O.2.2.2.2.2).other W (Or.inl q)⟩
theorem IsEl.s_entries {Z : State} {h h' : Heap} {a : Addr} {v_entries v_held v_size v_earliest v_first : Value} {v : Value} {a0 : Array Value} (hw : ∀ d ∈ tables_1, d.before a0 Z = true) (W : Wr h h' a (RoadKit.slotOf Z "com/example/weir/weir/engine/EndingList" "entries" "[I") v) (O : IsEl Z h a v_entries v_held v_size v_earliest v_first) : IsEl Z h' a v v_held v_size v_earliest v_first := ⟨(O.1).wr W, (O.2.1).same W, (O.2.2.1).other W (Or.inr (slot_ne (a0 := a0) (C := "com/example/weir/weir/engine/EndingList") (Or.inl (w_129 hw)) (Or.inl (w_122 hw)) (by decide) (t := .int) (t' := (.array .int)) (by decide) (by decide))), (O.2.2.2.1).other W (Or.inr (slot_ne (a0 := a0) (C := "com/example/weir/weir/engine/EndingList") (Or.inl (w_137 hw)) (Or.inl (w_122 hw)) (by decide) (t := .int) (t' := (.array .int)) (by decide) (by decide))), (O.2.2.2.2.1).other W (Or.inr (slot_ne (a0 := a0) (C := "com/example/weir/weir/engine/EndingList") (Or.inl (w_139 hw)) (Or.inl (w_122 hw)) (by decide) (t := .int) (t' := (.array .int)) (by decide) (by decide))), (O.2.2.2.2.2).other W (Or.inr (slot_ne (a0 := a0) (C := "com/example/weir/weir/engine/EndingList") (Or.inl (w_141 hw)) (Or.inl (w_122 hw)) (by decide) (t := .int) (t' := (.array .int)) (by decide) (by decide)))⟩
theorem IsEl.s_held {Z : State} {h h' : Heap} {a : Addr} {v_entries v_held v_size v_earliest v_first : Value} {v : Value} {a0 : Array Value} (hw : ∀ d ∈ tables_1, d.before a0 Z = true) (W : Wr h h' a (RoadKit.slotOf Z "com/example/weir/weir/engine/EndingList" "held" "I") v) (O : IsEl Z h a v_entries v_held v_size v_earliest v_first) : IsEl Z h' a v_entries v v_size v_earliest v_first := ⟨(O.1).wr W, (O.2.1).other W (Or.inr (slot_ne (a0 := a0) (C := "com/example/weir/weir/engine/EndingList") (Or.inl (w_122 hw)) (Or.inl (w_129 hw)) (by decide) (t := (.array .int)) (t' := .int) (by decide) (by decide))), (O.2.2.1).same W, (O.2.2.2.1).other W (Or.inr (slot_ne (a0 := a0) (C := "com/example/weir/weir/engine/EndingList") (Or.inl (w_137 hw)) (Or.inl (w_129 hw)) (by decide) (t := .int) (t' := .int) (by decide) (by decide))), (O.2.2.2.2.1).other W (Or.inr (slot_ne (a0 := a0) (C := "com/example/weir/weir/engine/EndingList") (Or.inl (w_139 hw)) (Or.inl (w_129 hw)) (by decide) (t := .int) (t' := .int) (by decide) (by decide))), (O.2.2.2.2.2).other W (Or.inr (slot_ne (a0 := a0) (C := "com/example/weir/weir/engine/EndingList") (Or.inl (w_141 hw)) (Or.inl (w_129 hw)) (by decide) (t := .int) (t' := .int) (by decide) (by decide)))⟩
theorem IsEl.s_size {Z : State} {h h' : Heap} {a : Addr} {v_entries v_held v_size v_earliest v_first : Value} {v : Value} {a0 : Array Value} (hw : ∀ d ∈ tables_1, d.before a0 Z = true) (W : Wr h h' a (RoadKit.slotOf Z "com/example/weir/weir/engine/EndingList" "size" "I") v) (O : IsEl Z h a v_entries v_held v_size v_earliest v_first) : IsEl Z h' a v_entries v_held v v_earliest v_first := ⟨(O.1).wr W, (O.2.1).other W (Or.inr (slot_ne (a0 := a0) (C := "com/example/weir/weir/engine/EndingList") (Or.inl (w_122 hw)) (Or.inl (w_137 hw)) (by decide) (t := (.array .int)) (t' := .int) (by decide) (by decide))), (O.2.2.1).other W (Or.inr (slot_ne (a0 := a0) (C := "com/example/weir/weir/engine/EndingList") (Or.inl (w_129 hw)) (Or.inl (w_137 hw)) (by decide) (t := .int) (t' := .int) (by decide) (by decide))), (O.2.2.2.1).same W, (O.2.2.2.2.1).other W (Or.inr (slot_ne (a0 := a0) (C := "com/example/weir/weir/engine/EndingList") (Or.inl (w_139 hw)) (Or.inl (w_137 hw)) (by decide) (t := .int) (t' := .int) (by decide) (by decide))), (O.2.2.2.2.2).other W (Or.inr (slot_ne (a0 := a0) (C := "com/example/weir/weir/engine/EndingList") (Or.inl (w_141 hw)) (Or.inl (w_137 hw)) (by decide) (t := .int) (t' := .int) (by decide) (by decide)))⟩
theorem IsEl.s_earliest {Z : State} {h h' : Heap} {a : Addr} {v_entries v_held v_size v_earliest v_first : Value} {v : Value} {a0 : Array Value} (hw : ∀ d ∈ tables_1, d.before a0 Z = true) (W : Wr h h' a (RoadKit.slotOf Z "com/example/weir/weir/engine/EndingList" "earliest" "I") v) (O : IsEl Z h a v_entries v_held v_size v_earliest v_first) : IsEl Z h' a v_entries v_held v_size v v_first := ⟨(O.1).wr W, (O.2.1).other W (Or.inr (slot_ne (a0 := a0) (C := "com/example/weir/weir/engine/EndingList") (Or.inl (w_122 hw)) (Or.inl (w_139 hw)) (by decide) (t := (.array .int)) (t' := .int) (by decide) (by decide))), (O.2.2.1).other W (Or.inr (slot_ne (a0 := a0) (C := "com/example/weir/weir/engine/EndingList") (Or.inl (w_129 hw)) (Or.inl (w_139 hw)) (by decide) (t := .int) (t' := .int) (by decide) (by decide))), (O.2.2.2.1).other W (Or.inr (slot_ne (a0 := a0) (C := "com/example/weir/weir/engine/EndingList") (Or.inl (w_137 hw)) (Or.inl (w_139 hw)) (by decide) (t := .int) (t' := .int) (by decide) (by decide))), (O.2.2.2.2.1).same W, (O.2.2.2.2.2).other W (Or.inr (slot_ne (a0 := a0) (C := "com/example/weir/weir/engine/EndingList") (Or.inl (w_141 hw)) (Or.inl (w_139 hw)) (by decide) (t := .int) (t' := .int) (by decide) (by decide)))⟩
theorem IsEl.s_first {Z : State} {h h' : Heap} {a : Addr} {v_entries v_held v_size v_earliest v_first : Value} {v : Value} {a0 : Array Value} (hw : ∀ d ∈ tables_1, d.before a0 Z = true) (W : Wr h h' a (RoadKit.slotOf Z "com/example/weir/weir/engine/EndingList" "first" "I") v) (O : IsEl Z h a v_entries v_held v_size v_earliest v_first) : IsEl Z h' a v_entries v_held v_size v_earliest v := ⟨(O.1).wr W, (O.2.1).other W (Or.inr (slot_ne (a0 := a0) (C := "com/example/weir/weir/engine/EndingList") (Or.inl (w_122 hw)) (Or.inl (w_141 hw)) (by decide) (t := (.array .int)) (t' := .int) (by decide) (by decide))), (O.2.2.1).other W (Or.inr (slot_ne (a0 := a0) (C := "com/example/weir/weir/engine/EndingList") (Or.inl (w_129 hw)) (Or.inl (w_141 hw)) (by decide) (t := .int) (t' := .int) (by decide) (by decide))), (O.2.2.2.1).other W (Or.inr (slot_ne (a0 := a0) (C := "com/example/weir/weir/engine/EndingList") (Or.inl (w_137 hw)) (Or.inl (w_141 hw)) (by decide) (t := .int) (t' := .int) (by decide) (by decide))), (O.2.2.2.2.1).other W (Or.inr (slot_ne (a0 := a0) (C := "com/example/weir/weir/engine/EndingList") (Or.inl (w_139 hw)) (Or.inl (w_141 hw)) (by decide) (t := .int) (t' := .int) (by decide) (by decide))), (O.2.2.2.2.2).same W⟩
/-- an EndingList of n entries: G i is the triple of entry i -/
def IsL (Z : State) (h : Heap) (B : Nat) (el en : Addr) (N f n ear hd : Nat) (G : Nat → Int32) : Prop := @LE.le Nat _ B el ∧ @LE.le Nat _ B en ∧ ∃ (kE : ClassId) (F : Nat → Int32) (fI nI eI dI : Int32), fI.toInt = (f : Int) ∧ nI.toInt = (n : Int) ∧ eI.toInt = (ear : Int) ∧ dI.toInt = (hd : Int) ∧ IsEl Z h el (.ref en) (.int dI) (.int nI) (.int eI) (.int fI) ∧ Ary Z h en kE .int N (fun j => .int (F j)) ∧ (N = 8 ∨ N = 16) ∧ 2 * (f + n) ≤ N ∧ ear ≤ n ∧ ∀ i, i < n → F (2 * (f + i)) = G i
set_option maxRecDepth 65536 in
set_option maxHeartbeats 40000000 in
theorem rm_max (w : Bool) (l : Launch) (Z : State) (a0 : Array Value) (hw : ∀ d ∈ tables_1, d.before a0 Z = true) (x y : Int32) (h0 : Heap) (n0 : Nat) (Z0 : n0 ≤ h0.size)  :
    Met w l Z (⟨"java/lang/Math", "max", "(II)I"⟩ : MethodName) jdk_29_method_65_code 2 (some .int) [] ({ frames := 0, cells := 0, slots := 0, locals := 0 } : Room) #[(.int x), (.int y)] h0 n0 (fun v h => v = some (.int (own_max x y)) ∧ h0 = h) := by
  refine Met.of (Jvm.Free.JP.mathPlain rfl (by decide +kernel)) fun κ K => ?_
  refine WP.frame (g' := (mkF κ.m 0 #[.val (.int x), .val (.int y)] [])) (by first | (simp [entryFrame, mkF, argsToLocals, Value.category]; done) | rfl) ?_
  refine WP.meet (g' := (mkF κ.m 10 #[.val (.int x), .val (.int y)] [(.int (if x < y then y else x))])) (fun HJ => ?_) ?_
  · refine WP.iloadN K d24_0 rfl (pc' := 1) rfl ?_
    refine WP.iloadN K d24_1 rfl (pc' := 2) rfl ?_
    by_cases c43 : x < y
    · try simp only [if_pos c43] at HJ
      refine WP.icmpT K d24_2 (tlt c43).1 (by decide) (pc' := 9) (by decide) ?_
      refine WP.iloadN K d24_9 rfl (pc' := 10) rfl ?_
      first | exact HJ | (simp only [if_pos c43]; exact HJ)
    · try simp only [if_neg c43] at HJ
      refine WP.icmpF K d24_2 (flt c43).1 (pc' := 5) rfl ?_
      refine WP.iloadN K d24_5 rfl (pc' := 6) rfl ?_
      refine WP.goto K d24_6 (by decide) (pc' := 10) (by decide) ?_
      first | exact HJ | (simp only [if_neg c43]; exact HJ)
  · skip
    exact WP.retI K d24_10 (by decide) (by decide) ⟨rfl, rfl⟩
set_option maxRecDepth 65536 in
set_option maxHeartbeats 40000000 in
theorem rm_elinit (w : Bool) (l : Launch) (Z : State) (a0 : Array Value) (hw : ∀ d ∈ tables_1, d.before a0 Z = true) (el : Addr) (h0 : Heap) (n0 : Nat) (Z0 : n0 ≤ h0.size) (O_el : IsEl Z h0 el .null (.int (0 : Int32)) (.int (0 : Int32)) (.int (0 : Int32)) (.int (0 : Int32))) (old_el : n0 ≤ el) :
    Met w l Z (⟨"com/example/weir/weir/engine/EndingList", "<init>", "()V"⟩ : MethodName) prog_25_method_1_code 1 none [] ({ frames := 1, cells := 1, slots := 8, locals := 12 } : Room) #[(.ref el)] h0 n0 (fun v h => v = none ∧ Keep h0 h [el] ∧ ∃ en : Addr, n0 ≤ en ∧ IsL Z h el el en 8 0 0 0 0 (fun _ => (0 : Int32))) := by
  refine Met.of (plainFor_of_name (by first | (simp [plainName, overriddenIn]; done) | decide +kernel)) fun κ K => ?_
  refine WP.frame (g' := (mkF κ.m 0 #[.val (.ref el)] [])) (by first | (simp [entryFrame, mkF, argsToLocals, Value.category]; done) | rfl) ?_
  have KP := Keep.refl h0 [el]
  have z_el : @LT.lt Nat _ el h0.size := IsEl.lt O_el
  refine WP.aloadN K d15_0 rfl rfl (pc' := 1) rfl ?_
  refine WP.initO K (w_120 hw) (w_9 hw) (w_10 hw) d15_1 rfl (by decide) (W := 0) rfl (by decide) (pc' := 4) rfl ?_
  refine WP.aloadN K d15_4 rfl rfl (pc' := 5) rfl ?_
  refine WP.bipush K d15_5 (v := (8 : Int32)) rfl (pc' := 7) rfl ?_
  refine WP.newarray (aty := .int) K (w_1 hw) d15_7 (N := 8) (cap := 8) rfl (Nat.le_refl _) (by decide) (k' := 1) (n' := 8) rfl rfl (by decide) (by decide) (pc' := 9) rfl fun h44 en kA_en g44 E44 A_en => ?_
  have ne_el_en : el ≠ en := fun z_ => by have q_ : @LT.lt Nat _ el h0.size := (IsEl.lt O_el); have r_ : @Eq Nat el en := z_; omega
  have old_en : n0 ≤ en := by have q_ := Z0; omega
  have osz_en : h0.size ≤ en := by have q_ := KP.1; omega
  have O_el := IsEl.ext E44 O_el
  have KP := Keep.ext KP E44
  have Z0 := Nat.le_trans Z0 E44.1
  have A_en : Ary Z h44 en kA_en .int 8 (fun j => .int ((fun _ => (0 : Int32)) j)) := A_en
  refine WP.putF K (w_121 hw) Via.refl (IsEl.f_entries O_el) (IsEl.exa O_el) (Or.inl (w_122 hw)) (w_115 hw) (ty := (.array .int)) (by decide) rfl rfl old_el d15_9 (pc' := 12) rfl fun h45 W45 => ?_
  have A_en := Ary.other W45 A_en (Ne.symm ne_el_en)
  have KP := Keep.wr KP W45 (Or.inl (List.mem_of_getElem? (i := 0) rfl))
  have Z0 := Nat.le_trans Z0 (Nat.le_of_eq W45.size.symm)
  have O_el := IsEl.s_entries hw W45 O_el
  exact WP.ret0 K d15_12 (by decide) (by decide) ⟨rfl, KP, en, old_en, Nat.le_refl _, by omega, kA_en, (fun _ => (0 : Int32)), 0, 0, 0, 0, rfl, rfl, rfl, rfl, O_el, A_en, Or.inl rfl, by omega, Nat.le_refl _, fun i hi => absurd hi (by omega)⟩
set_option maxRecDepth 65536 in
set_option maxHeartbeats 40000000 in
theorem rm_triple (w : Bool) (l : Launch) (Z : State) (a0 : Array Value) (hw : ∀ d ∈ tables_1, d.before a0 Z = true) (el en : Addr) (B N f n ear hd : Nat) (G : Nat → Int32) (x : Int32) (i : Nat) (h0 : Heap) (n0 : Nat) (Z0 : n0 ≤ h0.size) (L_ : IsL Z h0 B el en N f n ear hd G) (hx : x.toInt = (i : Int)) (hi : i < n) :
    Met w l Z (⟨"com/example/weir/weir/engine/EndingList", "triple", "(I)I"⟩ : MethodName) prog_25_method_4_code 2 (some .int) [] ({ frames := 0, cells := 0, slots := 0, locals := 0 } : Room) #[(.ref el), (.int x)] h0 n0 (fun v h => v = some (.int (G i)) ∧ h0 = h) := by
  refine Met.of (plainFor_of_name (by first | (simp [plainName, overriddenIn]; done) | decide +kernel)) fun κ K => ?_
  refine WP.frame (g' := (mkF κ.m 0 #[.val (.ref el), .val (.int x)] [])) (by first | (simp [entryFrame, mkF, argsToLocals, Value.category]; done) | rfl) ?_
  obtain ⟨B_el, B_en, kE, F, fI, nI, eI, dI, hf, hn, he, hdd, O_el, A_en, hN, hfn, hen, hG⟩ := L_
  have z_el : @LT.lt Nat _ el h0.size := IsEl.lt O_el
  have eN : (Int32.ofNat N).toInt = (N : Int) := Int32.toInt_ofNat_small A_en.len
  refine WP.aloadN K d20_0 rfl rfl (pc' := 1) rfl ?_
  refine WP.getF K (w_121 hw) Via.refl (IsEl.f_entries O_el) d20_1 (pc' := 4) rfl ?_
  refine WP.iconst K d20_4 (v := (2 : Int32)) rfl (pc' := 5) rfl ?_
  refine WP.aloadN K d20_5 rfl rfl (pc' := 6) rfl ?_
  refine WP.getF K (w_140 hw) Via.refl (IsEl.f_first O_el) d20_6 (pc' := 9) rfl ?_
  refine WP.iloadN K d20_9 rfl (pc' := 10) rfl ?_
  refine WP.iadd K d20_10 (pc' := 11) rfl ?_
  refine WP.imul K d20_11 (pc' := 12) rfl ?_
  refine WP.iaload K (i := (2 * (f + i))) A_en (own_ix hf hx (by omega)) (by omega) (v := (.int (G i))) (congrArg Value.int (hG i hi)) d20_12 (pc' := 13) rfl ?_
  exact WP.retI K d20_13 (by decide) (by decide) ⟨rfl, rfl⟩
set_option maxRecDepth 65536 in
set_option maxHeartbeats 40000000 in
theorem rm_size (w : Bool) (l : Launch) (Z : State) (a0 : Array Value) (hw : ∀ d ∈ tables_1, d.before a0 Z = true) (el en : Addr) (B N f n ear hd : Nat) (G : Nat → Int32) (h0 : Heap) (n0 : Nat) (Z0 : n0 ≤ h0.size) (L_ : IsL Z h0 B el en N f n ear hd G) :
    Met w l Z (⟨"com/example/weir/weir/engine/EndingList", "size", "()I"⟩ : MethodName) prog_25_method_3_code 1 (some .int) [] ({ frames := 0, cells := 0, slots := 0, locals := 0 } : Room) #[(.ref el)] h0 n0 (fun v h => ∃ z : Int32, z.toInt = (n : Int) ∧ v = some (.int z) ∧ h0 = h) := by
  refine Met.of (plainFor_of_name (by first | (simp [plainName, overriddenIn]; done) | decide +kernel)) fun κ K => ?_
  refine WP.frame (g' := (mkF κ.m 0 #[.val (.ref el)] [])) (by first | (simp [entryFrame, mkF, argsToLocals, Value.category]; done) | rfl) ?_
  obtain ⟨B_el, B_en, kE, F, fI, nI, eI, dI, hf, hn, he, hdd, O_el, A_en, hN, hfn, hen, hG⟩ := L_
  have z_el : @LT.lt Nat _ el h0.size := IsEl.lt O_el
  have eN : (Int32.ofNat N).toInt = (N : Int) := Int32.toInt_ofNat_small A_en.len
  refine WP.aloadN K d22_0 rfl rfl (pc' := 1) rfl ?_
  refine WP.getF K (w_136 hw) Via.refl (IsEl.f_size O_el) d22_1 (pc' := 4) rfl ?_
  exact WP.retI K d22_4 (by decide) (by decide) ⟨nI, hn, rfl, rfl⟩
set_option maxRecDepth 65536 in
set_option maxHeartbeats 40000000 in
theorem rm_move2 (w : Bool) (l : Launch) (Z : State) (a0 : Array Value) (hw : ∀ d ∈ tables_1, d.before a0 Z = true) (el en : Addr) (B N f n ear hd : Nat) (G : Nat → Int32) (r bI : Int32) (M b : Nat) (h0 : Heap) (n0 : Nat) (Z0 : n0 ≤ h0.size) (L_ : IsL Z h0 B el en N f n ear hd G) (old_el : n0 ≤ el) (old_en : n0 ≤ en) (hM : r.toInt = (M : Int)) (hM2 : M = 8 ∨ M = 16) (hb : bI.toInt = (b : Int)) (hbn : 2 * (b + n) ≤ M) :
    Met w l Z (⟨"com/example/weir/weir/engine/EndingList", "moveTo", "(II)V"⟩ : MethodName) prog_25_method_16_code 4 none [] ({ frames := 1, cells := 1, slots := 16, locals := 64 } : Room) #[(.ref el), (.int r), (.int bI)] h0 n0 (fun v h => v = none ∧ Keep h0 h [el, en] ∧ ∃ en' : Addr, n0 ≤ en' ∧ (en' = en ∨ h0.size ≤ en') ∧ IsL Z h B el en' M b n ear hd G) := by
  refine Met.of (plainFor_of_name (by first | (simp [plainName, overriddenIn]; done) | decide +kernel)) fun κ K => ?_
  refine WP.frame (g' := (mkF κ.m 0 #[.val (.ref el), .val (.int r), .val (.int bI), .unset] [])) (by first | (simp [entryFrame, mkF, argsToLocals, Value.category]; done) | rfl) ?_
  have KP := Keep.refl h0 [el, en]
  obtain ⟨B_el, B_en, kE, F, fI, nI, eI, dI, hf, hn, he, hdd, O_el, A_en, hN, hfn, hen, hG⟩ := L_
  have z_el : @LT.lt Nat _ el h0.size := IsEl.lt O_el
  have eN : (Int32.ofNat N).toInt = (N : Int) := Int32.toInt_ofNat_small A_en.len
  refine WP.iloadN K d25_0 rfl (pc' := 1) rfl ?_
  refine WP.aloadN K d25_1 rfl rfl (pc' := 2) rfl ?_
  refine WP.getF K (w_121 hw) Via.refl (IsEl.f_entries O_el) d25_2 (pc' := 5) rfl ?_
  refine WP.arraylength K A_en d25_5 (pc' := 6) rfl ?_
  by_cases c1 : r = (Int32.ofNat N)
  · obtain rfl : N = M := by have q := congrArg Int32.toInt c1; omega
    refine WP.icmpF K d25_6 (teq c1).2 (pc' := 9) rfl ?_
    refine WP.aloadN K d25_9 rfl rfl (pc' := 10) rfl ?_
    refine WP.getF K (w_121 hw) Via.refl (IsEl.f_entries O_el) d25_10 (pc' := 13) rfl ?_
    refine WP.goto K d25_13 (by decide) (pc' := 19) (by decide) ?_
    refine WP.astoreN K d25_19 rfl (L' := #[.val (.ref el), .val (.int r), .val (.int bI), .val (.ref en)]) rfl (pc' := 20) rfl ?_
    refine WP.aloadN K d25_20 rfl rfl (pc' := 21) rfl ?_
    refine WP.getF K (w_121 hw) Via.refl (IsEl.f_entries O_el) d25_21 (pc' := 24) rfl ?_
    refine WP.iconst K d25_24 (v := (2 : Int32)) rfl (pc' := 25) rfl ?_
    refine WP.aloadN K d25_25 rfl rfl (pc' := 26) rfl ?_
    refine WP.getF K (w_140 hw) Via.refl (IsEl.f_first O_el) d25_26 (pc' := 29) rfl ?_
    refine WP.imul K d25_29 (pc' := 30) rfl ?_
    refine WP.aloadN K d25_30 rfl rfl (pc' := 31) rfl ?_
    refine WP.iconst K d25_31 (v := (2 : Int32)) rfl (pc' := 32) rfl ?_
    refine WP.iloadN K d25_32 rfl (pc' := 33) rfl ?_
    refine WP.imul K d25_33 (pc' := 34) rfl ?_
    refine WP.iconst K d25_34 (v := (2 : Int32)) rfl (pc' := 35) rfl ?_
    refine WP.aloadN K d25_35 rfl rfl (pc' := 36) rfl ?_
    refine WP.getF K (w_136 hw) Via.refl (IsEl.f_size O_el) d25_36 (pc' := 39) rfl ?_
    refine WP.imul K d25_39 (pc' := 40) rfl ?_
    have nq_el_en : el ≠ en := (Ary.ne (IsEl.exa O_el) A_en (w_115 hw))
    refine WP.arraycopy K (i := (2 * f)) (j := (2 * b)) (m := (2 * n)) (w_163 hw) (w_166 hw) (w_164 hw) (w_165 hw) A_en A_en rfl (own_2 hf (by omega)) (own_2 hb (by omega)) (own_2 hn (by omega)) (by omega) (by omega) old_en d25_40 rfl (by decide) (W := 0) rfl (by decide) (pc' := 43) rfl fun h46 K46 A_n => ?_
    have O_el := IsEl.keep K46 O_el (ninS nq_el_en nin0)
    have KP := Keep.trans KP K46 (allS (Or.inl (List.mem_of_getElem? (i := 1) rfl)) all0)
    have Z0 := Nat.le_trans Z0 K46.1
    have A_en := A_n
    obtain ⟨F1, eF1⟩ : ∃ F_ : Nat → Int32, F_ = fun x => if (2 * b) ≤ x ∧ x < (2 * b) + (2 * n) then F ((2 * f) + (x - (2 * b))) else F x := ⟨_, rfl⟩
    have A_en := Ary.congr A_en (f' := fun j => .int (F1 j)) (fun x _ => by rw [eF1]; exact (apply_ite Value.int _ _ _).symm)
    refine WP.aloadN K d25_43 rfl rfl (pc' := 44) rfl ?_
    refine WP.aloadN K d25_44 rfl rfl (pc' := 45) rfl ?_
    refine WP.putF K (w_121 hw) Via.refl (IsEl.f_entries O_el) (IsEl.exa O_el) (Or.inl (w_122 hw)) (w_115 hw) (ty := (.array .int)) (by decide) rfl rfl old_el d25_45 (pc' := 48) rfl fun h47 W47 => ?_
    have A_en := Ary.other W47 A_en (Ne.symm nq_el_en)
    have KP := Keep.wr KP W47 (Or.inl (List.mem_of_getElem? (i := 0) rfl))
    have Z0 := Nat.le_trans Z0 (Nat.le_of_eq W47.size.symm)
    have O_el := IsEl.s_entries hw W47 O_el
    refine WP.aloadN K d25_48 rfl rfl (pc' := 49) rfl ?_
    refine WP.iloadN K d25_49 rfl (pc' := 50) rfl ?_
    refine WP.putF K (w_140 hw) Via.refl (IsEl.f_first O_el) (IsEl.exa O_el) (Or.inl (w_141 hw)) (w_115 hw) (ty := .int) (by decide) rfl rfl old_el d25_50 (pc' := 53) rfl fun h48 W48 => ?_
    have A_en := Ary.other W48 A_en (Ne.symm nq_el_en)
    have KP := Keep.wr KP W48 (Or.inl (List.mem_of_getElem? (i := 0) rfl))
    have Z0 := Nat.le_trans Z0 (Nat.le_of_eq W48.size.symm)
    have O_el := IsEl.s_first hw W48 O_el
    exact WP.ret0 K d25_53 (by decide) (by decide) ⟨rfl, KP, en, old_en, Or.inl rfl, B_el, B_en, kE, F1, bI, nI, eI, dI, hb, hn, he, hdd, O_el, A_en, hM2, hbn, hen, own_cpG eF1 hG⟩
  · refine WP.icmpT K d25_6 (feq c1).2 (by decide) (pc' := 16) (by decide) ?_
    refine WP.iloadN K d25_16 rfl (pc' := 17) rfl ?_
    refine WP.newarray (aty := .int) K (w_1 hw) d25_17 (N := M) (cap := 16) hM (by omega) (by decide) (k' := 1) (n' := 16) rfl rfl (by decide) (by decide) (pc' := 19) rfl fun h49 to kA_to g49 E49 A_to => ?_
    have ne_el_to : el ≠ to := fun z_ => by have q_ : @LT.lt Nat _ el h0.size := (IsEl.lt O_el); have r_ : @Eq Nat el to := z_; omega
    have ne_en_to : en ≠ to := fun z_ => by have q_ : @LT.lt Nat _ en h0.size := (Ary.lt A_en); have r_ : @Eq Nat en to := z_; omega
    have old_to : n0 ≤ to := by have q_ := Z0; omega
    have osz_to : h0.size ≤ to := by have q_ := KP.1; omega
    have O_el := IsEl.ext E49 O_el
    have A_en := Ary.ext E49 A_en
    have KP := Keep.ext KP E49
    have Z0 := Nat.le_trans Z0 E49.1
    refine WP.astoreN K d25_19 rfl (L' := #[.val (.ref el), .val (.int r), .val (.int bI), .val (.ref to)]) rfl (pc' := 20) rfl ?_
    refine WP.aloadN K d25_20 rfl rfl (pc' := 21) rfl ?_
    refine WP.getF K (w_121 hw) Via.refl (IsEl.f_entries O_el) d25_21 (pc' := 24) rfl ?_
    refine WP.iconst K d25_24 (v := (2 : Int32)) rfl (pc' := 25) rfl ?_
    refine WP.aloadN K d25_25 rfl rfl (pc' := 26) rfl ?_
    refine WP.getF K (w_140 hw) Via.refl (IsEl.f_first O_el) d25_26 (pc' := 29) rfl ?_
    refine WP.imul K d25_29 (pc' := 30) rfl ?_
    refine WP.aloadN K d25_30 rfl rfl (pc' := 31) rfl ?_
    refine WP.iconst K d25_31 (v := (2 : Int32)) rfl (pc' := 32) rfl ?_
    refine WP.iloadN K d25_32 rfl (pc' := 33) rfl ?_
    refine WP.imul K d25_33 (pc' := 34) rfl ?_
    refine WP.iconst K d25_34 (v := (2 : Int32)) rfl (pc' := 35) rfl ?_
    refine WP.aloadN K d25_35 rfl rfl (pc' := 36) rfl ?_
    refine WP.getF K (w_136 hw) Via.refl (IsEl.f_size O_el) d25_36 (pc' := 39) rfl ?_
    refine WP.imul K d25_39 (pc' := 40) rfl ?_
    refine WP.arraycopy K (i := (2 * f)) (j := (2 * b)) (m := (2 * n)) (w_163 hw) (w_166 hw) (w_164 hw) (w_165 hw) A_en A_to rfl (own_2 hf (by omega)) (own_2 hb (by omega)) (own_2 hn (by omega)) (by omega) (by omega) old_to d25_40 rfl (by decide) (W := 0) rfl (by decide) (pc' := 43) rfl fun h50 K50 A_n => ?_
    have O_el := IsEl.keep K50 O_el (ninS ne_el_to nin0)
    have A_en := Ary.keep K50 A_en (ninS ne_en_to nin0)
    have KP := Keep.trans KP K50 (allS (Or.inr osz_to) all0)
    have Z0 := Nat.le_trans Z0 K50.1
    have A_to := A_n
    obtain ⟨F1, eF1⟩ : ∃ F_ : Nat → Int32, F_ = fun x => if (2 * b) ≤ x ∧ x < (2 * b) + (2 * n) then F ((2 * f) + (x - (2 * b))) else (fun _ => (0 : Int32)) x := ⟨_, rfl⟩
    have A_to := Ary.congr A_to (f' := fun j => .int (F1 j)) (fun x _ => by rw [eF1]; exact (apply_ite Value.int _ _ _).symm)
    refine WP.aloadN K d25_43 rfl rfl (pc' := 44) rfl ?_
    refine WP.aloadN K d25_44 rfl rfl (pc' := 45) rfl ?_
    refine WP.putF K (w_121 hw) Via.refl (IsEl.f_entries O_el) (IsEl.exa O_el) (Or.inl (w_122 hw)) (w_115 hw) (ty := (.array .int)) (by decide) rfl rfl old_el d25_45 (pc' := 48) rfl fun h51 W51 => ?_
    have A_en := Ary.other W51 A_en (Ne.symm (Ary.ne (IsEl.exa O_el) A_en (w_115 hw)))
    have A_to := Ary.other W51 A_to (Ne.symm ne_el_to)
    have KP := Keep.wr KP W51 (Or.inl (List.mem_of_getElem? (i := 0) rfl))
    have Z0 := Nat.le_trans Z0 (Nat.le_of_eq W51.size.symm)
    have O_el := IsEl.s_entries hw W51 O_el
    refine WP.aloadN K d25_48 rfl rfl (pc' := 49) rfl ?_
    refine WP.iloadN K d25_49 rfl (pc' := 50) rfl ?_
    refine WP.putF K (w_140 hw) Via.refl (IsEl.f_first O_el) (IsEl.exa O_el) (Or.inl (w_141 hw)) (w_115 hw) (ty := .int) (by decide) rfl rfl old_el d25_50 (pc' := 53) rfl fun h52 W52 => ?_
    have A_en := Ary.other W52 A_en (Ne.symm (Ary.ne (IsEl.exa O_el) A_en (w_115 hw)))
    have A_to := Ary.other W52 A_to (Ne.symm ne_el_to)
    have KP := Keep.wr KP W52 (Or.inl (List.mem_of_getElem? (i := 0) rfl))
    have Z0 := Nat.le_trans Z0 (Nat.le_of_eq W52.size.symm)
    have O_el := IsEl.s_first hw W52 O_el
    exact WP.ret0 K d25_53 (by decide) (by decide) ⟨rfl, KP, to, old_to, Or.inr osz_to, B_el, by omega, kA_to, F1, bI, nI, eI, dI, hb, hn, he, hdd, O_el, A_to, hM2, hbn, hen, own_cpG (F0 := fun _ => (0 : Int32)) eF1 hG⟩
set_option maxRecDepth 65536 in
set_option maxHeartbeats 40000000 in
theorem rm_move1 (w : Bool) (l : Launch) (Z : State) (a0 : Array Value) (hw : ∀ d ∈ tables_1, d.before a0 Z = true) (el en : Addr) (B N f n ear hd : Nat) (G : Nat → Int32) (r : Int32) (M : Nat) (h0 : Heap) (n0 : Nat) (Z0 : n0 ≤ h0.size) (L_ : IsL Z h0 B el en N f n ear hd G) (old_el : n0 ≤ el) (old_en : n0 ≤ en) (hM : r.toInt = (M : Int)) (hM2 : M = 8 ∨ M = 16) (hbn : 2 * (0 + n) ≤ M) :
    Met w l Z (⟨"com/example/weir/weir/engine/EndingList", "moveTo", "(I)V"⟩ : MethodName) prog_25_method_15_code 2 none [] ({ frames := 2, cells := 1, slots := 16, locals := 79 } : Room) #[(.ref el), (.int r)] h0 n0 (fun v h => v = none ∧ Keep h0 h [el, en] ∧ ∃ en' : Addr, n0 ≤ en' ∧ (en' = en ∨ h0.size ≤ en') ∧ IsL Z h B el en' M 0 n ear hd G) := by
  refine Met.of (plainFor_of_name (by first | (simp [plainName, overriddenIn]; done) | decide +kernel)) fun κ K => ?_
  refine WP.frame (g' := (mkF κ.m 0 #[.val (.ref el), .val (.int r)] [])) (by first | (simp [entryFrame, mkF, argsToLocals, Value.category]; done) | rfl) ?_
  obtain ⟨B_el, B_en, kE, F, fI, nI, eI, dI, hf, hn, he, hdd, O_el, A_en, hN, hfn, hen, hG⟩ := id L_
  have z_el : @LT.lt Nat _ el h0.size := IsEl.lt O_el
  have eN : (Int32.ofNat N).toInt = (N : Int) := Int32.toInt_ofNat_small A_en.len
  refine WP.aloadN K d26_0 rfl rfl (pc' := 1) rfl ?_
  refine WP.iloadN K d26_1 rfl (pc' := 2) rfl ?_
  refine WP.iconst K d26_2 (v := (0 : Int32)) rfl (pc' := 3) rfl ?_
  refine WP.callP K (a := el) (argsL := [(.int r), (.int (0 : Int32))]) (S := []) (w_184 hw) (w_185 hw) (w_115 hw) (w_186 hw) (IsEl.exa O_el) (rm_move2 w l Z a0 hw el en B N f n ear hd G r (0 : Int32) M 0 h0 n0 Z0 L_ old_el old_en hM hM2 rfl hbn) (w_187 hw) (w_116 hw) (by decide) rfl (lenOf pd_8 rfl) rfl (W := 0) rfl (by decide) (by decide) (k' := 1) (n' := 16) rfl rfl (by decide) (by decide) d26_3 (pc' := 6) rfl fun v h53 hq => ?_
  obtain ⟨rfl, K1, en1, o1, s1, L1⟩ := hq
  show WP κ h53 1 16 (mkF κ.m 6 #[.val (.ref el), .val (.int r)] [])
  exact WP.ret0 K d26_6 (by decide) (by decide) ⟨rfl, K1, en1, o1, s1, L1⟩
set_option maxRecDepth 65536 in
set_option maxHeartbeats 40000000 in
theorem rm_pf (w : Bool) (l : Launch) (Z : State) (a0 : Array Value) (hw : ∀ d ∈ tables_1, d.before a0 Z = true) (el en : Addr) (B N f n ear hd : Nat) (G : Nat → Int32) (tb : Addr) (A : Nat) (D : Nat → Int64) (t : Int32) (h0 : Heap) (n0 : Nat) (Z0 : n0 ≤ h0.size) (L_ : IsL Z h0 B el en N f n ear hd G) (old_el : n0 ≤ el) (old_en : n0 ≤ en) (T_ : IsTT Z h0 A B tb D) (hn3 : n ≤ 3) :
    Met w l Z (⟨"com/example/weir/weir/engine/EndingList", "placeFirst", "(Lcom/example/weir/weir/engine/TripleTable;I)V"⟩ : MethodName) prog_25_method_12_code 5 none [] ({ frames := 2, cells := 1, slots := 16, locals := 79 } : Room) #[(.ref el), (.ref tb), (.int t)] h0 n0 (fun v h => v = none ∧ Keep h0 h [el, en] ∧ ∃ (en' : Addr) (N' f' : Nat), n0 ≤ en' ∧ (en' = en ∨ h0.size ≤ en') ∧ IsL Z h B el en' N' f' (n + 1) (ear + 1) hd (own_cons G t)) := by
  refine Met.of (plainFor_of_name (by first | (simp [plainName, overriddenIn]; done) | decide +kernel)) fun κ K => ?_
  refine WP.frame (g' := (mkF κ.m 0 #[.val (.ref el), .val (.ref tb), .val (.int t), .unset, .unset] [])) (by first | (simp [entryFrame, mkF, argsToLocals, Value.category]; done) | rfl) ?_
  have KP := Keep.refl h0 [el, en]
  obtain ⟨B_el, B_en, kE, F, fI, nI, eI, dI, hf, hn, he, hdd, O_el, A_en, hN, hfn, hen, hG⟩ := id L_
  have z_el : @LT.lt Nat _ el h0.size := IsEl.lt O_el
  have eN : (Int32.ofNat N).toInt = (N : Int) := Int32.toInt_ofNat_small A_en.len
  refine WP.aloadN K d23_0 rfl rfl (pc' := 1) rfl ?_
  refine WP.getF K (w_140 hw) Via.refl (IsEl.f_first O_el) d23_1 (pc' := 4) rfl ?_
  by_cases c0 : fI = (0 : Int32)
  · refine WP.if0F K d23_4 ((if0 _ _).trans (teq c0).2) (pc' := 7) rfl ?_
    refine WP.iconst K d23_7 (v := (4 : Int32)) rfl (pc' := 8) rfl ?_
    refine WP.aloadN K d23_8 rfl rfl (pc' := 9) rfl ?_
    refine WP.getF K (w_136 hw) Via.refl (IsEl.f_size O_el) d23_9 (pc' := 12) rfl ?_
    have em := own_max4 hn (by omega)
    refine WP.callS K (argsL := [(.int (4 : Int32)), (.int nI)]) (S := []) (w_180 hw) (w_181 hw) (rm_max w l Z a0 hw (4 : Int32) nI h0 n0 Z0) (w_183 hw) (w_182 hw) (by decide) rfl (lenOf pd_10 rfl) rfl (W := 0) rfl (by decide) (by decide) (k' := 0) (n' := 0) rfl rfl (by decide) (by decide) d23_12 (pc' := 15) rfl fun v h60 hq => ?_
    obtain ⟨rfl, rfl⟩ := hq
    show WP κ h0 0 0 (mkF κ.m 15 #[.val (.ref el), .val (.ref tb), .val (.int t), .unset, .unset] [(.int (own_max (4 : Int32) nI))])
    rw [em]
    show WP κ h0 0 0 (mkF κ.m 15 #[.val (.ref el), .val (.ref tb), .val (.int t), .unset, .unset] [(.int (4 : Int32))])
    refine WP.istoreN K d23_15 (L' := #[.val (.ref el), .val (.ref tb), .val (.int t), .val (.int (4 : Int32)), .unset]) rfl (pc' := 16) rfl ?_
    refine WP.aloadN K d23_16 rfl rfl (pc' := 17) rfl ?_
    refine WP.getF K (w_121 hw) Via.refl (IsEl.f_entries O_el) d23_17 (pc' := 20) rfl ?_
    refine WP.arraylength K A_en d23_20 (pc' := 21) rfl ?_
    refine WP.istore K d23_21 (L' := #[.val (.ref el), .val (.ref tb), .val (.int t), .val (.int (4 : Int32)), .val (.int (Int32.ofNat N))]) rfl (pc' := 23) rfl ?_
    refine WP.iload K d23_23 rfl (pc' := 25) rfl ?_
    refine WP.iconst K d23_25 (v := (2 : Int32)) rfl (pc' := 26) rfl ?_
    refine WP.iloadN K d23_26 rfl (pc' := 27) rfl ?_
    refine WP.aloadN K d23_27 rfl rfl (pc' := 28) rfl ?_
    refine WP.getF K (w_136 hw) Via.refl (IsEl.f_size O_el) d23_28 (pc' := 31) rfl ?_
    refine WP.iadd K d23_31 (pc' := 32) rfl ?_
    refine WP.imul K d23_32 (pc' := 33) rfl ?_
    have m1 : ((2 : Int32) * ((4 : Int32) + nI)).toInt = ((2 * (4 + n) : Nat) : Int) := own_ix (a := 4) rfl hn (by omega)
    by_cases c1 : (Int32.ofNat N) < ((2 : Int32) * ((4 : Int32) + nI))
    · have hlt := (own_lt eN m1).mp c1
      have hN8 : N = 8 := by omega
      refine WP.icmpF K d23_33 (tlt c1).2.1 (pc' := 36) rfl ?_
      refine WP.iload K d23_36 rfl (pc' := 38) rfl ?_
      refine WP.iconst K d23_38 (v := (2 : Int32)) rfl (pc' := 39) rfl ?_
      refine WP.imul K d23_39 (pc' := 40) rfl ?_
      refine WP.istore K d23_40 (L' := #[.val (.ref el), .val (.ref tb), .val (.int t), .val (.int (4 : Int32)), .val (.int ((Int32.ofNat N) * (2 : Int32)))]) rfl (pc' := 42) rfl ?_
      refine WP.goto K d23_42 (by decide) (pc' := 23) (by decide) ?_
      refine WP.iload K d23_23 rfl (pc' := 25) rfl ?_
      refine WP.iconst K d23_25 (v := (2 : Int32)) rfl (pc' := 26) rfl ?_
      refine WP.iloadN K d23_26 rfl (pc' := 27) rfl ?_
      refine WP.aloadN K d23_27 rfl rfl (pc' := 28) rfl ?_
      refine WP.getF K (w_136 hw) Via.refl (IsEl.f_size O_el) d23_28 (pc' := 31) rfl ?_
      refine WP.iadd K d23_31 (pc' := 32) rfl ?_
      refine WP.imul K d23_32 (pc' := 33) rfl ?_
      have m2 : ((Int32.ofNat N) * (2 : Int32)).toInt = ((N * 2 : Nat) : Int) := own_mul4 (x := (2 : Int32)) (n := 2) eN rfl (by omega)
      have q2 : ¬ (((Int32.ofNat N) * (2 : Int32)) < ((2 : Int32) * ((4 : Int32) + nI))) := fun q => absurd ((own_lt m2 m1).mp q) (by omega)
      refine WP.icmpT K d23_33 (flt q2).2.1 (by decide) (pc' := 45) (by decide) ?_
      refine WP.aloadN K d23_45 rfl rfl (pc' := 46) rfl ?_
      refine WP.iload K d23_46 rfl (pc' := 48) rfl ?_
      refine WP.iloadN K d23_48 rfl (pc' := 49) rfl ?_
      have nq_tb_el : tb ≠ el := (ne_exa (IsTT.exa T_) (IsEl.exa O_el) (by decide))
      have nq_tb_en : tb ≠ en := (Ary.ne (IsTT.exa T_) A_en (w_3 hw))
      refine WP.callP K (a := el) (argsL := [(.int ((Int32.ofNat N) * (2 : Int32))), (.int (4 : Int32))]) (S := []) (w_184 hw) (w_185 hw) (w_115 hw) (w_186 hw) (IsEl.exa O_el) (rm_move2 w l Z a0 hw el en B N f n ear hd G ((Int32.ofNat N) * (2 : Int32)) (4 : Int32) 16 4 h0 n0 Z0 L_ old_el old_en (by rw [m2, hN8]) (Or.inr rfl) rfl (by omega)) (w_187 hw) (w_116 hw) (by decide) rfl (lenOf pd_8 rfl) rfl (W := 0) rfl (by decide) (by decide) (k' := 1) (n' := 16) rfl rfl (by decide) (by decide) d23_49 (pc' := 52) rfl fun v h61 hq => ?_
      obtain ⟨rfl, K1, en1, old_en1, s_en1, L1⟩ := hq
      have T_ := IsTT.keep K1 T_ (allS B_el (allS B_en all0))
      have KP := Keep.trans KP K1 (allS (Or.inl (List.mem_of_getElem? (i := 0) rfl)) (allS (Or.inl (List.mem_of_getElem? (i := 1) rfl)) all0))
      have Z0 := Nat.le_trans Z0 K1.1
      show WP κ h61 1 16 (mkF κ.m 52 #[.val (.ref el), .val (.ref tb), .val (.int t), .val (.int (4 : Int32)), .val (.int ((Int32.ofNat N) * (2 : Int32)))] [])
      obtain ⟨B_el, B_en1, kE1, F1, fI1, nI1, eI1, dI1, hf1, hn1, he1, hdd1, O_el, A_en1, hN1, hfn1, hen1, hG1⟩ := L1
      have eN1 : (Int32.ofNat 16).toInt = (16 : Int) := Int32.toInt_ofNat_small A_en1.len
      have kin_en1 := own_kw (el := el) s_en1
      refine WP.aloadN K d23_52 rfl rfl (pc' := 53) rfl ?_
      refine WP.dup K d23_53 rfl (pc' := 54) rfl ?_
      refine WP.getF K (w_140 hw) Via.refl (IsEl.f_first O_el) d23_54 (pc' := 57) rfl ?_
      refine WP.iconst K d23_57 (v := (1 : Int32)) rfl (pc' := 58) rfl ?_
      refine WP.isub K d23_58 (pc' := 59) rfl ?_
      refine WP.putF K (w_140 hw) Via.refl (IsEl.f_first O_el) (IsEl.exa O_el) (Or.inl (w_141 hw)) (w_115 hw) (ty := .int) (by decide) rfl rfl old_el d23_59 (pc' := 62) rfl fun h62 W62 => ?_
      have T_ := IsTT.wr W62 T_ B_el
      have A_en1 := Ary.other W62 A_en1 (Ne.symm (Ary.ne (IsEl.exa O_el) A_en1 (w_115 hw)))
      have KP := Keep.wr KP W62 (Or.inl (List.mem_of_getElem? (i := 0) rfl))
      have Z0 := Nat.le_trans Z0 (Nat.le_of_eq W62.size.symm)
      have O_el := IsEl.s_first hw W62 O_el
      refine WP.aloadN K d23_62 rfl rfl (pc' := 63) rfl ?_
      refine WP.getF K (w_121 hw) Via.refl (IsEl.f_entries O_el) d23_63 (pc' := 66) rfl ?_
      refine WP.iconst K d23_66 (v := (2 : Int32)) rfl (pc' := 67) rfl ?_
      refine WP.aloadN K d23_67 rfl rfl (pc' := 68) rfl ?_
      refine WP.getF K (w_140 hw) Via.refl (IsEl.f_first O_el) d23_68 (pc' := 71) rfl ?_
      refine WP.imul K d23_71 (pc' := 72) rfl ?_
      refine WP.iloadN K d23_72 rfl (pc' := 73) rfl ?_
      refine WP.iastore K (i := (2 * (4 - 1))) A_en1 (own_2 (own_s1 hf1 (by omega)) (by omega)) (by omega) old_en1 d23_73 (pc' := 74) rfl fun h63 W63 A_n => ?_
      have O_el := IsEl.other W63 O_el (Ary.ne (IsEl.exa O_el) A_en1 (w_115 hw))
      have T_ := IsTT.wr W63 T_ B_en1
      have KP := Keep.wr KP W63 kin_en1
      have Z0 := Nat.le_trans Z0 (Nat.le_of_eq W63.size.symm)
      have A_en1 := A_n
      rw [upd_int] at A_en1
      refine WP.aloadN K d23_74 rfl rfl (pc' := 75) rfl ?_
      refine WP.getF K (w_121 hw) Via.refl (IsEl.f_entries O_el) d23_75 (pc' := 78) rfl ?_
      refine WP.iconst K d23_78 (v := (2 : Int32)) rfl (pc' := 79) rfl ?_
      refine WP.aloadN K d23_79 rfl rfl (pc' := 80) rfl ?_
      refine WP.getF K (w_140 hw) Via.refl (IsEl.f_first O_el) d23_80 (pc' := 83) rfl ?_
      refine WP.imul K d23_83 (pc' := 84) rfl ?_
      refine WP.iconst K d23_84 (v := (1 : Int32)) rfl (pc' := 85) rfl ?_
      refine WP.iadd K d23_85 (pc' := 86) rfl ?_
      refine WP.aloadN K d23_86 rfl rfl (pc' := 87) rfl ?_
      refine WP.iloadN K d23_87 rfl (pc' := 88) rfl ?_
      refine WP.callV K (a := tb) (argsL := [(.int t)]) (S := [(.int (((2 : Int32) * (fI1 - (1 : Int32))) + (1 : Int32))), (.ref en1)]) (w_142 hw) (w_143 hw) (fun vm0 hZ => notFace_of_selects (args := #[]) (mvT (s := κ.s.setVm vm0) hZ (w_145 hw))) (w_145 hw) (w_144 hw) (by decide) (IsTT.exa T_) (rm_moves w l Z a0 hw tb A B D t h63 n0 Z0 T_) (w_146 hw) (w_4 hw) (by decide) rfl (lenOf pd_9 rfl) rfl (W := 2) rfl (by decide) (by decide) (k' := 1) (n' := 16) rfl rfl (by decide) (by decide) d23_88 (pc' := 91) rfl fun v h64 hq => ?_
      obtain ⟨rfl, rfl⟩ := hq
      show WP κ h63 1 16 (mkF κ.m 91 #[.val (.ref el), .val (.ref tb), .val (.int t), .val (.int (4 : Int32)), .val (.int ((Int32.ofNat N) * (2 : Int32)))] [(.int (0 : Int32)), (.int (((2 : Int32) * (fI1 - (1 : Int32))) + (1 : Int32))), (.ref en1)])
      refine WP.iastore K (i := (2 * (4 - 1) + 1)) A_en1 (own_a1 (own_2 (own_s1 hf1 (by omega)) (by omega)) (by omega)) (by omega) old_en1 d23_91 (pc' := 92) rfl fun h65 W65 A_n => ?_
      have O_el := IsEl.other W65 O_el (Ary.ne (IsEl.exa O_el) A_en1 (w_115 hw))
      have T_ := IsTT.wr W65 T_ B_en1
      have KP := Keep.wr KP W65 kin_en1
      have Z0 := Nat.le_trans Z0 (Nat.le_of_eq W65.size.symm)
      have A_en1 := A_n
      rw [upd_int] at A_en1
      refine WP.aloadN K d23_92 rfl rfl (pc' := 93) rfl ?_
      refine WP.dup K d23_93 rfl (pc' := 94) rfl ?_
      refine WP.getF K (w_136 hw) Via.refl (IsEl.f_size O_el) d23_94 (pc' := 97) rfl ?_
      refine WP.iconst K d23_97 (v := (1 : Int32)) rfl (pc' := 98) rfl ?_
      refine WP.iadd K d23_98 (pc' := 99) rfl ?_
      refine WP.putF K (w_136 hw) Via.refl (IsEl.f_size O_el) (IsEl.exa O_el) (Or.inl (w_137 hw)) (w_115 hw) (ty := .int) (by decide) rfl rfl old_el d23_99 (pc' := 102) rfl fun h66 W66 => ?_
      have T_ := IsTT.wr W66 T_ B_el
      have A_en1 := Ary.other W66 A_en1 (Ne.symm (Ary.ne (IsEl.exa O_el) A_en1 (w_115 hw)))
      have KP := Keep.wr KP W66 (Or.inl (List.mem_of_getElem? (i := 0) rfl))
      have Z0 := Nat.le_trans Z0 (Nat.le_of_eq W66.size.symm)
      have O_el := IsEl.s_size hw W66 O_el
      refine WP.aloadN K d23_102 rfl rfl (pc' := 103) rfl ?_
      refine WP.dup K d23_103 rfl (pc' := 104) rfl ?_
      refine WP.getF K (w_138 hw) Via.refl (IsEl.f_earliest O_el) d23_104 (pc' := 107) rfl ?_
      refine WP.iconst K d23_107 (v := (1 : Int32)) rfl (pc' := 108) rfl ?_
      refine WP.iadd K d23_108 (pc' := 109) rfl ?_
      refine WP.putF K (w_138 hw) Via.refl (IsEl.f_earliest O_el) (IsEl.exa O_el) (Or.inl (w_139 hw)) (w_115 hw) (ty := .int) (by decide) rfl rfl old_el d23_109 (pc' := 112) rfl fun h67 W67 => ?_
      have T_ := IsTT.wr W67 T_ B_el
      have A_en1 := Ary.other W67 A_en1 (Ne.symm (Ary.ne (IsEl.exa O_el) A_en1 (w_115 hw)))
      have KP := Keep.wr KP W67 (Or.inl (List.mem_of_getElem? (i := 0) rfl))
      have Z0 := Nat.le_trans Z0 (Nat.le_of_eq W67.size.symm)
      have O_el := IsEl.s_earliest hw W67 O_el
      exact WP.ret0 K d23_112 (by decide) (by decide) ⟨rfl, KP, en1, 16, 4 - 1, old_en1, s_en1, B_el, B_en1, kE1, _, _, _, _, _, own_s1 hf1 (by omega), own_a1 hn1 (by omega), own_a1 he1 (by omega), hdd1, O_el, A_en1, hN1, by omega, by omega, own_consG (by omega) hG1⟩
    · have hle : ¬ N < 2 * (4 + n) := fun q => c1 ((own_lt eN m1).mpr q)
      refine WP.icmpT K d23_33 (flt c1).2.1 (by decide) (pc' := 45) (by decide) ?_
      refine WP.aloadN K d23_45 rfl rfl (pc' := 46) rfl ?_
      refine WP.iload K d23_46 rfl (pc' := 48) rfl ?_
      refine WP.iloadN K d23_48 rfl (pc' := 49) rfl ?_
      have nq_tb_el : tb ≠ el := (ne_exa (IsTT.exa T_) (IsEl.exa O_el) (by decide))
      have nq_tb_en : tb ≠ en := (Ary.ne (IsTT.exa T_) A_en (w_3 hw))
      refine WP.callP K (a := el) (argsL := [(.int (Int32.ofNat N)), (.int (4 : Int32))]) (S := []) (w_184 hw) (w_185 hw) (w_115 hw) (w_186 hw) (IsEl.exa O_el) (rm_move2 w l Z a0 hw el en B N f n ear hd G (Int32.ofNat N) (4 : Int32) N 4 h0 n0 Z0 L_ old_el old_en eN hN rfl (by omega)) (w_187 hw) (w_116 hw) (by decide) rfl (lenOf pd_8 rfl) rfl (W := 0) rfl (by decide) (by decide) (k' := 1) (n' := 16) rfl rfl (by decide) (by decide) d23_49 (pc' := 52) rfl fun v h68 hq => ?_
      obtain ⟨rfl, K1, en1, old_en1, s_en1, L1⟩ := hq
      have T_ := IsTT.keep K1 T_ (allS B_el (allS B_en all0))
      have KP := Keep.trans KP K1 (allS (Or.inl (List.mem_of_getElem? (i := 0) rfl)) (allS (Or.inl (List.mem_of_getElem? (i := 1) rfl)) all0))
      have Z0 := Nat.le_trans Z0 K1.1
      show WP κ h68 1 16 (mkF κ.m 52 #[.val (.ref el), .val (.ref tb), .val (.int t), .val (.int (4 : Int32)), .val (.int (Int32.ofNat N))] [])
      obtain ⟨B_el, B_en1, kE1, F1, fI1, nI1, eI1, dI1, hf1, hn1, he1, hdd1, O_el, A_en1, hN1, hfn1, hen1, hG1⟩ := L1
      have eN1 : (Int32.ofNat N).toInt = (N : Int) := Int32.toInt_ofNat_small A_en1.len
      have kin_en1 := own_kw (el := el) s_en1
      refine WP.aloadN K d23_52 rfl rfl (pc' := 53) rfl ?_
      refine WP.dup K d23_53 rfl (pc' := 54) rfl ?_
      refine WP.getF K (w_140 hw) Via.refl (IsEl.f_first O_el) d23_54 (pc' := 57) rfl ?_
      refine WP.iconst K d23_57 (v := (1 : Int32)) rfl (pc' := 58) rfl ?_
      refine WP.isub K d23_58 (pc' := 59) rfl ?_
      refine WP.putF K (w_140 hw) Via.refl (IsEl.f_first O_el) (IsEl.exa O_el) (Or.inl (w_141 hw)) (w_115 hw) (ty := .int) (by decide) rfl rfl old_el d23_59 (pc' := 62) rfl fun h69 W69 => ?_
      have T_ := IsTT.wr W69 T_ B_el
      have A_en1 := Ary.other W69 A_en1 (Ne.symm (Ary.ne (IsEl.exa O_el) A_en1 (w_115 hw)))
      have KP := Keep.wr KP W69 (Or.inl (List.mem_of_getElem? (i := 0) rfl))
      have Z0 := Nat.le_trans Z0 (Nat.le_of_eq W69.size.symm)
      have O_el := IsEl.s_first hw W69 O_el
      refine WP.aloadN K d23_62 rfl rfl (pc' := 63) rfl ?_
      refine WP.getF K (w_121 hw) Via.refl (IsEl.f_entries O_el) d23_63 (pc' := 66) rfl ?_
      refine WP.iconst K d23_66 (v := (2 : Int32)) rfl (pc' := 67) rfl ?_
      refine WP.aloadN K d23_67 rfl rfl (pc' := 68) rfl ?_
      refine WP.getF K (w_140 hw) Via.refl (IsEl.f_first O_el) d23_68 (pc' := 71) rfl ?_
      refine WP.imul K d23_71 (pc' := 72) rfl ?_
      refine WP.iloadN K d23_72 rfl (pc' := 73) rfl ?_
      refine WP.iastore K (i := (2 * (4 - 1))) A_en1 (own_2 (own_s1 hf1 (by omega)) (by omega)) (by omega) old_en1 d23_73 (pc' := 74) rfl fun h70 W70 A_n => ?_
      have O_el := IsEl.other W70 O_el (Ary.ne (IsEl.exa O_el) A_en1 (w_115 hw))
      have T_ := IsTT.wr W70 T_ B_en1
      have KP := Keep.wr KP W70 kin_en1
      have Z0 := Nat.le_trans Z0 (Nat.le_of_eq W70.size.symm)
      have A_en1 := A_n
      rw [upd_int] at A_en1
      refine WP.aloadN K d23_74 rfl rfl (pc' := 75) rfl ?_
      refine WP.getF K (w_121 hw) Via.refl (IsEl.f_entries O_el) d23_75 (pc' := 78) rfl ?_
      refine WP.iconst K d23_78 (v := (2 : Int32)) rfl (pc' := 79) rfl ?_
      refine WP.aloadN K d23_79 rfl rfl (pc' := 80) rfl ?_
      refine WP.getF K (w_140 hw) Via.refl (IsEl.f_first O_el) d23_80 (pc' := 83) rfl ?_
      refine WP.imul K d23_83 (pc' := 84) rfl ?_
      refine WP.iconst K d23_84 (v := (1 : Int32)) rfl (pc' := 85) rfl ?_
      refine WP.iadd K d23_85 (pc' := 86) rfl ?_
      refine WP.aloadN K d23_86 rfl rfl (pc' := 87) rfl ?_
      refine WP.iloadN K d23_87 rfl (pc' := 88) rfl ?_
      refine WP.callV K (a := tb) (argsL := [(.int t)]) (S := [(.int (((2 : Int32) * (fI1 - (1 : Int32))) + (1 : Int32))), (.ref en1)]) (w_142 hw) (w_143 hw) (fun vm0 hZ => notFace_of_selects (args := #[]) (mvT (s := κ.s.setVm vm0) hZ (w_145 hw))) (w_145 hw) (w_144 hw) (by decide) (IsTT.exa T_) (rm_moves w l Z a0 hw tb A B D t h70 n0 Z0 T_) (w_146 hw) (w_4 hw) (by decide) rfl (lenOf pd_9 rfl) rfl (W := 2) rfl (by decide) (by decide) (k' := 1) (n' := 16) rfl rfl (by decide) (by decide) d23_88 (pc' := 91) rfl fun v h71 hq => ?_
      obtain ⟨rfl, rfl⟩ := hq
      show WP κ h70 1 16 (mkF κ.m 91 #[.val (.ref el), .val (.ref tb), .val (.int t), .val (.int (4 : Int32)), .val (.int (Int32.ofNat N))] [(.int (0 : Int32)), (.int (((2 : Int32) * (fI1 - (1 : Int32))) + (1 : Int32))), (.ref en1)])
      refine WP.iastore K (i := (2 * (4 - 1) + 1)) A_en1 (own_a1 (own_2 (own_s1 hf1 (by omega)) (by omega)) (by omega)) (by omega) old_en1 d23_91 (pc' := 92) rfl fun h72 W72 A_n => ?_
      have O_el := IsEl.other W72 O_el (Ary.ne (IsEl.exa O_el) A_en1 (w_115 hw))
      have T_ := IsTT.wr W72 T_ B_en1
      have KP := Keep.wr KP W72 kin_en1
      have Z0 := Nat.le_trans Z0 (Nat.le_of_eq W72.size.symm)
      have A_en1 := A_n
      rw [upd_int] at A_en1
      refine WP.aloadN K d23_92 rfl rfl (pc' := 93) rfl ?_
      refine WP.dup K d23_93 rfl (pc' := 94) rfl ?_
      refine WP.getF K (w_136 hw) Via.refl (IsEl.f_size O_el) d23_94 (pc' := 97) rfl ?_
      refine WP.iconst K d23_97 (v := (1 : Int32)) rfl (pc' := 98) rfl ?_
      refine WP.iadd K d23_98 (pc' := 99) rfl ?_
      refine WP.putF K (w_136 hw) Via.refl (IsEl.f_size O_el) (IsEl.exa O_el) (Or.inl (w_137 hw)) (w_115 hw) (ty := .int) (by decide) rfl rfl old_el d23_99 (pc' := 102) rfl fun h73 W73 => ?_
      have T_ := IsTT.wr W73 T_ B_el
      have A_en1 := Ary.other W73 A_en1 (Ne.symm (Ary.ne (IsEl.exa O_el) A_en1 (w_115 hw)))
      have KP := Keep.wr KP W73 (Or.inl (List.mem_of_getElem? (i := 0) rfl))
      have Z0 := Nat.le_trans Z0 (Nat.le_of_eq W73.size.symm)
      have O_el := IsEl.s_size hw W73 O_el
      refine WP.aloadN K d23_102 rfl rfl (pc' := 103) rfl ?_
      refine WP.dup K d23_103 rfl (pc' := 104) rfl ?_
      refine WP.getF K (w_138 hw) Via.refl (IsEl.f_earliest O_el) d23_104 (pc' := 107) rfl ?_
      refine WP.iconst K d23_107 (v := (1 : Int32)) rfl (pc' := 108) rfl ?_
      refine WP.iadd K d23_108 (pc' := 109) rfl ?_
      refine WP.putF K (w_138 hw) Via.refl (IsEl.f_earliest O_el) (IsEl.exa O_el) (Or.inl (w_139 hw)) (w_115 hw) (ty := .int) (by decide) rfl rfl old_el d23_109 (pc' := 112) rfl fun h74 W74 => ?_
      have T_ := IsTT.wr W74 T_ B_el
      have A_en1 := Ary.other W74 A_en1 (Ne.symm (Ary.ne (IsEl.exa O_el) A_en1 (w_115 hw)))
      have KP := Keep.wr KP W74 (Or.inl (List.mem_of_getElem? (i := 0) rfl))
      have Z0 := Nat.le_trans Z0 (Nat.le_of_eq W74.size.symm)
      have O_el := IsEl.s_earliest hw W74 O_el
      exact WP.ret0 K d23_112 (by decide) (by decide) ⟨rfl, KP, en1, N, 4 - 1, old_en1, s_en1, B_el, B_en1, kE1, _, _, _, _, _, own_s1 hf1 (by omega), own_a1 hn1 (by omega), own_a1 he1 (by omega), hdd1, O_el, A_en1, hN1, by omega, by omega, own_consG (by omega) hG1⟩
  · have hf1 : 1 ≤ f := Nat.pos_of_ne_zero (fun z => c0 (Int32.toInt_inj.mp (by rw [hf, z]; rfl)))
    refine WP.if0T K d23_4 ((if0 _ _).trans (feq c0).2) (by decide) (pc' := 52) (by decide) ?_
    refine WP.aloadN K d23_52 rfl rfl (pc' := 53) rfl ?_
    refine WP.dup K d23_53 rfl (pc' := 54) rfl ?_
    refine WP.getF K (w_140 hw) Via.refl (IsEl.f_first O_el) d23_54 (pc' := 57) rfl ?_
    refine WP.iconst K d23_57 (v := (1 : Int32)) rfl (pc' := 58) rfl ?_
    refine WP.isub K d23_58 (pc' := 59) rfl ?_
    refine WP.putF K (w_140 hw) Via.refl (IsEl.f_first O_el) (IsEl.exa O_el) (Or.inl (w_141 hw)) (w_115 hw) (ty := .int) (by decide) rfl rfl old_el d23_59 (pc' := 62) rfl fun h54 W54 => ?_
    have A_en := Ary.other W54 A_en (Ne.symm (Ary.ne (IsEl.exa O_el) A_en (w_115 hw)))
    have T_ := IsTT.wr W54 T_ B_el
    have KP := Keep.wr KP W54 (Or.inl (List.mem_of_getElem? (i := 0) rfl))
    have Z0 := Nat.le_trans Z0 (Nat.le_of_eq W54.size.symm)
    have O_el := IsEl.s_first hw W54 O_el
    refine WP.aloadN K d23_62 rfl rfl (pc' := 63) rfl ?_
    refine WP.getF K (w_121 hw) Via.refl (IsEl.f_entries O_el) d23_63 (pc' := 66) rfl ?_
    refine WP.iconst K d23_66 (v := (2 : Int32)) rfl (pc' := 67) rfl ?_
    refine WP.aloadN K d23_67 rfl rfl (pc' := 68) rfl ?_
    refine WP.getF K (w_140 hw) Via.refl (IsEl.f_first O_el) d23_68 (pc' := 71) rfl ?_
    refine WP.imul K d23_71 (pc' := 72) rfl ?_
    refine WP.iloadN K d23_72 rfl (pc' := 73) rfl ?_
    refine WP.iastore K (i := (2 * (f - 1))) A_en (own_2 (own_s1 hf (by omega)) (by omega)) (by omega) old_en d23_73 (pc' := 74) rfl fun h55 W55 A_n => ?_
    have O_el := IsEl.other W55 O_el (Ary.ne (IsEl.exa O_el) A_en (w_115 hw))
    have T_ := IsTT.wr W55 T_ B_en
    have KP := Keep.wr KP W55 (Or.inl (List.mem_of_getElem? (i := 1) rfl))
    have Z0 := Nat.le_trans Z0 (Nat.le_of_eq W55.size.symm)
    have A_en := A_n
    rw [upd_int] at A_en
    refine WP.aloadN K d23_74 rfl rfl (pc' := 75) rfl ?_
    refine WP.getF K (w_121 hw) Via.refl (IsEl.f_entries O_el) d23_75 (pc' := 78) rfl ?_
    refine WP.iconst K d23_78 (v := (2 : Int32)) rfl (pc' := 79) rfl ?_
    refine WP.aloadN K d23_79 rfl rfl (pc' := 80) rfl ?_
    refine WP.getF K (w_140 hw) Via.refl (IsEl.f_first O_el) d23_80 (pc' := 83) rfl ?_
    refine WP.imul K d23_83 (pc' := 84) rfl ?_
    refine WP.iconst K d23_84 (v := (1 : Int32)) rfl (pc' := 85) rfl ?_
    refine WP.iadd K d23_85 (pc' := 86) rfl ?_
    refine WP.aloadN K d23_86 rfl rfl (pc' := 87) rfl ?_
    refine WP.iloadN K d23_87 rfl (pc' := 88) rfl ?_
    refine WP.callV K (a := tb) (argsL := [(.int t)]) (S := [(.int (((2 : Int32) * (fI - (1 : Int32))) + (1 : Int32))), (.ref en)]) (w_142 hw) (w_143 hw) (fun vm0 hZ => notFace_of_selects (args := #[]) (mvT (s := κ.s.setVm vm0) hZ (w_145 hw))) (w_145 hw) (w_144 hw) (by decide) (IsTT.exa T_) (rm_moves w l Z a0 hw tb A B D t h55 n0 Z0 T_) (w_146 hw) (w_4 hw) (by decide) rfl (lenOf pd_9 rfl) rfl (W := 2) rfl (by decide) (by decide) (k' := 0) (n' := 0) rfl rfl (by decide) (by decide) d23_88 (pc' := 91) rfl fun v h56 hq => ?_
    obtain ⟨rfl, rfl⟩ := hq
    show WP κ h55 0 0 (mkF κ.m 91 #[.val (.ref el), .val (.ref tb), .val (.int t), .unset, .unset] [(.int (0 : Int32)), (.int (((2 : Int32) * (fI - (1 : Int32))) + (1 : Int32))), (.ref en)])
    refine WP.iastore K (i := (2 * (f - 1) + 1)) A_en (own_a1 (own_2 (own_s1 hf (by omega)) (by omega)) (by omega)) (by omega) old_en d23_91 (pc' := 92) rfl fun h57 W57 A_n => ?_
    have O_el := IsEl.other W57 O_el (Ary.ne (IsEl.exa O_el) A_en (w_115 hw))
    have T_ := IsTT.wr W57 T_ B_en
    have KP := Keep.wr KP W57 (Or.inl (List.mem_of_getElem? (i := 1) rfl))
    have Z0 := Nat.le_trans Z0 (Nat.le_of_eq W57.size.symm)
    have A_en := A_n
    rw [upd_int] at A_en
    refine WP.aloadN K d23_92 rfl rfl (pc' := 93) rfl ?_
    refine WP.dup K d23_93 rfl (pc' := 94) rfl ?_
    refine WP.getF K (w_136 hw) Via.refl (IsEl.f_size O_el) d23_94 (pc' := 97) rfl ?_
    refine WP.iconst K d23_97 (v := (1 : Int32)) rfl (pc' := 98) rfl ?_
    refine WP.iadd K d23_98 (pc' := 99) rfl ?_
    refine WP.putF K (w_136 hw) Via.refl (IsEl.f_size O_el) (IsEl.exa O_el) (Or.inl (w_137 hw)) (w_115 hw) (ty := .int) (by decide) rfl rfl old_el d23_99 (pc' := 102) rfl fun h58 W58 => ?_
    have A_en := Ary.other W58 A_en (Ne.symm (Ary.ne (IsEl.exa O_el) A_en (w_115 hw)))
    have T_ := IsTT.wr W58 T_ B_el
    have KP := Keep.wr KP W58 (Or.inl (List.mem_of_getElem? (i := 0) rfl))
    have Z0 := Nat.le_trans Z0 (Nat.le_of_eq W58.size.symm)
    have O_el := IsEl.s_size hw W58 O_el
    refine WP.aloadN K d23_102 rfl rfl (pc' := 103) rfl ?_
    refine WP.dup K d23_103 rfl (pc' := 104) rfl ?_
    refine WP.getF K (w_138 hw) Via.refl (IsEl.f_earliest O_el) d23_104 (pc' := 107) rfl ?_
    refine WP.iconst K d23_107 (v := (1 : Int32)) rfl (pc' := 108) rfl ?_
    refine WP.iadd K d23_108 (pc' := 109) rfl ?_
    refine WP.putF K (w_138 hw) Via.refl (IsEl.f_earliest O_el) (IsEl.exa O_el) (Or.inl (w_139 hw)) (w_115 hw) (ty := .int) (by decide) rfl rfl old_el d23_109 (pc' := 112) rfl fun h59 W59 => ?_
    have A_en := Ary.other W59 A_en (Ne.symm (Ary.ne (IsEl.exa O_el) A_en (w_115 hw)))
    have T_ := IsTT.wr W59 T_ B_el
    have KP := Keep.wr KP W59 (Or.inl (List.mem_of_getElem? (i := 0) rfl))
    have Z0 := Nat.le_trans Z0 (Nat.le_of_eq W59.size.symm)
    have O_el := IsEl.s_earliest hw W59 O_el
    exact WP.ret0 K d23_112 (by decide) (by decide) ⟨rfl, KP, en, N, f - 1, old_en, Or.inl rfl, B_el, B_en, kE, _, _, _, _, _, own_s1 hf (by omega), own_a1 hn (by omega), own_a1 he (by omega), hdd, O_el, A_en, hN, by omega, by omega, own_consG (by omega) hG⟩
set_option maxRecDepth 65536 in
set_option maxHeartbeats 40000000 in
theorem rm_place (w : Bool) (l : Launch) (Z : State) (a0 : Array Value) (hw : ∀ d ∈ tables_1, d.before a0 Z = true) (el en : Addr) (B N f n ear hd : Nat) (G : Nat → Int32) (tb : Addr) (A : Nat) (D : Nat → Int64) (t : Int32) (ti : Nat) (h0 : Heap) (n0 : Nat) (Z0 : n0 ≤ h0.size) (L_ : IsL Z h0 B el en N f n ear hd G) (old_el : n0 ≤ el) (old_en : n0 ≤ en) (T_ : IsTT Z h0 A B tb D) (ht : t.toInt = (ti : Int)) (hti : ti < 64) (hn3 : n ≤ 3) (hb : own_bd n G) :
    Met w l Z (⟨"com/example/weir/weir/engine/EndingList", "place", "(Lcom/example/weir/weir/engine/TripleTable;I)V"⟩ : MethodName) prog_25_method_11_code 7 none [] ({ frames := 3, cells := 1, slots := 16, locals := 95 } : Room) #[(.ref el), (.ref tb), (.int t)] h0 n0 (fun v h => v = none ∧ Keep h0 h [el, en] ∧ ∃ (en' : Addr) (N' f' : Nat), n0 ≤ en' ∧ (en' = en ∨ h0.size ≤ en') ∧ IsL Z h B el en' N' f' (n + 1) (own_ae D ti ear) hd (own_ag D ti n ear t G)) := by
  refine Met.of (plainFor_of_name (by first | (simp [plainName, overriddenIn]; done) | decide +kernel)) fun κ K => ?_
  refine WP.frame (g' := (mkF κ.m 0 #[.val (.ref el), .val (.ref tb), .val (.int t), .unset, .unset, .unset, .unset] [])) (by first | (simp [entryFrame, mkF, argsToLocals, Value.category]; done) | rfl) ?_
  have KP := Keep.refl h0 [el, en]
  obtain ⟨B_el, B_en, kE, F, fI, nI, eI, dI, hf, hn, he, hdd, O_el, A_en, hN, hfn, hen, hG⟩ := id L_
  have z_el : @LT.lt Nat _ el h0.size := IsEl.lt O_el
  have eN : (Int32.ofNat N).toInt = (N : Int) := Int32.toInt_ofNat_small A_en.len
  refine WP.aloadN K d17_0 rfl rfl (pc' := 1) rfl ?_
  refine WP.iloadN K d17_1 rfl (pc' := 2) rfl ?_
  refine WP.callV K (a := tb) (argsL := [(.int t)]) (S := []) (w_134 hw) (w_90 hw) (fun vm0 hZ => notFace_of_selects (args := #[]) (mvT (s := κ.s.setVm vm0) hZ (w_92 hw))) (w_92 hw) (w_91 hw) (by decide) (IsTT.exa T_) (rm_end w l Z a0 hw tb A B D t ti h0 n0 Z0 T_ ht hti) (w_93 hw) (w_4 hw) (by decide) rfl (lenOf pd_4 rfl) rfl (W := 0) rfl (by decide) (by decide) (k' := 0) (n' := 0) rfl rfl (by decide) (by decide) d17_2 (pc' := 5) rfl fun v h75 hq => ?_
  obtain ⟨rfl, rfl⟩ := hq
  show WP κ h0 0 0 (mkF κ.m 5 #[.val (.ref el), .val (.ref tb), .val (.int t), .unset, .unset, .unset, .unset] [(.long (D ti))])
  refine WP.lstoreN K d17_5 (L' := #[.val (.ref el), .val (.ref tb), .val (.int t), .val (.long (D ti)), .second, .unset, .unset]) rfl (pc' := 6) rfl ?_
  refine WP.lloadN K d17_6 rfl (pc' := 7) rfl ?_
  refine WP.ldc2J K (w_135 hw) d17_7 (pc' := 10) rfl ?_
  refine WP.lcmp K d17_10 (pc' := 11) rfl ?_
  by_cases cE : (D ti) = (-9223372036854775807 : Int64)
  · refine WP.if0F K d17_11 ((if0 _ _).trans (teq ((lw_eq _ _).mpr cE)).2) (pc' := 14) rfl ?_
    refine WP.aloadN K d17_14 rfl rfl (pc' := 15) rfl ?_
    refine WP.aloadN K d17_15 rfl rfl (pc' := 16) rfl ?_
    refine WP.iloadN K d17_16 rfl (pc' := 17) rfl ?_
    refine WP.callP K (a := el) (argsL := [(.ref tb), (.int t)]) (S := []) (w_176 hw) (w_177 hw) (w_115 hw) (w_178 hw) (IsEl.exa O_el) (rm_pf w l Z a0 hw el en B N f n ear hd G tb A D t h0 n0 Z0 L_ old_el old_en T_ hn3) (w_179 hw) (w_116 hw) (by decide) rfl (lenOf pd_11 rfl) rfl (W := 0) rfl (by decide) (by decide) (k' := 1) (n' := 16) rfl rfl (by decide) (by decide) d17_17 (pc' := 20) rfl fun v h76 hq => ?_
    obtain ⟨rfl, K1, en1, N1, f1, o1, s1, L1⟩ := hq
    show WP κ h76 1 16 (mkF κ.m 20 #[.val (.ref el), .val (.ref tb), .val (.int t), .val (.long (D ti)), .second, .unset, .unset] [])
    exact WP.ret0 K d17_20 (by decide) (by decide) ⟨rfl, K1, en1, N1, f1, o1, s1, by rw [show own_ae D ti ear = ear + 1 from if_pos cE, show own_ag D ti n ear t G = own_cons G t from if_pos cE]; exact L1⟩
  · refine WP.if0T K d17_11 ((if0 _ _).trans (feq (fun q => cE ((lw_eq _ _).mp q))).2) (by decide) (pc' := 21) (by decide) ?_
    refine WP.aloadN K d17_21 rfl rfl (pc' := 22) rfl ?_
    refine WP.getF K (w_136 hw) Via.refl (IsEl.f_size O_el) d17_22 (pc' := 25) rfl ?_
    refine WP.istore K d17_25 (L' := #[.val (.ref el), .val (.ref tb), .val (.int t), .val (.long (D ti)), .second, .val (.int nI), .unset]) rfl (pc' := 27) rfl ?_
    obtain ⟨p, hp⟩ : ∃ p, p = own_pos G D ear (D ti) n := ⟨_, rfl⟩
    have hpn : p ≤ n := by rw [hp]; exact own_pos_le _ _ _ _ _
    have eQ : own_ae D ti ear = ear ∧ own_ag D ti n ear t G = own_ins G p t := ⟨if_neg cE, by rw [hp]; exact if_neg cE⟩
    have EX : ∀ z : Int32, z.toInt = (p : Int) → WP κ h0 0 0 (mkF κ.m 59 #[.val (.ref el), .val (.ref tb), .val (.int t), .val (.long (D ti)), .second, .val (.int z), .unset] []) := by
      intro z hz
      refine WP.iconst K d17_59 (v := (2 : Int32)) rfl (pc' := 60) rfl ?_
      refine WP.aloadN K d17_60 rfl rfl (pc' := 61) rfl ?_
      refine WP.getF K (w_140 hw) Via.refl (IsEl.f_first O_el) d17_61 (pc' := 64) rfl ?_
      refine WP.aloadN K d17_64 rfl rfl (pc' := 65) rfl ?_
      refine WP.getF K (w_136 hw) Via.refl (IsEl.f_size O_el) d17_65 (pc' := 68) rfl ?_
      refine WP.iadd K d17_68 (pc' := 69) rfl ?_
      refine WP.imul K d17_69 (pc' := 70) rfl ?_
      refine WP.aloadN K d17_70 rfl rfl (pc' := 71) rfl ?_
      refine WP.getF K (w_121 hw) Via.refl (IsEl.f_entries O_el) d17_71 (pc' := 74) rfl ?_
      refine WP.arraylength K A_en d17_74 (pc' := 75) rfl ?_
      have m3 := own_ix hf hn (by omega)
      by_cases c3 : ((2 : Int32) * (fI + nI)) = (Int32.ofNat N)
      · have h3 := (own_eq m3 eN).mp c3
        refine WP.icmpF K d17_75 (teq c3).2 (pc' := 78) rfl ?_
        refine WP.aloadN K d17_78 rfl rfl (pc' := 79) rfl ?_
        refine WP.getF K (w_121 hw) Via.refl (IsEl.f_entries O_el) d17_79 (pc' := 82) rfl ?_
        refine WP.arraylength K A_en d17_82 (pc' := 83) rfl ?_
        refine WP.istore K d17_83 (L' := #[.val (.ref el), .val (.ref tb), .val (.int t), .val (.long (D ti)), .second, .val (.int z), .val (.int (Int32.ofNat N))]) rfl (pc' := 85) rfl ?_
        refine WP.aloadN K d17_85 rfl rfl (pc' := 86) rfl ?_
        refine WP.iconst K d17_86 (v := (2 : Int32)) rfl (pc' := 87) rfl ?_
        refine WP.aloadN K d17_87 rfl rfl (pc' := 88) rfl ?_
        refine WP.getF K (w_136 hw) Via.refl (IsEl.f_size O_el) d17_88 (pc' := 91) rfl ?_
        refine WP.imul K d17_91 (pc' := 92) rfl ?_
        refine WP.iload K d17_92 rfl (pc' := 94) rfl ?_
        refine WP.iconst K d17_94 (v := (2 : Int32)) rfl (pc' := 95) rfl ?_
        refine WP.idiv K d17_95 (by decide) (pc' := 96) rfl ?_
        have m4 := own_2 hn (by omega)
        have m5 := own_div2 eN
        by_cases c4 : ((2 : Int32) * nI) < ((Int32.ofNat N) / (2 : Int32))
        · have h4 := (own_lt m4 m5).mp c4
          refine WP.icmpF K d17_96 (tlt c4).2.1 (pc' := 99) rfl ?_
          refine WP.iload K d17_99 rfl (pc' := 101) rfl ?_
          refine WP.goto K d17_101 (by decide) (pc' := 108) (by decide) ?_
          have nq_tb_el : tb ≠ el := (ne_exa (IsTT.exa T_) (IsEl.exa O_el) (by decide))
          have nq_tb_en : tb ≠ en := (Ary.ne (IsTT.exa T_) A_en (w_3 hw))
          refine WP.callP K (a := el) (argsL := [(.int (Int32.ofNat N))]) (S := []) (w_188 hw) (w_189 hw) (w_115 hw) (w_190 hw) (IsEl.exa O_el) (rm_move1 w l Z a0 hw el en B N f n ear hd G (Int32.ofNat N) N h0 n0 Z0 L_ old_el old_en eN hN (by omega)) (w_191 hw) (w_116 hw) (by decide) rfl (lenOf pd_2 rfl) rfl (W := 0) rfl (by decide) (by decide) (k' := 1) (n' := 16) rfl rfl (by decide) (by decide) d17_108 (pc' := 111) rfl fun v h77 hq => ?_
          obtain ⟨rfl, K1, en1, old_en1, s_en1, L1⟩ := hq
          have T_ := IsTT.keep K1 T_ (allS B_el (allS B_en all0))
          have KP := Keep.trans KP K1 (allS (Or.inl (List.mem_of_getElem? (i := 0) rfl)) (allS (Or.inl (List.mem_of_getElem? (i := 1) rfl)) all0))
          have Z0 := Nat.le_trans Z0 K1.1
          show WP κ h77 1 16 (mkF κ.m 111 #[.val (.ref el), .val (.ref tb), .val (.int t), .val (.long (D ti)), .second, .val (.int z), .val (.int (Int32.ofNat N))] [])
          obtain ⟨B_el, B_en1, kE1, F1, fI1, nI1, eI1, dI1, hf1, hn1, he1, hdd1, O_el, A_en1, hN1, hfn1, hen1, hG1⟩ := L1
          have eN1 : (Int32.ofNat N).toInt = (N : Int) := Int32.toInt_ofNat_small A_en1.len
          have kin_en1 := own_kw (el := el) s_en1
          refine WP.iconst K d17_111 (v := (2 : Int32)) rfl (pc' := 112) rfl ?_
          refine WP.aloadN K d17_112 rfl rfl (pc' := 113) rfl ?_
          refine WP.getF K (w_140 hw) Via.refl (IsEl.f_first O_el) d17_113 (pc' := 116) rfl ?_
          refine WP.iload K d17_116 rfl (pc' := 118) rfl ?_
          refine WP.iadd K d17_118 (pc' := 119) rfl ?_
          refine WP.imul K d17_119 (pc' := 120) rfl ?_
          refine WP.istore K d17_120 (L' := #[.val (.ref el), .val (.ref tb), .val (.int t), .val (.long (D ti)), .second, .val (.int z), .val (.int ((2 : Int32) * (fI1 + z)))]) rfl (pc' := 122) rfl ?_
          refine WP.iload K d17_122 rfl (pc' := 124) rfl ?_
          refine WP.aloadN K d17_124 rfl rfl (pc' := 125) rfl ?_
          refine WP.getF K (w_136 hw) Via.refl (IsEl.f_size O_el) d17_125 (pc' := 128) rfl ?_
          by_cases c5 : z < nI1
          · have hpl := (own_lt hz hn1).mp c5
            refine WP.icmpF K d17_128 (tlt c5).2.1 (pc' := 131) rfl ?_
            refine WP.aloadN K d17_131 rfl rfl (pc' := 132) rfl ?_
            refine WP.getF K (w_121 hw) Via.refl (IsEl.f_entries O_el) d17_132 (pc' := 135) rfl ?_
            refine WP.iload K d17_135 rfl (pc' := 137) rfl ?_
            refine WP.aloadN K d17_137 rfl rfl (pc' := 138) rfl ?_
            refine WP.getF K (w_121 hw) Via.refl (IsEl.f_entries O_el) d17_138 (pc' := 141) rfl ?_
            refine WP.iload K d17_141 rfl (pc' := 143) rfl ?_
            refine WP.iconst K d17_143 (v := (2 : Int32)) rfl (pc' := 144) rfl ?_
            refine WP.iadd K d17_144 (pc' := 145) rfl ?_
            refine WP.iconst K d17_145 (v := (2 : Int32)) rfl (pc' := 146) rfl ?_
            refine WP.aloadN K d17_146 rfl rfl (pc' := 147) rfl ?_
            refine WP.getF K (w_136 hw) Via.refl (IsEl.f_size O_el) d17_147 (pc' := 150) rfl ?_
            refine WP.iload K d17_150 rfl (pc' := 152) rfl ?_
            refine WP.isub K d17_152 (pc' := 153) rfl ?_
            refine WP.imul K d17_153 (pc' := 154) rfl ?_
            have nq_el_en1 : el ≠ en1 := (Ary.ne (IsEl.exa O_el) A_en1 (w_115 hw))
            have nq_tb_en1 : tb ≠ en1 := (Ary.ne (IsTT.exa T_) A_en1 (w_3 hw))
            refine WP.arraycopy K (i := (2 * (0 + p))) (j := (2 * (0 + p) + 2)) (m := (2 * (n - p))) (w_163 hw) (w_166 hw) (w_164 hw) (w_165 hw) A_en1 A_en1 rfl (own_ix hf1 hz (by omega)) (own_a2 (own_ix hf1 hz (by omega)) (by omega)) (own_2 (own_sub hn1 hz (by omega)) (by omega)) (by omega) (by omega) old_en1 d17_154 rfl (by decide) (W := 0) rfl (by decide) (pc' := 157) rfl fun h78 K78 A_n => ?_
            have O_el := IsEl.keep K78 O_el (ninS nq_el_en1 nin0)
            have T_ := IsTT.keep K78 T_ (allS B_en1 all0)
            have KP := Keep.trans KP K78 (allS kin_en1 all0)
            have Z0 := Nat.le_trans Z0 K78.1
            have A_en1 := A_n
            obtain ⟨F3, eF3⟩ : ∃ F_ : Nat → Int32, F_ = fun x => if (2 * (0 + p) + 2) ≤ x ∧ x < (2 * (0 + p) + 2) + (2 * (n - p)) then F1 ((2 * (0 + p)) + (x - (2 * (0 + p) + 2))) else F1 x := ⟨_, rfl⟩
            have A_en1 := Ary.congr A_en1 (f' := fun j => .int (F3 j)) (fun x _ => by rw [eF3]; exact (apply_ite Value.int _ _ _).symm)
            refine WP.aloadN K d17_157 rfl rfl (pc' := 158) rfl ?_
            refine WP.getF K (w_121 hw) Via.refl (IsEl.f_entries O_el) d17_158 (pc' := 161) rfl ?_
            refine WP.iload K d17_161 rfl (pc' := 163) rfl ?_
            refine WP.iloadN K d17_163 rfl (pc' := 164) rfl ?_
            refine WP.iastore K (i := (2 * (0 + p))) A_en1 (own_ix hf1 hz (by omega)) (by omega) old_en1 d17_164 (pc' := 165) rfl fun h79 W79 A_n => ?_
            have O_el := IsEl.other W79 O_el nq_el_en1
            have T_ := IsTT.wr W79 T_ B_en1
            have KP := Keep.wr KP W79 kin_en1
            have Z0 := Nat.le_trans Z0 (Nat.le_of_eq W79.size.symm)
            have A_en1 := A_n
            rw [upd_int] at A_en1
            refine WP.aloadN K d17_165 rfl rfl (pc' := 166) rfl ?_
            refine WP.getF K (w_121 hw) Via.refl (IsEl.f_entries O_el) d17_166 (pc' := 169) rfl ?_
            refine WP.iload K d17_169 rfl (pc' := 171) rfl ?_
            refine WP.iconst K d17_171 (v := (1 : Int32)) rfl (pc' := 172) rfl ?_
            refine WP.iadd K d17_172 (pc' := 173) rfl ?_
            refine WP.aloadN K d17_173 rfl rfl (pc' := 174) rfl ?_
            refine WP.iloadN K d17_174 rfl (pc' := 175) rfl ?_
            refine WP.callV K (a := tb) (argsL := [(.int t)]) (S := [(.int (((2 : Int32) * (fI1 + z)) + (1 : Int32))), (.ref en1)]) (w_142 hw) (w_143 hw) (fun vm0 hZ => notFace_of_selects (args := #[]) (mvT (s := κ.s.setVm vm0) hZ (w_145 hw))) (w_145 hw) (w_144 hw) (by decide) (IsTT.exa T_) (rm_moves w l Z a0 hw tb A B D t h79 n0 Z0 T_) (w_146 hw) (w_4 hw) (by decide) rfl (lenOf pd_9 rfl) rfl (W := 2) rfl (by decide) (by decide) (k' := 1) (n' := 16) rfl rfl (by decide) (by decide) d17_175 (pc' := 178) rfl fun v h80 hq => ?_
            obtain ⟨rfl, rfl⟩ := hq
            show WP κ h79 1 16 (mkF κ.m 178 #[.val (.ref el), .val (.ref tb), .val (.int t), .val (.long (D ti)), .second, .val (.int z), .val (.int ((2 : Int32) * (fI1 + z)))] [(.int (0 : Int32)), (.int (((2 : Int32) * (fI1 + z)) + (1 : Int32))), (.ref en1)])
            refine WP.iastore K (i := (2 * (0 + p) + 1)) A_en1 (own_a1 (own_ix hf1 hz (by omega)) (by omega)) (by omega) old_en1 d17_178 (pc' := 179) rfl fun h81 W81 A_n => ?_
            have O_el := IsEl.other W81 O_el nq_el_en1
            have T_ := IsTT.wr W81 T_ B_en1
            have KP := Keep.wr KP W81 kin_en1
            have Z0 := Nat.le_trans Z0 (Nat.le_of_eq W81.size.symm)
            have A_en1 := A_n
            rw [upd_int] at A_en1
            refine WP.aloadN K d17_179 rfl rfl (pc' := 180) rfl ?_
            refine WP.dup K d17_180 rfl (pc' := 181) rfl ?_
            refine WP.getF K (w_136 hw) Via.refl (IsEl.f_size O_el) d17_181 (pc' := 184) rfl ?_
            refine WP.iconst K d17_184 (v := (1 : Int32)) rfl (pc' := 185) rfl ?_
            refine WP.iadd K d17_185 (pc' := 186) rfl ?_
            refine WP.putF K (w_136 hw) Via.refl (IsEl.f_size O_el) (IsEl.exa O_el) (Or.inl (w_137 hw)) (w_115 hw) (ty := .int) (by decide) rfl rfl old_el d17_186 (pc' := 189) rfl fun h82 W82 => ?_
            have T_ := IsTT.wr W82 T_ B_el
            have A_en1 := Ary.other W82 A_en1 (Ne.symm nq_el_en1)
            have KP := Keep.wr KP W82 (Or.inl (List.mem_of_getElem? (i := 0) rfl))
            have Z0 := Nat.le_trans Z0 (Nat.le_of_eq W82.size.symm)
            have O_el := IsEl.s_size hw W82 O_el
            exact WP.ret0 K d17_189 (by decide) (by decide) ⟨rfl, KP, en1, N, 0, old_en1, s_en1, by rw [eQ.1, eQ.2]; exact ⟨B_el, B_en1, kE1, _, _, _, _, _, hf1, own_a1 hn1 (by omega), he1, hdd1, O_el, A_en1, hN1, by omega, by omega, own_insG hpn eF3 hG1⟩⟩
          · have hpe : p = n := by have q : ¬ p < n := fun q => c5 ((own_lt hz hn1).mpr q); omega
            refine WP.icmpT K d17_128 (flt c5).2.1 (by decide) (pc' := 157) (by decide) ?_
            refine WP.aloadN K d17_157 rfl rfl (pc' := 158) rfl ?_
            refine WP.getF K (w_121 hw) Via.refl (IsEl.f_entries O_el) d17_158 (pc' := 161) rfl ?_
            refine WP.iload K d17_161 rfl (pc' := 163) rfl ?_
            refine WP.iloadN K d17_163 rfl (pc' := 164) rfl ?_
            refine WP.iastore K (i := (2 * (0 + p))) A_en1 (own_ix hf1 hz (by omega)) (by omega) old_en1 d17_164 (pc' := 165) rfl fun h83 W83 A_n => ?_
            have O_el := IsEl.other W83 O_el (Ary.ne (IsEl.exa O_el) A_en1 (w_115 hw))
            have T_ := IsTT.wr W83 T_ B_en1
            have KP := Keep.wr KP W83 kin_en1
            have Z0 := Nat.le_trans Z0 (Nat.le_of_eq W83.size.symm)
            have A_en1 := A_n
            rw [upd_int] at A_en1
            refine WP.aloadN K d17_165 rfl rfl (pc' := 166) rfl ?_
            refine WP.getF K (w_121 hw) Via.refl (IsEl.f_entries O_el) d17_166 (pc' := 169) rfl ?_
            refine WP.iload K d17_169 rfl (pc' := 171) rfl ?_
            refine WP.iconst K d17_171 (v := (1 : Int32)) rfl (pc' := 172) rfl ?_
            refine WP.iadd K d17_172 (pc' := 173) rfl ?_
            refine WP.aloadN K d17_173 rfl rfl (pc' := 174) rfl ?_
            refine WP.iloadN K d17_174 rfl (pc' := 175) rfl ?_
            refine WP.callV K (a := tb) (argsL := [(.int t)]) (S := [(.int (((2 : Int32) * (fI1 + z)) + (1 : Int32))), (.ref en1)]) (w_142 hw) (w_143 hw) (fun vm0 hZ => notFace_of_selects (args := #[]) (mvT (s := κ.s.setVm vm0) hZ (w_145 hw))) (w_145 hw) (w_144 hw) (by decide) (IsTT.exa T_) (rm_moves w l Z a0 hw tb A B D t h83 n0 Z0 T_) (w_146 hw) (w_4 hw) (by decide) rfl (lenOf pd_9 rfl) rfl (W := 2) rfl (by decide) (by decide) (k' := 1) (n' := 16) rfl rfl (by decide) (by decide) d17_175 (pc' := 178) rfl fun v h84 hq => ?_
            obtain ⟨rfl, rfl⟩ := hq
            show WP κ h83 1 16 (mkF κ.m 178 #[.val (.ref el), .val (.ref tb), .val (.int t), .val (.long (D ti)), .second, .val (.int z), .val (.int ((2 : Int32) * (fI1 + z)))] [(.int (0 : Int32)), (.int (((2 : Int32) * (fI1 + z)) + (1 : Int32))), (.ref en1)])
            refine WP.iastore K (i := (2 * (0 + p) + 1)) A_en1 (own_a1 (own_ix hf1 hz (by omega)) (by omega)) (by omega) old_en1 d17_178 (pc' := 179) rfl fun h85 W85 A_n => ?_
            have O_el := IsEl.other W85 O_el (Ary.ne (IsEl.exa O_el) A_en1 (w_115 hw))
            have T_ := IsTT.wr W85 T_ B_en1
            have KP := Keep.wr KP W85 kin_en1
            have Z0 := Nat.le_trans Z0 (Nat.le_of_eq W85.size.symm)
            have A_en1 := A_n
            rw [upd_int] at A_en1
            refine WP.aloadN K d17_179 rfl rfl (pc' := 180) rfl ?_
            refine WP.dup K d17_180 rfl (pc' := 181) rfl ?_
            refine WP.getF K (w_136 hw) Via.refl (IsEl.f_size O_el) d17_181 (pc' := 184) rfl ?_
            refine WP.iconst K d17_184 (v := (1 : Int32)) rfl (pc' := 185) rfl ?_
            refine WP.iadd K d17_185 (pc' := 186) rfl ?_
            refine WP.putF K (w_136 hw) Via.refl (IsEl.f_size O_el) (IsEl.exa O_el) (Or.inl (w_137 hw)) (w_115 hw) (ty := .int) (by decide) rfl rfl old_el d17_186 (pc' := 189) rfl fun h86 W86 => ?_
            have T_ := IsTT.wr W86 T_ B_el
            have A_en1 := Ary.other W86 A_en1 (Ne.symm (Ary.ne (IsEl.exa O_el) A_en1 (w_115 hw)))
            have KP := Keep.wr KP W86 (Or.inl (List.mem_of_getElem? (i := 0) rfl))
            have Z0 := Nat.le_trans Z0 (Nat.le_of_eq W86.size.symm)
            have O_el := IsEl.s_size hw W86 O_el
            exact WP.ret0 K d17_189 (by decide) (by decide) ⟨rfl, KP, en1, N, 0, old_en1, s_en1, by rw [eQ.1, eQ.2]; exact ⟨B_el, B_en1, kE1, _, _, _, _, _, hf1, own_a1 hn1 (by omega), he1, hdd1, O_el, A_en1, hN1, by omega, by omega, own_appG hpe hG1⟩⟩
        · have h4 : ¬ 2 * n < N / 2 := fun q => c4 ((own_lt m4 m5).mpr q)
          have hN8 : N = 8 := by omega
          refine WP.icmpT K d17_96 (flt c4).2.1 (by decide) (pc' := 104) (by decide) ?_
          refine WP.iconst K d17_104 (v := (2 : Int32)) rfl (pc' := 105) rfl ?_
          refine WP.iload K d17_105 rfl (pc' := 107) rfl ?_
          refine WP.imul K d17_107 (pc' := 108) rfl ?_
          have nq_tb_el : tb ≠ el := (ne_exa (IsTT.exa T_) (IsEl.exa O_el) (by decide))
          have nq_tb_en : tb ≠ en := (Ary.ne (IsTT.exa T_) A_en (w_3 hw))
          refine WP.callP K (a := el) (argsL := [(.int ((2 : Int32) * (Int32.ofNat N)))]) (S := []) (w_188 hw) (w_189 hw) (w_115 hw) (w_190 hw) (IsEl.exa O_el) (rm_move1 w l Z a0 hw el en B N f n ear hd G ((2 : Int32) * (Int32.ofNat N)) 16 h0 n0 Z0 L_ old_el old_en (by rw [own_2 eN (by omega), hN8]) (Or.inr rfl) (by omega)) (w_191 hw) (w_116 hw) (by decide) rfl (lenOf pd_2 rfl) rfl (W := 0) rfl (by decide) (by decide) (k' := 1) (n' := 16) rfl rfl (by decide) (by decide) d17_108 (pc' := 111) rfl fun v h87 hq => ?_
          obtain ⟨rfl, K1, en1, old_en1, s_en1, L1⟩ := hq
          have T_ := IsTT.keep K1 T_ (allS B_el (allS B_en all0))
          have KP := Keep.trans KP K1 (allS (Or.inl (List.mem_of_getElem? (i := 0) rfl)) (allS (Or.inl (List.mem_of_getElem? (i := 1) rfl)) all0))
          have Z0 := Nat.le_trans Z0 K1.1
          show WP κ h87 1 16 (mkF κ.m 111 #[.val (.ref el), .val (.ref tb), .val (.int t), .val (.long (D ti)), .second, .val (.int z), .val (.int (Int32.ofNat N))] [])
          obtain ⟨B_el, B_en1, kE1, F1, fI1, nI1, eI1, dI1, hf1, hn1, he1, hdd1, O_el, A_en1, hN1, hfn1, hen1, hG1⟩ := L1
          have eN1 : (Int32.ofNat 16).toInt = (16 : Int) := Int32.toInt_ofNat_small A_en1.len
          have kin_en1 := own_kw (el := el) s_en1
          refine WP.iconst K d17_111 (v := (2 : Int32)) rfl (pc' := 112) rfl ?_
          refine WP.aloadN K d17_112 rfl rfl (pc' := 113) rfl ?_
          refine WP.getF K (w_140 hw) Via.refl (IsEl.f_first O_el) d17_113 (pc' := 116) rfl ?_
          refine WP.iload K d17_116 rfl (pc' := 118) rfl ?_
          refine WP.iadd K d17_118 (pc' := 119) rfl ?_
          refine WP.imul K d17_119 (pc' := 120) rfl ?_
          refine WP.istore K d17_120 (L' := #[.val (.ref el), .val (.ref tb), .val (.int t), .val (.long (D ti)), .second, .val (.int z), .val (.int ((2 : Int32) * (fI1 + z)))]) rfl (pc' := 122) rfl ?_
          refine WP.iload K d17_122 rfl (pc' := 124) rfl ?_
          refine WP.aloadN K d17_124 rfl rfl (pc' := 125) rfl ?_
          refine WP.getF K (w_136 hw) Via.refl (IsEl.f_size O_el) d17_125 (pc' := 128) rfl ?_
          by_cases c5 : z < nI1
          · have hpl := (own_lt hz hn1).mp c5
            refine WP.icmpF K d17_128 (tlt c5).2.1 (pc' := 131) rfl ?_
            refine WP.aloadN K d17_131 rfl rfl (pc' := 132) rfl ?_
            refine WP.getF K (w_121 hw) Via.refl (IsEl.f_entries O_el) d17_132 (pc' := 135) rfl ?_
            refine WP.iload K d17_135 rfl (pc' := 137) rfl ?_
            refine WP.aloadN K d17_137 rfl rfl (pc' := 138) rfl ?_
            refine WP.getF K (w_121 hw) Via.refl (IsEl.f_entries O_el) d17_138 (pc' := 141) rfl ?_
            refine WP.iload K d17_141 rfl (pc' := 143) rfl ?_
            refine WP.iconst K d17_143 (v := (2 : Int32)) rfl (pc' := 144) rfl ?_
            refine WP.iadd K d17_144 (pc' := 145) rfl ?_
            refine WP.iconst K d17_145 (v := (2 : Int32)) rfl (pc' := 146) rfl ?_
            refine WP.aloadN K d17_146 rfl rfl (pc' := 147) rfl ?_
            refine WP.getF K (w_136 hw) Via.refl (IsEl.f_size O_el) d17_147 (pc' := 150) rfl ?_
            refine WP.iload K d17_150 rfl (pc' := 152) rfl ?_
            refine WP.isub K d17_152 (pc' := 153) rfl ?_
            refine WP.imul K d17_153 (pc' := 154) rfl ?_
            have nq_el_en1 : el ≠ en1 := (Ary.ne (IsEl.exa O_el) A_en1 (w_115 hw))
            have nq_tb_en1 : tb ≠ en1 := (Ary.ne (IsTT.exa T_) A_en1 (w_3 hw))
            refine WP.arraycopy K (i := (2 * (0 + p))) (j := (2 * (0 + p) + 2)) (m := (2 * (n - p))) (w_163 hw) (w_166 hw) (w_164 hw) (w_165 hw) A_en1 A_en1 rfl (own_ix hf1 hz (by omega)) (own_a2 (own_ix hf1 hz (by omega)) (by omega)) (own_2 (own_sub hn1 hz (by omega)) (by omega)) (by omega) (by omega) old_en1 d17_154 rfl (by decide) (W := 0) rfl (by decide) (pc' := 157) rfl fun h88 K88 A_n => ?_
            have O_el := IsEl.keep K88 O_el (ninS nq_el_en1 nin0)
            have T_ := IsTT.keep K88 T_ (allS B_en1 all0)
            have KP := Keep.trans KP K88 (allS kin_en1 all0)
            have Z0 := Nat.le_trans Z0 K88.1
            have A_en1 := A_n
            obtain ⟨F3, eF3⟩ : ∃ F_ : Nat → Int32, F_ = fun x => if (2 * (0 + p) + 2) ≤ x ∧ x < (2 * (0 + p) + 2) + (2 * (n - p)) then F1 ((2 * (0 + p)) + (x - (2 * (0 + p) + 2))) else F1 x := ⟨_, rfl⟩
            have A_en1 := Ary.congr A_en1 (f' := fun j => .int (F3 j)) (fun x _ => by rw [eF3]; exact (apply_ite Value.int _ _ _).symm)
            refine WP.aloadN K d17_157 rfl rfl (pc' := 158) rfl ?_
            refine WP.getF K (w_121 hw) Via.refl (IsEl.f_entries O_el) d17_158 (pc' := 161) rfl ?_
            refine WP.iload K d17_161 rfl (pc' := 163) rfl ?_
            refine WP.iloadN K d17_163 rfl (pc' := 164) rfl ?_
            refine WP.iastore K (i := (2 * (0 + p))) A_en1 (own_ix hf1 hz (by omega)) (by omega) old_en1 d17_164 (pc' := 165) rfl fun h89 W89 A_n => ?_
            have O_el := IsEl.other W89 O_el nq_el_en1
            have T_ := IsTT.wr W89 T_ B_en1
            have KP := Keep.wr KP W89 kin_en1
            have Z0 := Nat.le_trans Z0 (Nat.le_of_eq W89.size.symm)
            have A_en1 := A_n
            rw [upd_int] at A_en1
            refine WP.aloadN K d17_165 rfl rfl (pc' := 166) rfl ?_
            refine WP.getF K (w_121 hw) Via.refl (IsEl.f_entries O_el) d17_166 (pc' := 169) rfl ?_
            refine WP.iload K d17_169 rfl (pc' := 171) rfl ?_
            refine WP.iconst K d17_171 (v := (1 : Int32)) rfl (pc' := 172) rfl ?_
            refine WP.iadd K d17_172 (pc' := 173) rfl ?_
            refine WP.aloadN K d17_173 rfl rfl (pc' := 174) rfl ?_
            refine WP.iloadN K d17_174 rfl (pc' := 175) rfl ?_
            refine WP.callV K (a := tb) (argsL := [(.int t)]) (S := [(.int (((2 : Int32) * (fI1 + z)) + (1 : Int32))), (.ref en1)]) (w_142 hw) (w_143 hw) (fun vm0 hZ => notFace_of_selects (args := #[]) (mvT (s := κ.s.setVm vm0) hZ (w_145 hw))) (w_145 hw) (w_144 hw) (by decide) (IsTT.exa T_) (rm_moves w l Z a0 hw tb A B D t h89 n0 Z0 T_) (w_146 hw) (w_4 hw) (by decide) rfl (lenOf pd_9 rfl) rfl (W := 2) rfl (by decide) (by decide) (k' := 1) (n' := 16) rfl rfl (by decide) (by decide) d17_175 (pc' := 178) rfl fun v h90 hq => ?_
            obtain ⟨rfl, rfl⟩ := hq
            show WP κ h89 1 16 (mkF κ.m 178 #[.val (.ref el), .val (.ref tb), .val (.int t), .val (.long (D ti)), .second, .val (.int z), .val (.int ((2 : Int32) * (fI1 + z)))] [(.int (0 : Int32)), (.int (((2 : Int32) * (fI1 + z)) + (1 : Int32))), (.ref en1)])
            refine WP.iastore K (i := (2 * (0 + p) + 1)) A_en1 (own_a1 (own_ix hf1 hz (by omega)) (by omega)) (by omega) old_en1 d17_178 (pc' := 179) rfl fun h91 W91 A_n => ?_
            have O_el := IsEl.other W91 O_el nq_el_en1
            have T_ := IsTT.wr W91 T_ B_en1
            have KP := Keep.wr KP W91 kin_en1
            have Z0 := Nat.le_trans Z0 (Nat.le_of_eq W91.size.symm)
            have A_en1 := A_n
            rw [upd_int] at A_en1
            refine WP.aloadN K d17_179 rfl rfl (pc' := 180) rfl ?_
            refine WP.dup K d17_180 rfl (pc' := 181) rfl ?_
            refine WP.getF K (w_136 hw) Via.refl (IsEl.f_size O_el) d17_181 (pc' := 184) rfl ?_
            refine WP.iconst K d17_184 (v := (1 : Int32)) rfl (pc' := 185) rfl ?_
            refine WP.iadd K d17_185 (pc' := 186) rfl ?_
            refine WP.putF K (w_136 hw) Via.refl (IsEl.f_size O_el) (IsEl.exa O_el) (Or.inl (w_137 hw)) (w_115 hw) (ty := .int) (by decide) rfl rfl old_el d17_186 (pc' := 189) rfl fun h92 W92 => ?_
            have T_ := IsTT.wr W92 T_ B_el
            have A_en1 := Ary.other W92 A_en1 (Ne.symm nq_el_en1)
            have KP := Keep.wr KP W92 (Or.inl (List.mem_of_getElem? (i := 0) rfl))
            have Z0 := Nat.le_trans Z0 (Nat.le_of_eq W92.size.symm)
            have O_el := IsEl.s_size hw W92 O_el
            exact WP.ret0 K d17_189 (by decide) (by decide) ⟨rfl, KP, en1, 16, 0, old_en1, s_en1, by rw [eQ.1, eQ.2]; exact ⟨B_el, B_en1, kE1, _, _, _, _, _, hf1, own_a1 hn1 (by omega), he1, hdd1, O_el, A_en1, hN1, by omega, by omega, own_insG hpn eF3 hG1⟩⟩
          · have hpe : p = n := by have q : ¬ p < n := fun q => c5 ((own_lt hz hn1).mpr q); omega
            refine WP.icmpT K d17_128 (flt c5).2.1 (by decide) (pc' := 157) (by decide) ?_
            refine WP.aloadN K d17_157 rfl rfl (pc' := 158) rfl ?_
            refine WP.getF K (w_121 hw) Via.refl (IsEl.f_entries O_el) d17_158 (pc' := 161) rfl ?_
            refine WP.iload K d17_161 rfl (pc' := 163) rfl ?_
            refine WP.iloadN K d17_163 rfl (pc' := 164) rfl ?_
            refine WP.iastore K (i := (2 * (0 + p))) A_en1 (own_ix hf1 hz (by omega)) (by omega) old_en1 d17_164 (pc' := 165) rfl fun h93 W93 A_n => ?_
            have O_el := IsEl.other W93 O_el (Ary.ne (IsEl.exa O_el) A_en1 (w_115 hw))
            have T_ := IsTT.wr W93 T_ B_en1
            have KP := Keep.wr KP W93 kin_en1
            have Z0 := Nat.le_trans Z0 (Nat.le_of_eq W93.size.symm)
            have A_en1 := A_n
            rw [upd_int] at A_en1
            refine WP.aloadN K d17_165 rfl rfl (pc' := 166) rfl ?_
            refine WP.getF K (w_121 hw) Via.refl (IsEl.f_entries O_el) d17_166 (pc' := 169) rfl ?_
            refine WP.iload K d17_169 rfl (pc' := 171) rfl ?_
            refine WP.iconst K d17_171 (v := (1 : Int32)) rfl (pc' := 172) rfl ?_
            refine WP.iadd K d17_172 (pc' := 173) rfl ?_
            refine WP.aloadN K d17_173 rfl rfl (pc' := 174) rfl ?_
            refine WP.iloadN K d17_174 rfl (pc' := 175) rfl ?_
            refine WP.callV K (a := tb) (argsL := [(.int t)]) (S := [(.int (((2 : Int32) * (fI1 + z)) + (1 : Int32))), (.ref en1)]) (w_142 hw) (w_143 hw) (fun vm0 hZ => notFace_of_selects (args := #[]) (mvT (s := κ.s.setVm vm0) hZ (w_145 hw))) (w_145 hw) (w_144 hw) (by decide) (IsTT.exa T_) (rm_moves w l Z a0 hw tb A B D t h93 n0 Z0 T_) (w_146 hw) (w_4 hw) (by decide) rfl (lenOf pd_9 rfl) rfl (W := 2) rfl (by decide) (by decide) (k' := 1) (n' := 16) rfl rfl (by decide) (by decide) d17_175 (pc' := 178) rfl fun v h94 hq => ?_
            obtain ⟨rfl, rfl⟩ := hq
            show WP κ h93 1 16 (mkF κ.m 178 #[.val (.ref el), .val (.ref tb), .val (.int t), .val (.long (D ti)), .second, .val (.int z), .val (.int ((2 : Int32) * (fI1 + z)))] [(.int (0 : Int32)), (.int (((2 : Int32) * (fI1 + z)) + (1 : Int32))), (.ref en1)])
            refine WP.iastore K (i := (2 * (0 + p) + 1)) A_en1 (own_a1 (own_ix hf1 hz (by omega)) (by omega)) (by omega) old_en1 d17_178 (pc' := 179) rfl fun h95 W95 A_n => ?_
            have O_el := IsEl.other W95 O_el (Ary.ne (IsEl.exa O_el) A_en1 (w_115 hw))
            have T_ := IsTT.wr W95 T_ B_en1
            have KP := Keep.wr KP W95 kin_en1
            have Z0 := Nat.le_trans Z0 (Nat.le_of_eq W95.size.symm)
            have A_en1 := A_n
            rw [upd_int] at A_en1
            refine WP.aloadN K d17_179 rfl rfl (pc' := 180) rfl ?_
            refine WP.dup K d17_180 rfl (pc' := 181) rfl ?_
            refine WP.getF K (w_136 hw) Via.refl (IsEl.f_size O_el) d17_181 (pc' := 184) rfl ?_
            refine WP.iconst K d17_184 (v := (1 : Int32)) rfl (pc' := 185) rfl ?_
            refine WP.iadd K d17_185 (pc' := 186) rfl ?_
            refine WP.putF K (w_136 hw) Via.refl (IsEl.f_size O_el) (IsEl.exa O_el) (Or.inl (w_137 hw)) (w_115 hw) (ty := .int) (by decide) rfl rfl old_el d17_186 (pc' := 189) rfl fun h96 W96 => ?_
            have T_ := IsTT.wr W96 T_ B_el
            have A_en1 := Ary.other W96 A_en1 (Ne.symm (Ary.ne (IsEl.exa O_el) A_en1 (w_115 hw)))
            have KP := Keep.wr KP W96 (Or.inl (List.mem_of_getElem? (i := 0) rfl))
            have Z0 := Nat.le_trans Z0 (Nat.le_of_eq W96.size.symm)
            have O_el := IsEl.s_size hw W96 O_el
            exact WP.ret0 K d17_189 (by decide) (by decide) ⟨rfl, KP, en1, 16, 0, old_en1, s_en1, by rw [eQ.1, eQ.2]; exact ⟨B_el, B_en1, kE1, _, _, _, _, _, hf1, own_a1 hn1 (by omega), he1, hdd1, O_el, A_en1, hN1, by omega, by omega, own_appG hpe hG1⟩⟩
      · have h3 : ¬ 2 * (f + n) = N := fun q => c3 ((own_eq m3 eN).mpr q)
        refine WP.icmpT K d17_75 (feq c3).2 (by decide) (pc' := 111) (by decide) ?_
        refine WP.iconst K d17_111 (v := (2 : Int32)) rfl (pc' := 112) rfl ?_
        refine WP.aloadN K d17_112 rfl rfl (pc' := 113) rfl ?_
        refine WP.getF K (w_140 hw) Via.refl (IsEl.f_first O_el) d17_113 (pc' := 116) rfl ?_
        refine WP.iload K d17_116 rfl (pc' := 118) rfl ?_
        refine WP.iadd K d17_118 (pc' := 119) rfl ?_
        refine WP.imul K d17_119 (pc' := 120) rfl ?_
        refine WP.istore K d17_120 (L' := #[.val (.ref el), .val (.ref tb), .val (.int t), .val (.long (D ti)), .second, .val (.int z), .val (.int ((2 : Int32) * (fI + z)))]) rfl (pc' := 122) rfl ?_
        refine WP.iload K d17_122 rfl (pc' := 124) rfl ?_
        refine WP.aloadN K d17_124 rfl rfl (pc' := 125) rfl ?_
        refine WP.getF K (w_136 hw) Via.refl (IsEl.f_size O_el) d17_125 (pc' := 128) rfl ?_
        by_cases c5 : z < nI
        · have hpl := (own_lt hz hn).mp c5
          refine WP.icmpF K d17_128 (tlt c5).2.1 (pc' := 131) rfl ?_
          refine WP.aloadN K d17_131 rfl rfl (pc' := 132) rfl ?_
          refine WP.getF K (w_121 hw) Via.refl (IsEl.f_entries O_el) d17_132 (pc' := 135) rfl ?_
          refine WP.iload K d17_135 rfl (pc' := 137) rfl ?_
          refine WP.aloadN K d17_137 rfl rfl (pc' := 138) rfl ?_
          refine WP.getF K (w_121 hw) Via.refl (IsEl.f_entries O_el) d17_138 (pc' := 141) rfl ?_
          refine WP.iload K d17_141 rfl (pc' := 143) rfl ?_
          refine WP.iconst K d17_143 (v := (2 : Int32)) rfl (pc' := 144) rfl ?_
          refine WP.iadd K d17_144 (pc' := 145) rfl ?_
          refine WP.iconst K d17_145 (v := (2 : Int32)) rfl (pc' := 146) rfl ?_
          refine WP.aloadN K d17_146 rfl rfl (pc' := 147) rfl ?_
          refine WP.getF K (w_136 hw) Via.refl (IsEl.f_size O_el) d17_147 (pc' := 150) rfl ?_
          refine WP.iload K d17_150 rfl (pc' := 152) rfl ?_
          refine WP.isub K d17_152 (pc' := 153) rfl ?_
          refine WP.imul K d17_153 (pc' := 154) rfl ?_
          have nq_el_en : el ≠ en := (Ary.ne (IsEl.exa O_el) A_en (w_115 hw))
          have nq_tb_en : tb ≠ en := (Ary.ne (IsTT.exa T_) A_en (w_3 hw))
          refine WP.arraycopy K (i := (2 * (f + p))) (j := (2 * (f + p) + 2)) (m := (2 * (n - p))) (w_163 hw) (w_166 hw) (w_164 hw) (w_165 hw) A_en A_en rfl (own_ix hf hz (by omega)) (own_a2 (own_ix hf hz (by omega)) (by omega)) (own_2 (own_sub hn hz (by omega)) (by omega)) (by omega) (by omega) old_en d17_154 rfl (by decide) (W := 0) rfl (by decide) (pc' := 157) rfl fun h97 K97 A_n => ?_
          have O_el := IsEl.keep K97 O_el (ninS nq_el_en nin0)
          have T_ := IsTT.keep K97 T_ (allS B_en all0)
          have KP := Keep.trans KP K97 (allS (Or.inl (List.mem_of_getElem? (i := 1) rfl)) all0)
          have Z0 := Nat.le_trans Z0 K97.1
          have A_en := A_n
          obtain ⟨F3, eF3⟩ : ∃ F_ : Nat → Int32, F_ = fun x => if (2 * (f + p) + 2) ≤ x ∧ x < (2 * (f + p) + 2) + (2 * (n - p)) then F ((2 * (f + p)) + (x - (2 * (f + p) + 2))) else F x := ⟨_, rfl⟩
          have A_en := Ary.congr A_en (f' := fun j => .int (F3 j)) (fun x _ => by rw [eF3]; exact (apply_ite Value.int _ _ _).symm)
          refine WP.aloadN K d17_157 rfl rfl (pc' := 158) rfl ?_
          refine WP.getF K (w_121 hw) Via.refl (IsEl.f_entries O_el) d17_158 (pc' := 161) rfl ?_
          refine WP.iload K d17_161 rfl (pc' := 163) rfl ?_
          refine WP.iloadN K d17_163 rfl (pc' := 164) rfl ?_
          refine WP.iastore K (i := (2 * (f + p))) A_en (own_ix hf hz (by omega)) (by omega) old_en d17_164 (pc' := 165) rfl fun h98 W98 A_n => ?_
          have O_el := IsEl.other W98 O_el nq_el_en
          have T_ := IsTT.wr W98 T_ B_en
          have KP := Keep.wr KP W98 (Or.inl (List.mem_of_getElem? (i := 1) rfl))
          have Z0 := Nat.le_trans Z0 (Nat.le_of_eq W98.size.symm)
          have A_en := A_n
          rw [upd_int] at A_en
          refine WP.aloadN K d17_165 rfl rfl (pc' := 166) rfl ?_
          refine WP.getF K (w_121 hw) Via.refl (IsEl.f_entries O_el) d17_166 (pc' := 169) rfl ?_
          refine WP.iload K d17_169 rfl (pc' := 171) rfl ?_
          refine WP.iconst K d17_171 (v := (1 : Int32)) rfl (pc' := 172) rfl ?_
          refine WP.iadd K d17_172 (pc' := 173) rfl ?_
          refine WP.aloadN K d17_173 rfl rfl (pc' := 174) rfl ?_
          refine WP.iloadN K d17_174 rfl (pc' := 175) rfl ?_
          refine WP.callV K (a := tb) (argsL := [(.int t)]) (S := [(.int (((2 : Int32) * (fI + z)) + (1 : Int32))), (.ref en)]) (w_142 hw) (w_143 hw) (fun vm0 hZ => notFace_of_selects (args := #[]) (mvT (s := κ.s.setVm vm0) hZ (w_145 hw))) (w_145 hw) (w_144 hw) (by decide) (IsTT.exa T_) (rm_moves w l Z a0 hw tb A B D t h98 n0 Z0 T_) (w_146 hw) (w_4 hw) (by decide) rfl (lenOf pd_9 rfl) rfl (W := 2) rfl (by decide) (by decide) (k' := 0) (n' := 0) rfl rfl (by decide) (by decide) d17_175 (pc' := 178) rfl fun v h99 hq => ?_
          obtain ⟨rfl, rfl⟩ := hq
          show WP κ h98 0 0 (mkF κ.m 178 #[.val (.ref el), .val (.ref tb), .val (.int t), .val (.long (D ti)), .second, .val (.int z), .val (.int ((2 : Int32) * (fI + z)))] [(.int (0 : Int32)), (.int (((2 : Int32) * (fI + z)) + (1 : Int32))), (.ref en)])
          refine WP.iastore K (i := (2 * (f + p) + 1)) A_en (own_a1 (own_ix hf hz (by omega)) (by omega)) (by omega) old_en d17_178 (pc' := 179) rfl fun h100 W100 A_n => ?_
          have O_el := IsEl.other W100 O_el nq_el_en
          have T_ := IsTT.wr W100 T_ B_en
          have KP := Keep.wr KP W100 (Or.inl (List.mem_of_getElem? (i := 1) rfl))
          have Z0 := Nat.le_trans Z0 (Nat.le_of_eq W100.size.symm)
          have A_en := A_n
          rw [upd_int] at A_en
          refine WP.aloadN K d17_179 rfl rfl (pc' := 180) rfl ?_
          refine WP.dup K d17_180 rfl (pc' := 181) rfl ?_
          refine WP.getF K (w_136 hw) Via.refl (IsEl.f_size O_el) d17_181 (pc' := 184) rfl ?_
          refine WP.iconst K d17_184 (v := (1 : Int32)) rfl (pc' := 185) rfl ?_
          refine WP.iadd K d17_185 (pc' := 186) rfl ?_
          refine WP.putF K (w_136 hw) Via.refl (IsEl.f_size O_el) (IsEl.exa O_el) (Or.inl (w_137 hw)) (w_115 hw) (ty := .int) (by decide) rfl rfl old_el d17_186 (pc' := 189) rfl fun h101 W101 => ?_
          have A_en := Ary.other W101 A_en (Ne.symm nq_el_en)
          have T_ := IsTT.wr W101 T_ B_el
          have KP := Keep.wr KP W101 (Or.inl (List.mem_of_getElem? (i := 0) rfl))
          have Z0 := Nat.le_trans Z0 (Nat.le_of_eq W101.size.symm)
          have O_el := IsEl.s_size hw W101 O_el
          exact WP.ret0 K d17_189 (by decide) (by decide) ⟨rfl, KP, en, N, f, old_en, Or.inl rfl, by rw [eQ.1, eQ.2]; exact ⟨B_el, B_en, kE, _, _, _, _, _, hf, own_a1 hn (by omega), he, hdd, O_el, A_en, hN, by omega, by omega, own_insG hpn eF3 hG⟩⟩
        · have hpe : p = n := by have q : ¬ p < n := fun q => c5 ((own_lt hz hn).mpr q); omega
          refine WP.icmpT K d17_128 (flt c5).2.1 (by decide) (pc' := 157) (by decide) ?_
          refine WP.aloadN K d17_157 rfl rfl (pc' := 158) rfl ?_
          refine WP.getF K (w_121 hw) Via.refl (IsEl.f_entries O_el) d17_158 (pc' := 161) rfl ?_
          refine WP.iload K d17_161 rfl (pc' := 163) rfl ?_
          refine WP.iloadN K d17_163 rfl (pc' := 164) rfl ?_
          refine WP.iastore K (i := (2 * (f + p))) A_en (own_ix hf hz (by omega)) (by omega) old_en d17_164 (pc' := 165) rfl fun h102 W102 A_n => ?_
          have O_el := IsEl.other W102 O_el (Ary.ne (IsEl.exa O_el) A_en (w_115 hw))
          have T_ := IsTT.wr W102 T_ B_en
          have KP := Keep.wr KP W102 (Or.inl (List.mem_of_getElem? (i := 1) rfl))
          have Z0 := Nat.le_trans Z0 (Nat.le_of_eq W102.size.symm)
          have A_en := A_n
          rw [upd_int] at A_en
          refine WP.aloadN K d17_165 rfl rfl (pc' := 166) rfl ?_
          refine WP.getF K (w_121 hw) Via.refl (IsEl.f_entries O_el) d17_166 (pc' := 169) rfl ?_
          refine WP.iload K d17_169 rfl (pc' := 171) rfl ?_
          refine WP.iconst K d17_171 (v := (1 : Int32)) rfl (pc' := 172) rfl ?_
          refine WP.iadd K d17_172 (pc' := 173) rfl ?_
          refine WP.aloadN K d17_173 rfl rfl (pc' := 174) rfl ?_
          refine WP.iloadN K d17_174 rfl (pc' := 175) rfl ?_
          refine WP.callV K (a := tb) (argsL := [(.int t)]) (S := [(.int (((2 : Int32) * (fI + z)) + (1 : Int32))), (.ref en)]) (w_142 hw) (w_143 hw) (fun vm0 hZ => notFace_of_selects (args := #[]) (mvT (s := κ.s.setVm vm0) hZ (w_145 hw))) (w_145 hw) (w_144 hw) (by decide) (IsTT.exa T_) (rm_moves w l Z a0 hw tb A B D t h102 n0 Z0 T_) (w_146 hw) (w_4 hw) (by decide) rfl (lenOf pd_9 rfl) rfl (W := 2) rfl (by decide) (by decide) (k' := 0) (n' := 0) rfl rfl (by decide) (by decide) d17_175 (pc' := 178) rfl fun v h103 hq => ?_
          obtain ⟨rfl, rfl⟩ := hq
          show WP κ h102 0 0 (mkF κ.m 178 #[.val (.ref el), .val (.ref tb), .val (.int t), .val (.long (D ti)), .second, .val (.int z), .val (.int ((2 : Int32) * (fI + z)))] [(.int (0 : Int32)), (.int (((2 : Int32) * (fI + z)) + (1 : Int32))), (.ref en)])
          refine WP.iastore K (i := (2 * (f + p) + 1)) A_en (own_a1 (own_ix hf hz (by omega)) (by omega)) (by omega) old_en d17_178 (pc' := 179) rfl fun h104 W104 A_n => ?_
          have O_el := IsEl.other W104 O_el (Ary.ne (IsEl.exa O_el) A_en (w_115 hw))
          have T_ := IsTT.wr W104 T_ B_en
          have KP := Keep.wr KP W104 (Or.inl (List.mem_of_getElem? (i := 1) rfl))
          have Z0 := Nat.le_trans Z0 (Nat.le_of_eq W104.size.symm)
          have A_en := A_n
          rw [upd_int] at A_en
          refine WP.aloadN K d17_179 rfl rfl (pc' := 180) rfl ?_
          refine WP.dup K d17_180 rfl (pc' := 181) rfl ?_
          refine WP.getF K (w_136 hw) Via.refl (IsEl.f_size O_el) d17_181 (pc' := 184) rfl ?_
          refine WP.iconst K d17_184 (v := (1 : Int32)) rfl (pc' := 185) rfl ?_
          refine WP.iadd K d17_185 (pc' := 186) rfl ?_
          refine WP.putF K (w_136 hw) Via.refl (IsEl.f_size O_el) (IsEl.exa O_el) (Or.inl (w_137 hw)) (w_115 hw) (ty := .int) (by decide) rfl rfl old_el d17_186 (pc' := 189) rfl fun h105 W105 => ?_
          have A_en := Ary.other W105 A_en (Ne.symm (Ary.ne (IsEl.exa O_el) A_en (w_115 hw)))
          have T_ := IsTT.wr W105 T_ B_el
          have KP := Keep.wr KP W105 (Or.inl (List.mem_of_getElem? (i := 0) rfl))
          have Z0 := Nat.le_trans Z0 (Nat.le_of_eq W105.size.symm)
          have O_el := IsEl.s_size hw W105 O_el
          exact WP.ret0 K d17_189 (by decide) (by decide) ⟨rfl, KP, en, N, f, old_en, Or.inl rfl, by rw [eQ.1, eQ.2]; exact ⟨B_el, B_en, kE, _, _, _, _, _, hf, own_a1 hn (by omega), he, hdd, O_el, A_en, hN, by omega, by omega, own_appG hpe hG⟩⟩
    have LOOP : ∀ (a : Nat) (z : Int32), z.toInt = (a : Int) → a ≤ n → own_pos G D ear (D ti) a = p → WP κ h0 0 0 (mkF κ.m 27 #[.val (.ref el), .val (.ref tb), .val (.int t), .val (.long (D ti)), .second, .val (.int z), .unset] []) := by
      intro a
      induction a with
      | zero =>
        intro z hz han hpp
        refine WP.iload K d17_27 rfl (pc' := 29) rfl ?_
        refine WP.aloadN K d17_29 rfl rfl (pc' := 30) rfl ?_
        refine WP.getF K (w_138 hw) Via.refl (IsEl.f_earliest O_el) d17_30 (pc' := 33) rfl ?_
        have q : ¬ (eI < z) := fun q => absurd ((own_lt he hz).mp q) (by omega)
        refine WP.icmpT K d17_33 (flt q).2.2.2 (by decide) (pc' := 59) (by decide) ?_
        exact EX z (by rw [hz, ← hpp, own_pos])
      | succ a ih =>
        intro z hz han hpp
        rw [own_pos] at hpp
        refine WP.iload K d17_27 rfl (pc' := 29) rfl ?_
        refine WP.aloadN K d17_29 rfl rfl (pc' := 30) rfl ?_
        refine WP.getF K (w_138 hw) Via.refl (IsEl.f_earliest O_el) d17_30 (pc' := 33) rfl ?_
        by_cases c1 : eI < z
        · have h1 := (own_lt he hz).mp c1
          refine WP.icmpF K d17_33 (tlt c1).2.2.2 (pc' := 36) rfl ?_
          refine WP.aloadN K d17_36 rfl rfl (pc' := 37) rfl ?_
          refine WP.aloadN K d17_37 rfl rfl (pc' := 38) rfl ?_
          refine WP.iload K d17_38 rfl (pc' := 40) rfl ?_
          refine WP.iconst K d17_40 (v := (1 : Int32)) rfl (pc' := 41) rfl ?_
          refine WP.isub K d17_41 (pc' := 42) rfl ?_
          refine WP.callV K (a := el) (argsL := [(.int (z - (1 : Int32)))]) (S := [(.ref tb)]) (w_153 hw) (w_154 hw) (fun vm0 hZ => notFace_of_selects (args := #[]) (mvT (s := κ.s.setVm vm0) hZ (w_156 hw))) (w_156 hw) (w_155 hw) (by decide) (IsEl.exa O_el) (rm_triple w l Z a0 hw el en B N f n ear hd G (z - (1 : Int32)) a h0 n0 Z0 L_ (own_s1 hz (by omega)) (by omega)) (w_157 hw) (w_116 hw) (by decide) rfl (lenOf pd_9 rfl) rfl (W := 1) rfl (by decide) (by decide) (k' := 0) (n' := 0) rfl rfl (by decide) (by decide) d17_42 (pc' := 45) rfl fun v h106 hq => ?_
          obtain ⟨rfl, rfl⟩ := hq
          show WP κ h0 0 0 (mkF κ.m 45 #[.val (.ref el), .val (.ref tb), .val (.int t), .val (.long (D ti)), .second, .val (.int z), .unset] [(.int (G a)), (.ref tb)])
          refine WP.callV K (a := tb) (argsL := [(.int (G a))]) (S := []) (w_134 hw) (w_90 hw) (fun vm0 hZ => notFace_of_selects (args := #[]) (mvT (s := κ.s.setVm vm0) hZ (w_92 hw))) (w_92 hw) (w_91 hw) (by decide) (IsTT.exa T_) (rm_end w l Z a0 hw tb A B D (G a) (G a).toInt.toNat h0 n0 Z0 T_ (own_nn (hb a (by omega))) (own_n64 (hb a (by omega)))) (w_93 hw) (w_4 hw) (by decide) rfl (lenOf pd_4 rfl) rfl (W := 0) rfl (by decide) (by decide) (k' := 0) (n' := 0) rfl rfl (by decide) (by decide) d17_45 (pc' := 48) rfl fun v h107 hq => ?_
          obtain ⟨rfl, rfl⟩ := hq
          show WP κ h0 0 0 (mkF κ.m 48 #[.val (.ref el), .val (.ref tb), .val (.int t), .val (.long (D ti)), .second, .val (.int z), .unset] [(.long (D (G a).toInt.toNat))])
          refine WP.lloadN K d17_48 rfl (pc' := 49) rfl ?_
          refine WP.lcmp K d17_49 (pc' := 50) rfl ?_
          by_cases c2 : (D ti) < (D (G a).toInt.toNat)
          · refine WP.if0F K d17_50 ((if0 _ _).trans (tlt ((lw_gt _ _).mpr c2)).2.2.2) (pc' := 53) rfl ?_
            refine WP.iinc K d17_53 (v := (-1 : Int32)) rfl rfl (L' := #[.val (.ref el), .val (.ref tb), .val (.int t), .val (.long (D ti)), .second, .val (.int (z + (-1 : Int32))), .unset]) rfl (pc' := 56) rfl ?_
            refine WP.goto K d17_56 (by decide) (pc' := 27) (by decide) ?_
            rw [if_pos ⟨h1, c2⟩] at hpp
            exact ih _ (own_m1 hz) (by omega) hpp
          · refine WP.if0T K d17_50 ((if0 _ _).trans (flt (fun q => c2 ((lw_gt _ _).mp q))).2.2.2) (by decide) (pc' := 59) (by decide) ?_
            rw [if_neg (fun q => c2 q.2)] at hpp
            exact EX z (by rw [hz, hpp])
        · refine WP.icmpT K d17_33 (flt c1).2.2.2 (by decide) (pc' := 59) (by decide) ?_
          rw [if_neg (fun q => c1 ((own_lt he hz).mpr q.1))] at hpp
          exact EX z (by rw [hz, hpp])
    exact LOOP n nI hn (Nat.le_refl _) hp.symm
set_option maxRecDepth 65536 in
set_option maxHeartbeats 40000000 in
theorem rm_drop (w : Bool) (l : Launch) (Z : State) (a0 : Array Value) (hw : ∀ d ∈ tables_1, d.before a0 Z = true) (el en : Addr) (B N f n ear hd : Nat) (G : Nat → Int32) (tb : Addr) (h0 : Heap) (n0 : Nat) (Z0 : n0 ≤ h0.size) (L_ : IsL Z h0 B el en N f n ear hd G) (hlt : n < 2 * hd + 4) (hh : hd ≤ 100) :
    Met w l Z (⟨"com/example/weir/weir/engine/EndingList", "dropEntriesNotCurrentIfMany", "(Lcom/example/weir/weir/engine/TripleTable;)V"⟩ : MethodName) prog_25_method_13_code 2 none [] ({ frames := 0, cells := 0, slots := 0, locals := 0 } : Room) #[(.ref el), (.ref tb)] h0 n0 (fun v h => v = none ∧ h0 = h) := by
  refine Met.of (plainFor_of_name (by first | (simp [plainName, overriddenIn]; done) | decide +kernel)) fun κ K => ?_
  refine WP.frame (g' := (mkF κ.m 0 #[.val (.ref el), .val (.ref tb)] [])) (by first | (simp [entryFrame, mkF, argsToLocals, Value.category]; done) | rfl) ?_
  obtain ⟨B_el, B_en, kE, F, fI, nI, eI, dI, hf, hn, he, hdd, O_el, A_en, hN, hfn, hen, hG⟩ := L_
  have z_el : @LT.lt Nat _ el h0.size := IsEl.lt O_el
  have eN : (Int32.ofNat N).toInt = (N : Int) := Int32.toInt_ofNat_small A_en.len
  refine WP.aloadN K d19_0 rfl rfl (pc' := 1) rfl ?_
  refine WP.getF K (w_136 hw) Via.refl (IsEl.f_size O_el) d19_1 (pc' := 4) rfl ?_
  refine WP.iconst K d19_4 (v := (2 : Int32)) rfl (pc' := 5) rfl ?_
  refine WP.aloadN K d19_5 rfl rfl (pc' := 6) rfl ?_
  refine WP.getF K (w_128 hw) Via.refl (IsEl.f_held O_el) d19_6 (pc' := 9) rfl ?_
  refine WP.imul K d19_9 (pc' := 10) rfl ?_
  refine WP.iconst K d19_10 (v := (4 : Int32)) rfl (pc' := 11) rfl ?_
  refine WP.iadd K d19_11 (pc' := 12) rfl ?_
  have m1 := own_add2 (own_2 hdd (by omega)) (y := (4 : Int32)) (k := 4) rfl (by omega)
  have q : nI < (((2 : Int32) * dI) + (4 : Int32)) := (own_lt hn m1).mpr (by omega)
  refine WP.icmpT K d19_12 (tlt q).1 (by decide) (pc' := 20) (by decide) ?_
  exact WP.ret0 K d19_20 (by decide) (by decide) ⟨rfl, rfl⟩
set_option maxRecDepth 65536 in
set_option maxHeartbeats 40000000 in
theorem rm_add (w : Bool) (l : Launch) (Z : State) (a0 : Array Value) (hw : ∀ d ∈ tables_1, d.before a0 Z = true) (el en : Addr) (B N f n ear hd : Nat) (G : Nat → Int32) (tb : Addr) (A : Nat) (D : Nat → Int64) (t : Int32) (ti : Nat) (h0 : Heap) (n0 : Nat) (Z0 : n0 ≤ h0.size) (L_ : IsL Z h0 B el en N f n ear hd G) (old_el : n0 ≤ el) (old_en : n0 ≤ en) (T_ : IsTT Z h0 A B tb D) (ht : t.toInt = (ti : Int)) (hti : ti < 64) (hn3 : n ≤ 3) (hb : own_bd n G) (hh : hd ≤ 50) (hnh : n ≤ hd) :
    Met w l Z (⟨"com/example/weir/weir/engine/EndingList", "add", "(Lcom/example/weir/weir/engine/TripleTable;I)V"⟩ : MethodName) prog_25_method_6_code 3 none [] ({ frames := 4, cells := 1, slots := 16, locals := 113 } : Room) #[(.ref el), (.ref tb), (.int t)] h0 n0 (fun v h => v = none ∧ Keep h0 h [el, en] ∧ ∃ (en' : Addr) (N' f' : Nat), n0 ≤ en' ∧ (en' = en ∨ h0.size ≤ en') ∧ IsL Z h B el en' N' f' (n + 1) (own_ae D ti ear) (hd + 1) (own_ag D ti n ear t G)) := by
  refine Met.of (plainFor_of_name (by first | (simp [plainName, overriddenIn]; done) | decide +kernel)) fun κ K => ?_
  refine WP.frame (g' := (mkF κ.m 0 #[.val (.ref el), .val (.ref tb), .val (.int t)] [])) (by first | (simp [entryFrame, mkF, argsToLocals, Value.category]; done) | rfl) ?_
  have KP := Keep.refl h0 [el, en]
  obtain ⟨B_el, B_en, kE, F, fI, nI, eI, dI, hf, hn, he, hdd, O_el, A_en, hN, hfn, hen, hG⟩ := L_
  have z_el : @LT.lt Nat _ el h0.size := IsEl.lt O_el
  have eN : (Int32.ofNat N).toInt = (N : Int) := Int32.toInt_ofNat_small A_en.len
  refine WP.aloadN K d16_0 rfl rfl (pc' := 1) rfl ?_
  refine WP.dup K d16_1 rfl (pc' := 2) rfl ?_
  refine WP.getF K (w_128 hw) Via.refl (IsEl.f_held O_el) d16_2 (pc' := 5) rfl ?_
  refine WP.iconst K d16_5 (v := (1 : Int32)) rfl (pc' := 6) rfl ?_
  refine WP.iadd K d16_6 (pc' := 7) rfl ?_
  refine WP.putF K (w_128 hw) Via.refl (IsEl.f_held O_el) (IsEl.exa O_el) (Or.inl (w_129 hw)) (w_115 hw) (ty := .int) (by decide) rfl rfl old_el d16_7 (pc' := 10) rfl fun h108 W108 => ?_
  have A_en := Ary.other W108 A_en (Ne.symm (Ary.ne (IsEl.exa O_el) A_en (w_115 hw)))
  have T_ := IsTT.wr W108 T_ B_el
  have KP := Keep.wr KP W108 (Or.inl (List.mem_of_getElem? (i := 0) rfl))
  have Z0 := Nat.le_trans Z0 (Nat.le_of_eq W108.size.symm)
  have O_el := IsEl.s_held hw W108 O_el
  refine WP.aloadN K d16_10 rfl rfl (pc' := 11) rfl ?_
  refine WP.aloadN K d16_11 rfl rfl (pc' := 12) rfl ?_
  refine WP.iloadN K d16_12 rfl (pc' := 13) rfl ?_
  have hz0 : h0.size ≤ h108.size := KP.1
  have L1 : IsL Z h108 B el en N f n ear (hd + 1) G := ⟨B_el, B_en, kE, F, fI, nI, eI, _, hf, hn, he, own_a1 hdd (by omega), O_el, A_en, hN, hfn, hen, hG⟩
  have nq_tb_el : tb ≠ el := (ne_exa (IsTT.exa T_) (IsEl.exa O_el) (by decide))
  have nq_tb_en : tb ≠ en := (Ary.ne (IsTT.exa T_) A_en (w_3 hw))
  refine WP.callP K (a := el) (argsL := [(.ref tb), (.int t)]) (S := []) (w_130 hw) (w_131 hw) (w_115 hw) (w_132 hw) (IsEl.exa O_el) (rm_place w l Z a0 hw el en B N f n ear (hd + 1) G tb A D t ti h108 n0 Z0 L1 old_el old_en T_ ht hti hn3 hb) (w_133 hw) (w_116 hw) (by decide) rfl (lenOf pd_11 rfl) rfl (W := 0) rfl (by decide) (by decide) (k' := 1) (n' := 16) rfl rfl (by decide) (by decide) d16_13 (pc' := 16) rfl fun v h109 hq => ?_
  obtain ⟨rfl, K1, en1, N1, f1, old_en1, s_en1, L2⟩ := hq
  have T_ := IsTT.keep K1 T_ (allS B_el (allS B_en all0))
  have KP := Keep.trans KP K1 (allS (Or.inl (List.mem_of_getElem? (i := 0) rfl)) (allS (Or.inl (List.mem_of_getElem? (i := 1) rfl)) all0))
  have Z0 := Nat.le_trans Z0 K1.1
  show WP κ h109 1 16 (mkF κ.m 16 #[.val (.ref el), .val (.ref tb), .val (.int t)] [])
  obtain ⟨B_el, B_en1, kE1, F1, fI1, nI1, eI1, dI1, hf1, hn1, he1, hdd1, O_el, A_en1, hN1, hfn1, hen1, hG1⟩ := id L2
  have eN1 : (Int32.ofNat N1).toInt = (N1 : Int) := Int32.toInt_ofNat_small A_en1.len
  refine WP.aloadN K d16_16 rfl rfl (pc' := 17) rfl ?_
  refine WP.aloadN K d16_17 rfl rfl (pc' := 18) rfl ?_
  refine WP.callP K (a := el) (argsL := [(.ref tb)]) (S := []) (w_149 hw) (w_150 hw) (w_115 hw) (w_151 hw) (IsEl.exa O_el) (rm_drop w l Z a0 hw el en1 B N1 f1 (n + 1) (own_ae D ti ear) (hd + 1) _ tb h109 n0 Z0 L2 (by omega) (by omega)) (w_152 hw) (w_116 hw) (by decide) rfl (lenOf pd_12 rfl) rfl (W := 0) rfl (by decide) (by decide) (k' := 1) (n' := 16) rfl rfl (by decide) (by decide) d16_18 (pc' := 21) rfl fun v h110 hq => ?_
  obtain ⟨rfl, rfl⟩ := hq
  show WP κ h109 1 16 (mkF κ.m 21 #[.val (.ref el), .val (.ref tb), .val (.int t)] [])
  exact WP.ret0 K d16_21 (by decide) (by decide) ⟨rfl, KP, en1, N1, f1, old_en1, s_en1.imp id (Nat.le_trans hz0), L2⟩
set_option maxRecDepth 65536 in
set_option maxHeartbeats 40000000 in
theorem rm_ren (w : Bool) (l : Launch) (Z : State) (a0 : Array Value) (hw : ∀ d ∈ tables_1, d.before a0 Z = true) (el en : Addr) (B N f n ear hd : Nat) (G : Nat → Int32) (re : Addr) (kR : ClassId) (R : Nat → Int32) (h0 : Heap) (n0 : Nat) (Z0 : n0 ≤ h0.size) (L_ : IsL Z h0 B el en N f n ear hd G) (old_el : n0 ≤ el) (old_en : n0 ≤ en) (A_re : Ary Z h0 re kR .int 64 (fun j => .int (R j))) (ne_re : re ≠ en) (hb : own_bd n G) :
    Met w l Z (⟨"com/example/weir/weir/engine/EndingList", "renumber", "([I)V"⟩ : MethodName) prog_25_method_10_code 7 none [] ({ frames := 0, cells := 0, slots := 0, locals := 0 } : Room) #[(.ref el), (.ref re)] h0 n0 (fun v h => v = none ∧ Keep h0 h [el, en] ∧ IsL Z h B el en N f (own_ren R G ear n).1 (own_ren R G ear n).2.2 hd (own_ren R G ear n).2.1) := by
  refine Met.of (plainFor_of_name (by first | (simp [plainName, overriddenIn]; done) | decide +kernel)) fun κ K => ?_
  refine WP.frame (g' := (mkF κ.m 0 #[.val (.ref el), .val (.ref re), .unset, .unset, .unset, .unset, .unset] [])) (by first | (simp [entryFrame, mkF, argsToLocals, Value.category]; done) | rfl) ?_
  have KP := Keep.refl h0 [el, en]
  obtain ⟨B_el, B_en, kE, F, fI, nI, eI, dI, hf, hn, he, hdd, O_el, A_en, hN, hfn, hen, hG⟩ := L_
  have z_el : @LT.lt Nat _ el h0.size := IsEl.lt O_el
  have eN : (Int32.ofNat N).toInt = (N : Int) := Int32.toInt_ofNat_small A_en.len
  refine WP.iconst K d21_0 (v := (0 : Int32)) rfl (pc' := 1) rfl ?_
  refine WP.istoreN K d21_1 (L' := #[.val (.ref el), .val (.ref re), .val (.int (0 : Int32)), .unset, .unset, .unset, .unset]) rfl (pc' := 2) rfl ?_
  refine WP.iconst K d21_2 (v := (0 : Int32)) rfl (pc' := 3) rfl ?_
  refine WP.istoreN K d21_3 (L' := #[.val (.ref el), .val (.ref re), .val (.int (0 : Int32)), .val (.int (0 : Int32)), .unset, .unset, .unset]) rfl (pc' := 4) rfl ?_
  refine WP.iconst K d21_4 (v := (0 : Int32)) rfl (pc' := 5) rfl ?_
  refine WP.istore K d21_5 (L' := #[.val (.ref el), .val (.ref re), .val (.int (0 : Int32)), .val (.int (0 : Int32)), .val (.int (0 : Int32)), .unset, .unset]) rfl (pc' := 7) rfl ?_
  have LOOP : ∀ (d i k ke : Nat) (H E : Nat → Int32) (kI keI iI : Int32) (s5 s6 : Slot) (h : Heap), i + d = n → own_ren R G ear i = (k, H, ke) → k ≤ i → ke ≤ k → kI.toInt = (k : Int) → keI.toInt = (ke : Int) → iI.toInt = (i : Int) → own_One s5 → own_One s6 → (∀ j, j < k → E (2 * (f + j)) = H j) → (∀ j, i ≤ j → j < n → E (2 * (f + j)) = G j) → IsEl Z h el (.ref en) (.int dI) (.int nI) (.int eI) (.int fI) → Ary Z h en kE .int N (fun j => .int (E j)) → Ary Z h re kR .int 64 (fun j => .int (R j)) → Keep h0 h [el, en] → n0 ≤ h.size → WP κ h 0 0 (mkF κ.m 7 #[.val (.ref el), .val (.ref re), .val (.int kI), .val (.int keI), .val (.int iI), s5, s6] []) := by
    intro d
    induction d with
    | zero =>
      intro i k ke H E kI keI iI s5 s6 h hid hr hki hkk hk hke hi o_s5 o_s6 hE1 hE2 O_el A_en A_re KP Z0
      have ein : i = n := by omega
      refine WP.iload K d21_7 rfl (pc' := 9) rfl ?_
      refine WP.aloadN K d21_9 rfl rfl (pc' := 10) rfl ?_
      refine WP.getF K (w_136 hw) Via.refl (IsEl.f_size O_el) d21_10 (pc' := 13) rfl ?_
      have q : ¬ (iI < nI) := fun q => absurd ((own_lt hi hn).mp q) (by omega)
      refine WP.icmpT K d21_13 (flt q).2.1 (by decide) (pc' := 103) (by decide) ?_
      refine WP.aloadN K d21_103 rfl rfl (pc' := 104) rfl ?_
      refine WP.iloadN K d21_104 rfl (pc' := 105) rfl ?_
      refine WP.putF K (w_136 hw) Via.refl (IsEl.f_size O_el) (IsEl.exa O_el) (Or.inl (w_137 hw)) (w_115 hw) (ty := .int) (by decide) rfl rfl old_el d21_105 (pc' := 108) rfl fun h111 W111 => ?_
      have A_en := Ary.other W111 A_en (Ne.symm (Ary.ne (IsEl.exa O_el) A_en (w_115 hw)))
      have A_re := Ary.other W111 A_re (Ne.symm (Ary.ne (IsEl.exa O_el) A_re (w_115 hw)))
      have KP := Keep.wr KP W111 (Or.inl (List.mem_of_getElem? (i := 0) rfl))
      have Z0 := Nat.le_trans Z0 (Nat.le_of_eq W111.size.symm)
      have O_el := IsEl.s_size hw W111 O_el
      refine WP.aloadN K d21_108 rfl rfl (pc' := 109) rfl ?_
      refine WP.iloadN K d21_109 rfl (pc' := 110) rfl ?_
      refine WP.putF K (w_138 hw) Via.refl (IsEl.f_earliest O_el) (IsEl.exa O_el) (Or.inl (w_139 hw)) (w_115 hw) (ty := .int) (by decide) rfl rfl old_el d21_110 (pc' := 113) rfl fun h112 W112 => ?_
      have A_en := Ary.other W112 A_en (Ne.symm (Ary.ne (IsEl.exa O_el) A_en (w_115 hw)))
      have A_re := Ary.other W112 A_re (Ne.symm (Ary.ne (IsEl.exa O_el) A_re (w_115 hw)))
      have KP := Keep.wr KP W112 (Or.inl (List.mem_of_getElem? (i := 0) rfl))
      have Z0 := Nat.le_trans Z0 (Nat.le_of_eq W112.size.symm)
      have O_el := IsEl.s_earliest hw W112 O_el
      rw [ein] at hr
      exact WP.ret0 K d21_113 (by decide) (by decide) ⟨rfl, KP, by rw [hr]; exact ⟨B_el, B_en, kE, E, fI, kI, keI, dI, hf, hk, hke, hdd, O_el, A_en, hN, by omega, hkk, hE1⟩⟩
    | succ d ih =>
      intro i k ke H E kI keI iI s5 s6 h hid hr hki hkk hk hke hi o_s5 o_s6 hE1 hE2 O_el A_en A_re KP Z0
      refine WP.iload K d21_7 rfl (pc' := 9) rfl ?_
      refine WP.aloadN K d21_9 rfl rfl (pc' := 10) rfl ?_
      refine WP.getF K (w_136 hw) Via.refl (IsEl.f_size O_el) d21_10 (pc' := 13) rfl ?_
      have q : iI < nI := (own_lt hi hn).mpr (by omega)
      refine WP.icmpF K d21_13 (tlt q).2.1 (pc' := 16) rfl ?_
      refine WP.iconst K d21_16 (v := (2 : Int32)) rfl (pc' := 17) rfl ?_
      refine WP.aloadN K d21_17 rfl rfl (pc' := 18) rfl ?_
      refine WP.getF K (w_140 hw) Via.refl (IsEl.f_first O_el) d21_18 (pc' := 21) rfl ?_
      refine WP.iload K d21_21 rfl (pc' := 23) rfl ?_
      refine WP.iadd K d21_23 (pc' := 24) rfl ?_
      refine WP.imul K d21_24 (pc' := 25) rfl ?_
      refine WP.istore K d21_25 (L' := #[.val (.ref el), .val (.ref re), .val (.int kI), .val (.int keI), .val (.int iI), .val (.int ((2 : Int32) * (fI + iI))), s6]) (by rcases o_s5 with rfl | ⟨w, rfl, hw⟩ <;> first | rfl | (cases w <;> first | rfl | (simp [Value.category] at hw))) (pc' := 27) rfl ?_
      refine WP.aloadN K d21_27 rfl rfl (pc' := 28) rfl ?_
      refine WP.aloadN K d21_28 rfl rfl (pc' := 29) rfl ?_
      refine WP.getF K (w_121 hw) Via.refl (IsEl.f_entries O_el) d21_29 (pc' := 32) rfl ?_
      refine WP.iload K d21_32 rfl (pc' := 34) rfl ?_
      refine WP.iaload K (i := (2 * (f + i))) A_en (own_ix hf hi (by omega)) (by omega) (v := (.int (G i))) (congrArg Value.int (hE2 i (Nat.le_refl _) (by omega))) d21_34 (pc' := 35) rfl ?_
      have hgi := hb i (by omega)
      refine WP.iaload K (i := (G i).toInt.toNat) A_re (own_nn hgi) (own_n64 hgi) (v := (.int (R (G i).toInt.toNat))) rfl d21_35 (pc' := 36) rfl ?_
      refine WP.istore K d21_36 (L' := #[.val (.ref el), .val (.ref re), .val (.int kI), .val (.int keI), .val (.int iI), .val (.int ((2 : Int32) * (fI + iI))), .val (.int (R (G i).toInt.toNat))]) (by rcases o_s6 with rfl | ⟨w, rfl, hw⟩ <;> first | rfl | (cases w <;> first | rfl | (simp [Value.category] at hw))) (pc' := 38) rfl ?_
      refine WP.iload K d21_38 rfl (pc' := 40) rfl ?_
      by_cases c1 : (R (G i).toInt.toNat) < (0 : Int32)
      · refine WP.if0T K d21_40 ((if0 _ _).trans (tlt c1).1) (by decide) (pc' := 97) (by decide) ?_
        refine WP.iinc K d21_97 (v := (1 : Int32)) rfl rfl (L' := #[.val (.ref el), .val (.ref re), .val (.int kI), .val (.int keI), .val (.int (iI + (1 : Int32))), .val (.int ((2 : Int32) * (fI + iI))), .val (.int (R (G i).toInt.toNat))]) rfl (pc' := 100) rfl ?_
        refine WP.goto K d21_100 (by decide) (pc' := 7) (by decide) ?_
        exact ih (i + 1) k ke H E _ _ _ _ _ _ (by omega) (by rw [own_ren, if_pos c1]; exact hr) (by omega) hkk hk hke (own_a1 hi (by omega)) (own_One.v rfl) (own_One.v rfl) hE1 (fun j hj => hE2 j (by omega)) O_el A_en A_re KP Z0
      · refine WP.if0F K d21_40 ((if0 _ _).trans (flt c1).1) (pc' := 43) rfl ?_
        refine WP.aloadN K d21_43 rfl rfl (pc' := 44) rfl ?_
        refine WP.getF K (w_121 hw) Via.refl (IsEl.f_entries O_el) d21_44 (pc' := 47) rfl ?_
        refine WP.iconst K d21_47 (v := (2 : Int32)) rfl (pc' := 48) rfl ?_
        refine WP.aloadN K d21_48 rfl rfl (pc' := 49) rfl ?_
        refine WP.getF K (w_140 hw) Via.refl (IsEl.f_first O_el) d21_49 (pc' := 52) rfl ?_
        refine WP.iloadN K d21_52 rfl (pc' := 53) rfl ?_
        refine WP.iadd K d21_53 (pc' := 54) rfl ?_
        refine WP.imul K d21_54 (pc' := 55) rfl ?_
        refine WP.iload K d21_55 rfl (pc' := 57) rfl ?_
        refine WP.iastore K (i := (2 * (f + k))) A_en (own_ix hf hk (by omega)) (by omega) old_en d21_57 (pc' := 58) rfl fun h113 W113 A_n => ?_
        have O_el := IsEl.other W113 O_el (Ary.ne (IsEl.exa O_el) A_en (w_115 hw))
        have A_re := Ary.other W113 A_re ne_re
        have KP := Keep.wr KP W113 (Or.inl (List.mem_of_getElem? (i := 1) rfl))
        have Z0 := Nat.le_trans Z0 (Nat.le_of_eq W113.size.symm)
        have A_en := A_n
        rw [upd_int] at A_en
        refine WP.aloadN K d21_58 rfl rfl (pc' := 59) rfl ?_
        refine WP.getF K (w_121 hw) Via.refl (IsEl.f_entries O_el) d21_59 (pc' := 62) rfl ?_
        refine WP.iconst K d21_62 (v := (2 : Int32)) rfl (pc' := 63) rfl ?_
        refine WP.aloadN K d21_63 rfl rfl (pc' := 64) rfl ?_
        refine WP.getF K (w_140 hw) Via.refl (IsEl.f_first O_el) d21_64 (pc' := 67) rfl ?_
        refine WP.iloadN K d21_67 rfl (pc' := 68) rfl ?_
        refine WP.iadd K d21_68 (pc' := 69) rfl ?_
        refine WP.imul K d21_69 (pc' := 70) rfl ?_
        refine WP.iconst K d21_70 (v := (1 : Int32)) rfl (pc' := 71) rfl ?_
        refine WP.iadd K d21_71 (pc' := 72) rfl ?_
        refine WP.aloadN K d21_72 rfl rfl (pc' := 73) rfl ?_
        refine WP.getF K (w_121 hw) Via.refl (IsEl.f_entries O_el) d21_73 (pc' := 76) rfl ?_
        refine WP.iload K d21_76 rfl (pc' := 78) rfl ?_
        refine WP.iconst K d21_78 (v := (1 : Int32)) rfl (pc' := 79) rfl ?_
        refine WP.iadd K d21_79 (pc' := 80) rfl ?_
        refine WP.iaload K (i := (2 * (f + i) + 1)) A_en (own_a1 (own_ix hf hi (by omega)) (by omega)) (by omega) (v := (.int ((fset E (2 * (f + k)) (R (G i).toInt.toNat)) (2 * (f + i) + 1)))) rfl d21_80 (pc' := 81) rfl ?_
        refine WP.iastore K (i := (2 * (f + k) + 1)) A_en (own_a1 (own_ix hf hk (by omega)) (by omega)) (by omega) old_en d21_81 (pc' := 82) rfl fun h114 W114 A_n => ?_
        have O_el := IsEl.other W114 O_el (Ary.ne (IsEl.exa O_el) A_en (w_115 hw))
        have A_re := Ary.other W114 A_re ne_re
        have KP := Keep.wr KP W114 (Or.inl (List.mem_of_getElem? (i := 1) rfl))
        have Z0 := Nat.le_trans Z0 (Nat.le_of_eq W114.size.symm)
        have A_en := A_n
        rw [upd_int] at A_en
        refine WP.iinc K d21_82 (v := (1 : Int32)) rfl rfl (L' := #[.val (.ref el), .val (.ref re), .val (.int (kI + (1 : Int32))), .val (.int keI), .val (.int iI), .val (.int ((2 : Int32) * (fI + iI))), .val (.int (R (G i).toInt.toNat))]) rfl (pc' := 85) rfl ?_
        refine WP.iload K d21_85 rfl (pc' := 87) rfl ?_
        refine WP.aloadN K d21_87 rfl rfl (pc' := 88) rfl ?_
        refine WP.getF K (w_138 hw) Via.refl (IsEl.f_earliest O_el) d21_88 (pc' := 91) rfl ?_
        by_cases c2 : iI < eI
        · refine WP.icmpF K d21_91 (tlt c2).2.1 (pc' := 94) rfl ?_
          refine WP.iinc K d21_94 (v := (1 : Int32)) rfl rfl (L' := #[.val (.ref el), .val (.ref re), .val (.int (kI + (1 : Int32))), .val (.int (keI + (1 : Int32))), .val (.int iI), .val (.int ((2 : Int32) * (fI + iI))), .val (.int (R (G i).toInt.toNat))]) rfl (pc' := 97) rfl ?_
          refine WP.iinc K d21_97 (v := (1 : Int32)) rfl rfl (L' := #[.val (.ref el), .val (.ref re), .val (.int (kI + (1 : Int32))), .val (.int (keI + (1 : Int32))), .val (.int (iI + (1 : Int32))), .val (.int ((2 : Int32) * (fI + iI))), .val (.int (R (G i).toInt.toNat))]) rfl (pc' := 100) rfl ?_
          refine WP.goto K d21_100 (by decide) (pc' := 7) (by decide) ?_
          exact ih (i + 1) (k + 1) (ke + 1) (fset H k (R (G i).toInt.toNat)) _ _ _ _ _ _ _ (by omega) (by rw [own_ren, if_neg c1, hr]; show (k + 1, fset H k (R (G i).toInt.toNat), if i < ear then ke + 1 else ke) = _; rw [if_pos ((own_lt hi he).mp c2)]) (by omega) (by omega) (own_a1 hk (by omega)) (own_a1 hke (by omega)) (own_a1 hi (by omega)) (own_One.v rfl) (own_One.v rfl) (own_renA hE1) (own_renB hki hE2) O_el A_en A_re KP Z0
        · refine WP.icmpT K d21_91 (flt c2).2.1 (by decide) (pc' := 97) (by decide) ?_
          refine WP.iinc K d21_97 (v := (1 : Int32)) rfl rfl (L' := #[.val (.ref el), .val (.ref re), .val (.int (kI + (1 : Int32))), .val (.int keI), .val (.int (iI + (1 : Int32))), .val (.int ((2 : Int32) * (fI + iI))), .val (.int (R (G i).toInt.toNat))]) rfl (pc' := 100) rfl ?_
          refine WP.goto K d21_100 (by decide) (pc' := 7) (by decide) ?_
          exact ih (i + 1) (k + 1) (ke) (fset H k (R (G i).toInt.toNat)) _ _ _ _ _ _ _ (by omega) (by rw [own_ren, if_neg c1, hr]; show (k + 1, fset H k (R (G i).toInt.toNat), if i < ear then ke + 1 else ke) = _; rw [if_neg (fun q => c2 ((own_lt hi he).mpr q))]) (by omega) (by omega) (own_a1 hk (by omega)) hke (own_a1 hi (by omega)) (own_One.v rfl) (own_One.v rfl) (own_renA hE1) (own_renB hki hE2) O_el A_en A_re KP Z0
  exact LOOP n 0 0 0 G F _ _ _ _ _ h0 (by omega) rfl (Nat.le_refl _) (Nat.le_refl _) rfl rfl rfl own_One.u own_One.u (fun j hj => absurd hj (by omega)) (fun j _ hj => hG j hj) O_el A_en A_re KP Z0
theorem IsL.exa {Z : State} {h : Heap} {B : Nat} {el en : Addr} {N f n ear hd : Nat} {G : Nat → Int32} (L : IsL Z h B el en N f n ear hd G) : Exa Z h el "com/example/weir/weir/engine/EndingList" := by
  obtain ⟨_, _, kE, F, fI, nI, eI, dI, _, _, _, _, O, _⟩ := L
  exact IsEl.exa O
theorem IsL.lt {Z : State} {h : Heap} {B : Nat} {el en : Addr} {N f n ear hd : Nat} {G : Nat → Int32} (L : IsL Z h B el en N f n ear hd G) : el < h.size := (IsL.exa L).lt
set_option maxRecDepth 65536 in
set_option maxHeartbeats 40000000 in
theorem rm_law (w : Bool) (l : Launch) (Z : State) (a0 : Array Value) (hw : ∀ d ∈ tables_1, d.before a0 Z = true) (p0 p1 p2 p3 : Int32) (h0 : Heap) (n0 : Nat) (Z0 : n0 ≤ h0.size) (nl : Addr) (kL : ClassId) (fL : Nat → Value) (S_nl : Sta Z Z.heap "com/example/weir/weir/engine/SubjectIndex" "NO_LINKS" "[I" (.ref nl)) (A_nl : Ary Z Z.heap nl kL .int 0 fL) (OLD : Old Z n0 h0) :
    Met w l Z x code maxLocals ret tables_1 room_1 #[(.int p0), (.int p1), (.int p2), (.int p3)] h0 n0 (fun v h => v = some (.int 1)) := by
  refine Met.of (plainFor_of_name (by first | (simp [plainName, overriddenIn]; done) | decide +kernel)) fun κ K => ?_
  have K : Cx κ w l Z "com/example/weir/weir/engine/EndingListRenumberPinLaw" n0 room_1 code 19 (some .boolean) "law" _ := K
  refine WP.frame (g' := (mkF κ.m 0 #[.val (.int p0), .val (.int p1), .val (.int p2), .val (.int p3), .unset, .unset, .unset, .unset, .unset, .unset, .unset, .unset, .unset, .unset, .unset, .unset, .unset, .unset, .unset] [])) (by first | (simp [entryFrame, mkF, argsToLocals, Value.category, maxLocals]; done) | rfl) ?_
  refine WP.iloadN K at_0 rfl (pc' := 1) rfl ?_
  refine WP.iconst K at_1 (v := (1 : Int32)) rfl (pc' := 2) rfl ?_
  refine WP.iand K at_2 (pc' := 3) rfl ?_
  refine WP.meet (g' := (mkF κ.m 11 #[.val (.int p0), .val (.int p1), .val (.int p2), .val (.int p3), .unset, .unset, .unset, .unset, .unset, .unset, .unset, .unset, .unset, .unset, .unset, .unset, .unset, .unset, .unset] [(.int (if (p0 &&& (1 : Int32)) = (0 : Int32) then (0 : Int32) else (1 : Int32)))])) (fun HJ => ?_) ?_
  · by_cases c115 : (p0 &&& (1 : Int32)) = (0 : Int32)
    · try simp only [if_pos c115] at HJ
      refine WP.if0T K at_3 ((if0 _ _).trans (teq c115).1) (by decide) (pc' := 10) (by decide) ?_
      refine WP.iconst K at_10 (v := (0 : Int32)) rfl (pc' := 11) rfl ?_
      first | exact HJ | (simp only [if_pos c115]; exact HJ)
    · try simp only [if_neg c115] at HJ
      refine WP.if0F K at_3 ((if0 _ _).trans (feq c115).1) (pc' := 6) rfl ?_
      refine WP.iconst K at_6 (v := (1 : Int32)) rfl (pc' := 7) rfl ?_
      refine WP.goto K at_7 (by decide) (pc' := 11) (by decide) ?_
      first | exact HJ | (simp only [if_neg c115]; exact HJ)
  · skip
    refine WP.istore K at_11 (L' := #[.val (.int p0), .val (.int p1), .val (.int p2), .val (.int p3), .val (.int (if (p0 &&& (1 : Int32)) = (0 : Int32) then (0 : Int32) else (1 : Int32))), .unset, .unset, .unset, .unset, .unset, .unset, .unset, .unset, .unset, .unset, .unset, .unset, .unset, .unset]) rfl (pc' := 13) rfl ?_
    refine WP.iloadN K at_13 rfl (pc' := 14) rfl ?_
    refine WP.iconst K at_14 (v := (2 : Int32)) rfl (pc' := 15) rfl ?_
    refine WP.iand K at_15 (pc' := 16) rfl ?_
    refine WP.meet (g' := (mkF κ.m 24 #[.val (.int p0), .val (.int p1), .val (.int p2), .val (.int p3), .val (.int (if (p0 &&& (1 : Int32)) = (0 : Int32) then (0 : Int32) else (1 : Int32))), .unset, .unset, .unset, .unset, .unset, .unset, .unset, .unset, .unset, .unset, .unset, .unset, .unset, .unset] [(.int (if (p0 &&& (2 : Int32)) = (0 : Int32) then (0 : Int32) else (1 : Int32)))])) (fun HJ => ?_) ?_
    · by_cases c116 : (p0 &&& (2 : Int32)) = (0 : Int32)
      · try simp only [if_pos c116] at HJ
        refine WP.if0T K at_16 ((if0 _ _).trans (teq c116).1) (by decide) (pc' := 23) (by decide) ?_
        refine WP.iconst K at_23 (v := (0 : Int32)) rfl (pc' := 24) rfl ?_
        first | exact HJ | (simp only [if_pos c116]; exact HJ)
      · try simp only [if_neg c116] at HJ
        refine WP.if0F K at_16 ((if0 _ _).trans (feq c116).1) (pc' := 19) rfl ?_
        refine WP.iconst K at_19 (v := (1 : Int32)) rfl (pc' := 20) rfl ?_
        refine WP.goto K at_20 (by decide) (pc' := 24) (by decide) ?_
        first | exact HJ | (simp only [if_neg c116]; exact HJ)
    · skip
      refine WP.istore K at_24 (L' := #[.val (.int p0), .val (.int p1), .val (.int p2), .val (.int p3), .val (.int (if (p0 &&& (1 : Int32)) = (0 : Int32) then (0 : Int32) else (1 : Int32))), .val (.int (if (p0 &&& (2 : Int32)) = (0 : Int32) then (0 : Int32) else (1 : Int32))), .unset, .unset, .unset, .unset, .unset, .unset, .unset, .unset, .unset, .unset, .unset, .unset, .unset]) rfl (pc' := 26) rfl ?_
      refine WP.iloadN K at_26 rfl (pc' := 27) rfl ?_
      refine WP.iconst K at_27 (v := (4 : Int32)) rfl (pc' := 28) rfl ?_
      refine WP.iand K at_28 (pc' := 29) rfl ?_
      refine WP.meet (g' := (mkF κ.m 37 #[.val (.int p0), .val (.int p1), .val (.int p2), .val (.int p3), .val (.int (if (p0 &&& (1 : Int32)) = (0 : Int32) then (0 : Int32) else (1 : Int32))), .val (.int (if (p0 &&& (2 : Int32)) = (0 : Int32) then (0 : Int32) else (1 : Int32))), .unset, .unset, .unset, .unset, .unset, .unset, .unset, .unset, .unset, .unset, .unset, .unset, .unset] [(.int (if (p0 &&& (4 : Int32)) = (0 : Int32) then (0 : Int32) else (1 : Int32)))])) (fun HJ => ?_) ?_
      · by_cases c117 : (p0 &&& (4 : Int32)) = (0 : Int32)
        · try simp only [if_pos c117] at HJ
          refine WP.if0T K at_29 ((if0 _ _).trans (teq c117).1) (by decide) (pc' := 36) (by decide) ?_
          refine WP.iconst K at_36 (v := (0 : Int32)) rfl (pc' := 37) rfl ?_
          first | exact HJ | (simp only [if_pos c117]; exact HJ)
        · try simp only [if_neg c117] at HJ
          refine WP.if0F K at_29 ((if0 _ _).trans (feq c117).1) (pc' := 32) rfl ?_
          refine WP.iconst K at_32 (v := (1 : Int32)) rfl (pc' := 33) rfl ?_
          refine WP.goto K at_33 (by decide) (pc' := 37) (by decide) ?_
          first | exact HJ | (simp only [if_neg c117]; exact HJ)
      · skip
        refine WP.istore K at_37 (L' := #[.val (.int p0), .val (.int p1), .val (.int p2), .val (.int p3), .val (.int (if (p0 &&& (1 : Int32)) = (0 : Int32) then (0 : Int32) else (1 : Int32))), .val (.int (if (p0 &&& (2 : Int32)) = (0 : Int32) then (0 : Int32) else (1 : Int32))), .val (.int (if (p0 &&& (4 : Int32)) = (0 : Int32) then (0 : Int32) else (1 : Int32))), .unset, .unset, .unset, .unset, .unset, .unset, .unset, .unset, .unset, .unset, .unset, .unset]) rfl (pc' := 39) rfl ?_
        refine WP.iloadN K at_39 rfl (pc' := 40) rfl ?_
        refine WP.bipush K at_40 (v := (8 : Int32)) rfl (pc' := 42) rfl ?_
        refine WP.iand K at_42 (pc' := 43) rfl ?_
        refine WP.meet (g' := (mkF κ.m 51 #[.val (.int p0), .val (.int p1), .val (.int p2), .val (.int p3), .val (.int (if (p0 &&& (1 : Int32)) = (0 : Int32) then (0 : Int32) else (1 : Int32))), .val (.int (if (p0 &&& (2 : Int32)) = (0 : Int32) then (0 : Int32) else (1 : Int32))), .val (.int (if (p0 &&& (4 : Int32)) = (0 : Int32) then (0 : Int32) else (1 : Int32))), .unset, .unset, .unset, .unset, .unset, .unset, .unset, .unset, .unset, .unset, .unset, .unset] [(.int (if (p0 &&& (8 : Int32)) = (0 : Int32) then (0 : Int32) else (1 : Int32)))])) (fun HJ => ?_) ?_
        · by_cases c118 : (p0 &&& (8 : Int32)) = (0 : Int32)
          · try simp only [if_pos c118] at HJ
            refine WP.if0T K at_43 ((if0 _ _).trans (teq c118).1) (by decide) (pc' := 50) (by decide) ?_
            refine WP.iconst K at_50 (v := (0 : Int32)) rfl (pc' := 51) rfl ?_
            first | exact HJ | (simp only [if_pos c118]; exact HJ)
          · try simp only [if_neg c118] at HJ
            refine WP.if0F K at_43 ((if0 _ _).trans (feq c118).1) (pc' := 46) rfl ?_
            refine WP.iconst K at_46 (v := (1 : Int32)) rfl (pc' := 47) rfl ?_
            refine WP.goto K at_47 (by decide) (pc' := 51) (by decide) ?_
            first | exact HJ | (simp only [if_neg c118]; exact HJ)
        · skip
          refine WP.istore K at_51 (L' := #[.val (.int p0), .val (.int p1), .val (.int p2), .val (.int p3), .val (.int (if (p0 &&& (1 : Int32)) = (0 : Int32) then (0 : Int32) else (1 : Int32))), .val (.int (if (p0 &&& (2 : Int32)) = (0 : Int32) then (0 : Int32) else (1 : Int32))), .val (.int (if (p0 &&& (4 : Int32)) = (0 : Int32) then (0 : Int32) else (1 : Int32))), .val (.int (if (p0 &&& (8 : Int32)) = (0 : Int32) then (0 : Int32) else (1 : Int32))), .unset, .unset, .unset, .unset, .unset, .unset, .unset, .unset, .unset, .unset, .unset]) rfl (pc' := 53) rfl ?_
          refine WP.iloadN K at_53 rfl (pc' := 54) rfl ?_
          refine WP.bipush K at_54 (v := (16 : Int32)) rfl (pc' := 56) rfl ?_
          refine WP.iand K at_56 (pc' := 57) rfl ?_
          refine WP.meet (g' := (mkF κ.m 65 #[.val (.int p0), .val (.int p1), .val (.int p2), .val (.int p3), .val (.int (if (p0 &&& (1 : Int32)) = (0 : Int32) then (0 : Int32) else (1 : Int32))), .val (.int (if (p0 &&& (2 : Int32)) = (0 : Int32) then (0 : Int32) else (1 : Int32))), .val (.int (if (p0 &&& (4 : Int32)) = (0 : Int32) then (0 : Int32) else (1 : Int32))), .val (.int (if (p0 &&& (8 : Int32)) = (0 : Int32) then (0 : Int32) else (1 : Int32))), .unset, .unset, .unset, .unset, .unset, .unset, .unset, .unset, .unset, .unset, .unset] [(.int (if (p0 &&& (16 : Int32)) = (0 : Int32) then (0 : Int32) else (1 : Int32)))])) (fun HJ => ?_) ?_
          · by_cases c119 : (p0 &&& (16 : Int32)) = (0 : Int32)
            · try simp only [if_pos c119] at HJ
              refine WP.if0T K at_57 ((if0 _ _).trans (teq c119).1) (by decide) (pc' := 64) (by decide) ?_
              refine WP.iconst K at_64 (v := (0 : Int32)) rfl (pc' := 65) rfl ?_
              first | exact HJ | (simp only [if_pos c119]; exact HJ)
            · try simp only [if_neg c119] at HJ
              refine WP.if0F K at_57 ((if0 _ _).trans (feq c119).1) (pc' := 60) rfl ?_
              refine WP.iconst K at_60 (v := (1 : Int32)) rfl (pc' := 61) rfl ?_
              refine WP.goto K at_61 (by decide) (pc' := 65) (by decide) ?_
              first | exact HJ | (simp only [if_neg c119]; exact HJ)
          · skip
            refine WP.istore K at_65 (L' := #[.val (.int p0), .val (.int p1), .val (.int p2), .val (.int p3), .val (.int (if (p0 &&& (1 : Int32)) = (0 : Int32) then (0 : Int32) else (1 : Int32))), .val (.int (if (p0 &&& (2 : Int32)) = (0 : Int32) then (0 : Int32) else (1 : Int32))), .val (.int (if (p0 &&& (4 : Int32)) = (0 : Int32) then (0 : Int32) else (1 : Int32))), .val (.int (if (p0 &&& (8 : Int32)) = (0 : Int32) then (0 : Int32) else (1 : Int32))), .val (.int (if (p0 &&& (16 : Int32)) = (0 : Int32) then (0 : Int32) else (1 : Int32))), .unset, .unset, .unset, .unset, .unset, .unset, .unset, .unset, .unset, .unset]) rfl (pc' := 67) rfl ?_
            refine WP.iloadN K at_67 rfl (pc' := 68) rfl ?_
            refine WP.bipush K at_68 (v := (32 : Int32)) rfl (pc' := 70) rfl ?_
            refine WP.iand K at_70 (pc' := 71) rfl ?_
            refine WP.meet (g' := (mkF κ.m 79 #[.val (.int p0), .val (.int p1), .val (.int p2), .val (.int p3), .val (.int (if (p0 &&& (1 : Int32)) = (0 : Int32) then (0 : Int32) else (1 : Int32))), .val (.int (if (p0 &&& (2 : Int32)) = (0 : Int32) then (0 : Int32) else (1 : Int32))), .val (.int (if (p0 &&& (4 : Int32)) = (0 : Int32) then (0 : Int32) else (1 : Int32))), .val (.int (if (p0 &&& (8 : Int32)) = (0 : Int32) then (0 : Int32) else (1 : Int32))), .val (.int (if (p0 &&& (16 : Int32)) = (0 : Int32) then (0 : Int32) else (1 : Int32))), .unset, .unset, .unset, .unset, .unset, .unset, .unset, .unset, .unset, .unset] [(.int (if (p0 &&& (32 : Int32)) = (0 : Int32) then (0 : Int32) else (1 : Int32)))])) (fun HJ => ?_) ?_
            · by_cases c120 : (p0 &&& (32 : Int32)) = (0 : Int32)
              · try simp only [if_pos c120] at HJ
                refine WP.if0T K at_71 ((if0 _ _).trans (teq c120).1) (by decide) (pc' := 78) (by decide) ?_
                refine WP.iconst K at_78 (v := (0 : Int32)) rfl (pc' := 79) rfl ?_
                first | exact HJ | (simp only [if_pos c120]; exact HJ)
              · try simp only [if_neg c120] at HJ
                refine WP.if0F K at_71 ((if0 _ _).trans (feq c120).1) (pc' := 74) rfl ?_
                refine WP.iconst K at_74 (v := (1 : Int32)) rfl (pc' := 75) rfl ?_
                refine WP.goto K at_75 (by decide) (pc' := 79) (by decide) ?_
                first | exact HJ | (simp only [if_neg c120]; exact HJ)
            · skip
              refine WP.istore K at_79 (L' := #[.val (.int p0), .val (.int p1), .val (.int p2), .val (.int p3), .val (.int (if (p0 &&& (1 : Int32)) = (0 : Int32) then (0 : Int32) else (1 : Int32))), .val (.int (if (p0 &&& (2 : Int32)) = (0 : Int32) then (0 : Int32) else (1 : Int32))), .val (.int (if (p0 &&& (4 : Int32)) = (0 : Int32) then (0 : Int32) else (1 : Int32))), .val (.int (if (p0 &&& (8 : Int32)) = (0 : Int32) then (0 : Int32) else (1 : Int32))), .val (.int (if (p0 &&& (16 : Int32)) = (0 : Int32) then (0 : Int32) else (1 : Int32))), .val (.int (if (p0 &&& (32 : Int32)) = (0 : Int32) then (0 : Int32) else (1 : Int32))), .unset, .unset, .unset, .unset, .unset, .unset, .unset, .unset, .unset]) rfl (pc' := 81) rfl ?_
              refine WP.iload K at_81 rfl (pc' := 83) rfl ?_
              refine WP.meet (g' := (mkF κ.m 97 #[.val (.int p0), .val (.int p1), .val (.int p2), .val (.int p3), .val (.int (if (p0 &&& (1 : Int32)) = (0 : Int32) then (0 : Int32) else (1 : Int32))), .val (.int (if (p0 &&& (2 : Int32)) = (0 : Int32) then (0 : Int32) else (1 : Int32))), .val (.int (if (p0 &&& (4 : Int32)) = (0 : Int32) then (0 : Int32) else (1 : Int32))), .val (.int (if (p0 &&& (8 : Int32)) = (0 : Int32) then (0 : Int32) else (1 : Int32))), .val (.int (if (p0 &&& (16 : Int32)) = (0 : Int32) then (0 : Int32) else (1 : Int32))), .val (.int (if (p0 &&& (32 : Int32)) = (0 : Int32) then (0 : Int32) else (1 : Int32))), .unset, .unset, .unset, .unset, .unset, .unset, .unset, .unset, .unset] [(.int (if (p0 &&& (8 : Int32)) = (0 : Int32) then ((p1 &&& (2147483647 : Int32)) % (60 : Int32)) else (-1 : Int32)))])) (fun HJ => ?_) ?_
              · by_cases c121 : (p0 &&& (8 : Int32)) = (0 : Int32)
                · try simp only [if_pos c121] at HJ
                  refine WP.if0T K at_83 (by rw [if_pos c121]; decide) (by decide) (pc' := 90) (by decide) ?_
                  refine WP.iloadN K at_90 rfl (pc' := 91) rfl ?_
                  refine WP.ldcI K (w_0 hw) at_91 (pc' := 93) rfl ?_
                  refine WP.iand K at_93 (pc' := 94) rfl ?_
                  refine WP.bipush K at_94 (v := (60 : Int32)) rfl (pc' := 96) rfl ?_
                  refine WP.irem K at_96 (by decide) (pc' := 97) rfl ?_
                  first | exact HJ | (simp only [if_pos c121]; exact HJ)
                · try simp only [if_neg c121] at HJ
                  refine WP.if0F K at_83 (by rw [if_neg c121]; decide) (pc' := 86) rfl ?_
                  refine WP.iconst K at_86 (v := (-1 : Int32)) rfl (pc' := 87) rfl ?_
                  refine WP.goto K at_87 (by decide) (pc' := 97) (by decide) ?_
                  first | exact HJ | (simp only [if_neg c121]; exact HJ)
              · skip
                refine WP.istore K at_97 (L' := #[.val (.int p0), .val (.int p1), .val (.int p2), .val (.int p3), .val (.int (if (p0 &&& (1 : Int32)) = (0 : Int32) then (0 : Int32) else (1 : Int32))), .val (.int (if (p0 &&& (2 : Int32)) = (0 : Int32) then (0 : Int32) else (1 : Int32))), .val (.int (if (p0 &&& (4 : Int32)) = (0 : Int32) then (0 : Int32) else (1 : Int32))), .val (.int (if (p0 &&& (8 : Int32)) = (0 : Int32) then (0 : Int32) else (1 : Int32))), .val (.int (if (p0 &&& (16 : Int32)) = (0 : Int32) then (0 : Int32) else (1 : Int32))), .val (.int (if (p0 &&& (32 : Int32)) = (0 : Int32) then (0 : Int32) else (1 : Int32))), .val (.int (if (p0 &&& (8 : Int32)) = (0 : Int32) then ((p1 &&& (2147483647 : Int32)) % (60 : Int32)) else (-1 : Int32))), .unset, .unset, .unset, .unset, .unset, .unset, .unset, .unset]) rfl (pc' := 99) rfl ?_
                generalize e_t0 : (if (p0 &&& (8 : Int32)) = (0 : Int32) then ((p1 &&& (2147483647 : Int32)) % (60 : Int32)) else (-1 : Int32)) = t0 at ⊢
                have h_t0 := own_t e_t0
                refine WP.iload K at_99 rfl (pc' := 101) rfl ?_
                refine WP.meet (g' := (mkF κ.m 115 #[.val (.int p0), .val (.int p1), .val (.int p2), .val (.int p3), .val (.int (if (p0 &&& (1 : Int32)) = (0 : Int32) then (0 : Int32) else (1 : Int32))), .val (.int (if (p0 &&& (2 : Int32)) = (0 : Int32) then (0 : Int32) else (1 : Int32))), .val (.int (if (p0 &&& (4 : Int32)) = (0 : Int32) then (0 : Int32) else (1 : Int32))), .val (.int (if (p0 &&& (8 : Int32)) = (0 : Int32) then (0 : Int32) else (1 : Int32))), .val (.int (if (p0 &&& (16 : Int32)) = (0 : Int32) then (0 : Int32) else (1 : Int32))), .val (.int (if (p0 &&& (32 : Int32)) = (0 : Int32) then (0 : Int32) else (1 : Int32))), .val (.int t0), .unset, .unset, .unset, .unset, .unset, .unset, .unset, .unset] [(.int (if (p0 &&& (16 : Int32)) = (0 : Int32) then ((p2 &&& (2147483647 : Int32)) % (60 : Int32)) else (-1 : Int32)))])) (fun HJ => ?_) ?_
                · by_cases c122 : (p0 &&& (16 : Int32)) = (0 : Int32)
                  · try simp only [if_pos c122] at HJ
                    refine WP.if0T K at_101 (by rw [if_pos c122]; decide) (by decide) (pc' := 108) (by decide) ?_
                    refine WP.iloadN K at_108 rfl (pc' := 109) rfl ?_
                    refine WP.ldcI K (w_0 hw) at_109 (pc' := 111) rfl ?_
                    refine WP.iand K at_111 (pc' := 112) rfl ?_
                    refine WP.bipush K at_112 (v := (60 : Int32)) rfl (pc' := 114) rfl ?_
                    refine WP.irem K at_114 (by decide) (pc' := 115) rfl ?_
                    first | exact HJ | (simp only [if_pos c122]; exact HJ)
                  · try simp only [if_neg c122] at HJ
                    refine WP.if0F K at_101 (by rw [if_neg c122]; decide) (pc' := 104) rfl ?_
                    refine WP.iconst K at_104 (v := (-1 : Int32)) rfl (pc' := 105) rfl ?_
                    refine WP.goto K at_105 (by decide) (pc' := 115) (by decide) ?_
                    first | exact HJ | (simp only [if_neg c122]; exact HJ)
                · skip
                  refine WP.istore K at_115 (L' := #[.val (.int p0), .val (.int p1), .val (.int p2), .val (.int p3), .val (.int (if (p0 &&& (1 : Int32)) = (0 : Int32) then (0 : Int32) else (1 : Int32))), .val (.int (if (p0 &&& (2 : Int32)) = (0 : Int32) then (0 : Int32) else (1 : Int32))), .val (.int (if (p0 &&& (4 : Int32)) = (0 : Int32) then (0 : Int32) else (1 : Int32))), .val (.int (if (p0 &&& (8 : Int32)) = (0 : Int32) then (0 : Int32) else (1 : Int32))), .val (.int (if (p0 &&& (16 : Int32)) = (0 : Int32) then (0 : Int32) else (1 : Int32))), .val (.int (if (p0 &&& (32 : Int32)) = (0 : Int32) then (0 : Int32) else (1 : Int32))), .val (.int t0), .val (.int (if (p0 &&& (16 : Int32)) = (0 : Int32) then ((p2 &&& (2147483647 : Int32)) % (60 : Int32)) else (-1 : Int32))), .unset, .unset, .unset, .unset, .unset, .unset, .unset]) rfl (pc' := 117) rfl ?_
                  generalize e_t1 : (if (p0 &&& (16 : Int32)) = (0 : Int32) then ((p2 &&& (2147483647 : Int32)) % (60 : Int32)) else (-1 : Int32)) = t1 at ⊢
                  have h_t1 := own_t e_t1
                  refine WP.iload K at_117 rfl (pc' := 119) rfl ?_
                  refine WP.meet (g' := (mkF κ.m 133 #[.val (.int p0), .val (.int p1), .val (.int p2), .val (.int p3), .val (.int (if (p0 &&& (1 : Int32)) = (0 : Int32) then (0 : Int32) else (1 : Int32))), .val (.int (if (p0 &&& (2 : Int32)) = (0 : Int32) then (0 : Int32) else (1 : Int32))), .val (.int (if (p0 &&& (4 : Int32)) = (0 : Int32) then (0 : Int32) else (1 : Int32))), .val (.int (if (p0 &&& (8 : Int32)) = (0 : Int32) then (0 : Int32) else (1 : Int32))), .val (.int (if (p0 &&& (16 : Int32)) = (0 : Int32) then (0 : Int32) else (1 : Int32))), .val (.int (if (p0 &&& (32 : Int32)) = (0 : Int32) then (0 : Int32) else (1 : Int32))), .val (.int t0), .val (.int t1), .unset, .unset, .unset, .unset, .unset, .unset, .unset] [(.int (if (p0 &&& (32 : Int32)) = (0 : Int32) then ((p3 &&& (2147483647 : Int32)) % (60 : Int32)) else (-1 : Int32)))])) (fun HJ => ?_) ?_
                  · by_cases c123 : (p0 &&& (32 : Int32)) = (0 : Int32)
                    · try simp only [if_pos c123] at HJ
                      refine WP.if0T K at_119 (by rw [if_pos c123]; decide) (by decide) (pc' := 126) (by decide) ?_
                      refine WP.iloadN K at_126 rfl (pc' := 127) rfl ?_
                      refine WP.ldcI K (w_0 hw) at_127 (pc' := 129) rfl ?_
                      refine WP.iand K at_129 (pc' := 130) rfl ?_
                      refine WP.bipush K at_130 (v := (60 : Int32)) rfl (pc' := 132) rfl ?_
                      refine WP.irem K at_132 (by decide) (pc' := 133) rfl ?_
                      first | exact HJ | (simp only [if_pos c123]; exact HJ)
                    · try simp only [if_neg c123] at HJ
                      refine WP.if0F K at_119 (by rw [if_neg c123]; decide) (pc' := 122) rfl ?_
                      refine WP.iconst K at_122 (v := (-1 : Int32)) rfl (pc' := 123) rfl ?_
                      refine WP.goto K at_123 (by decide) (pc' := 133) (by decide) ?_
                      first | exact HJ | (simp only [if_neg c123]; exact HJ)
                  · skip
                    refine WP.istore K at_133 (L' := #[.val (.int p0), .val (.int p1), .val (.int p2), .val (.int p3), .val (.int (if (p0 &&& (1 : Int32)) = (0 : Int32) then (0 : Int32) else (1 : Int32))), .val (.int (if (p0 &&& (2 : Int32)) = (0 : Int32) then (0 : Int32) else (1 : Int32))), .val (.int (if (p0 &&& (4 : Int32)) = (0 : Int32) then (0 : Int32) else (1 : Int32))), .val (.int (if (p0 &&& (8 : Int32)) = (0 : Int32) then (0 : Int32) else (1 : Int32))), .val (.int (if (p0 &&& (16 : Int32)) = (0 : Int32) then (0 : Int32) else (1 : Int32))), .val (.int (if (p0 &&& (32 : Int32)) = (0 : Int32) then (0 : Int32) else (1 : Int32))), .val (.int t0), .val (.int t1), .val (.int (if (p0 &&& (32 : Int32)) = (0 : Int32) then ((p3 &&& (2147483647 : Int32)) % (60 : Int32)) else (-1 : Int32))), .unset, .unset, .unset, .unset, .unset, .unset]) rfl (pc' := 135) rfl ?_
                    generalize e_t2 : (if (p0 &&& (32 : Int32)) = (0 : Int32) then ((p3 &&& (2147483647 : Int32)) % (60 : Int32)) else (-1 : Int32)) = t2 at ⊢
                    have h_t2 := own_t e_t2
                    refine WP.bipush K at_135 (v := (64 : Int32)) rfl (pc' := 137) rfl ?_
                    refine WP.newarray (aty := .int) K (w_1 hw) at_137 (N := 64) (cap := 64) rfl (Nat.le_refl _) (by decide) (k' := 1) (n' := 64) rfl rfl (by decide) (by decide) (pc' := 139) rfl fun h124 re kA_re g124 E124 A_re => ?_
                    have ne_nl_re : nl ≠ re := fun z_ => by have q_ : @LT.lt Nat _ nl h0.size := (Ary.lt (Ary.ext OLD.2 A_nl)); have r_ : @Eq Nat nl re := z_; omega
                    have old_re : n0 ≤ re := by have q_ := Z0; omega
                    have OLD := Old.ext OLD E124
                    have Z0 := Nat.le_trans Z0 E124.1
                    have A_re : Ary Z h124 re kA_re .int 64 (fun j => .int ((fun _ => (0 : Int32)) j)) := A_re
                    refine WP.astore K at_139 rfl (L' := #[.val (.int p0), .val (.int p1), .val (.int p2), .val (.int p3), .val (.int (if (p0 &&& (1 : Int32)) = (0 : Int32) then (0 : Int32) else (1 : Int32))), .val (.int (if (p0 &&& (2 : Int32)) = (0 : Int32) then (0 : Int32) else (1 : Int32))), .val (.int (if (p0 &&& (4 : Int32)) = (0 : Int32) then (0 : Int32) else (1 : Int32))), .val (.int (if (p0 &&& (8 : Int32)) = (0 : Int32) then (0 : Int32) else (1 : Int32))), .val (.int (if (p0 &&& (16 : Int32)) = (0 : Int32) then (0 : Int32) else (1 : Int32))), .val (.int (if (p0 &&& (32 : Int32)) = (0 : Int32) then (0 : Int32) else (1 : Int32))), .val (.int t0), .val (.int t1), .val (.int t2), .val (.ref re), .unset, .unset, .unset, .unset, .unset]) rfl (pc' := 141) rfl ?_
                    refine WP.aload K at_141 rfl rfl (pc' := 143) rfl ?_
                    refine WP.bipush K at_143 (v := (60 : Int32)) rfl (pc' := 145) rfl ?_
                    refine WP.iload K at_145 rfl (pc' := 147) rfl ?_
                    refine WP.iastore K (i := 60) A_re rfl (by decide) old_re at_147 (pc' := 148) rfl fun h125 W125 A_n => ?_
                    have OLD := Old.wr OLD W125 old_re
                    have Z0 := Nat.le_trans Z0 (Nat.le_of_eq W125.size.symm)
                    have A_re := A_n
                    rw [upd_int] at A_re
                    refine WP.aload K at_148 rfl rfl (pc' := 150) rfl ?_
                    refine WP.bipush K at_150 (v := (61 : Int32)) rfl (pc' := 152) rfl ?_
                    refine WP.iload K at_152 rfl (pc' := 154) rfl ?_
                    refine WP.iastore K (i := 61) A_re rfl (by decide) old_re at_154 (pc' := 155) rfl fun h126 W126 A_n => ?_
                    have OLD := Old.wr OLD W126 old_re
                    have Z0 := Nat.le_trans Z0 (Nat.le_of_eq W126.size.symm)
                    have A_re := A_n
                    rw [upd_int] at A_re
                    refine WP.aload K at_155 rfl rfl (pc' := 157) rfl ?_
                    refine WP.bipush K at_157 (v := (62 : Int32)) rfl (pc' := 159) rfl ?_
                    refine WP.iload K at_159 rfl (pc' := 161) rfl ?_
                    refine WP.iastore K (i := 62) A_re rfl (by decide) old_re at_161 (pc' := 162) rfl fun h127 W127 A_n => ?_
                    have OLD := Old.wr OLD W127 old_re
                    have Z0 := Nat.le_trans Z0 (Nat.le_of_eq W127.size.symm)
                    have A_re := A_n
                    rw [upd_int] at A_re
                    refine WP.iconst K at_162 (v := (4 : Int32)) rfl (pc' := 163) rfl ?_
                    have A_re : Ary Z h127 re kA_re .int 64 (fun j => .int (own_R t0 t1 t2 j)) := A_re
                    refine WP.newarray (aty := .int) K (w_1 hw) at_163 (N := 4) (cap := 4) rfl (Nat.le_refl _) (by decide) (k' := 2) (n' := 68) rfl rfl (by decide) (by decide) (pc' := 165) rfl fun h128 ex kA_ex g128 E128 A_ex => ?_
                    have ne_nl_ex : nl ≠ ex := fun z_ => by have q_ : @LT.lt Nat _ nl h127.size := (Ary.lt (Ary.ext OLD.2 A_nl)); have r_ : @Eq Nat nl ex := z_; omega
                    have ne_re_ex : re ≠ ex := fun z_ => by have q_ : @LT.lt Nat _ re h127.size := (Ary.lt A_re); have r_ : @Eq Nat re ex := z_; omega
                    have old_ex : n0 ≤ ex := by have q_ := Z0; omega
                    have A_re := Ary.ext E128 A_re
                    have OLD := Old.ext OLD E128
                    have Z0 := Nat.le_trans Z0 E128.1
                    have A_ex : Ary Z h128 ex kA_ex .int 4 (fun j => .int ((own_S0 p0 t0 t1 t2).2 j)) := A_ex
                    refine WP.astore K at_165 rfl (L' := #[.val (.int p0), .val (.int p1), .val (.int p2), .val (.int p3), .val (.int (if (p0 &&& (1 : Int32)) = (0 : Int32) then (0 : Int32) else (1 : Int32))), .val (.int (if (p0 &&& (2 : Int32)) = (0 : Int32) then (0 : Int32) else (1 : Int32))), .val (.int (if (p0 &&& (4 : Int32)) = (0 : Int32) then (0 : Int32) else (1 : Int32))), .val (.int (if (p0 &&& (8 : Int32)) = (0 : Int32) then (0 : Int32) else (1 : Int32))), .val (.int (if (p0 &&& (16 : Int32)) = (0 : Int32) then (0 : Int32) else (1 : Int32))), .val (.int (if (p0 &&& (32 : Int32)) = (0 : Int32) then (0 : Int32) else (1 : Int32))), .val (.int t0), .val (.int t1), .val (.int t2), .val (.ref re), .val (.ref ex), .unset, .unset, .unset, .unset]) rfl (pc' := 167) rfl ?_
                    refine WP.iconst K at_167 (v := (0 : Int32)) rfl (pc' := 168) rfl ?_
                    refine WP.istore K at_168 (L' := #[.val (.int p0), .val (.int p1), .val (.int p2), .val (.int p3), .val (.int (if (p0 &&& (1 : Int32)) = (0 : Int32) then (0 : Int32) else (1 : Int32))), .val (.int (if (p0 &&& (2 : Int32)) = (0 : Int32) then (0 : Int32) else (1 : Int32))), .val (.int (if (p0 &&& (4 : Int32)) = (0 : Int32) then (0 : Int32) else (1 : Int32))), .val (.int (if (p0 &&& (8 : Int32)) = (0 : Int32) then (0 : Int32) else (1 : Int32))), .val (.int (if (p0 &&& (16 : Int32)) = (0 : Int32) then (0 : Int32) else (1 : Int32))), .val (.int (if (p0 &&& (32 : Int32)) = (0 : Int32) then (0 : Int32) else (1 : Int32))), .val (.int t0), .val (.int t1), .val (.int t2), .val (.ref re), .val (.ref ex), .val (.int (0 : Int32)), .unset, .unset, .unset]) rfl (pc' := 170) rfl ?_
                    obtain ⟨l0, l1, l2, l3, l4, l5, l6, l7, l8⟩ := own_Sle p0 t0 t1 t2
                    have C300 : ∀ (m : Int32) (h : Heap), m.toInt = ((own_S7 p0 t0 t1 t2).1 : Int) → Ary Z h ex kA_ex .int 4 (fun j => .int ((own_S7 p0 t0 t1 t2).2 j)) → Ary Z h re kA_re .int 64 (fun j => .int (own_R t0 t1 t2 j)) → Old Z n0 h → n0 ≤ h.size → WP κ h 2 68 (mkF κ.m 300 #[.val (.int p0), .val (.int p1), .val (.int p2), .val (.int p3), .val (.int (if (p0 &&& (1 : Int32)) = (0 : Int32) then (0 : Int32) else (1 : Int32))), .val (.int (if (p0 &&& (2 : Int32)) = (0 : Int32) then (0 : Int32) else (1 : Int32))), .val (.int (if (p0 &&& (4 : Int32)) = (0 : Int32) then (0 : Int32) else (1 : Int32))), .val (.int (if (p0 &&& (8 : Int32)) = (0 : Int32) then (0 : Int32) else (1 : Int32))), .val (.int (if (p0 &&& (16 : Int32)) = (0 : Int32) then (0 : Int32) else (1 : Int32))), .val (.int (if (p0 &&& (32 : Int32)) = (0 : Int32) then (0 : Int32) else (1 : Int32))), .val (.int t0), .val (.int t1), .val (.int t2), .val (.ref re), .val (.ref ex), .val (.int m), .unset, .unset, .unset] []) := by
                      intro m h hm A_ex A_re OLD Z0
                      have z_re : @LT.lt Nat _ re h.size := Ary.lt A_re
                      have z_ex : @LT.lt Nat _ ex h.size := Ary.lt A_ex
                      refine WP.new K (w_2 hw) (w_3 hw) (w_4 hw) at_300 (k' := 3) (n' := 77) rfl rfl (by decide) (by decide) (pc' := 303) rfl fun h129 tb g129 E129 X129 D129 => ?_
                      have ne_nl_tb : nl ≠ tb := fun z_ => by have q_ : @LT.lt Nat _ nl h.size := (Ary.lt (Ary.ext OLD.2 A_nl)); have r_ : @Eq Nat nl tb := z_; omega
                      have ne_re_tb : re ≠ tb := fun z_ => by have q_ : @LT.lt Nat _ re h.size := (Ary.lt A_re); have r_ : @Eq Nat re tb := z_; omega
                      have ne_ex_tb : ex ≠ tb := fun z_ => by have q_ : @LT.lt Nat _ ex h.size := (Ary.lt A_ex); have r_ : @Eq Nat ex tb := z_; omega
                      have old_tb : n0 ≤ tb := by have q_ := Z0; omega
                      have A_re := Ary.ext E129 A_re
                      have A_ex := Ary.ext E129 A_ex
                      have OLD := Old.ext OLD E129
                      have Z0 := Nat.le_trans Z0 E129.1
                      have O_tb : IsTb Z h129 tb .null .null .null .null (.int (0 : Int32)) .null (.int (0 : Int32)) := ⟨X129, D129 (O := "com/example/weir/weir/engine/TripleTable") (f := "terms") (d := "[I") (Or.inl (w_12 hw)) (ty := (.array .int)) (by decide), D129 (O := "com/example/weir/weir/engine/TripleTable") (f := "numbers") (d := "Lcom/example/weir/weir/engine/Numbers;") (Or.inr (w_32 hw)) (ty := (.object "com/example/weir/weir/engine/Numbers")) (by decide), D129 (O := "com/example/weir/weir/engine/TripleTable") (f := "index") (d := "Lcom/example/weir/weir/engine/SubjectIndex;") (Or.inl (w_79 hw)) (ty := (.object "com/example/weir/weir/engine/SubjectIndex")) (by decide), D129 (O := "com/example/weir/weir/engine/TripleTable") (f := "ends") (d := "[J") (Or.inl (w_95 hw)) (ty := (.array .long)) (by decide), D129 (O := "com/example/weir/weir/engine/TripleTable") (f := "ending") (d := "I") (Or.inl (w_113 hw)) (ty := .int) (by decide), D129 (O := "com/example/weir/weir/engine/TripleTable") (f := "moves") (d := "[I") (Or.inl (w_148 hw)) (ty := (.array .int)) (by decide), D129 (O := "com/example/weir/weir/engine/TripleTable") (f := "earliest") (d := "I") (Or.inl (w_175 hw)) (ty := .int) (by decide)⟩
                      have lt_re : @LT.lt Nat _ re tb := by omega
                      have lt_ex : @LT.lt Nat _ ex tb := by omega
                      refine WP.dup K at_303 rfl (pc' := 304) rfl ?_
                      refine WP.callI K (a := tb) (argsL := []) (S := [(.ref tb)]) rfl (w_5 hw) (w_6 hw) (rm_tt w l Z a0 hw tb _ _ _ _ _ _ _ nl kL fL h129 n0 Z0 O_tb old_tb S_nl A_nl OLD) (w_7 hw) (w_4 hw) (by decide) rfl (lenOf pd_0 rfl) rfl (W := 1) rfl (by decide) (by decide) (k' := 11) (n' := 306) rfl rfl (by decide) (by decide) at_304 (pc' := 307) rfl fun v h130 hq => ?_
                      obtain ⟨rfl, K0, te, nu, si, kT, f_te, s_te, O_tb, A_te⟩ := hq
                      have A_re := Ary.keep K0 A_re (ninS ne_re_tb nin0)
                      have A_ex := Ary.keep K0 A_ex (ninS ne_ex_tb nin0)
                      have OLD := Old.keep OLD K0 (allS old_tb all0)
                      have Z0 := Nat.le_trans Z0 K0.1
                      show WP κ h130 11 306 (mkF κ.m 307 #[.val (.int p0), .val (.int p1), .val (.int p2), .val (.int p3), .val (.int (if (p0 &&& (1 : Int32)) = (0 : Int32) then (0 : Int32) else (1 : Int32))), .val (.int (if (p0 &&& (2 : Int32)) = (0 : Int32) then (0 : Int32) else (1 : Int32))), .val (.int (if (p0 &&& (4 : Int32)) = (0 : Int32) then (0 : Int32) else (1 : Int32))), .val (.int (if (p0 &&& (8 : Int32)) = (0 : Int32) then (0 : Int32) else (1 : Int32))), .val (.int (if (p0 &&& (16 : Int32)) = (0 : Int32) then (0 : Int32) else (1 : Int32))), .val (.int (if (p0 &&& (32 : Int32)) = (0 : Int32) then (0 : Int32) else (1 : Int32))), .val (.int t0), .val (.int t1), .val (.int t2), .val (.ref re), .val (.ref ex), .val (.int m), .unset, .unset, .unset] [(.ref tb)])
                      have T_ : IsTT Z h130 tb h130.size tb own_D0 := ⟨Nat.le_refl _, IsTb.lt O_tb, te, kT, f_te, .null, _, _, _, _, Ary.lt A_te, O_tb, A_te, Or.inl ⟨rfl, fun _ _ => rfl⟩⟩
                      refine WP.astore K at_307 rfl (L' := #[.val (.int p0), .val (.int p1), .val (.int p2), .val (.int p3), .val (.int (if (p0 &&& (1 : Int32)) = (0 : Int32) then (0 : Int32) else (1 : Int32))), .val (.int (if (p0 &&& (2 : Int32)) = (0 : Int32) then (0 : Int32) else (1 : Int32))), .val (.int (if (p0 &&& (4 : Int32)) = (0 : Int32) then (0 : Int32) else (1 : Int32))), .val (.int (if (p0 &&& (8 : Int32)) = (0 : Int32) then (0 : Int32) else (1 : Int32))), .val (.int (if (p0 &&& (16 : Int32)) = (0 : Int32) then (0 : Int32) else (1 : Int32))), .val (.int (if (p0 &&& (32 : Int32)) = (0 : Int32) then (0 : Int32) else (1 : Int32))), .val (.int t0), .val (.int t1), .val (.int t2), .val (.ref re), .val (.ref ex), .val (.int m), .val (.ref tb), .unset, .unset]) rfl (pc' := 309) rfl ?_
                      have C354 : ∀ h : Heap, IsTT Z h tb h.size tb (own_D3 p0) → Ary Z h ex kA_ex .int 4 (fun j => .int ((own_S7 p0 t0 t1 t2).2 j)) → Ary Z h re kA_re .int 64 (fun j => .int (own_R t0 t1 t2 j)) → Old Z n0 h → n0 ≤ h.size → WP κ h 14 498 (mkF κ.m 354 #[.val (.int p0), .val (.int p1), .val (.int p2), .val (.int p3), .val (.int (if (p0 &&& (1 : Int32)) = (0 : Int32) then (0 : Int32) else (1 : Int32))), .val (.int (if (p0 &&& (2 : Int32)) = (0 : Int32) then (0 : Int32) else (1 : Int32))), .val (.int (if (p0 &&& (4 : Int32)) = (0 : Int32) then (0 : Int32) else (1 : Int32))), .val (.int (if (p0 &&& (8 : Int32)) = (0 : Int32) then (0 : Int32) else (1 : Int32))), .val (.int (if (p0 &&& (16 : Int32)) = (0 : Int32) then (0 : Int32) else (1 : Int32))), .val (.int (if (p0 &&& (32 : Int32)) = (0 : Int32) then (0 : Int32) else (1 : Int32))), .val (.int t0), .val (.int t1), .val (.int t2), .val (.ref re), .val (.ref ex), .val (.int m), .val (.ref tb), .unset, .unset] []) := by
                        intro h T_ A_ex A_re OLD Z0
                        refine WP.aload K at_354 rfl rfl (pc' := 356) rfl ?_
                        refine WP.bipush K at_356 (v := (63 : Int32)) rfl (pc' := 358) rfl ?_
                        refine WP.lconst K at_358 (v := (0 : Int64)) rfl (pc' := 359) rfl ?_
                        have hF : own_D3 p0 63 = (9223372036854775807 : Int64) := (own_se_ne (by decide)).trans ((own_se_ne (by decide)).trans (own_se_ne (by decide)))
                        refine WP.callV K (a := tb) (argsL := [(.int (63 : Int32)), (.long (0 : Int64))]) (S := []) (w_80 hw) (w_81 hw) (fun vm0 hZ => notFace_of_selects (args := #[]) (mvT (s := κ.s.setVm vm0) hZ (w_83 hw))) (w_83 hw) (w_82 hw) (by decide) (IsTT.exa T_) (rm_set w l Z a0 hw tb tb h.size (own_D3 p0) (63 : Int32) 63 (0 : Int64) h n0 Z0 T_ rfl (by decide) hF (by decide) old_tb) (w_84 hw) (w_4 hw) (by decide) rfl (lenOf pd_7 rfl) rfl (W := 0) rfl (by decide) (by decide) (k' := 15) (n' := 562) rfl rfl (by decide) (by decide) at_359 (pc' := 362) rfl fun v h131 hq => ?_
                        obtain ⟨rfl, T_, ws, K1, hws⟩ := hq
                        show WP κ h131 15 562 (mkF κ.m 362 #[.val (.int p0), .val (.int p1), .val (.int p2), .val (.int p3), .val (.int (if (p0 &&& (1 : Int32)) = (0 : Int32) then (0 : Int32) else (1 : Int32))), .val (.int (if (p0 &&& (2 : Int32)) = (0 : Int32) then (0 : Int32) else (1 : Int32))), .val (.int (if (p0 &&& (4 : Int32)) = (0 : Int32) then (0 : Int32) else (1 : Int32))), .val (.int (if (p0 &&& (8 : Int32)) = (0 : Int32) then (0 : Int32) else (1 : Int32))), .val (.int (if (p0 &&& (16 : Int32)) = (0 : Int32) then (0 : Int32) else (1 : Int32))), .val (.int (if (p0 &&& (32 : Int32)) = (0 : Int32) then (0 : Int32) else (1 : Int32))), .val (.int t0), .val (.int t1), .val (.int t2), .val (.ref re), .val (.ref ex), .val (.int m), .val (.ref tb), .unset, .unset] [])
                        have A_re := Ary.keep K1 A_re (fun q => absurd (hws _ q) (Nat.not_le_of_lt lt_re))
                        have A_ex := Ary.keep K1 A_ex (fun q => absurd (hws _ q) (Nat.not_le_of_lt lt_ex))
                        have OLD := Old.keep OLD K1 (fun y hy => Nat.le_trans old_tb (hws y hy))
                        have Z0 := Nat.le_trans Z0 K1.1
                        have T_ : IsTT Z h131 tb h131.size tb (own_D4 p0) := T_
                        have z_re : @LT.lt Nat _ re h131.size := Ary.lt A_re
                        have z_ex : @LT.lt Nat _ ex h131.size := Ary.lt A_ex
                        refine WP.new K (w_114 hw) (w_115 hw) (w_116 hw) at_362 (k' := 16) (n' := 567) rfl rfl (by decide) (by decide) (pc' := 365) rfl fun h132 el g132 E132 X132 D132 => ?_
                        have ne_nl_el : nl ≠ el := fun z_ => by have q_ : @LT.lt Nat _ nl h131.size := (Ary.lt (Ary.ext OLD.2 A_nl)); have r_ : @Eq Nat nl el := z_; omega
                        have ne_re_el : re ≠ el := fun z_ => by have q_ : @LT.lt Nat _ re h131.size := (Ary.lt A_re); have r_ : @Eq Nat re el := z_; omega
                        have ne_ex_el : ex ≠ el := fun z_ => by have q_ : @LT.lt Nat _ ex h131.size := (Ary.lt A_ex); have r_ : @Eq Nat ex el := z_; omega
                        have ne_tb_el : tb ≠ el := fun z_ => by have q_ : @LT.lt Nat _ tb h131.size := (IsTT.lt T_); have r_ : @Eq Nat tb el := z_; omega
                        have old_el : n0 ≤ el := by have q_ := Z0; omega
                        have A_re := Ary.ext E132 A_re
                        have A_ex := Ary.ext E132 A_ex
                        have T_ := IsTT.ext E132 T_
                        have OLD := Old.ext OLD E132
                        have Z0 := Nat.le_trans Z0 E132.1
                        have O_el : IsEl Z h132 el .null (.int (0 : Int32)) (.int (0 : Int32)) (.int (0 : Int32)) (.int (0 : Int32)) := ⟨X132, D132 (O := "com/example/weir/weir/engine/EndingList") (f := "entries") (d := "[I") (Or.inl (w_122 hw)) (ty := (.array .int)) (by decide), D132 (O := "com/example/weir/weir/engine/EndingList") (f := "held") (d := "I") (Or.inl (w_129 hw)) (ty := .int) (by decide), D132 (O := "com/example/weir/weir/engine/EndingList") (f := "size") (d := "I") (Or.inl (w_137 hw)) (ty := .int) (by decide), D132 (O := "com/example/weir/weir/engine/EndingList") (f := "earliest") (d := "I") (Or.inl (w_139 hw)) (ty := .int) (by decide), D132 (O := "com/example/weir/weir/engine/EndingList") (f := "first") (d := "I") (Or.inl (w_141 hw)) (ty := .int) (by decide)⟩
                        rw [g132] at T_
                        have le_re : @LT.lt Nat _ re el := by omega
                        have le_ex : @LT.lt Nat _ ex el := by omega
                        refine WP.dup K at_365 rfl (pc' := 366) rfl ?_
                        refine WP.callI K (a := el) (argsL := []) (S := [(.ref el)]) rfl (w_117 hw) (w_118 hw) (rm_elinit w l Z a0 hw el h132 n0 Z0 O_el old_el) (w_119 hw) (w_116 hw) (by decide) rfl (lenOf pd_0 rfl) rfl (W := 1) rfl (by decide) (by decide) (k' := 17) (n' := 575) rfl rfl (by decide) (by decide) at_366 (pc' := 369) rfl fun v h133 hq => ?_
                        obtain ⟨rfl, K2, en0, old_en0, L0⟩ := hq
                        have A_re := Ary.keep K2 A_re (ninS ne_re_el nin0)
                        have A_ex := Ary.keep K2 A_ex (ninS ne_ex_el nin0)
                        have T_ := IsTT.keep K2 T_ (allS (Nat.le_refl _) all0)
                        have OLD := Old.keep OLD K2 (allS old_el all0)
                        have Z0 := Nat.le_trans Z0 K2.1
                        show WP κ h133 17 575 (mkF κ.m 369 #[.val (.int p0), .val (.int p1), .val (.int p2), .val (.int p3), .val (.int (if (p0 &&& (1 : Int32)) = (0 : Int32) then (0 : Int32) else (1 : Int32))), .val (.int (if (p0 &&& (2 : Int32)) = (0 : Int32) then (0 : Int32) else (1 : Int32))), .val (.int (if (p0 &&& (4 : Int32)) = (0 : Int32) then (0 : Int32) else (1 : Int32))), .val (.int (if (p0 &&& (8 : Int32)) = (0 : Int32) then (0 : Int32) else (1 : Int32))), .val (.int (if (p0 &&& (16 : Int32)) = (0 : Int32) then (0 : Int32) else (1 : Int32))), .val (.int (if (p0 &&& (32 : Int32)) = (0 : Int32) then (0 : Int32) else (1 : Int32))), .val (.int t0), .val (.int t1), .val (.int t2), .val (.ref re), .val (.ref ex), .val (.int m), .val (.ref tb), .unset, .unset] [(.ref el)])
                        refine WP.astore K at_369 rfl (L' := #[.val (.int p0), .val (.int p1), .val (.int p2), .val (.int p3), .val (.int (if (p0 &&& (1 : Int32)) = (0 : Int32) then (0 : Int32) else (1 : Int32))), .val (.int (if (p0 &&& (2 : Int32)) = (0 : Int32) then (0 : Int32) else (1 : Int32))), .val (.int (if (p0 &&& (4 : Int32)) = (0 : Int32) then (0 : Int32) else (1 : Int32))), .val (.int (if (p0 &&& (8 : Int32)) = (0 : Int32) then (0 : Int32) else (1 : Int32))), .val (.int (if (p0 &&& (16 : Int32)) = (0 : Int32) then (0 : Int32) else (1 : Int32))), .val (.int (if (p0 &&& (32 : Int32)) = (0 : Int32) then (0 : Int32) else (1 : Int32))), .val (.int t0), .val (.int t1), .val (.int t2), .val (.ref re), .val (.ref ex), .val (.int m), .val (.ref tb), .val (.ref el), .unset]) rfl (pc' := 371) rfl ?_
                        refine WP.aload K at_371 rfl rfl (pc' := 373) rfl ?_
                        refine WP.aload K at_373 rfl rfl (pc' := 375) rfl ?_
                        refine WP.bipush K at_375 (v := (60 : Int32)) rfl (pc' := 377) rfl ?_
                        have bd0 : own_bd 0 (fun _ => (0 : Int32)) := fun i hi => absurd hi (by omega)
                        have be0 : @LE.le Nat _ el en0 := L0.2.1
                        have ne_re_en0 : re ≠ en0 := fun z_ => by have r_ : @Eq Nat re en0 := z_; omega
                        have ne_ex_en0 : ex ≠ en0 := fun z_ => by have r_ : @Eq Nat ex en0 := z_; omega
                        refine WP.callV K (a := el) (argsL := [(.ref tb), (.int (60 : Int32))]) (S := []) (w_123 hw) (w_124 hw) (fun vm0 hZ => notFace_of_selects (args := #[]) (mvT (s := κ.s.setVm vm0) hZ (w_126 hw))) (w_126 hw) (w_125 hw) (by decide) (IsL.exa L0) (rm_add w l Z a0 hw el en0 el _ _ _ _ _ _ tb tb (own_D4 p0) (60 : Int32) 60 h133 n0 Z0 L0 old_el old_en0 T_ rfl (by decide) (by decide) bd0 (by decide) (by decide)) (w_127 hw) (w_116 hw) (by decide) rfl (lenOf pd_11 rfl) rfl (W := 0) rfl (by decide) (by decide) (k' := 18) (n' := 591) rfl rfl (by decide) (by decide) at_377 (pc' := 380) rfl fun v h134 hq => ?_
                        obtain ⟨rfl, K1, en1, N1, f1, old_en1, s_1, L1⟩ := hq
                        have A_re := Ary.keep K1 A_re (ninS ne_re_el (ninS ne_re_en0 nin0))
                        have A_ex := Ary.keep K1 A_ex (ninS ne_ex_el (ninS ne_ex_en0 nin0))
                        have T_ := IsTT.keep K1 T_ (allS (Nat.le_refl _) (allS be0 all0))
                        have OLD := Old.keep OLD K1 (allS old_el (allS old_en0 all0))
                        have Z0 := Nat.le_trans Z0 K1.1
                        show WP κ h134 18 591 (mkF κ.m 380 #[.val (.int p0), .val (.int p1), .val (.int p2), .val (.int p3), .val (.int (if (p0 &&& (1 : Int32)) = (0 : Int32) then (0 : Int32) else (1 : Int32))), .val (.int (if (p0 &&& (2 : Int32)) = (0 : Int32) then (0 : Int32) else (1 : Int32))), .val (.int (if (p0 &&& (4 : Int32)) = (0 : Int32) then (0 : Int32) else (1 : Int32))), .val (.int (if (p0 &&& (8 : Int32)) = (0 : Int32) then (0 : Int32) else (1 : Int32))), .val (.int (if (p0 &&& (16 : Int32)) = (0 : Int32) then (0 : Int32) else (1 : Int32))), .val (.int (if (p0 &&& (32 : Int32)) = (0 : Int32) then (0 : Int32) else (1 : Int32))), .val (.int t0), .val (.int t1), .val (.int t2), .val (.ref re), .val (.ref ex), .val (.int m), .val (.ref tb), .val (.ref el), .unset] [])
                        have bd1 := own_bd_ag (D := (own_D4 p0)) (i := 60) (ear := 0) (t := (60 : Int32)) bd0 (by decide)
                        refine WP.aload K at_380 rfl rfl (pc' := 382) rfl ?_
                        refine WP.aload K at_382 rfl rfl (pc' := 384) rfl ?_
                        refine WP.bipush K at_384 (v := (61 : Int32)) rfl (pc' := 386) rfl ?_
                        have be1 : @LE.le Nat _ el en1 := L1.2.1
                        have ne_re_en1 : re ≠ en1 := fun z_ => by have r_ : @Eq Nat re en1 := z_; omega
                        have ne_ex_en1 : ex ≠ en1 := fun z_ => by have r_ : @Eq Nat ex en1 := z_; omega
                        refine WP.callV K (a := el) (argsL := [(.ref tb), (.int (61 : Int32))]) (S := []) (w_123 hw) (w_124 hw) (fun vm0 hZ => notFace_of_selects (args := #[]) (mvT (s := κ.s.setVm vm0) hZ (w_126 hw))) (w_126 hw) (w_125 hw) (by decide) (IsL.exa L1) (rm_add w l Z a0 hw el en1 el _ _ _ _ _ _ tb tb (own_D4 p0) (61 : Int32) 61 h134 n0 Z0 L1 old_el old_en1 T_ rfl (by decide) (by decide) bd1 (by decide) (by decide)) (w_127 hw) (w_116 hw) (by decide) rfl (lenOf pd_11 rfl) rfl (W := 0) rfl (by decide) (by decide) (k' := 19) (n' := 607) rfl rfl (by decide) (by decide) at_386 (pc' := 389) rfl fun v h135 hq => ?_
                        obtain ⟨rfl, K1, en2, N2, f2, old_en2, s_2, L2⟩ := hq
                        have A_re := Ary.keep K1 A_re (ninS ne_re_el (ninS ne_re_en1 nin0))
                        have A_ex := Ary.keep K1 A_ex (ninS ne_ex_el (ninS ne_ex_en1 nin0))
                        have T_ := IsTT.keep K1 T_ (allS (Nat.le_refl _) (allS be1 all0))
                        have OLD := Old.keep OLD K1 (allS old_el (allS old_en1 all0))
                        have Z0 := Nat.le_trans Z0 K1.1
                        show WP κ h135 19 607 (mkF κ.m 389 #[.val (.int p0), .val (.int p1), .val (.int p2), .val (.int p3), .val (.int (if (p0 &&& (1 : Int32)) = (0 : Int32) then (0 : Int32) else (1 : Int32))), .val (.int (if (p0 &&& (2 : Int32)) = (0 : Int32) then (0 : Int32) else (1 : Int32))), .val (.int (if (p0 &&& (4 : Int32)) = (0 : Int32) then (0 : Int32) else (1 : Int32))), .val (.int (if (p0 &&& (8 : Int32)) = (0 : Int32) then (0 : Int32) else (1 : Int32))), .val (.int (if (p0 &&& (16 : Int32)) = (0 : Int32) then (0 : Int32) else (1 : Int32))), .val (.int (if (p0 &&& (32 : Int32)) = (0 : Int32) then (0 : Int32) else (1 : Int32))), .val (.int t0), .val (.int t1), .val (.int t2), .val (.ref re), .val (.ref ex), .val (.int m), .val (.ref tb), .val (.ref el), .unset] [])
                        have bd2 := own_bd_ag (D := (own_D4 p0)) (i := 61) (ear := own_e1 p0) (t := (61 : Int32)) bd1 (by decide)
                        refine WP.aload K at_389 rfl rfl (pc' := 391) rfl ?_
                        refine WP.aload K at_391 rfl rfl (pc' := 393) rfl ?_
                        refine WP.bipush K at_393 (v := (62 : Int32)) rfl (pc' := 395) rfl ?_
                        have be2 : @LE.le Nat _ el en2 := L2.2.1
                        have ne_re_en2 : re ≠ en2 := fun z_ => by have r_ : @Eq Nat re en2 := z_; omega
                        have ne_ex_en2 : ex ≠ en2 := fun z_ => by have r_ : @Eq Nat ex en2 := z_; omega
                        refine WP.callV K (a := el) (argsL := [(.ref tb), (.int (62 : Int32))]) (S := []) (w_123 hw) (w_124 hw) (fun vm0 hZ => notFace_of_selects (args := #[]) (mvT (s := κ.s.setVm vm0) hZ (w_126 hw))) (w_126 hw) (w_125 hw) (by decide) (IsL.exa L2) (rm_add w l Z a0 hw el en2 el _ _ _ _ _ _ tb tb (own_D4 p0) (62 : Int32) 62 h135 n0 Z0 L2 old_el old_en2 T_ rfl (by decide) (by decide) bd2 (by decide) (by decide)) (w_127 hw) (w_116 hw) (by decide) rfl (lenOf pd_11 rfl) rfl (W := 0) rfl (by decide) (by decide) (k' := 20) (n' := 623) rfl rfl (by decide) (by decide) at_395 (pc' := 398) rfl fun v h136 hq => ?_
                        obtain ⟨rfl, K1, en3, N3, f3, old_en3, s_3, L3⟩ := hq
                        have A_re := Ary.keep K1 A_re (ninS ne_re_el (ninS ne_re_en2 nin0))
                        have A_ex := Ary.keep K1 A_ex (ninS ne_ex_el (ninS ne_ex_en2 nin0))
                        have T_ := IsTT.keep K1 T_ (allS (Nat.le_refl _) (allS be2 all0))
                        have OLD := Old.keep OLD K1 (allS old_el (allS old_en2 all0))
                        have Z0 := Nat.le_trans Z0 K1.1
                        show WP κ h136 20 623 (mkF κ.m 398 #[.val (.int p0), .val (.int p1), .val (.int p2), .val (.int p3), .val (.int (if (p0 &&& (1 : Int32)) = (0 : Int32) then (0 : Int32) else (1 : Int32))), .val (.int (if (p0 &&& (2 : Int32)) = (0 : Int32) then (0 : Int32) else (1 : Int32))), .val (.int (if (p0 &&& (4 : Int32)) = (0 : Int32) then (0 : Int32) else (1 : Int32))), .val (.int (if (p0 &&& (8 : Int32)) = (0 : Int32) then (0 : Int32) else (1 : Int32))), .val (.int (if (p0 &&& (16 : Int32)) = (0 : Int32) then (0 : Int32) else (1 : Int32))), .val (.int (if (p0 &&& (32 : Int32)) = (0 : Int32) then (0 : Int32) else (1 : Int32))), .val (.int t0), .val (.int t1), .val (.int t2), .val (.ref re), .val (.ref ex), .val (.int m), .val (.ref tb), .val (.ref el), .unset] [])
                        have bd3 := own_bd_ag (D := (own_D4 p0)) (i := 62) (ear := own_e2 p0) (t := (62 : Int32)) bd2 (by decide)
                        refine WP.aload K at_398 rfl rfl (pc' := 400) rfl ?_
                        refine WP.aload K at_400 rfl rfl (pc' := 402) rfl ?_
                        have L3 : IsL Z h136 el el en3 N3 f3 3 (own_e3 p0) 3 (own_G3 p0) := L3
                        have bd3 : own_bd 3 (own_G3 p0) := bd3
                        have be3 : @LE.le Nat _ el en3 := L3.2.1
                        have ne_re_en3 : re ≠ en3 := fun z_ => by have r_ : @Eq Nat re en3 := z_; omega
                        have ne_ex_en3 : ex ≠ en3 := fun z_ => by have r_ : @Eq Nat ex en3 := z_; omega
                        refine WP.callV K (a := el) (argsL := [(.ref re)]) (S := []) (w_158 hw) (w_159 hw) (fun vm0 hZ => notFace_of_selects (args := #[]) (mvT (s := κ.s.setVm vm0) hZ (w_161 hw))) (w_161 hw) (w_160 hw) (by decide) (IsL.exa L3) (rm_ren w l Z a0 hw el en3 el N3 f3 3 (own_e3 p0) 3 (own_G3 p0) re kA_re (own_R t0 t1 t2) h136 n0 Z0 L3 old_el old_en3 A_re ne_re_en3 bd3) (w_162 hw) (w_116 hw) (by decide) rfl (lenOf pd_13 rfl) rfl (W := 0) rfl (by decide) (by decide) (k' := 20) (n' := 623) rfl rfl (by decide) (by decide) at_402 (pc' := 405) rfl fun v h137 hq => ?_
                        obtain ⟨rfl, K1, L3⟩ := hq
                        have A_re := Ary.keep K1 A_re (ninS ne_re_el (ninS ne_re_en3 nin0))
                        have A_ex := Ary.keep K1 A_ex (ninS ne_ex_el (ninS ne_ex_en3 nin0))
                        have T_ := IsTT.keep K1 T_ (allS (Nat.le_refl _) (allS be3 all0))
                        have OLD := Old.keep OLD K1 (allS old_el (allS old_en3 all0))
                        have Z0 := Nat.le_trans Z0 K1.1
                        show WP κ h137 20 623 (mkF κ.m 405 #[.val (.int p0), .val (.int p1), .val (.int p2), .val (.int p3), .val (.int (if (p0 &&& (1 : Int32)) = (0 : Int32) then (0 : Int32) else (1 : Int32))), .val (.int (if (p0 &&& (2 : Int32)) = (0 : Int32) then (0 : Int32) else (1 : Int32))), .val (.int (if (p0 &&& (4 : Int32)) = (0 : Int32) then (0 : Int32) else (1 : Int32))), .val (.int (if (p0 &&& (8 : Int32)) = (0 : Int32) then (0 : Int32) else (1 : Int32))), .val (.int (if (p0 &&& (16 : Int32)) = (0 : Int32) then (0 : Int32) else (1 : Int32))), .val (.int (if (p0 &&& (32 : Int32)) = (0 : Int32) then (0 : Int32) else (1 : Int32))), .val (.int t0), .val (.int t1), .val (.int t2), .val (.ref re), .val (.ref ex), .val (.int m), .val (.ref tb), .val (.ref el), .unset] [])
                        refine WP.aload K at_405 rfl rfl (pc' := 407) rfl ?_
                        refine WP.aload K at_407 rfl rfl (pc' := 409) rfl ?_
                        refine WP.bipush K at_409 (v := (63 : Int32)) rfl (pc' := 411) rfl ?_
                        have L3 : IsL Z h137 el el en3 N3 f3 (own_r p0 t0 t1 t2).1 (own_r p0 t0 t1 t2).2.2 3 (own_r p0 t0 t1 t2).2.1 := L3
                        have bd3 : own_bd (own_r p0 t0 t1 t2).1 (own_r p0 t0 t1 t2).2.1 := own_ren_bd _ _ _ (own_Rlt (own_tlt h_t0) (own_tlt h_t1) (own_tlt h_t2)) 3
                        have rle : (own_r p0 t0 t1 t2).1 ≤ 3 := (own_ren_le _ _ _ 3).1
                        have be3 : @LE.le Nat _ el en3 := L3.2.1
                        have ne_re_en3 : re ≠ en3 := fun z_ => by have r_ : @Eq Nat re en3 := z_; omega
                        have ne_ex_en3 : ex ≠ en3 := fun z_ => by have r_ : @Eq Nat ex en3 := z_; omega
                        refine WP.callV K (a := el) (argsL := [(.ref tb), (.int (63 : Int32))]) (S := []) (w_123 hw) (w_124 hw) (fun vm0 hZ => notFace_of_selects (args := #[]) (mvT (s := κ.s.setVm vm0) hZ (w_126 hw))) (w_126 hw) (w_125 hw) (by decide) (IsL.exa L3) (rm_add w l Z a0 hw el en3 el _ _ _ _ _ _ tb tb (own_D4 p0) (63 : Int32) 63 h137 n0 Z0 L3 old_el old_en3 T_ rfl (by decide) rle bd3 (by decide) rle) (w_127 hw) (w_116 hw) (by decide) rfl (lenOf pd_11 rfl) rfl (W := 0) rfl (by decide) (by decide) (k' := 21) (n' := 639) rfl rfl (by decide) (by decide) at_411 (pc' := 414) rfl fun v h138 hq => ?_
                        obtain ⟨rfl, K1, en4, N4, f4, old_en4, s_4, L4⟩ := hq
                        have A_re := Ary.keep K1 A_re (ninS ne_re_el (ninS ne_re_en3 nin0))
                        have A_ex := Ary.keep K1 A_ex (ninS ne_ex_el (ninS ne_ex_en3 nin0))
                        have T_ := IsTT.keep K1 T_ (allS (Nat.le_refl _) (allS be3 all0))
                        have OLD := Old.keep OLD K1 (allS old_el (allS old_en3 all0))
                        have Z0 := Nat.le_trans Z0 K1.1
                        show WP κ h138 21 639 (mkF κ.m 414 #[.val (.int p0), .val (.int p1), .val (.int p2), .val (.int p3), .val (.int (if (p0 &&& (1 : Int32)) = (0 : Int32) then (0 : Int32) else (1 : Int32))), .val (.int (if (p0 &&& (2 : Int32)) = (0 : Int32) then (0 : Int32) else (1 : Int32))), .val (.int (if (p0 &&& (4 : Int32)) = (0 : Int32) then (0 : Int32) else (1 : Int32))), .val (.int (if (p0 &&& (8 : Int32)) = (0 : Int32) then (0 : Int32) else (1 : Int32))), .val (.int (if (p0 &&& (16 : Int32)) = (0 : Int32) then (0 : Int32) else (1 : Int32))), .val (.int (if (p0 &&& (32 : Int32)) = (0 : Int32) then (0 : Int32) else (1 : Int32))), .val (.int t0), .val (.int t1), .val (.int t2), .val (.ref re), .val (.ref ex), .val (.int m), .val (.ref tb), .val (.ref el), .unset] [])
                        refine WP.aload K at_414 rfl rfl (pc' := 416) rfl ?_
                        obtain ⟨n5, e5, G5, L5, hlen, hval⟩ : ∃ (n5 e5 : Nat) (G5 : Nat → Int32), IsL Z h138 el el en4 N4 f4 n5 e5 4 G5 ∧ n5 = (own_S7 p0 t0 t1 t2).1 ∧ ∀ i, i < (own_S7 p0 t0 t1 t2).1 → G5 i = (own_S7 p0 t0 t1 t2).2 i := ⟨_, _, _, L4, own_law p0 t0 t1 t2 h_t0 h_t1 h_t2⟩
                        refine WP.callV K (a := el) (argsL := []) (S := []) (w_167 hw) (w_168 hw) (fun vm0 hZ => notFace_of_selects (args := #[]) (mvT (s := κ.s.setVm vm0) hZ (w_170 hw))) (w_170 hw) (w_169 hw) (by decide) (IsL.exa L5) (rm_size w l Z a0 hw el en4 el N4 f4 n5 e5 4 G5 h138 n0 Z0 L5) (w_171 hw) (w_116 hw) (by decide) rfl (lenOf pd_5 rfl) rfl (W := 0) rfl (by decide) (by decide) (k' := 21) (n' := 639) rfl rfl (by decide) (by decide) at_416 (pc' := 419) rfl fun v h139 hq => ?_
                        obtain ⟨z, hz, rfl, rfl⟩ := hq
                        show WP κ h138 21 639 (mkF κ.m 419 #[.val (.int p0), .val (.int p1), .val (.int p2), .val (.int p3), .val (.int (if (p0 &&& (1 : Int32)) = (0 : Int32) then (0 : Int32) else (1 : Int32))), .val (.int (if (p0 &&& (2 : Int32)) = (0 : Int32) then (0 : Int32) else (1 : Int32))), .val (.int (if (p0 &&& (4 : Int32)) = (0 : Int32) then (0 : Int32) else (1 : Int32))), .val (.int (if (p0 &&& (8 : Int32)) = (0 : Int32) then (0 : Int32) else (1 : Int32))), .val (.int (if (p0 &&& (16 : Int32)) = (0 : Int32) then (0 : Int32) else (1 : Int32))), .val (.int (if (p0 &&& (32 : Int32)) = (0 : Int32) then (0 : Int32) else (1 : Int32))), .val (.int t0), .val (.int t1), .val (.int t2), .val (.ref re), .val (.ref ex), .val (.int m), .val (.ref tb), .val (.ref el), .unset] [(.int z)])
                        refine WP.iload K at_419 rfl (pc' := 421) rfl ?_
                        have hzm : z = m := (own_eq hz hm).mpr hlen
                        refine WP.icmpT K at_421 (teq hzm).1 (by decide) (pc' := 426) (by decide) ?_
                        refine WP.iconst K at_426 (v := (1 : Int32)) rfl (pc' := 427) rfl ?_
                        refine WP.istore K at_427 (L' := #[.val (.int p0), .val (.int p1), .val (.int p2), .val (.int p3), .val (.int (if (p0 &&& (1 : Int32)) = (0 : Int32) then (0 : Int32) else (1 : Int32))), .val (.int (if (p0 &&& (2 : Int32)) = (0 : Int32) then (0 : Int32) else (1 : Int32))), .val (.int (if (p0 &&& (4 : Int32)) = (0 : Int32) then (0 : Int32) else (1 : Int32))), .val (.int (if (p0 &&& (8 : Int32)) = (0 : Int32) then (0 : Int32) else (1 : Int32))), .val (.int (if (p0 &&& (16 : Int32)) = (0 : Int32) then (0 : Int32) else (1 : Int32))), .val (.int (if (p0 &&& (32 : Int32)) = (0 : Int32) then (0 : Int32) else (1 : Int32))), .val (.int t0), .val (.int t1), .val (.int t2), .val (.ref re), .val (.ref ex), .val (.int m), .val (.ref tb), .val (.ref el), .val (.int (1 : Int32))]) rfl (pc' := 429) rfl ?_
                        refine WP.iload K at_429 rfl (pc' := 431) rfl ?_
                        have c0 : (0 : Int32) < m := (own_lt (a := 0) rfl hm).mpr (by omega)
                        have k0 : 0 < (own_S7 p0 t0 t1 t2).1 := by omega
                        refine WP.if0F K at_431 ((if0 _ _).trans (tlt c0).2.2.2) (pc' := 434) rfl ?_
                        refine WP.aload K at_434 rfl rfl (pc' := 436) rfl ?_
                        refine WP.iconst K at_436 (v := (0 : Int32)) rfl (pc' := 437) rfl ?_
                        refine WP.callV K (a := el) (argsL := [(.int (0 : Int32))]) (S := []) (w_172 hw) (w_154 hw) (fun vm0 hZ => notFace_of_selects (args := #[]) (mvT (s := κ.s.setVm vm0) hZ (w_156 hw))) (w_156 hw) (w_155 hw) (by decide) (IsL.exa L5) (rm_triple w l Z a0 hw el en4 el N4 f4 n5 e5 4 G5 (0 : Int32) 0 h138 n0 Z0 L5 rfl (by omega)) (w_157 hw) (w_116 hw) (by decide) rfl (lenOf pd_9 rfl) rfl (W := 0) rfl (by decide) (by decide) (k' := 21) (n' := 639) rfl rfl (by decide) (by decide) at_437 (pc' := 440) rfl fun v h140 hq => ?_
                        obtain ⟨rfl, rfl⟩ := hq
                        show WP κ h138 21 639 (mkF κ.m 440 #[.val (.int p0), .val (.int p1), .val (.int p2), .val (.int p3), .val (.int (if (p0 &&& (1 : Int32)) = (0 : Int32) then (0 : Int32) else (1 : Int32))), .val (.int (if (p0 &&& (2 : Int32)) = (0 : Int32) then (0 : Int32) else (1 : Int32))), .val (.int (if (p0 &&& (4 : Int32)) = (0 : Int32) then (0 : Int32) else (1 : Int32))), .val (.int (if (p0 &&& (8 : Int32)) = (0 : Int32) then (0 : Int32) else (1 : Int32))), .val (.int (if (p0 &&& (16 : Int32)) = (0 : Int32) then (0 : Int32) else (1 : Int32))), .val (.int (if (p0 &&& (32 : Int32)) = (0 : Int32) then (0 : Int32) else (1 : Int32))), .val (.int t0), .val (.int t1), .val (.int t2), .val (.ref re), .val (.ref ex), .val (.int m), .val (.ref tb), .val (.ref el), .val (.int (1 : Int32))] [(.int (G5 0))])
                        refine WP.aload K at_440 rfl rfl (pc' := 442) rfl ?_
                        refine WP.iconst K at_442 (v := (0 : Int32)) rfl (pc' := 443) rfl ?_
                        refine WP.iaload K (i := 0) A_ex rfl (by decide) (v := (.int ((own_S7 p0 t0 t1 t2).2 0))) rfl at_443 (pc' := 444) rfl ?_
                        have v0 : (G5 0) = ((own_S7 p0 t0 t1 t2).2 0) := hval 0 k0
                        refine WP.icmpT K at_444 (teq v0).1 (by decide) (pc' := 450) (by decide) ?_
                        refine WP.iload K at_450 rfl (pc' := 452) rfl ?_
                        refine WP.iconst K at_452 (v := (1 : Int32)) rfl (pc' := 453) rfl ?_
                        by_cases c1 : (1 : Int32) < m
                        · have k1 := (own_lt (a := 1) rfl hm).mp c1
                          refine WP.icmpF K at_453 (tlt c1).2.2.2 (pc' := 456) rfl ?_
                          refine WP.aload K at_456 rfl rfl (pc' := 458) rfl ?_
                          refine WP.iconst K at_458 (v := (1 : Int32)) rfl (pc' := 459) rfl ?_
                          refine WP.callV K (a := el) (argsL := [(.int (1 : Int32))]) (S := []) (w_172 hw) (w_154 hw) (fun vm0 hZ => notFace_of_selects (args := #[]) (mvT (s := κ.s.setVm vm0) hZ (w_156 hw))) (w_156 hw) (w_155 hw) (by decide) (IsL.exa L5) (rm_triple w l Z a0 hw el en4 el N4 f4 n5 e5 4 G5 (1 : Int32) 1 h138 n0 Z0 L5 rfl (by omega)) (w_157 hw) (w_116 hw) (by decide) rfl (lenOf pd_9 rfl) rfl (W := 0) rfl (by decide) (by decide) (k' := 21) (n' := 639) rfl rfl (by decide) (by decide) at_459 (pc' := 462) rfl fun v h141 hq => ?_
                          obtain ⟨rfl, rfl⟩ := hq
                          show WP κ h138 21 639 (mkF κ.m 462 #[.val (.int p0), .val (.int p1), .val (.int p2), .val (.int p3), .val (.int (if (p0 &&& (1 : Int32)) = (0 : Int32) then (0 : Int32) else (1 : Int32))), .val (.int (if (p0 &&& (2 : Int32)) = (0 : Int32) then (0 : Int32) else (1 : Int32))), .val (.int (if (p0 &&& (4 : Int32)) = (0 : Int32) then (0 : Int32) else (1 : Int32))), .val (.int (if (p0 &&& (8 : Int32)) = (0 : Int32) then (0 : Int32) else (1 : Int32))), .val (.int (if (p0 &&& (16 : Int32)) = (0 : Int32) then (0 : Int32) else (1 : Int32))), .val (.int (if (p0 &&& (32 : Int32)) = (0 : Int32) then (0 : Int32) else (1 : Int32))), .val (.int t0), .val (.int t1), .val (.int t2), .val (.ref re), .val (.ref ex), .val (.int m), .val (.ref tb), .val (.ref el), .val (.int (1 : Int32))] [(.int (G5 1))])
                          refine WP.aload K at_462 rfl rfl (pc' := 464) rfl ?_
                          refine WP.iconst K at_464 (v := (1 : Int32)) rfl (pc' := 465) rfl ?_
                          refine WP.iaload K (i := 1) A_ex rfl (by decide) (v := (.int ((own_S7 p0 t0 t1 t2).2 1))) rfl at_465 (pc' := 466) rfl ?_
                          have v1 : (G5 1) = ((own_S7 p0 t0 t1 t2).2 1) := hval 1 k1
                          refine WP.icmpT K at_466 (teq v1).1 (by decide) (pc' := 472) (by decide) ?_
                          refine WP.iload K at_472 rfl (pc' := 474) rfl ?_
                          refine WP.iconst K at_474 (v := (2 : Int32)) rfl (pc' := 475) rfl ?_
                          by_cases c2 : (2 : Int32) < m
                          · have k2 := (own_lt (a := 2) rfl hm).mp c2
                            refine WP.icmpF K at_475 (tlt c2).2.2.2 (pc' := 478) rfl ?_
                            refine WP.aload K at_478 rfl rfl (pc' := 480) rfl ?_
                            refine WP.iconst K at_480 (v := (2 : Int32)) rfl (pc' := 481) rfl ?_
                            refine WP.callV K (a := el) (argsL := [(.int (2 : Int32))]) (S := []) (w_172 hw) (w_154 hw) (fun vm0 hZ => notFace_of_selects (args := #[]) (mvT (s := κ.s.setVm vm0) hZ (w_156 hw))) (w_156 hw) (w_155 hw) (by decide) (IsL.exa L5) (rm_triple w l Z a0 hw el en4 el N4 f4 n5 e5 4 G5 (2 : Int32) 2 h138 n0 Z0 L5 rfl (by omega)) (w_157 hw) (w_116 hw) (by decide) rfl (lenOf pd_9 rfl) rfl (W := 0) rfl (by decide) (by decide) (k' := 21) (n' := 639) rfl rfl (by decide) (by decide) at_481 (pc' := 484) rfl fun v h142 hq => ?_
                            obtain ⟨rfl, rfl⟩ := hq
                            show WP κ h138 21 639 (mkF κ.m 484 #[.val (.int p0), .val (.int p1), .val (.int p2), .val (.int p3), .val (.int (if (p0 &&& (1 : Int32)) = (0 : Int32) then (0 : Int32) else (1 : Int32))), .val (.int (if (p0 &&& (2 : Int32)) = (0 : Int32) then (0 : Int32) else (1 : Int32))), .val (.int (if (p0 &&& (4 : Int32)) = (0 : Int32) then (0 : Int32) else (1 : Int32))), .val (.int (if (p0 &&& (8 : Int32)) = (0 : Int32) then (0 : Int32) else (1 : Int32))), .val (.int (if (p0 &&& (16 : Int32)) = (0 : Int32) then (0 : Int32) else (1 : Int32))), .val (.int (if (p0 &&& (32 : Int32)) = (0 : Int32) then (0 : Int32) else (1 : Int32))), .val (.int t0), .val (.int t1), .val (.int t2), .val (.ref re), .val (.ref ex), .val (.int m), .val (.ref tb), .val (.ref el), .val (.int (1 : Int32))] [(.int (G5 2))])
                            refine WP.aload K at_484 rfl rfl (pc' := 486) rfl ?_
                            refine WP.iconst K at_486 (v := (2 : Int32)) rfl (pc' := 487) rfl ?_
                            refine WP.iaload K (i := 2) A_ex rfl (by decide) (v := (.int ((own_S7 p0 t0 t1 t2).2 2))) rfl at_487 (pc' := 488) rfl ?_
                            have v2 : (G5 2) = ((own_S7 p0 t0 t1 t2).2 2) := hval 2 k2
                            refine WP.icmpT K at_488 (teq v2).1 (by decide) (pc' := 494) (by decide) ?_
                            refine WP.iload K at_494 rfl (pc' := 496) rfl ?_
                            refine WP.iconst K at_496 (v := (3 : Int32)) rfl (pc' := 497) rfl ?_
                            by_cases c3 : (3 : Int32) < m
                            · have k3 := (own_lt (a := 3) rfl hm).mp c3
                              refine WP.icmpF K at_497 (tlt c3).2.2.2 (pc' := 500) rfl ?_
                              refine WP.aload K at_500 rfl rfl (pc' := 502) rfl ?_
                              refine WP.iconst K at_502 (v := (3 : Int32)) rfl (pc' := 503) rfl ?_
                              refine WP.callV K (a := el) (argsL := [(.int (3 : Int32))]) (S := []) (w_172 hw) (w_154 hw) (fun vm0 hZ => notFace_of_selects (args := #[]) (mvT (s := κ.s.setVm vm0) hZ (w_156 hw))) (w_156 hw) (w_155 hw) (by decide) (IsL.exa L5) (rm_triple w l Z a0 hw el en4 el N4 f4 n5 e5 4 G5 (3 : Int32) 3 h138 n0 Z0 L5 rfl (by omega)) (w_157 hw) (w_116 hw) (by decide) rfl (lenOf pd_9 rfl) rfl (W := 0) rfl (by decide) (by decide) (k' := 21) (n' := 639) rfl rfl (by decide) (by decide) at_503 (pc' := 506) rfl fun v h143 hq => ?_
                              obtain ⟨rfl, rfl⟩ := hq
                              show WP κ h138 21 639 (mkF κ.m 506 #[.val (.int p0), .val (.int p1), .val (.int p2), .val (.int p3), .val (.int (if (p0 &&& (1 : Int32)) = (0 : Int32) then (0 : Int32) else (1 : Int32))), .val (.int (if (p0 &&& (2 : Int32)) = (0 : Int32) then (0 : Int32) else (1 : Int32))), .val (.int (if (p0 &&& (4 : Int32)) = (0 : Int32) then (0 : Int32) else (1 : Int32))), .val (.int (if (p0 &&& (8 : Int32)) = (0 : Int32) then (0 : Int32) else (1 : Int32))), .val (.int (if (p0 &&& (16 : Int32)) = (0 : Int32) then (0 : Int32) else (1 : Int32))), .val (.int (if (p0 &&& (32 : Int32)) = (0 : Int32) then (0 : Int32) else (1 : Int32))), .val (.int t0), .val (.int t1), .val (.int t2), .val (.ref re), .val (.ref ex), .val (.int m), .val (.ref tb), .val (.ref el), .val (.int (1 : Int32))] [(.int (G5 3))])
                              refine WP.aload K at_506 rfl rfl (pc' := 508) rfl ?_
                              refine WP.iconst K at_508 (v := (3 : Int32)) rfl (pc' := 509) rfl ?_
                              refine WP.iaload K (i := 3) A_ex rfl (by decide) (v := (.int ((own_S7 p0 t0 t1 t2).2 3))) rfl at_509 (pc' := 510) rfl ?_
                              have v3 : (G5 3) = ((own_S7 p0 t0 t1 t2).2 3) := hval 3 k3
                              refine WP.icmpT K at_510 (teq v3).1 (by decide) (pc' := 516) (by decide) ?_
                              refine WP.iload K at_516 rfl (pc' := 518) rfl ?_
                              exact WP.retN K (ty := .boolean) (by decide) at_518 (by decide) (by decide) rfl
                            · refine WP.icmpT K at_497 (flt c3).2.2.2 (by decide) (pc' := 516) (by decide) ?_
                              refine WP.iload K at_516 rfl (pc' := 518) rfl ?_
                              exact WP.retN K (ty := .boolean) (by decide) at_518 (by decide) (by decide) rfl
                          · refine WP.icmpT K at_475 (flt c2).2.2.2 (by decide) (pc' := 494) (by decide) ?_
                            refine WP.iload K at_494 rfl (pc' := 496) rfl ?_
                            refine WP.iconst K at_496 (v := (3 : Int32)) rfl (pc' := 497) rfl ?_
                            have c3 : ¬ ((3 : Int32) < m) := fun q => c2 ((own_lt (a := 2) rfl hm).mpr (by have := (own_lt (a := 3) rfl hm).mp q; omega))
                            refine WP.icmpT K at_497 (flt c3).2.2.2 (by decide) (pc' := 516) (by decide) ?_
                            refine WP.iload K at_516 rfl (pc' := 518) rfl ?_
                            exact WP.retN K (ty := .boolean) (by decide) at_518 (by decide) (by decide) rfl
                        · refine WP.icmpT K at_453 (flt c1).2.2.2 (by decide) (pc' := 472) (by decide) ?_
                          refine WP.iload K at_472 rfl (pc' := 474) rfl ?_
                          refine WP.iconst K at_474 (v := (2 : Int32)) rfl (pc' := 475) rfl ?_
                          have c2 : ¬ ((2 : Int32) < m) := fun q => c1 ((own_lt (a := 1) rfl hm).mpr (by have := (own_lt (a := 2) rfl hm).mp q; omega))
                          refine WP.icmpT K at_475 (flt c2).2.2.2 (by decide) (pc' := 494) (by decide) ?_
                          refine WP.iload K at_494 rfl (pc' := 496) rfl ?_
                          refine WP.iconst K at_496 (v := (3 : Int32)) rfl (pc' := 497) rfl ?_
                          have c3 : ¬ ((3 : Int32) < m) := fun q => c1 ((own_lt (a := 1) rfl hm).mpr (by have := (own_lt (a := 3) rfl hm).mp q; omega))
                          refine WP.icmpT K at_497 (flt c3).2.2.2 (by decide) (pc' := 516) (by decide) ?_
                          refine WP.iload K at_516 rfl (pc' := 518) rfl ?_
                          exact WP.retN K (ty := .boolean) (by decide) at_518 (by decide) (by decide) rfl
                      have C339 : ∀ h : Heap, IsTT Z h tb h.size tb (own_D2 p0) → Ary Z h ex kA_ex .int 4 (fun j => .int ((own_S7 p0 t0 t1 t2).2 j)) → Ary Z h re kA_re .int 64 (fun j => .int (own_R t0 t1 t2 j)) → Old Z n0 h → n0 ≤ h.size → WP κ h 13 434 (mkF κ.m 339 #[.val (.int p0), .val (.int p1), .val (.int p2), .val (.int p3), .val (.int (if (p0 &&& (1 : Int32)) = (0 : Int32) then (0 : Int32) else (1 : Int32))), .val (.int (if (p0 &&& (2 : Int32)) = (0 : Int32) then (0 : Int32) else (1 : Int32))), .val (.int (if (p0 &&& (4 : Int32)) = (0 : Int32) then (0 : Int32) else (1 : Int32))), .val (.int (if (p0 &&& (8 : Int32)) = (0 : Int32) then (0 : Int32) else (1 : Int32))), .val (.int (if (p0 &&& (16 : Int32)) = (0 : Int32) then (0 : Int32) else (1 : Int32))), .val (.int (if (p0 &&& (32 : Int32)) = (0 : Int32) then (0 : Int32) else (1 : Int32))), .val (.int t0), .val (.int t1), .val (.int t2), .val (.ref re), .val (.ref ex), .val (.int m), .val (.ref tb), .unset, .unset] []) := by
                        intro h T_ A_ex A_re OLD Z0
                        refine WP.iload K at_339 rfl (pc' := 341) rfl ?_
                        by_cases c1 : (p0 &&& (4 : Int32)) = (0 : Int32)
                        · refine WP.if0T K at_341 (by rw [if_pos c1]; decide) (by decide) (pc' := 354) (by decide) ?_
                          have eD : (own_D3 p0) = (own_D2 p0) := if_neg (fun q => q c1)
                          exact WP.more (C354 h (by rw [eD]; exact T_) A_ex A_re OLD Z0) (by decide) (by decide)
                        · refine WP.if0F K at_341 (by rw [if_neg c1]; decide) (pc' := 344) rfl ?_
                          refine WP.aload K at_344 rfl rfl (pc' := 346) rfl ?_
                          refine WP.bipush K at_346 (v := (62 : Int32)) rfl (pc' := 348) rfl ?_
                          refine WP.ldc2J K (w_173 hw) at_348 (pc' := 351) rfl ?_
                          have eD : (own_D3 p0) = fset (own_D2 p0) 62 (-9223372036854775807 : Int64) := if_pos c1
                          have hF : (own_D2 p0) 62 = (9223372036854775807 : Int64) := (own_se_ne (by decide)).trans (own_se_ne (by decide))
                          refine WP.callV K (a := tb) (argsL := [(.int (62 : Int32)), (.long (-9223372036854775807 : Int64))]) (S := []) (w_80 hw) (w_81 hw) (fun vm0 hZ => notFace_of_selects (args := #[]) (mvT (s := κ.s.setVm vm0) hZ (w_83 hw))) (w_83 hw) (w_82 hw) (by decide) (IsTT.exa T_) (rm_set w l Z a0 hw tb tb h.size (own_D2 p0) (62 : Int32) 62 (-9223372036854775807 : Int64) h n0 Z0 T_ rfl (by decide) hF (by decide) old_tb) (w_84 hw) (w_4 hw) (by decide) rfl (lenOf pd_7 rfl) rfl (W := 0) rfl (by decide) (by decide) (k' := 14) (n' := 498) rfl rfl (by decide) (by decide) at_351 (pc' := 354) rfl fun v h144 hq => ?_
                          obtain ⟨rfl, T_, ws, K1, hws⟩ := hq
                          show WP κ h144 14 498 (mkF κ.m 354 #[.val (.int p0), .val (.int p1), .val (.int p2), .val (.int p3), .val (.int (if (p0 &&& (1 : Int32)) = (0 : Int32) then (0 : Int32) else (1 : Int32))), .val (.int (if (p0 &&& (2 : Int32)) = (0 : Int32) then (0 : Int32) else (1 : Int32))), .val (.int (if (p0 &&& (4 : Int32)) = (0 : Int32) then (0 : Int32) else (1 : Int32))), .val (.int (if (p0 &&& (8 : Int32)) = (0 : Int32) then (0 : Int32) else (1 : Int32))), .val (.int (if (p0 &&& (16 : Int32)) = (0 : Int32) then (0 : Int32) else (1 : Int32))), .val (.int (if (p0 &&& (32 : Int32)) = (0 : Int32) then (0 : Int32) else (1 : Int32))), .val (.int t0), .val (.int t1), .val (.int t2), .val (.ref re), .val (.ref ex), .val (.int m), .val (.ref tb), .unset, .unset] [])
                          have A_re := Ary.keep K1 A_re (fun q => absurd (hws _ q) (Nat.not_le_of_lt lt_re))
                          have A_ex := Ary.keep K1 A_ex (fun q => absurd (hws _ q) (Nat.not_le_of_lt lt_ex))
                          have OLD := Old.keep OLD K1 (fun y hy => Nat.le_trans old_tb (hws y hy))
                          have Z0 := Nat.le_trans Z0 K1.1
                          exact C354 _ (by rw [eD]; exact T_) A_ex A_re OLD Z0
                      have C324 : ∀ h : Heap, IsTT Z h tb h.size tb (own_D1 p0) → Ary Z h ex kA_ex .int 4 (fun j => .int ((own_S7 p0 t0 t1 t2).2 j)) → Ary Z h re kA_re .int 64 (fun j => .int (own_R t0 t1 t2 j)) → Old Z n0 h → n0 ≤ h.size → WP κ h 12 370 (mkF κ.m 324 #[.val (.int p0), .val (.int p1), .val (.int p2), .val (.int p3), .val (.int (if (p0 &&& (1 : Int32)) = (0 : Int32) then (0 : Int32) else (1 : Int32))), .val (.int (if (p0 &&& (2 : Int32)) = (0 : Int32) then (0 : Int32) else (1 : Int32))), .val (.int (if (p0 &&& (4 : Int32)) = (0 : Int32) then (0 : Int32) else (1 : Int32))), .val (.int (if (p0 &&& (8 : Int32)) = (0 : Int32) then (0 : Int32) else (1 : Int32))), .val (.int (if (p0 &&& (16 : Int32)) = (0 : Int32) then (0 : Int32) else (1 : Int32))), .val (.int (if (p0 &&& (32 : Int32)) = (0 : Int32) then (0 : Int32) else (1 : Int32))), .val (.int t0), .val (.int t1), .val (.int t2), .val (.ref re), .val (.ref ex), .val (.int m), .val (.ref tb), .unset, .unset] []) := by
                        intro h T_ A_ex A_re OLD Z0
                        refine WP.iload K at_324 rfl (pc' := 326) rfl ?_
                        by_cases c1 : (p0 &&& (2 : Int32)) = (0 : Int32)
                        · refine WP.if0T K at_326 (by rw [if_pos c1]; decide) (by decide) (pc' := 339) (by decide) ?_
                          have eD : (own_D2 p0) = (own_D1 p0) := if_neg (fun q => q c1)
                          exact WP.more (C339 h (by rw [eD]; exact T_) A_ex A_re OLD Z0) (by decide) (by decide)
                        · refine WP.if0F K at_326 (by rw [if_neg c1]; decide) (pc' := 329) rfl ?_
                          refine WP.aload K at_329 rfl rfl (pc' := 331) rfl ?_
                          refine WP.bipush K at_331 (v := (61 : Int32)) rfl (pc' := 333) rfl ?_
                          refine WP.ldc2J K (w_173 hw) at_333 (pc' := 336) rfl ?_
                          have eD : (own_D2 p0) = fset (own_D1 p0) 61 (-9223372036854775807 : Int64) := if_pos c1
                          have hF : (own_D1 p0) 61 = (9223372036854775807 : Int64) := own_se_ne (by decide)
                          refine WP.callV K (a := tb) (argsL := [(.int (61 : Int32)), (.long (-9223372036854775807 : Int64))]) (S := []) (w_80 hw) (w_81 hw) (fun vm0 hZ => notFace_of_selects (args := #[]) (mvT (s := κ.s.setVm vm0) hZ (w_83 hw))) (w_83 hw) (w_82 hw) (by decide) (IsTT.exa T_) (rm_set w l Z a0 hw tb tb h.size (own_D1 p0) (61 : Int32) 61 (-9223372036854775807 : Int64) h n0 Z0 T_ rfl (by decide) hF (by decide) old_tb) (w_84 hw) (w_4 hw) (by decide) rfl (lenOf pd_7 rfl) rfl (W := 0) rfl (by decide) (by decide) (k' := 13) (n' := 434) rfl rfl (by decide) (by decide) at_336 (pc' := 339) rfl fun v h145 hq => ?_
                          obtain ⟨rfl, T_, ws, K1, hws⟩ := hq
                          show WP κ h145 13 434 (mkF κ.m 339 #[.val (.int p0), .val (.int p1), .val (.int p2), .val (.int p3), .val (.int (if (p0 &&& (1 : Int32)) = (0 : Int32) then (0 : Int32) else (1 : Int32))), .val (.int (if (p0 &&& (2 : Int32)) = (0 : Int32) then (0 : Int32) else (1 : Int32))), .val (.int (if (p0 &&& (4 : Int32)) = (0 : Int32) then (0 : Int32) else (1 : Int32))), .val (.int (if (p0 &&& (8 : Int32)) = (0 : Int32) then (0 : Int32) else (1 : Int32))), .val (.int (if (p0 &&& (16 : Int32)) = (0 : Int32) then (0 : Int32) else (1 : Int32))), .val (.int (if (p0 &&& (32 : Int32)) = (0 : Int32) then (0 : Int32) else (1 : Int32))), .val (.int t0), .val (.int t1), .val (.int t2), .val (.ref re), .val (.ref ex), .val (.int m), .val (.ref tb), .unset, .unset] [])
                          have A_re := Ary.keep K1 A_re (fun q => absurd (hws _ q) (Nat.not_le_of_lt lt_re))
                          have A_ex := Ary.keep K1 A_ex (fun q => absurd (hws _ q) (Nat.not_le_of_lt lt_ex))
                          have OLD := Old.keep OLD K1 (fun y hy => Nat.le_trans old_tb (hws y hy))
                          have Z0 := Nat.le_trans Z0 K1.1
                          exact C339 _ (by rw [eD]; exact T_) A_ex A_re OLD Z0
                      have C309 : ∀ h : Heap, IsTT Z h tb h.size tb own_D0 → Ary Z h ex kA_ex .int 4 (fun j => .int ((own_S7 p0 t0 t1 t2).2 j)) → Ary Z h re kA_re .int 64 (fun j => .int (own_R t0 t1 t2 j)) → Old Z n0 h → n0 ≤ h.size → WP κ h 11 306 (mkF κ.m 309 #[.val (.int p0), .val (.int p1), .val (.int p2), .val (.int p3), .val (.int (if (p0 &&& (1 : Int32)) = (0 : Int32) then (0 : Int32) else (1 : Int32))), .val (.int (if (p0 &&& (2 : Int32)) = (0 : Int32) then (0 : Int32) else (1 : Int32))), .val (.int (if (p0 &&& (4 : Int32)) = (0 : Int32) then (0 : Int32) else (1 : Int32))), .val (.int (if (p0 &&& (8 : Int32)) = (0 : Int32) then (0 : Int32) else (1 : Int32))), .val (.int (if (p0 &&& (16 : Int32)) = (0 : Int32) then (0 : Int32) else (1 : Int32))), .val (.int (if (p0 &&& (32 : Int32)) = (0 : Int32) then (0 : Int32) else (1 : Int32))), .val (.int t0), .val (.int t1), .val (.int t2), .val (.ref re), .val (.ref ex), .val (.int m), .val (.ref tb), .unset, .unset] []) := by
                        intro h T_ A_ex A_re OLD Z0
                        refine WP.iload K at_309 rfl (pc' := 311) rfl ?_
                        by_cases c1 : (p0 &&& (1 : Int32)) = (0 : Int32)
                        · refine WP.if0T K at_311 (by rw [if_pos c1]; decide) (by decide) (pc' := 324) (by decide) ?_
                          have eD : (own_D1 p0) = own_D0 := if_neg (fun q => q c1)
                          exact WP.more (C324 h (by rw [eD]; exact T_) A_ex A_re OLD Z0) (by decide) (by decide)
                        · refine WP.if0F K at_311 (by rw [if_neg c1]; decide) (pc' := 314) rfl ?_
                          refine WP.aload K at_314 rfl rfl (pc' := 316) rfl ?_
                          refine WP.bipush K at_316 (v := (60 : Int32)) rfl (pc' := 318) rfl ?_
                          refine WP.ldc2J K (w_173 hw) at_318 (pc' := 321) rfl ?_
                          have eD : (own_D1 p0) = fset own_D0 60 (-9223372036854775807 : Int64) := if_pos c1
                          have hF : own_D0 60 = (9223372036854775807 : Int64) := rfl
                          refine WP.callV K (a := tb) (argsL := [(.int (60 : Int32)), (.long (-9223372036854775807 : Int64))]) (S := []) (w_80 hw) (w_81 hw) (fun vm0 hZ => notFace_of_selects (args := #[]) (mvT (s := κ.s.setVm vm0) hZ (w_83 hw))) (w_83 hw) (w_82 hw) (by decide) (IsTT.exa T_) (rm_set w l Z a0 hw tb tb h.size own_D0 (60 : Int32) 60 (-9223372036854775807 : Int64) h n0 Z0 T_ rfl (by decide) hF (by decide) old_tb) (w_84 hw) (w_4 hw) (by decide) rfl (lenOf pd_7 rfl) rfl (W := 0) rfl (by decide) (by decide) (k' := 12) (n' := 370) rfl rfl (by decide) (by decide) at_321 (pc' := 324) rfl fun v h146 hq => ?_
                          obtain ⟨rfl, T_, ws, K1, hws⟩ := hq
                          show WP κ h146 12 370 (mkF κ.m 324 #[.val (.int p0), .val (.int p1), .val (.int p2), .val (.int p3), .val (.int (if (p0 &&& (1 : Int32)) = (0 : Int32) then (0 : Int32) else (1 : Int32))), .val (.int (if (p0 &&& (2 : Int32)) = (0 : Int32) then (0 : Int32) else (1 : Int32))), .val (.int (if (p0 &&& (4 : Int32)) = (0 : Int32) then (0 : Int32) else (1 : Int32))), .val (.int (if (p0 &&& (8 : Int32)) = (0 : Int32) then (0 : Int32) else (1 : Int32))), .val (.int (if (p0 &&& (16 : Int32)) = (0 : Int32) then (0 : Int32) else (1 : Int32))), .val (.int (if (p0 &&& (32 : Int32)) = (0 : Int32) then (0 : Int32) else (1 : Int32))), .val (.int t0), .val (.int t1), .val (.int t2), .val (.ref re), .val (.ref ex), .val (.int m), .val (.ref tb), .unset, .unset] [])
                          have A_re := Ary.keep K1 A_re (fun q => absurd (hws _ q) (Nat.not_le_of_lt lt_re))
                          have A_ex := Ary.keep K1 A_ex (fun q => absurd (hws _ q) (Nat.not_le_of_lt lt_ex))
                          have OLD := Old.keep OLD K1 (fun y hy => Nat.le_trans old_tb (hws y hy))
                          have Z0 := Nat.le_trans Z0 K1.1
                          exact C324 _ (by rw [eD]; exact T_) A_ex A_re OLD Z0
                      exact C309 _ T_ A_ex A_re OLD Z0
                    have C280 : ∀ (m : Int32) (h : Heap), m.toInt = ((own_S6 p0 t0 t1 t2).1 : Int) → Ary Z h ex kA_ex .int 4 (fun j => .int ((own_S6 p0 t0 t1 t2).2 j)) → Ary Z h re kA_re .int 64 (fun j => .int (own_R t0 t1 t2 j)) → Old Z n0 h → n0 ≤ h.size → WP κ h 2 68 (mkF κ.m 280 #[.val (.int p0), .val (.int p1), .val (.int p2), .val (.int p3), .val (.int (if (p0 &&& (1 : Int32)) = (0 : Int32) then (0 : Int32) else (1 : Int32))), .val (.int (if (p0 &&& (2 : Int32)) = (0 : Int32) then (0 : Int32) else (1 : Int32))), .val (.int (if (p0 &&& (4 : Int32)) = (0 : Int32) then (0 : Int32) else (1 : Int32))), .val (.int (if (p0 &&& (8 : Int32)) = (0 : Int32) then (0 : Int32) else (1 : Int32))), .val (.int (if (p0 &&& (16 : Int32)) = (0 : Int32) then (0 : Int32) else (1 : Int32))), .val (.int (if (p0 &&& (32 : Int32)) = (0 : Int32) then (0 : Int32) else (1 : Int32))), .val (.int t0), .val (.int t1), .val (.int t2), .val (.ref re), .val (.ref ex), .val (.int m), .unset, .unset, .unset] []) := by
                      intro m h hm A_ex A_re OLD Z0
                      refine WP.iload K at_280 rfl (pc' := 282) rfl ?_
                      by_cases c1 : (p0 &&& (4 : Int32)) = (0 : Int32)
                      · refine WP.if0F K at_282 (by rw [if_pos c1]; decide) (pc' := 285) rfl ?_
                        refine WP.iload K at_285 rfl (pc' := 287) rfl ?_
                        by_cases c2 : (p0 &&& (32 : Int32)) = (0 : Int32)
                        · refine WP.if0F K at_287 (by rw [if_pos c2]; decide) (pc' := 290) rfl ?_
                          have eS : (own_S7 p0 t0 t1 t2) = ((own_S6 p0 t0 t1 t2).1 + 1, fset (own_S6 p0 t0 t1 t2).2 (own_S6 p0 t0 t1 t2).1 t2) := (if_pos (e := (own_S6 p0 t0 t1 t2)) ⟨c1, c2⟩)
                          have e1 : (own_S7 p0 t0 t1 t2).1 = (own_S6 p0 t0 t1 t2).1 + 1 := by rw [eS]
                          refine WP.aload K at_290 rfl rfl (pc' := 292) rfl ?_
                          refine WP.iload K at_292 rfl (pc' := 294) rfl ?_
                          refine WP.iload K at_294 rfl (pc' := 296) rfl ?_
                          refine WP.iastore K (i := (own_S6 p0 t0 t1 t2).1) A_ex hm (by omega) old_ex at_296 (pc' := 297) rfl fun h147 W147 A_n => ?_
                          have A_re := Ary.other W147 A_re ne_re_ex
                          have OLD := Old.wr OLD W147 old_ex
                          have Z0 := Nat.le_trans Z0 (Nat.le_of_eq W147.size.symm)
                          have A_ex := A_n
                          rw [upd_int] at A_ex
                          refine WP.iinc K at_297 (v := (1 : Int32)) rfl rfl (L' := #[.val (.int p0), .val (.int p1), .val (.int p2), .val (.int p3), .val (.int (if (p0 &&& (1 : Int32)) = (0 : Int32) then (0 : Int32) else (1 : Int32))), .val (.int (if (p0 &&& (2 : Int32)) = (0 : Int32) then (0 : Int32) else (1 : Int32))), .val (.int (if (p0 &&& (4 : Int32)) = (0 : Int32) then (0 : Int32) else (1 : Int32))), .val (.int (if (p0 &&& (8 : Int32)) = (0 : Int32) then (0 : Int32) else (1 : Int32))), .val (.int (if (p0 &&& (16 : Int32)) = (0 : Int32) then (0 : Int32) else (1 : Int32))), .val (.int (if (p0 &&& (32 : Int32)) = (0 : Int32) then (0 : Int32) else (1 : Int32))), .val (.int t0), .val (.int t1), .val (.int t2), .val (.ref re), .val (.ref ex), .val (.int (m + (1 : Int32))), .unset, .unset, .unset]) rfl (pc' := 300) rfl ?_
                          exact C300 _ _ (by rw [eS]; exact own_a1 hm (by omega)) (by rw [eS]; exact A_ex) A_re OLD Z0
                        · refine WP.if0T K at_287 (by rw [if_neg c2]; decide) (by decide) (pc' := 300) (by decide) ?_
                          have eS : (own_S7 p0 t0 t1 t2) = (own_S6 p0 t0 t1 t2) := if_neg (fun q => c2 q.2)
                          exact C300 _ _ (by rw [eS]; exact hm) (by rw [eS]; exact A_ex) A_re OLD Z0
                      · refine WP.if0T K at_282 (by rw [if_neg c1]; decide) (by decide) (pc' := 300) (by decide) ?_
                        have eS : (own_S7 p0 t0 t1 t2) = (own_S6 p0 t0 t1 t2) := if_neg (fun q => c1 q.1)
                        exact C300 _ _ (by rw [eS]; exact hm) (by rw [eS]; exact A_ex) A_re OLD Z0
                    have C260 : ∀ (m : Int32) (h : Heap), m.toInt = ((own_S5 p0 t0 t1 t2).1 : Int) → Ary Z h ex kA_ex .int 4 (fun j => .int ((own_S5 p0 t0 t1 t2).2 j)) → Ary Z h re kA_re .int 64 (fun j => .int (own_R t0 t1 t2 j)) → Old Z n0 h → n0 ≤ h.size → WP κ h 2 68 (mkF κ.m 260 #[.val (.int p0), .val (.int p1), .val (.int p2), .val (.int p3), .val (.int (if (p0 &&& (1 : Int32)) = (0 : Int32) then (0 : Int32) else (1 : Int32))), .val (.int (if (p0 &&& (2 : Int32)) = (0 : Int32) then (0 : Int32) else (1 : Int32))), .val (.int (if (p0 &&& (4 : Int32)) = (0 : Int32) then (0 : Int32) else (1 : Int32))), .val (.int (if (p0 &&& (8 : Int32)) = (0 : Int32) then (0 : Int32) else (1 : Int32))), .val (.int (if (p0 &&& (16 : Int32)) = (0 : Int32) then (0 : Int32) else (1 : Int32))), .val (.int (if (p0 &&& (32 : Int32)) = (0 : Int32) then (0 : Int32) else (1 : Int32))), .val (.int t0), .val (.int t1), .val (.int t2), .val (.ref re), .val (.ref ex), .val (.int m), .unset, .unset, .unset] []) := by
                      intro m h hm A_ex A_re OLD Z0
                      refine WP.iload K at_260 rfl (pc' := 262) rfl ?_
                      by_cases c1 : (p0 &&& (2 : Int32)) = (0 : Int32)
                      · refine WP.if0F K at_262 (by rw [if_pos c1]; decide) (pc' := 265) rfl ?_
                        refine WP.iload K at_265 rfl (pc' := 267) rfl ?_
                        by_cases c2 : (p0 &&& (16 : Int32)) = (0 : Int32)
                        · refine WP.if0F K at_267 (by rw [if_pos c2]; decide) (pc' := 270) rfl ?_
                          have eS : (own_S6 p0 t0 t1 t2) = ((own_S5 p0 t0 t1 t2).1 + 1, fset (own_S5 p0 t0 t1 t2).2 (own_S5 p0 t0 t1 t2).1 t1) := (if_pos (e := (own_S5 p0 t0 t1 t2)) ⟨c1, c2⟩)
                          have e1 : (own_S6 p0 t0 t1 t2).1 = (own_S5 p0 t0 t1 t2).1 + 1 := by rw [eS]
                          refine WP.aload K at_270 rfl rfl (pc' := 272) rfl ?_
                          refine WP.iload K at_272 rfl (pc' := 274) rfl ?_
                          refine WP.iload K at_274 rfl (pc' := 276) rfl ?_
                          refine WP.iastore K (i := (own_S5 p0 t0 t1 t2).1) A_ex hm (by omega) old_ex at_276 (pc' := 277) rfl fun h148 W148 A_n => ?_
                          have A_re := Ary.other W148 A_re ne_re_ex
                          have OLD := Old.wr OLD W148 old_ex
                          have Z0 := Nat.le_trans Z0 (Nat.le_of_eq W148.size.symm)
                          have A_ex := A_n
                          rw [upd_int] at A_ex
                          refine WP.iinc K at_277 (v := (1 : Int32)) rfl rfl (L' := #[.val (.int p0), .val (.int p1), .val (.int p2), .val (.int p3), .val (.int (if (p0 &&& (1 : Int32)) = (0 : Int32) then (0 : Int32) else (1 : Int32))), .val (.int (if (p0 &&& (2 : Int32)) = (0 : Int32) then (0 : Int32) else (1 : Int32))), .val (.int (if (p0 &&& (4 : Int32)) = (0 : Int32) then (0 : Int32) else (1 : Int32))), .val (.int (if (p0 &&& (8 : Int32)) = (0 : Int32) then (0 : Int32) else (1 : Int32))), .val (.int (if (p0 &&& (16 : Int32)) = (0 : Int32) then (0 : Int32) else (1 : Int32))), .val (.int (if (p0 &&& (32 : Int32)) = (0 : Int32) then (0 : Int32) else (1 : Int32))), .val (.int t0), .val (.int t1), .val (.int t2), .val (.ref re), .val (.ref ex), .val (.int (m + (1 : Int32))), .unset, .unset, .unset]) rfl (pc' := 280) rfl ?_
                          exact C280 _ _ (by rw [eS]; exact own_a1 hm (by omega)) (by rw [eS]; exact A_ex) A_re OLD Z0
                        · refine WP.if0T K at_267 (by rw [if_neg c2]; decide) (by decide) (pc' := 280) (by decide) ?_
                          have eS : (own_S6 p0 t0 t1 t2) = (own_S5 p0 t0 t1 t2) := if_neg (fun q => c2 q.2)
                          exact C280 _ _ (by rw [eS]; exact hm) (by rw [eS]; exact A_ex) A_re OLD Z0
                      · refine WP.if0T K at_262 (by rw [if_neg c1]; decide) (by decide) (pc' := 280) (by decide) ?_
                        have eS : (own_S6 p0 t0 t1 t2) = (own_S5 p0 t0 t1 t2) := if_neg (fun q => c1 q.1)
                        exact C280 _ _ (by rw [eS]; exact hm) (by rw [eS]; exact A_ex) A_re OLD Z0
                    have C240 : ∀ (m : Int32) (h : Heap), m.toInt = ((own_S4 p0 t0 t1 t2).1 : Int) → Ary Z h ex kA_ex .int 4 (fun j => .int ((own_S4 p0 t0 t1 t2).2 j)) → Ary Z h re kA_re .int 64 (fun j => .int (own_R t0 t1 t2 j)) → Old Z n0 h → n0 ≤ h.size → WP κ h 2 68 (mkF κ.m 240 #[.val (.int p0), .val (.int p1), .val (.int p2), .val (.int p3), .val (.int (if (p0 &&& (1 : Int32)) = (0 : Int32) then (0 : Int32) else (1 : Int32))), .val (.int (if (p0 &&& (2 : Int32)) = (0 : Int32) then (0 : Int32) else (1 : Int32))), .val (.int (if (p0 &&& (4 : Int32)) = (0 : Int32) then (0 : Int32) else (1 : Int32))), .val (.int (if (p0 &&& (8 : Int32)) = (0 : Int32) then (0 : Int32) else (1 : Int32))), .val (.int (if (p0 &&& (16 : Int32)) = (0 : Int32) then (0 : Int32) else (1 : Int32))), .val (.int (if (p0 &&& (32 : Int32)) = (0 : Int32) then (0 : Int32) else (1 : Int32))), .val (.int t0), .val (.int t1), .val (.int t2), .val (.ref re), .val (.ref ex), .val (.int m), .unset, .unset, .unset] []) := by
                      intro m h hm A_ex A_re OLD Z0
                      refine WP.iload K at_240 rfl (pc' := 242) rfl ?_
                      by_cases c1 : (p0 &&& (1 : Int32)) = (0 : Int32)
                      · refine WP.if0F K at_242 (by rw [if_pos c1]; decide) (pc' := 245) rfl ?_
                        refine WP.iload K at_245 rfl (pc' := 247) rfl ?_
                        by_cases c2 : (p0 &&& (8 : Int32)) = (0 : Int32)
                        · refine WP.if0F K at_247 (by rw [if_pos c2]; decide) (pc' := 250) rfl ?_
                          have eS : (own_S5 p0 t0 t1 t2) = ((own_S4 p0 t0 t1 t2).1 + 1, fset (own_S4 p0 t0 t1 t2).2 (own_S4 p0 t0 t1 t2).1 t0) := (if_pos (e := (own_S4 p0 t0 t1 t2)) ⟨c1, c2⟩)
                          have e1 : (own_S5 p0 t0 t1 t2).1 = (own_S4 p0 t0 t1 t2).1 + 1 := by rw [eS]
                          refine WP.aload K at_250 rfl rfl (pc' := 252) rfl ?_
                          refine WP.iload K at_252 rfl (pc' := 254) rfl ?_
                          refine WP.iload K at_254 rfl (pc' := 256) rfl ?_
                          refine WP.iastore K (i := (own_S4 p0 t0 t1 t2).1) A_ex hm (by omega) old_ex at_256 (pc' := 257) rfl fun h149 W149 A_n => ?_
                          have A_re := Ary.other W149 A_re ne_re_ex
                          have OLD := Old.wr OLD W149 old_ex
                          have Z0 := Nat.le_trans Z0 (Nat.le_of_eq W149.size.symm)
                          have A_ex := A_n
                          rw [upd_int] at A_ex
                          refine WP.iinc K at_257 (v := (1 : Int32)) rfl rfl (L' := #[.val (.int p0), .val (.int p1), .val (.int p2), .val (.int p3), .val (.int (if (p0 &&& (1 : Int32)) = (0 : Int32) then (0 : Int32) else (1 : Int32))), .val (.int (if (p0 &&& (2 : Int32)) = (0 : Int32) then (0 : Int32) else (1 : Int32))), .val (.int (if (p0 &&& (4 : Int32)) = (0 : Int32) then (0 : Int32) else (1 : Int32))), .val (.int (if (p0 &&& (8 : Int32)) = (0 : Int32) then (0 : Int32) else (1 : Int32))), .val (.int (if (p0 &&& (16 : Int32)) = (0 : Int32) then (0 : Int32) else (1 : Int32))), .val (.int (if (p0 &&& (32 : Int32)) = (0 : Int32) then (0 : Int32) else (1 : Int32))), .val (.int t0), .val (.int t1), .val (.int t2), .val (.ref re), .val (.ref ex), .val (.int (m + (1 : Int32))), .unset, .unset, .unset]) rfl (pc' := 260) rfl ?_
                          exact C260 _ _ (by rw [eS]; exact own_a1 hm (by omega)) (by rw [eS]; exact A_ex) A_re OLD Z0
                        · refine WP.if0T K at_247 (by rw [if_neg c2]; decide) (by decide) (pc' := 260) (by decide) ?_
                          have eS : (own_S5 p0 t0 t1 t2) = (own_S4 p0 t0 t1 t2) := if_neg (fun q => c2 q.2)
                          exact C260 _ _ (by rw [eS]; exact hm) (by rw [eS]; exact A_ex) A_re OLD Z0
                      · refine WP.if0T K at_242 (by rw [if_neg c1]; decide) (by decide) (pc' := 260) (by decide) ?_
                        have eS : (own_S5 p0 t0 t1 t2) = (own_S4 p0 t0 t1 t2) := if_neg (fun q => c1 q.1)
                        exact C260 _ _ (by rw [eS]; exact hm) (by rw [eS]; exact A_ex) A_re OLD Z0
                    have C230 : ∀ (m : Int32) (h : Heap), m.toInt = ((own_S3 p0 t0 t1 t2).1 : Int) → Ary Z h ex kA_ex .int 4 (fun j => .int ((own_S3 p0 t0 t1 t2).2 j)) → Ary Z h re kA_re .int 64 (fun j => .int (own_R t0 t1 t2 j)) → Old Z n0 h → n0 ≤ h.size → WP κ h 2 68 (mkF κ.m 230 #[.val (.int p0), .val (.int p1), .val (.int p2), .val (.int p3), .val (.int (if (p0 &&& (1 : Int32)) = (0 : Int32) then (0 : Int32) else (1 : Int32))), .val (.int (if (p0 &&& (2 : Int32)) = (0 : Int32) then (0 : Int32) else (1 : Int32))), .val (.int (if (p0 &&& (4 : Int32)) = (0 : Int32) then (0 : Int32) else (1 : Int32))), .val (.int (if (p0 &&& (8 : Int32)) = (0 : Int32) then (0 : Int32) else (1 : Int32))), .val (.int (if (p0 &&& (16 : Int32)) = (0 : Int32) then (0 : Int32) else (1 : Int32))), .val (.int (if (p0 &&& (32 : Int32)) = (0 : Int32) then (0 : Int32) else (1 : Int32))), .val (.int t0), .val (.int t1), .val (.int t2), .val (.ref re), .val (.ref ex), .val (.int m), .unset, .unset, .unset] []) := by
                      intro m h hm A_ex A_re OLD Z0
                      have eS : (own_S4 p0 t0 t1 t2) = ((own_S3 p0 t0 t1 t2).1 + 1, fset (own_S3 p0 t0 t1 t2).2 (own_S3 p0 t0 t1 t2).1 (63 : Int32)) := (if_pos (e := (own_S3 p0 t0 t1 t2)) trivial)
                      have e1 : (own_S4 p0 t0 t1 t2).1 = (own_S3 p0 t0 t1 t2).1 + 1 := by rw [eS]
                      refine WP.aload K at_230 rfl rfl (pc' := 232) rfl ?_
                      refine WP.iload K at_232 rfl (pc' := 234) rfl ?_
                      refine WP.bipush K at_234 (v := (63 : Int32)) rfl (pc' := 236) rfl ?_
                      refine WP.iastore K (i := (own_S3 p0 t0 t1 t2).1) A_ex hm (by omega) old_ex at_236 (pc' := 237) rfl fun h150 W150 A_n => ?_
                      have A_re := Ary.other W150 A_re ne_re_ex
                      have OLD := Old.wr OLD W150 old_ex
                      have Z0 := Nat.le_trans Z0 (Nat.le_of_eq W150.size.symm)
                      have A_ex := A_n
                      rw [upd_int] at A_ex
                      refine WP.iinc K at_237 (v := (1 : Int32)) rfl rfl (L' := #[.val (.int p0), .val (.int p1), .val (.int p2), .val (.int p3), .val (.int (if (p0 &&& (1 : Int32)) = (0 : Int32) then (0 : Int32) else (1 : Int32))), .val (.int (if (p0 &&& (2 : Int32)) = (0 : Int32) then (0 : Int32) else (1 : Int32))), .val (.int (if (p0 &&& (4 : Int32)) = (0 : Int32) then (0 : Int32) else (1 : Int32))), .val (.int (if (p0 &&& (8 : Int32)) = (0 : Int32) then (0 : Int32) else (1 : Int32))), .val (.int (if (p0 &&& (16 : Int32)) = (0 : Int32) then (0 : Int32) else (1 : Int32))), .val (.int (if (p0 &&& (32 : Int32)) = (0 : Int32) then (0 : Int32) else (1 : Int32))), .val (.int t0), .val (.int t1), .val (.int t2), .val (.ref re), .val (.ref ex), .val (.int (m + (1 : Int32))), .unset, .unset, .unset]) rfl (pc' := 240) rfl ?_
                      exact C240 _ _ (by rw [eS]; exact own_a1 hm (by omega)) (by rw [eS]; exact A_ex) A_re OLD Z0
                    have C210 : ∀ (m : Int32) (h : Heap), m.toInt = ((own_S2 p0 t0 t1 t2).1 : Int) → Ary Z h ex kA_ex .int 4 (fun j => .int ((own_S2 p0 t0 t1 t2).2 j)) → Ary Z h re kA_re .int 64 (fun j => .int (own_R t0 t1 t2 j)) → Old Z n0 h → n0 ≤ h.size → WP κ h 2 68 (mkF κ.m 210 #[.val (.int p0), .val (.int p1), .val (.int p2), .val (.int p3), .val (.int (if (p0 &&& (1 : Int32)) = (0 : Int32) then (0 : Int32) else (1 : Int32))), .val (.int (if (p0 &&& (2 : Int32)) = (0 : Int32) then (0 : Int32) else (1 : Int32))), .val (.int (if (p0 &&& (4 : Int32)) = (0 : Int32) then (0 : Int32) else (1 : Int32))), .val (.int (if (p0 &&& (8 : Int32)) = (0 : Int32) then (0 : Int32) else (1 : Int32))), .val (.int (if (p0 &&& (16 : Int32)) = (0 : Int32) then (0 : Int32) else (1 : Int32))), .val (.int (if (p0 &&& (32 : Int32)) = (0 : Int32) then (0 : Int32) else (1 : Int32))), .val (.int t0), .val (.int t1), .val (.int t2), .val (.ref re), .val (.ref ex), .val (.int m), .unset, .unset, .unset] []) := by
                      intro m h hm A_ex A_re OLD Z0
                      refine WP.iload K at_210 rfl (pc' := 212) rfl ?_
                      by_cases c1 : (p0 &&& (1 : Int32)) = (0 : Int32)
                      · refine WP.if0T K at_212 (by rw [if_pos c1]; decide) (by decide) (pc' := 230) (by decide) ?_
                        have eS : (own_S3 p0 t0 t1 t2) = (own_S2 p0 t0 t1 t2) := if_neg (fun q => q.1 c1)
                        exact C230 _ _ (by rw [eS]; exact hm) (by rw [eS]; exact A_ex) A_re OLD Z0
                      · refine WP.if0F K at_212 (by rw [if_neg c1]; decide) (pc' := 215) rfl ?_
                        refine WP.iload K at_215 rfl (pc' := 217) rfl ?_
                        by_cases c2 : (p0 &&& (8 : Int32)) = (0 : Int32)
                        · refine WP.if0F K at_217 (by rw [if_pos c2]; decide) (pc' := 220) rfl ?_
                          have eS : (own_S3 p0 t0 t1 t2) = ((own_S2 p0 t0 t1 t2).1 + 1, fset (own_S2 p0 t0 t1 t2).2 (own_S2 p0 t0 t1 t2).1 t0) := (if_pos (e := (own_S2 p0 t0 t1 t2)) ⟨c1, c2⟩)
                          have e1 : (own_S3 p0 t0 t1 t2).1 = (own_S2 p0 t0 t1 t2).1 + 1 := by rw [eS]
                          refine WP.aload K at_220 rfl rfl (pc' := 222) rfl ?_
                          refine WP.iload K at_222 rfl (pc' := 224) rfl ?_
                          refine WP.iload K at_224 rfl (pc' := 226) rfl ?_
                          refine WP.iastore K (i := (own_S2 p0 t0 t1 t2).1) A_ex hm (by omega) old_ex at_226 (pc' := 227) rfl fun h151 W151 A_n => ?_
                          have A_re := Ary.other W151 A_re ne_re_ex
                          have OLD := Old.wr OLD W151 old_ex
                          have Z0 := Nat.le_trans Z0 (Nat.le_of_eq W151.size.symm)
                          have A_ex := A_n
                          rw [upd_int] at A_ex
                          refine WP.iinc K at_227 (v := (1 : Int32)) rfl rfl (L' := #[.val (.int p0), .val (.int p1), .val (.int p2), .val (.int p3), .val (.int (if (p0 &&& (1 : Int32)) = (0 : Int32) then (0 : Int32) else (1 : Int32))), .val (.int (if (p0 &&& (2 : Int32)) = (0 : Int32) then (0 : Int32) else (1 : Int32))), .val (.int (if (p0 &&& (4 : Int32)) = (0 : Int32) then (0 : Int32) else (1 : Int32))), .val (.int (if (p0 &&& (8 : Int32)) = (0 : Int32) then (0 : Int32) else (1 : Int32))), .val (.int (if (p0 &&& (16 : Int32)) = (0 : Int32) then (0 : Int32) else (1 : Int32))), .val (.int (if (p0 &&& (32 : Int32)) = (0 : Int32) then (0 : Int32) else (1 : Int32))), .val (.int t0), .val (.int t1), .val (.int t2), .val (.ref re), .val (.ref ex), .val (.int (m + (1 : Int32))), .unset, .unset, .unset]) rfl (pc' := 230) rfl ?_
                          exact C230 _ _ (by rw [eS]; exact own_a1 hm (by omega)) (by rw [eS]; exact A_ex) A_re OLD Z0
                        · refine WP.if0T K at_217 (by rw [if_neg c2]; decide) (by decide) (pc' := 230) (by decide) ?_
                          have eS : (own_S3 p0 t0 t1 t2) = (own_S2 p0 t0 t1 t2) := if_neg (fun q => c2 q.2)
                          exact C230 _ _ (by rw [eS]; exact hm) (by rw [eS]; exact A_ex) A_re OLD Z0
                    have C190 : ∀ (m : Int32) (h : Heap), m.toInt = ((own_S1 p0 t0 t1 t2).1 : Int) → Ary Z h ex kA_ex .int 4 (fun j => .int ((own_S1 p0 t0 t1 t2).2 j)) → Ary Z h re kA_re .int 64 (fun j => .int (own_R t0 t1 t2 j)) → Old Z n0 h → n0 ≤ h.size → WP κ h 2 68 (mkF κ.m 190 #[.val (.int p0), .val (.int p1), .val (.int p2), .val (.int p3), .val (.int (if (p0 &&& (1 : Int32)) = (0 : Int32) then (0 : Int32) else (1 : Int32))), .val (.int (if (p0 &&& (2 : Int32)) = (0 : Int32) then (0 : Int32) else (1 : Int32))), .val (.int (if (p0 &&& (4 : Int32)) = (0 : Int32) then (0 : Int32) else (1 : Int32))), .val (.int (if (p0 &&& (8 : Int32)) = (0 : Int32) then (0 : Int32) else (1 : Int32))), .val (.int (if (p0 &&& (16 : Int32)) = (0 : Int32) then (0 : Int32) else (1 : Int32))), .val (.int (if (p0 &&& (32 : Int32)) = (0 : Int32) then (0 : Int32) else (1 : Int32))), .val (.int t0), .val (.int t1), .val (.int t2), .val (.ref re), .val (.ref ex), .val (.int m), .unset, .unset, .unset] []) := by
                      intro m h hm A_ex A_re OLD Z0
                      refine WP.iload K at_190 rfl (pc' := 192) rfl ?_
                      by_cases c1 : (p0 &&& (2 : Int32)) = (0 : Int32)
                      · refine WP.if0T K at_192 (by rw [if_pos c1]; decide) (by decide) (pc' := 210) (by decide) ?_
                        have eS : (own_S2 p0 t0 t1 t2) = (own_S1 p0 t0 t1 t2) := if_neg (fun q => q.1 c1)
                        exact C210 _ _ (by rw [eS]; exact hm) (by rw [eS]; exact A_ex) A_re OLD Z0
                      · refine WP.if0F K at_192 (by rw [if_neg c1]; decide) (pc' := 195) rfl ?_
                        refine WP.iload K at_195 rfl (pc' := 197) rfl ?_
                        by_cases c2 : (p0 &&& (16 : Int32)) = (0 : Int32)
                        · refine WP.if0F K at_197 (by rw [if_pos c2]; decide) (pc' := 200) rfl ?_
                          have eS : (own_S2 p0 t0 t1 t2) = ((own_S1 p0 t0 t1 t2).1 + 1, fset (own_S1 p0 t0 t1 t2).2 (own_S1 p0 t0 t1 t2).1 t1) := (if_pos (e := (own_S1 p0 t0 t1 t2)) ⟨c1, c2⟩)
                          have e1 : (own_S2 p0 t0 t1 t2).1 = (own_S1 p0 t0 t1 t2).1 + 1 := by rw [eS]
                          refine WP.aload K at_200 rfl rfl (pc' := 202) rfl ?_
                          refine WP.iload K at_202 rfl (pc' := 204) rfl ?_
                          refine WP.iload K at_204 rfl (pc' := 206) rfl ?_
                          refine WP.iastore K (i := (own_S1 p0 t0 t1 t2).1) A_ex hm (by omega) old_ex at_206 (pc' := 207) rfl fun h152 W152 A_n => ?_
                          have A_re := Ary.other W152 A_re ne_re_ex
                          have OLD := Old.wr OLD W152 old_ex
                          have Z0 := Nat.le_trans Z0 (Nat.le_of_eq W152.size.symm)
                          have A_ex := A_n
                          rw [upd_int] at A_ex
                          refine WP.iinc K at_207 (v := (1 : Int32)) rfl rfl (L' := #[.val (.int p0), .val (.int p1), .val (.int p2), .val (.int p3), .val (.int (if (p0 &&& (1 : Int32)) = (0 : Int32) then (0 : Int32) else (1 : Int32))), .val (.int (if (p0 &&& (2 : Int32)) = (0 : Int32) then (0 : Int32) else (1 : Int32))), .val (.int (if (p0 &&& (4 : Int32)) = (0 : Int32) then (0 : Int32) else (1 : Int32))), .val (.int (if (p0 &&& (8 : Int32)) = (0 : Int32) then (0 : Int32) else (1 : Int32))), .val (.int (if (p0 &&& (16 : Int32)) = (0 : Int32) then (0 : Int32) else (1 : Int32))), .val (.int (if (p0 &&& (32 : Int32)) = (0 : Int32) then (0 : Int32) else (1 : Int32))), .val (.int t0), .val (.int t1), .val (.int t2), .val (.ref re), .val (.ref ex), .val (.int (m + (1 : Int32))), .unset, .unset, .unset]) rfl (pc' := 210) rfl ?_
                          exact C210 _ _ (by rw [eS]; exact own_a1 hm (by omega)) (by rw [eS]; exact A_ex) A_re OLD Z0
                        · refine WP.if0T K at_197 (by rw [if_neg c2]; decide) (by decide) (pc' := 210) (by decide) ?_
                          have eS : (own_S2 p0 t0 t1 t2) = (own_S1 p0 t0 t1 t2) := if_neg (fun q => c2 q.2)
                          exact C210 _ _ (by rw [eS]; exact hm) (by rw [eS]; exact A_ex) A_re OLD Z0
                    have C170 : ∀ (m : Int32) (h : Heap), m.toInt = ((own_S0 p0 t0 t1 t2).1 : Int) → Ary Z h ex kA_ex .int 4 (fun j => .int ((own_S0 p0 t0 t1 t2).2 j)) → Ary Z h re kA_re .int 64 (fun j => .int (own_R t0 t1 t2 j)) → Old Z n0 h → n0 ≤ h.size → WP κ h 2 68 (mkF κ.m 170 #[.val (.int p0), .val (.int p1), .val (.int p2), .val (.int p3), .val (.int (if (p0 &&& (1 : Int32)) = (0 : Int32) then (0 : Int32) else (1 : Int32))), .val (.int (if (p0 &&& (2 : Int32)) = (0 : Int32) then (0 : Int32) else (1 : Int32))), .val (.int (if (p0 &&& (4 : Int32)) = (0 : Int32) then (0 : Int32) else (1 : Int32))), .val (.int (if (p0 &&& (8 : Int32)) = (0 : Int32) then (0 : Int32) else (1 : Int32))), .val (.int (if (p0 &&& (16 : Int32)) = (0 : Int32) then (0 : Int32) else (1 : Int32))), .val (.int (if (p0 &&& (32 : Int32)) = (0 : Int32) then (0 : Int32) else (1 : Int32))), .val (.int t0), .val (.int t1), .val (.int t2), .val (.ref re), .val (.ref ex), .val (.int m), .unset, .unset, .unset] []) := by
                      intro m h hm A_ex A_re OLD Z0
                      refine WP.iload K at_170 rfl (pc' := 172) rfl ?_
                      by_cases c1 : (p0 &&& (4 : Int32)) = (0 : Int32)
                      · refine WP.if0T K at_172 (by rw [if_pos c1]; decide) (by decide) (pc' := 190) (by decide) ?_
                        have eS : (own_S1 p0 t0 t1 t2) = (own_S0 p0 t0 t1 t2) := if_neg (fun q => q.1 c1)
                        exact C190 _ _ (by rw [eS]; exact hm) (by rw [eS]; exact A_ex) A_re OLD Z0
                      · refine WP.if0F K at_172 (by rw [if_neg c1]; decide) (pc' := 175) rfl ?_
                        refine WP.iload K at_175 rfl (pc' := 177) rfl ?_
                        by_cases c2 : (p0 &&& (32 : Int32)) = (0 : Int32)
                        · refine WP.if0F K at_177 (by rw [if_pos c2]; decide) (pc' := 180) rfl ?_
                          have eS : (own_S1 p0 t0 t1 t2) = ((own_S0 p0 t0 t1 t2).1 + 1, fset (own_S0 p0 t0 t1 t2).2 (own_S0 p0 t0 t1 t2).1 t2) := (if_pos (e := (own_S0 p0 t0 t1 t2)) ⟨c1, c2⟩)
                          have e1 : (own_S1 p0 t0 t1 t2).1 = (own_S0 p0 t0 t1 t2).1 + 1 := by rw [eS]
                          refine WP.aload K at_180 rfl rfl (pc' := 182) rfl ?_
                          refine WP.iload K at_182 rfl (pc' := 184) rfl ?_
                          refine WP.iload K at_184 rfl (pc' := 186) rfl ?_
                          refine WP.iastore K (i := (own_S0 p0 t0 t1 t2).1) A_ex hm (by omega) old_ex at_186 (pc' := 187) rfl fun h153 W153 A_n => ?_
                          have A_re := Ary.other W153 A_re ne_re_ex
                          have OLD := Old.wr OLD W153 old_ex
                          have Z0 := Nat.le_trans Z0 (Nat.le_of_eq W153.size.symm)
                          have A_ex := A_n
                          rw [upd_int] at A_ex
                          refine WP.iinc K at_187 (v := (1 : Int32)) rfl rfl (L' := #[.val (.int p0), .val (.int p1), .val (.int p2), .val (.int p3), .val (.int (if (p0 &&& (1 : Int32)) = (0 : Int32) then (0 : Int32) else (1 : Int32))), .val (.int (if (p0 &&& (2 : Int32)) = (0 : Int32) then (0 : Int32) else (1 : Int32))), .val (.int (if (p0 &&& (4 : Int32)) = (0 : Int32) then (0 : Int32) else (1 : Int32))), .val (.int (if (p0 &&& (8 : Int32)) = (0 : Int32) then (0 : Int32) else (1 : Int32))), .val (.int (if (p0 &&& (16 : Int32)) = (0 : Int32) then (0 : Int32) else (1 : Int32))), .val (.int (if (p0 &&& (32 : Int32)) = (0 : Int32) then (0 : Int32) else (1 : Int32))), .val (.int t0), .val (.int t1), .val (.int t2), .val (.ref re), .val (.ref ex), .val (.int (m + (1 : Int32))), .unset, .unset, .unset]) rfl (pc' := 190) rfl ?_
                          exact C190 _ _ (by rw [eS]; exact own_a1 hm (by omega)) (by rw [eS]; exact A_ex) A_re OLD Z0
                        · refine WP.if0T K at_177 (by rw [if_neg c2]; decide) (by decide) (pc' := 190) (by decide) ?_
                          have eS : (own_S1 p0 t0 t1 t2) = (own_S0 p0 t0 t1 t2) := if_neg (fun q => c2 q.2)
                          exact C190 _ _ (by rw [eS]; exact hm) (by rw [eS]; exact A_ex) A_re OLD Z0
                    exact C170 _ _ rfl A_ex A_re OLD Z0
set_option maxRecDepth 65536 in
set_option maxHeartbeats 40000000 in
theorem comes_1 {Post : Tables → Env → Array Value → State → Outcome → State → Prop} (hpost : ∀ tb e args s v u, (limb_1_1.after args s (.returned v) u = true ∧ limb_1_2.after args s (.returned v) u = true ∧ True) → ReturnedEndW s (.returned v) u (Jvm.fieldLocs frame_1_writes args s ++ Jvm.arrayLocs frame_1_arrays args s ++ Jvm.staticLocs frame_1_statics s) 40 896 → Post tb e args s (.returned v) u) :
    ArmFor flags0 classFile x code maxLocals ret World_1 tables_1 room_1 Calls_1 rest_1 Pre_1 Post := by
  intro l hfl _ _ p e ha hc hk s m args below hf hA hF happ hP
  obtain ⟨hcalls, hrest, hpre⟩ := hP
  obtain ⟨-, -, -, hnamed, -, -, -, hat⟩ := (Spec.applies_iff hf).mp happ
  obtain ⟨hg, hn⟩ := and_e (Cond.before_iff.mp (show (Jvm.Cond.and given_1 narrow_1).before args s = true from hpre))
  obtain ⟨q0, r0⟩ := and_e hg
  obtain ⟨q1, r1⟩ := and_e r0
  obtain ⟨q2, r2⟩ := and_e r1
  obtain ⟨q3, r3⟩ := and_e r2
  obtain ⟨v0, v1, v2, v3, rfl⟩ : ∃ v0 v1 v2 v3 : Value, args = #[v0, v1, v2, v3] := by
    have hs : args.size = 4 := by simpa [Cond.value, given_1] using q0
    obtain ⟨L⟩ := args
    match L, hs with
    | [v0, v1, v2, v3], _ => exact ⟨v0, v1, v2, v3, rfl⟩
  have hw := fun d (hd : d ∈ tables_1) => atoms_spec (ws := Jvm.Cond.code x code maxLocals ret :: tables_1) hat d (List.mem_cons_of_mem _ hd)
  have hfit : Fit s := fun {y c} hc i hi => by
    obtain ⟨ha, rfl⟩ := Array.getElem?_eq_some_iff.mp hc
    have q := List.all_eq_true.mp ((Array.all_eq_true_iff_forall_mem.mp hF) _ (Array.getElem_mem ha)) i (List.mem_range.mpr hi)
    simpa [Array.getElem?_eq_getElem hi] using q
  obtain ⟨i0, ei0⟩ := is_v q1
  obtain rfl : v0 = (.int i0) := Option.some.inj ei0
  obtain ⟨i1, ei1⟩ := is_v q2
  obtain rfl : v1 = (.int i1) := Option.some.inj ei1
  obtain ⟨i2, ei2⟩ := is_v q3
  obtain rfl : v2 = (.int i2) := Option.some.inj ei2
  obtain ⟨i3, ei3⟩ := is_v r3
  obtain rfl : v3 = (.int i3) := Option.some.inj ei3
  obtain ⟨m0, m1⟩ := and_e hn
  obtain ⟨nl, kL, fL, S_nl, A_nl, -⟩ := static_ary (N := 0) hfit (w_73 hw) (w_35 hw) (ty := .int) (by decide) m0 m1 rfl
  obtain ⟨n, o, h1, h2, h3, _, L, rfl, ⟨rfl, N⟩, hq⟩ := rm_law true l s _ hw i0 i1 i2 i3 s.heap s.heap.size (Nat.le_refl _) nl kL fL S_nl A_nl (Old.start s) p e ha hc hk s m _ below hf ((Spec.applies_iff_loose hf).mp happ).1 ⟨rfl, State.Warmed39.refl s, rfl⟩ trivial
  refine ⟨n, _, h1, h2, h3, hpost _ _ _ _ _ _ ⟨Cond.after_iff.mpr rfl, Cond.after_iff.mpr (eq_i res_at (Term.int_eval (1)) rfl), trivial⟩ ⟨hq.1, hq.2.1, hq.2.2.1, (hq.2.2.2.sift fun y hy => Or.inr (N y hy)).mono (by decide) (by decide)⟩⟩
theorem main_1_1 : Claimed_1_1 := comes_1 fun _ _ _ _ _ _ h hF => ⟨h.1, hF⟩
theorem main_1_2 : Claimed_1_2 := comes_1 fun _ _ _ _ _ _ h hF => ⟨h.2.1, hF⟩
end Jvm.Pilot.@@N@@
namespace Jvm.Pilot.@@N@@
open Jvm Jvm.ClassFile Sem Op Lib Jvm.Free Jvm.Stand Jvm.Pilot.@@N@@.Jvm.D
/-! MADE BY PROGRAM (witnessworld.py) out of the Statement's table words and the real class files: 21 classes; the members and pool entries that the words name. The judged class is class 1, her method 1. -/
namespace start1
open Jvm.ClassFile
def u (s : String) : CpInfo := .utf8 (stringToUtf16 s)
/-- a pool by its gaps: so many unusable entries, then the entry; so many at the end -/
def gap : Nat → List CpInfo → List CpInfo
  | 0, r => r
  | n + 1, r => .unusable :: gap n r
def poolList (es : List (Nat × CpInfo)) (last : Nat) : List CpInfo := es.foldr (fun e r => gap e.1 (e.2 :: r)) (gap last [])
def pool (es : List (Nat × CpInfo)) (last : Nat) : Array CpInfo := ⟨poolList es last⟩
def fileOf (pool : Array CpInfo) (this : Nat) (attrs : Array Attribute := #[]) (ms : Array MethodInfo := #[]) (fl : Nat := 33) (sup : Nat := 0) (ifs : Array Nat := #[]) (fds : Array FieldInfo := #[]) : ClassFile where
  minorVersion := 0
  majorVersion := 65
  constantPool := pool
  accessFlags := fl
  thisClass := this
  superClass := sup
  interfaces := ifs
  fields := fds
  methods := ms
  attributes := attrs
def plain (name : String) (sup : Option ClassId) : Class where
  name := name
  kind := .ordinary
  loader := none
  accessFlags := 33
  super := sup
  interfaces := #[]
  cf := none
  fields := #[]
  methods := #[]
  instanceTypes := #[]
  staticTypes := #[]
  resolved := #[]
  callSites := []
  init := .initialized
  statics := none
  mirror := none

def pool0 : Array CpInfo := pool [(5, u "<init>"), (0, u "()V"), (1, .class_ 10), (1, u "java/lang/Object")] 113

def k0c0 : Code := { maxStack := 0, maxLocals := 1, code := object_method_1_code, exceptionTable := #[], attributes := #[] }
def k0m0 : Method := { name := "<init>", desc := "()V", sig := { parameters := [], returnType := none }, accessFlags := 1, code := some k0c0 }
/-- java/lang/Object -/
def k0 : Class := { plain "java/lang/Object" none with
  accessFlags := 33
  interfaces := #[]
  cf := some (fileOf pool0 8 #[] #[{ accessFlags := 1, nameIndex := 5, descriptorIndex := 6, attributes := #[] }] 33 0 #[] #[])
  fields := #[]
  methods := #[k0m0]
  instanceTypes := #[]
  staticTypes := #[]
  resolved := Array.replicate 124 none
  statics := none }

def pool1 : Array CpInfo := pool [(2, .class_ 4), (0, .nameAndType 5 6), (0, u "java/lang/Object"), (0, u "<init>"), (0, u "()V"), (0, .integer 2147483647), (0, .class_ 9), (0, u "com/example/weir/weir/engine/TripleTable"), (0, .methodref 8 3), (0, .long 9223372036854775809), (1, .methodref 8 14), (0, .nameAndType 15 16), (0, u "setEnd"), (0, u "(IJ)V"), (0, .class_ 18), (0, u "com/example/weir/weir/engine/EndingList"), (0, .methodref 17 3), (0, .methodref 17 21), (0, .nameAndType 22 23), (0, u "add"), (0, u "(Lcom/example/weir/weir/engine/TripleTable;I)V"), (0, .methodref 17 25), (0, .nameAndType 26 27), (0, u "renumber"), (0, u "([I)V"), (0, .methodref 17 29), (0, .nameAndType 30 31), (0, u "size"), (0, u "()I"), (0, .methodref 17 33), (0, .nameAndType 34 35), (0, u "triple"), (0, u "(I)I"), (0, .class_ 37), (0, u "com/example/weir/weir/engine/EndingListRenumberPinLaw"), (2, u "law"), (0, u "(IIII)Z")] 5

def k1m0 : Method := { name := "<init>", desc := "()V", sig := { parameters := [], returnType := none }, accessFlags := 1, code := none }
def k1c1 : Code := { maxStack := 4, maxLocals := 19, code := code, exceptionTable := #[], attributes := #[] }
def k1m1 : Method := { name := "law", desc := "(IIII)Z", sig := { parameters := [.int, .int, .int, .int], returnType := some .boolean }, accessFlags := 9, code := some k1c1 }
/-- com/example/weir/weir/engine/EndingListRenumberPinLaw -/
def k1 : Class := { plain "com/example/weir/weir/engine/EndingListRenumberPinLaw" (some 0) with
  accessFlags := 49
  interfaces := #[]
  cf := some (fileOf pool1 36 #[] #[{ accessFlags := 1, nameIndex := 5, descriptorIndex := 6, attributes := #[] }, { accessFlags := 9, nameIndex := 40, descriptorIndex := 41, attributes := #[] }] 49 2 #[] #[])
  fields := #[]
  methods := #[k1m0, k1m1]
  instanceTypes := #[]
  staticTypes := #[]
  resolved := Array.replicate 47 none
  statics := none }

def pool2 : Array CpInfo := pool [(3, .methodref 4 5), (0, .class_ 6), (0, .nameAndType 7 8), (0, u "java/lang/Object"), (0, u "<init>"), (0, u "()V"), (0, .class_ 10), (0, u "com/example/weir/weir/engine/TripleTable"), (0, .fieldref 9 12), (0, .nameAndType 13 14), (0, u "terms"), (0, u "[I"), (0, .class_ 16), (0, u "com/example/weir/weir/engine/Numbers"), (0, .methodref 15 5), (0, .fieldref 9 19), (0, .nameAndType 20 21), (0, u "numbers"), (0, u "Lcom/example/weir/weir/engine/Numbers;"), (0, .class_ 23), (0, u "com/example/weir/weir/engine/SubjectIndex"), (0, .invokeDynamic 0 25), (0, .nameAndType 26 27), (0, u "term"), (0, u "(Lcom/example/weir/weir/engine/TripleTable;)Lcom/example/weir/weir/engine/SubjectIndex$Terms;"), (0, .methodref 22 29), (0, .nameAndType 7 30), (0, u "(Lcom/example/weir/weir/engine/SubjectIndex$Terms;)V"), (0, .fieldref 9 32), (0, .nameAndType 33 34), (0, u "index"), (0, u "Lcom/example/weir/weir/engine/SubjectIndex;"), (2, u "size"), (0, u "I"), (3, u "()I"), (4, .fieldref 9 48), (0, .nameAndType 49 50), (0, u "ends"), (0, u "[J"), (0, .long 9223372036854775807), (1, .methodref 9 54), (0, .nameAndType 55 56), (0, u "uncountEnd"), (0, u "(I)V"), (0, .methodref 9 58), (0, .nameAndType 59 60), (0, u "putEnd"), (0, u "(IJ)V"), (0, .fieldref 9 62), (0, .nameAndType 63 38), (0, u "earliest"), (2, u "strata"), (0, .methodref 9 68), (0, .nameAndType 69 42), (0, u "capacity"), (1, .class_ 73), (1, u "java/util/Arrays"), (0, u "fill"), (1, .fieldref 9 77), (0, .nameAndType 78 38), (0, u "ending"), (0, .fieldref 9 80), (0, .nameAndType 81 14), (0, u "moves"), (14, u "(II)I"), (33, .methodref 9 131), (0, .nameAndType 132 133), (0, u "end"), (0, u "(I)J"), (0, .long 9223372036854775809), (1, .methodref 71 137), (0, .nameAndType 74 138), (0, u "([JJ)V"), (0, u "SUBJECT"), (2, u "PREDICATE"), (1, u "OBJECT"), (1, u "FOREVER"), (0, u "J"), (0, u "EARLIEST"), (0, u "FREE"), (1, u "SMALLEST_CAPACITY"), (6, u "setEnd"), (1, u "(I)I"), (10, .methodType 96), (0, .methodHandle 5 173), (0, .methodref 9 174), (0, .nameAndType 26 96), (0, .methodHandle 6 176), (0, .methodref 177 178), (0, .class_ 179), (0, .nameAndType 180 181), (0, u "java/lang/invoke/LambdaMetafactory"), (0, u "metafactory"), (0, u "(Ljava/lang/invoke/MethodHandles$Lookup;Ljava/lang/String;Ljava/lang/invoke/MethodType;Ljava/lang/invoke/MethodType;Ljava/lang/invoke/MethodHandle;Ljava/lang/invoke/MethodType;)Ljava/lang/invoke/CallSite;")] 9

def k2c0 : Code := { maxStack := 4, maxLocals := 1, code := prog_51_method_1_code, exceptionTable := #[], attributes := #[] }
def k2m0 : Method := { name := "<init>", desc := "()V", sig := { parameters := [], returnType := none }, accessFlags := 0, code := some k2c0 }
def k2c1 : Code := { maxStack := 2, maxLocals := 1, code := prog_51_method_4_code, exceptionTable := #[], attributes := #[] }
def k2m1 : Method := { name := "capacity", desc := "()I", sig := { parameters := [], returnType := some .int }, accessFlags := 0, code := some k2c1 }
def k2c2 : Code := { maxStack := 3, maxLocals := 3, code := ⟨#[0x2a, 0xb4, 0x00, 0x0b, 0x06, 0x1b, 0x68, 0x1c, 0x60, 0x2e, 0xac]⟩, exceptionTable := #[], attributes := #[] }
def k2m2 : Method := { name := "term", desc := "(II)I", sig := { parameters := [.int, .int], returnType := some .int }, accessFlags := 0, code := some k2c2 }
def k2c3 : Code := { maxStack := 2, maxLocals := 2, code := prog_51_method_8_code, exceptionTable := #[], attributes := #[] }
def k2m3 : Method := { name := "end", desc := "(I)J", sig := { parameters := [.int], returnType := some .long }, accessFlags := 0, code := some k2c3 }
def k2c4 : Code := { maxStack := 4, maxLocals := 4, code := prog_51_method_9_code, exceptionTable := #[], attributes := #[] }
def k2m4 : Method := { name := "setEnd", desc := "(IJ)V", sig := { parameters := [.int, .long], returnType := none }, accessFlags := 0, code := some k2c4 }
def k2c5 : Code := { maxStack := 2, maxLocals := 2, code := prog_51_method_15_code, exceptionTable := #[], attributes := #[] }
def k2m5 : Method := { name := "moves", desc := "(I)I", sig := { parameters := [.int], returnType := some .int }, accessFlags := 0, code := some k2c5 }
def k2c6 : Code := { maxStack := 4, maxLocals := 4, code := prog_51_method_22_code, exceptionTable := #[], attributes := #[] }
def k2m6 : Method := { name := "uncountEnd", desc := "(I)V", sig := { parameters := [.int], returnType := none }, accessFlags := 2, code := some k2c6 }
def k2c7 : Code := { maxStack := 4, maxLocals := 4, code := prog_51_method_23_code, exceptionTable := #[], attributes := #[] }
def k2m7 : Method := { name := "putEnd", desc := "(IJ)V", sig := { parameters := [.int, .long], returnType := none }, accessFlags := 2, code := some k2c7 }
/-- com/example/weir/weir/engine/TripleTable -/
def k2 : Class := { plain "com/example/weir/weir/engine/TripleTable" (some 0) with
  accessFlags := 48
  interfaces := #[]
  cf := some (fileOf pool2 9 #[.bootstrapMethods #[⟨175, #[171, 172, 171]⟩]] #[{ accessFlags := 0, nameIndex := 7, descriptorIndex := 8, attributes := #[] }, { accessFlags := 0, nameIndex := 69, descriptorIndex := 42, attributes := #[] }, { accessFlags := 0, nameIndex := 26, descriptorIndex := 96, attributes := #[] }, { accessFlags := 0, nameIndex := 132, descriptorIndex := 133, attributes := #[] }, { accessFlags := 0, nameIndex := 158, descriptorIndex := 60, attributes := #[] }, { accessFlags := 0, nameIndex := 81, descriptorIndex := 160, attributes := #[] }, { accessFlags := 2, nameIndex := 55, descriptorIndex := 56, attributes := #[] }, { accessFlags := 2, nameIndex := 59, descriptorIndex := 60, attributes := #[] }] 48 4 #[] #[{ accessFlags := 24, nameIndex := 139, descriptorIndex := 38, attributes := #[] }, { accessFlags := 24, nameIndex := 142, descriptorIndex := 38, attributes := #[] }, { accessFlags := 24, nameIndex := 144, descriptorIndex := 38, attributes := #[] }, { accessFlags := 24, nameIndex := 146, descriptorIndex := 147, attributes := #[] }, { accessFlags := 24, nameIndex := 148, descriptorIndex := 147, attributes := #[] }, { accessFlags := 26, nameIndex := 149, descriptorIndex := 38, attributes := #[] }, { accessFlags := 26, nameIndex := 151, descriptorIndex := 38, attributes := #[] }, { accessFlags := 2, nameIndex := 13, descriptorIndex := 14, attributes := #[] }, { accessFlags := 2, nameIndex := 49, descriptorIndex := 50, attributes := #[] }, { accessFlags := 2, nameIndex := 78, descriptorIndex := 38, attributes := #[] }, { accessFlags := 2, nameIndex := 63, descriptorIndex := 38, attributes := #[] }, { accessFlags := 2, nameIndex := 66, descriptorIndex := 14, attributes := #[] }, { accessFlags := 2, nameIndex := 81, descriptorIndex := 14, attributes := #[] }, { accessFlags := 18, nameIndex := 20, descriptorIndex := 21, attributes := #[] }, { accessFlags := 2, nameIndex := 37, descriptorIndex := 38, attributes := #[] }, { accessFlags := 2, nameIndex := 33, descriptorIndex := 34, attributes := #[] }])
  fields := #[{ name := "SUBJECT", type := .int, accessFlags := 24, slot := 0, constantValue := 0 }, { name := "PREDICATE", type := .int, accessFlags := 24, slot := 1, constantValue := 0 }, { name := "OBJECT", type := .int, accessFlags := 24, slot := 2, constantValue := 0 }, { name := "FOREVER", type := .long, accessFlags := 24, slot := 3, constantValue := 0 }, { name := "EARLIEST", type := .long, accessFlags := 24, slot := 4, constantValue := 0 }, { name := "FREE", type := .int, accessFlags := 26, slot := 5, constantValue := 0 }, { name := "SMALLEST_CAPACITY", type := .int, accessFlags := 26, slot := 6, constantValue := 0 }, { name := "terms", type := (.array .int), accessFlags := 2, slot := 0, constantValue := 0 }, { name := "ends", type := (.array .long), accessFlags := 2, slot := 1, constantValue := 0 }, { name := "ending", type := .int, accessFlags := 2, slot := 2, constantValue := 0 }, { name := "earliest", type := .int, accessFlags := 2, slot := 3, constantValue := 0 }, { name := "strata", type := (.array .int), accessFlags := 2, slot := 4, constantValue := 0 }, { name := "moves", type := (.array .int), accessFlags := 2, slot := 5, constantValue := 0 }, { name := "numbers", type := (.object "com/example/weir/weir/engine/Numbers"), accessFlags := 18, slot := 6, constantValue := 0 }, { name := "size", type := .int, accessFlags := 2, slot := 7, constantValue := 0 }, { name := "index", type := (.object "com/example/weir/weir/engine/SubjectIndex"), accessFlags := 2, slot := 8, constantValue := 0 }]
  methods := #[k2m0, k2m1, k2m2, k2m3, k2m4, k2m5, k2m6, k2m7]
  instanceTypes := #[(.array .int), (.array .long), .int, .int, (.array .int), (.array .int), (.object "com/example/weir/weir/engine/Numbers"), .int, (.object "com/example/weir/weir/engine/SubjectIndex")]
  staticTypes := #[.int, .int, .int, .long, .long, .int, .int]
  resolved := Array.replicate 191 none
  callSites := [(0, 30, .makes 20)]
  statics := none }

def pool3 : Array CpInfo := pool [(1, .methodref 2 3), (0, .class_ 4), (0, .nameAndType 5 6), (0, u "java/lang/Object"), (0, u "<init>"), (0, u "()V"), (0, .class_ 8), (0, u "com/example/weir/weir/engine/IntList"), (0, .methodref 7 3), (0, .fieldref 11 12), (0, .class_ 13), (0, .nameAndType 14 15), (0, u "com/example/weir/weir/engine/Numbers"), (0, u "free"), (0, u "Lcom/example/weir/weir/engine/IntList;"), (9, u "limit"), (0, u "I"), (8, u "SMALLEST_COMPACTED")] 14

def k3c0 : Code := { maxStack := 3, maxLocals := 1, code := prog_42_method_1_code, exceptionTable := #[], attributes := #[] }
def k3m0 : Method := { name := "<init>", desc := "()V", sig := { parameters := [], returnType := none }, accessFlags := 0, code := some k3c0 }
/-- com/example/weir/weir/engine/Numbers -/
def k3 : Class := { plain "com/example/weir/weir/engine/Numbers" (some 0) with
  accessFlags := 48
  interfaces := #[]
  cf := some (fileOf pool3 11 #[] #[{ accessFlags := 0, nameIndex := 5, descriptorIndex := 6, attributes := #[] }] 48 2 #[] #[{ accessFlags := 26, nameIndex := 35, descriptorIndex := 26, attributes := #[] }, { accessFlags := 2, nameIndex := 25, descriptorIndex := 26, attributes := #[] }, { accessFlags := 2, nameIndex := 14, descriptorIndex := 15, attributes := #[] }])
  fields := #[{ name := "SMALLEST_COMPACTED", type := .int, accessFlags := 26, slot := 0, constantValue := 0 }, { name := "limit", type := .int, accessFlags := 2, slot := 0, constantValue := 0 }, { name := "free", type := (.object "com/example/weir/weir/engine/IntList"), accessFlags := 2, slot := 1, constantValue := 0 }]
  methods := #[k3m0]
  instanceTypes := #[.int, (.object "com/example/weir/weir/engine/IntList")]
  staticTypes := #[.int]
  resolved := Array.replicate 50 none
  statics := none }

def pool4 : Array CpInfo := pool [(1, .methodref 2 3), (0, .class_ 4), (0, .nameAndType 5 6), (0, u "java/lang/Object"), (0, u "<init>"), (0, u "()V"), (0, .class_ 8), (0, u "com/example/weir/weir/engine/IntList"), (0, .fieldref 7 10), (0, .nameAndType 11 12), (0, u "values"), (0, u "[I"), (2, u "size"), (0, u "I"), (6, u "SMALLEST_ROOM")] 15

def k4c0 : Code := { maxStack := 2, maxLocals := 1, code := prog_28_method_1_code, exceptionTable := #[], attributes := #[] }
def k4m0 : Method := { name := "<init>", desc := "()V", sig := { parameters := [], returnType := none }, accessFlags := 0, code := some k4c0 }
/-- com/example/weir/weir/engine/IntList -/
def k4 : Class := { plain "com/example/weir/weir/engine/IntList" (some 0) with
  accessFlags := 48
  interfaces := #[]
  cf := some (fileOf pool4 7 #[] #[{ accessFlags := 0, nameIndex := 5, descriptorIndex := 6, attributes := #[] }] 48 2 #[] #[{ accessFlags := 26, nameIndex := 23, descriptorIndex := 16, attributes := #[] }, { accessFlags := 2, nameIndex := 11, descriptorIndex := 12, attributes := #[] }, { accessFlags := 2, nameIndex := 15, descriptorIndex := 16, attributes := #[] }])
  fields := #[{ name := "SMALLEST_ROOM", type := .int, accessFlags := 26, slot := 0, constantValue := 0 }, { name := "values", type := (.array .int), accessFlags := 2, slot := 0, constantValue := 0 }, { name := "size", type := .int, accessFlags := 2, slot := 1, constantValue := 0 }]
  methods := #[k4m0]
  instanceTypes := #[(.array .int), .int]
  staticTypes := #[.int]
  resolved := Array.replicate 39 none
  statics := none }

def pool5 : Array CpInfo := pool [(1, .class_ 2), (0, u "com/example/weir/weir/engine/SubjectIndex"), (0, .methodref 4 5), (0, .class_ 6), (0, .nameAndType 7 8), (0, u "java/lang/Object"), (0, u "<init>"), (0, u "()V"), (0, .class_ 10), (0, u "com/example/weir/weir/engine/IntIntMap"), (0, .methodref 9 5), (0, .fieldref 1 13), (0, .nameAndType 14 15), (0, u "subjects"), (0, u "Lcom/example/weir/weir/engine/IntIntMap;"), (0, .fieldref 1 17), (0, .nameAndType 18 19), (0, u "NO_LINKS"), (0, u "[I"), (0, .fieldref 1 21), (0, .nameAndType 22 19), (0, u "next"), (0, .fieldref 1 24), (0, .nameAndType 25 26), (0, u "terms"), (0, u "Lcom/example/weir/weir/engine/SubjectIndex$Terms;"), (34, .class_ 63), (1, u "com/example/weir/weir/engine/SubjectIndex$Terms"), (57, u "CHAINED"), (0, u "I"), (2, u "SMALLEST_TABLE"), (0, u "END"), (1, u "(Lcom/example/weir/weir/engine/SubjectIndex$Terms;)V")] 27

def k5c0 : Code := { maxStack := 3, maxLocals := 2, code := prog_44_method_1_code, exceptionTable := #[], attributes := #[] }
def k5m0 : Method := { name := "<init>", desc := "(Lcom/example/weir/weir/engine/SubjectIndex$Terms;)V", sig := { parameters := [(.object "com/example/weir/weir/engine/SubjectIndex$Terms")], returnType := none }, accessFlags := 0, code := some k5c0 }
/-- com/example/weir/weir/engine/SubjectIndex -/
def k5 : Class := { plain "com/example/weir/weir/engine/SubjectIndex" (some 0) with
  accessFlags := 48
  interfaces := #[]
  cf := some (fileOf pool5 1 #[.nestMembers #[61]] #[{ accessFlags := 0, nameIndex := 7, descriptorIndex := 128, attributes := #[] }] 48 4 #[] #[{ accessFlags := 26, nameIndex := 121, descriptorIndex := 122, attributes := #[] }, { accessFlags := 26, nameIndex := 125, descriptorIndex := 122, attributes := #[] }, { accessFlags := 26, nameIndex := 126, descriptorIndex := 122, attributes := #[] }, { accessFlags := 26, nameIndex := 18, descriptorIndex := 19, attributes := #[] }, { accessFlags := 18, nameIndex := 25, descriptorIndex := 26, attributes := #[] }, { accessFlags := 18, nameIndex := 14, descriptorIndex := 15, attributes := #[] }, { accessFlags := 2, nameIndex := 22, descriptorIndex := 19, attributes := #[] }])
  fields := #[{ name := "CHAINED", type := .int, accessFlags := 26, slot := 0, constantValue := 0 }, { name := "SMALLEST_TABLE", type := .int, accessFlags := 26, slot := 1, constantValue := 0 }, { name := "END", type := .int, accessFlags := 26, slot := 2, constantValue := 0 }, { name := "NO_LINKS", type := (.array .int), accessFlags := 26, slot := 3, constantValue := 0 }, { name := "terms", type := (.object "com/example/weir/weir/engine/SubjectIndex$Terms"), accessFlags := 18, slot := 0, constantValue := 0 }, { name := "subjects", type := (.object "com/example/weir/weir/engine/IntIntMap"), accessFlags := 18, slot := 1, constantValue := 0 }, { name := "next", type := (.array .int), accessFlags := 2, slot := 2, constantValue := 0 }]
  methods := #[k5m0]
  instanceTypes := #[(.object "com/example/weir/weir/engine/SubjectIndex$Terms"), (.object "com/example/weir/weir/engine/IntIntMap"), (.array .int)]
  staticTypes := #[.int, .int, .int, (.array .int)]
  resolved := Array.replicate 156 none
  statics := some 0 }

def pool6 : Array CpInfo := pool [(1, .class_ 2), (0, u "com/example/weir/weir/engine/SubjectIndex$Terms"), (0, .class_ 4), (0, u "java/lang/Object"), (0, u "term"), (0, u "(II)I"), (5, .class_ 13), (0, u "com/example/weir/weir/engine/SubjectIndex")] 2

def k6m0 : Method := { name := "term", desc := "(II)I", sig := { parameters := [.int, .int], returnType := some .int }, accessFlags := 1025, code := none }
/-- com/example/weir/weir/engine/SubjectIndex$Terms -/
def k6 : Class := { plain "com/example/weir/weir/engine/SubjectIndex$Terms" (some 0) with
  accessFlags := 1536
  interfaces := #[]
  cf := some (fileOf pool6 1 #[.nestHost 12] #[{ accessFlags := 1025, nameIndex := 5, descriptorIndex := 6, attributes := #[] }] 1536 3 #[] #[])
  fields := #[]
  methods := #[k6m0]
  instanceTypes := #[]
  staticTypes := #[]
  resolved := Array.replicate 16 none
  statics := none }

def pool7 : Array CpInfo := pool [(1, .methodref 2 3), (0, .class_ 4), (0, .nameAndType 5 6), (0, u "com/example/weir/weir/engine/IntIntMap"), (0, u "<init>"), (0, u "(I)V"), (0, .methodref 8 9), (0, .class_ 10), (0, .nameAndType 5 11), (0, u "java/lang/Object"), (0, u "()V"), (0, .fieldref 2 13), (0, .nameAndType 14 15), (0, u "width"), (0, u "I"), (0, .fieldref 2 17), (0, .nameAndType 18 15), (0, u "stride"), (0, .methodref 2 20), (0, .nameAndType 21 22), (0, u "emptyTable"), (0, u "(IZ)V"), (2, u "size"), (2, u "values"), (0, u "[I"), (0, .fieldref 2 31), (0, .nameAndType 32 29), (0, u "entries"), (2, u "keys"), (18, .fieldref 2 55), (0, .nameAndType 56 15), (0, u "greatestKey"), (11, .fieldref 2 69), (0, .nameAndType 70 15), (0, u "slots"), (9, .fieldref 2 81), (0, .nameAndType 82 83), (0, u "objects"), (0, u "[Ljava/lang/Object;"), (52, u "ABSENT"), (2, u "SMALLEST_TABLE"), (1, u "SMALLEST_SHRUNK_ARRAY")] 16

def k7c0 : Code := { maxStack := 2, maxLocals := 1, code := prog_27_method_1_code, exceptionTable := #[], attributes := #[] }
def k7m0 : Method := { name := "<init>", desc := "()V", sig := { parameters := [], returnType := none }, accessFlags := 0, code := some k7c0 }
def k7c1 : Code := { maxStack := 3, maxLocals := 2, code := prog_27_method_2_code, exceptionTable := #[], attributes := #[] }
def k7m1 : Method := { name := "<init>", desc := "(I)V", sig := { parameters := [.int], returnType := none }, accessFlags := 0, code := some k7c1 }
def k7c2 : Code := { maxStack := 3, maxLocals := 3, code := prog_27_method_22_code, exceptionTable := #[], attributes := #[] }
def k7m2 : Method := { name := "emptyTable", desc := "(IZ)V", sig := { parameters := [.int, .boolean], returnType := none }, accessFlags := 2, code := some k7c2 }
/-- com/example/weir/weir/engine/IntIntMap -/
def k7 : Class := { plain "com/example/weir/weir/engine/IntIntMap" (some 0) with
  accessFlags := 48
  interfaces := #[]
  cf := some (fileOf pool7 2 #[] #[{ accessFlags := 0, nameIndex := 5, descriptorIndex := 11, attributes := #[] }, { accessFlags := 0, nameIndex := 5, descriptorIndex := 6, attributes := #[] }, { accessFlags := 2, nameIndex := 21, descriptorIndex := 22, attributes := #[] }] 48 8 #[] #[{ accessFlags := 24, nameIndex := 136, descriptorIndex := 15, attributes := #[] }, { accessFlags := 26, nameIndex := 139, descriptorIndex := 15, attributes := #[] }, { accessFlags := 26, nameIndex := 141, descriptorIndex := 15, attributes := #[] }, { accessFlags := 18, nameIndex := 14, descriptorIndex := 15, attributes := #[] }, { accessFlags := 18, nameIndex := 18, descriptorIndex := 15, attributes := #[] }, { accessFlags := 2, nameIndex := 32, descriptorIndex := 29, attributes := #[] }, { accessFlags := 2, nameIndex := 70, descriptorIndex := 15, attributes := #[] }, { accessFlags := 2, nameIndex := 28, descriptorIndex := 29, attributes := #[] }, { accessFlags := 2, nameIndex := 35, descriptorIndex := 15, attributes := #[] }, { accessFlags := 2, nameIndex := 82, descriptorIndex := 83, attributes := #[] }, { accessFlags := 2, nameIndex := 56, descriptorIndex := 15, attributes := #[] }, { accessFlags := 2, nameIndex := 25, descriptorIndex := 15, attributes := #[] }])
  fields := #[{ name := "ABSENT", type := .int, accessFlags := 24, slot := 0, constantValue := 0 }, { name := "SMALLEST_TABLE", type := .int, accessFlags := 26, slot := 1, constantValue := 0 }, { name := "SMALLEST_SHRUNK_ARRAY", type := .int, accessFlags := 26, slot := 2, constantValue := 0 }, { name := "width", type := .int, accessFlags := 18, slot := 0, constantValue := 0 }, { name := "stride", type := .int, accessFlags := 18, slot := 1, constantValue := 0 }, { name := "entries", type := (.array .int), accessFlags := 2, slot := 2, constantValue := 0 }, { name := "slots", type := .int, accessFlags := 2, slot := 3, constantValue := 0 }, { name := "values", type := (.array .int), accessFlags := 2, slot := 4, constantValue := 0 }, { name := "keys", type := .int, accessFlags := 2, slot := 5, constantValue := 0 }, { name := "objects", type := (.array (.object "java/lang/Object")), accessFlags := 2, slot := 6, constantValue := 0 }, { name := "greatestKey", type := .int, accessFlags := 2, slot := 7, constantValue := 0 }, { name := "size", type := .int, accessFlags := 2, slot := 8, constantValue := 0 }]
  methods := #[k7m0, k7m1, k7m2]
  instanceTypes := #[.int, .int, (.array .int), .int, (.array .int), .int, (.array (.object "java/lang/Object")), .int, .int]
  staticTypes := #[.int, .int, .int]
  resolved := Array.replicate 158 none
  statics := none }

def pool8 : Array CpInfo := pool [(2, .class_ 4), (1, u "java/lang/Object"), (0, u "<init>"), (0, u "()V"), (7, .class_ 16), (1, u "java/util/Arrays"), (57, .class_ 76), (1, u "java/util/Arrays$NaturalOrder"), (36, .class_ 115), (1, u "java/util/Arrays$LegacyMergeSort"), (1, u "Z"), (257, .class_ 376), (0, u "java/util/Arrays$ArrayList"), (68, u "$assertionsDisabled"), (269, u "MIN_ARRAY_SORT_GRAN"), (0, u "I"), (2, u "INSERTIONSORT_THRESHOLD"), (120, u "fill"), (0, u "([JJ)V"), (133, .class_ 976), (0, u "java/util/Arrays$ArrayItr")] 52

def k8m0 : Method := { name := "<init>", desc := "()V", sig := { parameters := [], returnType := none }, accessFlags := 2, code := none }
def k8c1 : Code := { maxStack := 4, maxLocals := 5, code := jdk_65_method_101_code, exceptionTable := #[], attributes := #[] }
def k8m1 : Method := { name := "fill", desc := "([JJ)V", sig := { parameters := [(.array .long), .long], returnType := none }, accessFlags := 9, code := some k8c1 }
/-- java/util/Arrays -/
def k8 : Class := { plain "java/util/Arrays" (some 0) with
  accessFlags := 49
  interfaces := #[]
  cf := some (fileOf pool8 14 #[.nestMembers #[975, 375, 113, 74]] #[{ accessFlags := 2, nameIndex := 5, descriptorIndex := 6, attributes := #[] }, { accessFlags := 9, nameIndex := 840, descriptorIndex := 841, attributes := #[] }] 49 2 #[] #[{ accessFlags := 26, nameIndex := 715, descriptorIndex := 716, attributes := #[] }, { accessFlags := 26, nameIndex := 719, descriptorIndex := 716, attributes := #[] }, { accessFlags := 4120, nameIndex := 445, descriptorIndex := 117, attributes := #[] }])
  fields := #[{ name := "MIN_ARRAY_SORT_GRAN", type := .int, accessFlags := 26, slot := 0, constantValue := 0 }, { name := "INSERTIONSORT_THRESHOLD", type := .int, accessFlags := 26, slot := 1, constantValue := 0 }, { name := "$assertionsDisabled", type := .boolean, accessFlags := 4120, slot := 2, constantValue := 0 }]
  methods := #[k8m0, k8m1]
  instanceTypes := #[]
  staticTypes := #[.int, .int, .boolean]
  resolved := Array.replicate 1029 none
  statics := none }

def pool9 : Array CpInfo := pool [(1, .methodref 2 3), (0, .class_ 4), (0, .nameAndType 5 6), (0, u "java/lang/Object"), (0, u "<init>"), (0, u "()V"), (0, .class_ 8), (0, u "com/example/weir/weir/engine/EndingList"), (0, .fieldref 7 10), (0, .nameAndType 11 12), (0, u "entries"), (0, u "[I"), (0, .fieldref 7 14), (0, .nameAndType 15 16), (0, u "held"), (0, u "I"), (0, .fieldref 7 18), (0, .nameAndType 19 16), (0, u "size"), (0, .fieldref 7 21), (0, .nameAndType 22 16), (0, u "first"), (0, .methodref 7 24), (0, .nameAndType 25 26), (0, u "triple"), (0, u "(I)I"), (0, .methodref 28 29), (0, .class_ 30), (0, .nameAndType 31 26), (0, u "com/example/weir/weir/engine/TripleTable"), (0, u "moves"), (0, .methodref 7 33), (0, .nameAndType 34 35), (0, u "place"), (0, u "(Lcom/example/weir/weir/engine/TripleTable;I)V"), (0, .methodref 7 37), (0, .nameAndType 38 39), (0, u "dropEntriesNotCurrentIfMany"), (0, u "(Lcom/example/weir/weir/engine/TripleTable;)V"), (0, .methodref 28 41), (0, .nameAndType 42 43), (0, u "end"), (0, u "(I)J"), (0, .long 9223372036854775809), (1, .fieldref 7 47), (0, .nameAndType 48 16), (0, u "earliest"), (16, .methodref 7 66), (0, .nameAndType 67 68), (0, u "moveTo"), (0, u "(I)V"), (0, .methodref 7 70), (0, .nameAndType 71 35), (0, u "placeFirst"), (0, .methodref 73 74), (0, .class_ 75), (0, .nameAndType 76 77), (0, u "java/lang/System"), (0, u "arraycopy"), (0, u "(Ljava/lang/Object;ILjava/lang/Object;II)V"), (0, .methodref 79 80), (0, .class_ 81), (0, .nameAndType 82 83), (0, u "java/lang/Math"), (0, u "max"), (0, u "(II)I"), (0, .methodref 7 85), (0, .nameAndType 67 86), (0, u "(II)V"), (3, u "SMALLEST_ROOM"), (4, u "()I"), (1, u "add"), (3, u "renumber"), (0, u "([I)V")] 20

def k9c0 : Code := { maxStack := 2, maxLocals := 1, code := prog_25_method_1_code, exceptionTable := #[], attributes := #[] }
def k9m0 : Method := { name := "<init>", desc := "()V", sig := { parameters := [], returnType := none }, accessFlags := 0, code := some k9c0 }
def k9c1 : Code := { maxStack := 1, maxLocals := 1, code := prog_25_method_3_code, exceptionTable := #[], attributes := #[] }
def k9m1 : Method := { name := "size", desc := "()I", sig := { parameters := [], returnType := some .int }, accessFlags := 0, code := some k9c1 }
def k9c2 : Code := { maxStack := 4, maxLocals := 2, code := prog_25_method_4_code, exceptionTable := #[], attributes := #[] }
def k9m2 : Method := { name := "triple", desc := "(I)I", sig := { parameters := [.int], returnType := some .int }, accessFlags := 0, code := some k9c2 }
def k9c3 : Code := { maxStack := 3, maxLocals := 3, code := prog_25_method_6_code, exceptionTable := #[], attributes := #[] }
def k9m3 : Method := { name := "add", desc := "(Lcom/example/weir/weir/engine/TripleTable;I)V", sig := { parameters := [(.object "com/example/weir/weir/engine/TripleTable"), .int], returnType := none }, accessFlags := 0, code := some k9c3 }
def k9c4 : Code := { maxStack := 5, maxLocals := 7, code := prog_25_method_10_code, exceptionTable := #[], attributes := #[] }
def k9m4 : Method := { name := "renumber", desc := "([I)V", sig := { parameters := [(.array .int)], returnType := none }, accessFlags := 0, code := some k9c4 }
def k9c5 : Code := { maxStack := 7, maxLocals := 7, code := prog_25_method_11_code, exceptionTable := #[], attributes := #[] }
def k9m5 : Method := { name := "place", desc := "(Lcom/example/weir/weir/engine/TripleTable;I)V", sig := { parameters := [(.object "com/example/weir/weir/engine/TripleTable"), .int], returnType := none }, accessFlags := 2, code := some k9c5 }
def k9c6 : Code := { maxStack := 4, maxLocals := 5, code := prog_25_method_12_code, exceptionTable := #[], attributes := #[] }
def k9m6 : Method := { name := "placeFirst", desc := "(Lcom/example/weir/weir/engine/TripleTable;I)V", sig := { parameters := [(.object "com/example/weir/weir/engine/TripleTable"), .int], returnType := none }, accessFlags := 2, code := some k9c6 }
def k9c7 : Code := { maxStack := 3, maxLocals := 2, code := prog_25_method_13_code, exceptionTable := #[], attributes := #[] }
def k9m7 : Method := { name := "dropEntriesNotCurrentIfMany", desc := "(Lcom/example/weir/weir/engine/TripleTable;)V", sig := { parameters := [(.object "com/example/weir/weir/engine/TripleTable")], returnType := none }, accessFlags := 2, code := some k9c7 }
def k9c8 : Code := { maxStack := 3, maxLocals := 2, code := prog_25_method_15_code, exceptionTable := #[], attributes := #[] }
def k9m8 : Method := { name := "moveTo", desc := "(I)V", sig := { parameters := [.int], returnType := none }, accessFlags := 2, code := some k9c8 }
def k9c9 : Code := { maxStack := 6, maxLocals := 4, code := prog_25_method_16_code, exceptionTable := #[], attributes := #[] }
def k9m9 : Method := { name := "moveTo", desc := "(II)V", sig := { parameters := [.int, .int], returnType := none }, accessFlags := 2, code := some k9c9 }
/-- com/example/weir/weir/engine/EndingList -/
def k9 : Class := { plain "com/example/weir/weir/engine/EndingList" (some 0) with
  accessFlags := 48
  interfaces := #[]
  cf := some (fileOf pool9 7 #[] #[{ accessFlags := 0, nameIndex := 5, descriptorIndex := 6, attributes := #[] }, { accessFlags := 0, nameIndex := 19, descriptorIndex := 95, attributes := #[] }, { accessFlags := 0, nameIndex := 25, descriptorIndex := 26, attributes := #[] }, { accessFlags := 0, nameIndex := 97, descriptorIndex := 35, attributes := #[] }, { accessFlags := 0, nameIndex := 101, descriptorIndex := 102, attributes := #[] }, { accessFlags := 2, nameIndex := 34, descriptorIndex := 35, attributes := #[] }, { accessFlags := 2, nameIndex := 71, descriptorIndex := 35, attributes := #[] }, { accessFlags := 2, nameIndex := 38, descriptorIndex := 39, attributes := #[] }, { accessFlags := 2, nameIndex := 67, descriptorIndex := 68, attributes := #[] }, { accessFlags := 2, nameIndex := 67, descriptorIndex := 86, attributes := #[] }] 48 2 #[] #[{ accessFlags := 26, nameIndex := 90, descriptorIndex := 16, attributes := #[] }, { accessFlags := 2, nameIndex := 11, descriptorIndex := 12, attributes := #[] }, { accessFlags := 2, nameIndex := 22, descriptorIndex := 16, attributes := #[] }, { accessFlags := 2, nameIndex := 19, descriptorIndex := 16, attributes := #[] }, { accessFlags := 2, nameIndex := 48, descriptorIndex := 16, attributes := #[] }, { accessFlags := 2, nameIndex := 15, descriptorIndex := 16, attributes := #[] }])
  fields := #[{ name := "SMALLEST_ROOM", type := .int, accessFlags := 26, slot := 0, constantValue := 0 }, { name := "entries", type := (.array .int), accessFlags := 2, slot := 0, constantValue := 0 }, { name := "first", type := .int, accessFlags := 2, slot := 1, constantValue := 0 }, { name := "size", type := .int, accessFlags := 2, slot := 2, constantValue := 0 }, { name := "earliest", type := .int, accessFlags := 2, slot := 3, constantValue := 0 }, { name := "held", type := .int, accessFlags := 2, slot := 4, constantValue := 0 }]
  methods := #[k9m0, k9m1, k9m2, k9m3, k9m4, k9m5, k9m6, k9m7, k9m8, k9m9]
  instanceTypes := #[(.array .int), .int, .int, .int, .int]
  staticTypes := #[.int]
  resolved := Array.replicate 123 none
  statics := none }

def pool10 : Array CpInfo := pool [(2, .class_ 4), (1, u "java/lang/Object"), (0, u "<init>"), (0, u "()V"), (1, .class_ 10), (1, u "java/lang/System"), (0, u "allowSecurityManager"), (0, u "I"), (16, u "cons"), (0, u "Ljava/io/Console;"), (77, .class_ 110), (1, u "java/lang/System$CallersHolder"), (43, u "initialErrStream"), (0, u "Ljava/io/PrintStream;"), (19, u "security"), (0, u "Ljava/lang/SecurityManager;"), (31, .class_ 209), (0, u "java/lang/System$1"), (7, u "props"), (0, u "Ljava/util/Properties;"), (2, u "lineSeparator"), (0, u "Ljava/lang/String;"), (96, .class_ 321), (1, u "java/lang/System$LoggerFinder"), (5, .class_ 328), (0, u "java/lang/System$Logger"), (67, u "err"), (2, u "out"), (91, u "notSupportedJnuEncoding"), (15, u "in"), (17, u "initialIn"), (0, u "Ljava/io/InputStream;"), (35, u "bootLayer"), (0, u "Ljava/lang/ModuleLayer;"), (99, .class_ 664), (0, u "java/lang/System$2"), (9, u "NEVER"), (2, u "MAYBE"), (49, u "arraycopy"), (0, u "(Ljava/lang/Object;ILjava/lang/Object;II)V"), (72, .class_ 802), (0, u "java/lang/System$Logger$Level")] 31

def k10m0 : Method := { name := "<init>", desc := "()V", sig := { parameters := [], returnType := none }, accessFlags := 2, code := none }
def k10m1 : Method := { name := "arraycopy", desc := "(Ljava/lang/Object;ILjava/lang/Object;II)V", sig := { parameters := [(.object "java/lang/Object"), .int, (.object "java/lang/Object"), .int, .int], returnType := none }, accessFlags := 265, code := none }
/-- java/lang/System -/
def k10 : Class := { plain "java/lang/System" (some 0) with
  accessFlags := 49
  interfaces := #[]
  cf := some (fileOf pool10 8 #[.nestMembers #[319, 327, 801, 108, 663, 208]] #[{ accessFlags := 2, nameIndex := 5, descriptorIndex := 6, attributes := #[] }, { accessFlags := 265, nameIndex := 727, descriptorIndex := 728, attributes := #[] }] 49 2 #[] #[{ accessFlags := 25, nameIndex := 507, descriptorIndex := 526, attributes := #[] }, { accessFlags := 25, nameIndex := 399, descriptorIndex := 155, attributes := #[] }, { accessFlags := 25, nameIndex := 396, descriptorIndex := 155, attributes := #[] }, { accessFlags := 10, nameIndex := 525, descriptorIndex := 526, attributes := #[] }, { accessFlags := 26, nameIndex := 674, descriptorIndex := 12, attributes := #[] }, { accessFlags := 26, nameIndex := 677, descriptorIndex := 12, attributes := #[] }, { accessFlags := 10, nameIndex := 11, descriptorIndex := 12, attributes := #[] }, { accessFlags := 74, nameIndex := 175, descriptorIndex := 176, attributes := #[] }, { accessFlags := 10, nameIndex := 491, descriptorIndex := 222, attributes := #[] }, { accessFlags := 74, nameIndex := 29, descriptorIndex := 30, attributes := #[] }, { accessFlags := 74, nameIndex := 154, descriptorIndex := 155, attributes := #[] }, { accessFlags := 10, nameIndex := 217, descriptorIndex := 218, attributes := #[] }, { accessFlags := 10, nameIndex := 221, descriptorIndex := 222, attributes := #[] }, { accessFlags := 8, nameIndex := 562, descriptorIndex := 563, attributes := #[] }])
  fields := #[{ name := "in", type := (.object "java/io/InputStream"), accessFlags := 25, slot := 0, constantValue := 0 }, { name := "out", type := (.object "java/io/PrintStream"), accessFlags := 25, slot := 1, constantValue := 0 }, { name := "err", type := (.object "java/io/PrintStream"), accessFlags := 25, slot := 2, constantValue := 0 }, { name := "initialIn", type := (.object "java/io/InputStream"), accessFlags := 10, slot := 3, constantValue := 0 }, { name := "NEVER", type := .int, accessFlags := 26, slot := 4, constantValue := 0 }, { name := "MAYBE", type := .int, accessFlags := 26, slot := 5, constantValue := 0 }, { name := "allowSecurityManager", type := .int, accessFlags := 10, slot := 6, constantValue := 0 }, { name := "security", type := (.object "java/lang/SecurityManager"), accessFlags := 74, slot := 7, constantValue := 0 }, { name := "notSupportedJnuEncoding", type := (.object "java/lang/String"), accessFlags := 10, slot := 8, constantValue := 0 }, { name := "cons", type := (.object "java/io/Console"), accessFlags := 74, slot := 9, constantValue := 0 }, { name := "initialErrStream", type := (.object "java/io/PrintStream"), accessFlags := 74, slot := 10, constantValue := 0 }, { name := "props", type := (.object "java/util/Properties"), accessFlags := 10, slot := 11, constantValue := 0 }, { name := "lineSeparator", type := (.object "java/lang/String"), accessFlags := 10, slot := 12, constantValue := 0 }, { name := "bootLayer", type := (.object "java/lang/ModuleLayer"), accessFlags := 8, slot := 13, constantValue := 0 }]
  methods := #[k10m0, k10m1]
  instanceTypes := #[]
  staticTypes := #[(.object "java/io/InputStream"), (.object "java/io/PrintStream"), (.object "java/io/PrintStream"), (.object "java/io/InputStream"), .int, .int, .int, (.object "java/lang/SecurityManager"), (.object "java/lang/String"), (.object "java/io/Console"), (.object "java/io/PrintStream"), (.object "java/util/Properties"), (.object "java/lang/String"), (.object "java/lang/ModuleLayer")]
  resolved := Array.replicate 834 none
  statics := none }

def pool11 : Array CpInfo := pool [(1, .class_ 2), (0, u "java/lang/Math"), (1, .class_ 6), (1, u "java/lang/Object"), (0, u "<init>"), (0, u "()V"), (89, .class_ 100), (1, u "java/lang/Math$RandomNumberGeneratorHolder"), (71, u "negativeZeroFloatBits"), (0, u "J"), (2, u "negativeZeroDoubleBits"), (21, u "max"), (46, u "$assertionsDisabled"), (0, u "Z"), (88, u "(II)I"), (2, u "twoToTheDoubleScaleDown"), (0, u "D"), (4, u "twoToTheDoubleScaleUp"), (9, u "E"), (3, u "PI"), (2, u "TAU"), (2, u "DEGREES_TO_RADIANS"), (0, u "RADIANS_TO_DEGREES")] 94

def k11m0 : Method := { name := "<init>", desc := "()V", sig := { parameters := [], returnType := none }, accessFlags := 2, code := none }
def k11c1 : Code := { maxStack := 2, maxLocals := 2, code := jdk_29_method_65_code, exceptionTable := #[], attributes := #[] }
def k11m1 : Method := { name := "max", desc := "(II)I", sig := { parameters := [.int, .int], returnType := some .int }, accessFlags := 9, code := some k11c1 }
/-- java/lang/Math -/
def k11 : Class := { plain "java/lang/Math" (some 0) with
  accessFlags := 49
  interfaces := #[]
  cf := some (fileOf pool11 1 #[.nestMembers #[98]] #[{ accessFlags := 2, nameIndex := 7, descriptorIndex := 8, attributes := #[] }, { accessFlags := 9, nameIndex := 198, descriptorIndex := 335, attributes := #[] }] 49 4 #[] #[{ accessFlags := 25, nameIndex := 354, descriptorIndex := 339, attributes := #[] }, { accessFlags := 25, nameIndex := 358, descriptorIndex := 339, attributes := #[] }, { accessFlags := 25, nameIndex := 361, descriptorIndex := 339, attributes := #[] }, { accessFlags := 26, nameIndex := 364, descriptorIndex := 339, attributes := #[] }, { accessFlags := 26, nameIndex := 365, descriptorIndex := 339, attributes := #[] }, { accessFlags := 26, nameIndex := 172, descriptorIndex := 173, attributes := #[] }, { accessFlags := 26, nameIndex := 176, descriptorIndex := 173, attributes := #[] }, { accessFlags := 8, nameIndex := 344, descriptorIndex := 339, attributes := #[] }, { accessFlags := 8, nameIndex := 338, descriptorIndex := 339, attributes := #[] }, { accessFlags := 4120, nameIndex := 245, descriptorIndex := 246, attributes := #[] }])
  fields := #[{ name := "E", type := .double, accessFlags := 25, slot := 0, constantValue := 0 }, { name := "PI", type := .double, accessFlags := 25, slot := 1, constantValue := 0 }, { name := "TAU", type := .double, accessFlags := 25, slot := 2, constantValue := 0 }, { name := "DEGREES_TO_RADIANS", type := .double, accessFlags := 26, slot := 3, constantValue := 0 }, { name := "RADIANS_TO_DEGREES", type := .double, accessFlags := 26, slot := 4, constantValue := 0 }, { name := "negativeZeroFloatBits", type := .long, accessFlags := 26, slot := 5, constantValue := 0 }, { name := "negativeZeroDoubleBits", type := .long, accessFlags := 26, slot := 6, constantValue := 0 }, { name := "twoToTheDoubleScaleUp", type := .double, accessFlags := 8, slot := 7, constantValue := 0 }, { name := "twoToTheDoubleScaleDown", type := .double, accessFlags := 8, slot := 8, constantValue := 0 }, { name := "$assertionsDisabled", type := .boolean, accessFlags := 4120, slot := 9, constantValue := 0 }]
  methods := #[k11m0, k11m1]
  instanceTypes := #[]
  staticTypes := #[.double, .double, .double, .double, .double, .long, .long, .double, .double, .boolean]
  resolved := Array.replicate 460 none
  statics := none }

def pool12 : Array CpInfo := pool [(1, u "java/lang/Cloneable"), (0, .class_ 1), (0, u "java/lang/Object"), (0, .class_ 3)] 3

/-- java/lang/Cloneable -/
def k12 : Class := { plain "java/lang/Cloneable" (some 0) with
  accessFlags := 1537
  interfaces := #[]
  cf := some (fileOf pool12 2 #[] #[] 1537 4 #[] #[])
  fields := #[]
  methods := #[]
  instanceTypes := #[]
  staticTypes := #[]
  resolved := Array.replicate 8 none
  statics := none }

def pool13 : Array CpInfo := pool [(1, u "java/io/Serializable"), (0, .class_ 1), (0, u "java/lang/Object"), (0, .class_ 3)] 3

/-- java/io/Serializable -/
def k13 : Class := { plain "java/io/Serializable" (some 0) with
  accessFlags := 1537
  interfaces := #[]
  cf := some (fileOf pool13 2 #[] #[] 1537 4 #[] #[])
  fields := #[]
  methods := #[]
  instanceTypes := #[]
  staticTypes := #[]
  resolved := Array.replicate 8 none
  statics := none }

/-- the primitive byte -/
def k14 : Class := { plain "byte" none with kind := .primitive 'B', accessFlags := 0x411 }
/-- [B -/
def k15 : Class := { plain "[B" (some 0) with kind := .array 14 .byte, interfaces := #[12, 13], accessFlags := 1041 }

/-- the primitive int -/
def k16 : Class := { plain "int" none with kind := .primitive 'I', accessFlags := 0x411 }
/-- [I -/
def k17 : Class := { plain "[I" (some 0) with kind := .array 16 .int, interfaces := #[12, 13], accessFlags := 1041 }

/-- the primitive long -/
def k18 : Class := { plain "long" none with kind := .primitive 'J', accessFlags := 0x411 }
/-- [J -/
def k19 : Class := { plain "[J" (some 0) with kind := .array 18 .long, interfaces := #[12, 13], accessFlags := 1041 }

def classes0 : Array Class := #[k0, k1, k2, k3, k4, k5, k6, k7, k8, k9, k10, k11, k12, k13, k14, k15, k16, k17, k18, k19]
/-- the class that the rule has made for the site at 30 of com/example/weir/weir/engine/TripleTable.<init> -/
def k20 : Class := Jvm.LamKit.madeRec { classes := classes0 } "com/example/weir/weir/engine/TripleTable" (Jvm.Lambda.Shape.mk "com/example/weir/weir/engine/SubjectIndex$Terms" "term" (Jvm.ClassFile.MethodDescriptor.mk ([Jvm.ClassFile.FieldType.int, Jvm.ClassFile.FieldType.int] : List Jvm.ClassFile.FieldType) (Option.some Jvm.ClassFile.FieldType.int)) ([(Jvm.ClassFile.FieldType.object "com/example/weir/weir/engine/TripleTable")] : List Jvm.ClassFile.FieldType) (5 : Nat) "com/example/weir/weir/engine/TripleTable" "term" (Jvm.ClassFile.MethodDescriptor.mk ([Jvm.ClassFile.FieldType.int, Jvm.ClassFile.FieldType.int] : List Jvm.ClassFile.FieldType) (Option.some Jvm.ClassFile.FieldType.int)) false (Jvm.ClassFile.MethodDescriptor.mk ([Jvm.ClassFile.FieldType.int, Jvm.ClassFile.FieldType.int] : List Jvm.ClassFile.FieldType) (Option.some Jvm.ClassFile.FieldType.int))) 20

def heap : Heap := #[{ cls := 5, slots := #[.int 0, .int 0, .int 0, .ref 1], vm := .statics 5 },
  { cls := 17, slots := #[], vm := .none }]
def classes : Array Class := #[k0, k1, k2, k3, k4, k5, k6, k7, k8, k9, k10, k11, k12, k13, k14, k15, k16, k17, k18, k19, k20]
def interned : List (Array UInt16 × Addr) := []
def slotsUsed : Nat := 4
def theMethod : MethodId := ⟨1, 1⟩
def args0 : Array Value := #[.int 5, .int 5, .int 5, .int 5]
def aboutOver (below : List Frame) : State where
  vm := { classes := classes, interned := interned.toArray }
  heap := heap
  slotsUsed := slotsUsed
  threads := #[{ frames := .invoking theMethod args0 :: below }]
def below0 : List Frame := [.native { method := ⟨0, 0⟩, args := #[] }]
def about1 : State := aboutOver below0
def p0 : Program := .bare "" "" ""
def e0 : Env := launch0.env 0 0 0
theorem w_frames : about1.frames = Frame.invoking theMethod args0 :: below0 := rfl
set_option maxRecDepth 65536 in
theorem w_args : argsFit about1.vm theMethod args0 = true := by decide +kernel
set_option maxRecDepth 65536 in
theorem w_heap : heapFits about1 = true := by decide +kernel
set_option maxRecDepth 65536 in
theorem w_runnable : about1.curStatus? = some .runnable := by decide +kernel
set_option maxRecDepth 65536 in
theorem w_alone : about1.alone = true := by decide +kernel
set_option maxRecDepth 65536 in
theorem w_named : about1.methodNamed? x = some theMethod := by decide +kernel
set_option maxRecDepth 65536 in
theorem w_hears : about1.hears theMethod below0 = true := by decide +kernel
set_option maxRecDepth 65536 in
theorem w_ripe : about1.ripe theMethod args0 below0 = true := by decide +kernel
theorem w_running : about1.status = .running := rfl
set_option maxRecDepth 65536 in
theorem w_room : about1.hasRoom e0.platform room_1 = true :=
  launch0.hasRoom_least _ room_1 (by decide +kernel) (by decide +kernel) (by decide +kernel) (by decide +kernel) (by decide +kernel) (by decide +kernel)
theorem allAtoms_all (ts : List Jvm.Cond) (a : Array Jvm.Value) (st : Jvm.State) : (allAtoms ts).before a st = ts.all (fun c => c.before a st) := by
  induction ts with
  | nil => rfl
  | cons c t ih =>
    show (Jvm.Cond.and c (allAtoms t)).before a st = _
    rw [Jvm.Cond.before_and, ih, List.all_cons]
def words1 : List Jvm.Cond := Jvm.Cond.code x code maxLocals ret :: tables_1
/-- a 'code' word, met by the world's own term for the bytes: nothing is compared byte by byte -/
theorem code_word {y : MethodName} {bytes : ByteArray} {mx : Nat} {rt : Option FieldType} {a : Array Value} {s : State} {m : MethodId} {meth : Method} {c : Code} (h1 : s.methodNamed? y = some m) (h2 : s.vm.method? m = some meth) (h3 : meth.code = some c) (h4 : c.code = bytes)
    (h5 : (c.maxLocals == mx && c.exceptionTable.isEmpty && decide (c.maxStack ≤ mostOperands) && decide (meth.sig.returnType = rt) && !meth.locks && decide (parseMethodDescriptor y.desc = some meth.sig)) = true) : (Jvm.Cond.code y bytes mx rt).before a s = true := by
  simp only [Bool.and_eq_true, beq_iff_eq, Bool.not_eq_true', decide_eq_true_eq] at h5
  obtain ⟨⟨⟨⟨⟨g1, g2⟩, g3⟩, g4⟩, g5⟩, g6⟩ := h5
  simp [Cond.before, Cond.holds, Cond.value, h1, h2, h3, h4, g1, g2, g3, g4, g5, g6]
def isCode : Jvm.Cond → Bool
  | .code _ _ _ _ => true
  | _ => false
theorem all_split {L : List Jvm.Cond} {P : Jvm.Cond → Bool} (h1 : L.all (fun c => isCode c || P c) = true) (h2 : ∀ c ∈ L.filter isCode, P c = true) : L.all P = true := by
  refine List.all_eq_true.mpr fun c hc => ?_
  have h := List.all_eq_true.mp h1 c hc
  rcases Bool.eq_false_or_eq_true (isCode c) with hi | hi
  · exact h2 c (List.mem_filter.mpr ⟨hc, hi⟩)
  · simpa [hi] using h
set_option maxRecDepth 65536 in
theorem w_c0 : (Jvm.Cond.code x code maxLocals ret).before args0 about1 = true := code_word (m := ⟨1, 1⟩) (meth := k1m1) (c := k1c1) (by decide +kernel) rfl rfl rfl (by decide +kernel)
set_option maxRecDepth 65536 in
theorem w_c1 : (Jvm.Cond.code ({ cls := "com/example/weir/weir/engine/TripleTable", name := "<init>", desc := "()V" } : Jvm.MethodName) prog_51_method_1_code (1 : Nat) (Option.none : Option Jvm.ClassFile.FieldType)).before args0 about1 = true := code_word (m := ⟨2, 0⟩) (meth := k2m0) (c := k2c0) (by decide +kernel) rfl rfl rfl (by decide +kernel)
set_option maxRecDepth 65536 in
theorem w_c2 : (Jvm.Cond.code ({ cls := "java/lang/Object", name := "<init>", desc := "()V" } : Jvm.MethodName) object_method_1_code (1 : Nat) (Option.none : Option Jvm.ClassFile.FieldType)).before args0 about1 = true := code_word (m := ⟨0, 0⟩) (meth := k0m0) (c := k0c0) (by decide +kernel) rfl rfl rfl (by decide +kernel)
set_option maxRecDepth 65536 in
theorem w_c3 : (Jvm.Cond.code ({ cls := "com/example/weir/weir/engine/Numbers", name := "<init>", desc := "()V" } : Jvm.MethodName) prog_42_method_1_code (1 : Nat) (Option.none : Option Jvm.ClassFile.FieldType)).before args0 about1 = true := code_word (m := ⟨3, 0⟩) (meth := k3m0) (c := k3c0) (by decide +kernel) rfl rfl rfl (by decide +kernel)
set_option maxRecDepth 65536 in
theorem w_c4 : (Jvm.Cond.code ({ cls := "com/example/weir/weir/engine/IntList", name := "<init>", desc := "()V" } : Jvm.MethodName) prog_28_method_1_code (1 : Nat) (Option.none : Option Jvm.ClassFile.FieldType)).before args0 about1 = true := code_word (m := ⟨4, 0⟩) (meth := k4m0) (c := k4c0) (by decide +kernel) rfl rfl rfl (by decide +kernel)
set_option maxRecDepth 65536 in
theorem w_c5 : (Jvm.Cond.code ({ cls := "com/example/weir/weir/engine/SubjectIndex", name := "<init>", desc := "(Lcom/example/weir/weir/engine/SubjectIndex$Terms;)V" } : Jvm.MethodName) prog_44_method_1_code (2 : Nat) (Option.none : Option Jvm.ClassFile.FieldType)).before args0 about1 = true := code_word (m := ⟨5, 0⟩) (meth := k5m0) (c := k5c0) (by decide +kernel) rfl rfl rfl (by decide +kernel)
set_option maxRecDepth 65536 in
theorem w_c6 : (Jvm.Cond.code ({ cls := "com/example/weir/weir/engine/IntIntMap", name := "<init>", desc := "()V" } : Jvm.MethodName) prog_27_method_1_code (1 : Nat) (Option.none : Option Jvm.ClassFile.FieldType)).before args0 about1 = true := code_word (m := ⟨7, 0⟩) (meth := k7m0) (c := k7c0) (by decide +kernel) rfl rfl rfl (by decide +kernel)
set_option maxRecDepth 65536 in
theorem w_c7 : (Jvm.Cond.code ({ cls := "com/example/weir/weir/engine/IntIntMap", name := "<init>", desc := "(I)V" } : Jvm.MethodName) prog_27_method_2_code (2 : Nat) (Option.none : Option Jvm.ClassFile.FieldType)).before args0 about1 = true := code_word (m := ⟨7, 1⟩) (meth := k7m1) (c := k7c1) (by decide +kernel) rfl rfl rfl (by decide +kernel)
set_option maxRecDepth 65536 in
theorem w_c8 : (Jvm.Cond.code ({ cls := "com/example/weir/weir/engine/IntIntMap", name := "emptyTable", desc := "(IZ)V" } : Jvm.MethodName) prog_27_method_22_code (3 : Nat) (Option.none : Option Jvm.ClassFile.FieldType)).before args0 about1 = true := code_word (m := ⟨7, 2⟩) (meth := k7m2) (c := k7c2) (by decide +kernel) rfl rfl rfl (by decide +kernel)
set_option maxRecDepth 65536 in
theorem w_c9 : (Jvm.Cond.code ({ cls := "com/example/weir/weir/engine/TripleTable", name := "setEnd", desc := "(IJ)V" } : Jvm.MethodName) prog_51_method_9_code (4 : Nat) (Option.none : Option Jvm.ClassFile.FieldType)).before args0 about1 = true := code_word (m := ⟨2, 4⟩) (meth := k2m4) (c := k2c4) (by decide +kernel) rfl rfl rfl (by decide +kernel)
set_option maxRecDepth 65536 in
theorem w_c10 : (Jvm.Cond.code ({ cls := "com/example/weir/weir/engine/TripleTable", name := "uncountEnd", desc := "(I)V" } : Jvm.MethodName) prog_51_method_22_code (4 : Nat) (Option.none : Option Jvm.ClassFile.FieldType)).before args0 about1 = true := code_word (m := ⟨2, 6⟩) (meth := k2m6) (c := k2c6) (by decide +kernel) rfl rfl rfl (by decide +kernel)
set_option maxRecDepth 65536 in
theorem w_c11 : (Jvm.Cond.code ({ cls := "com/example/weir/weir/engine/TripleTable", name := "end", desc := "(I)J" } : Jvm.MethodName) prog_51_method_8_code (2 : Nat) (Option.some Jvm.ClassFile.FieldType.long)).before args0 about1 = true := code_word (m := ⟨2, 3⟩) (meth := k2m3) (c := k2c3) (by decide +kernel) rfl rfl rfl (by decide +kernel)
set_option maxRecDepth 65536 in
theorem w_c12 : (Jvm.Cond.code ({ cls := "com/example/weir/weir/engine/TripleTable", name := "putEnd", desc := "(IJ)V" } : Jvm.MethodName) prog_51_method_23_code (4 : Nat) (Option.none : Option Jvm.ClassFile.FieldType)).before args0 about1 = true := code_word (m := ⟨2, 7⟩) (meth := k2m7) (c := k2c7) (by decide +kernel) rfl rfl rfl (by decide +kernel)
set_option maxRecDepth 65536 in
theorem w_c13 : (Jvm.Cond.code ({ cls := "com/example/weir/weir/engine/TripleTable", name := "capacity", desc := "()I" } : Jvm.MethodName) prog_51_method_4_code (1 : Nat) (Option.some Jvm.ClassFile.FieldType.int)).before args0 about1 = true := code_word (m := ⟨2, 1⟩) (meth := k2m1) (c := k2c1) (by decide +kernel) rfl rfl rfl (by decide +kernel)
set_option maxRecDepth 65536 in
theorem w_c14 : (Jvm.Cond.code ({ cls := "java/util/Arrays", name := "fill", desc := "([JJ)V" } : Jvm.MethodName) jdk_65_method_101_code (5 : Nat) (Option.none : Option Jvm.ClassFile.FieldType)).before args0 about1 = true := code_word (m := ⟨8, 1⟩) (meth := k8m1) (c := k8c1) (by decide +kernel) rfl rfl rfl (by decide +kernel)
set_option maxRecDepth 65536 in
theorem w_c15 : (Jvm.Cond.code ({ cls := "com/example/weir/weir/engine/EndingList", name := "<init>", desc := "()V" } : Jvm.MethodName) prog_25_method_1_code (1 : Nat) (Option.none : Option Jvm.ClassFile.FieldType)).before args0 about1 = true := code_word (m := ⟨9, 0⟩) (meth := k9m0) (c := k9c0) (by decide +kernel) rfl rfl rfl (by decide +kernel)
set_option maxRecDepth 65536 in
theorem w_c16 : (Jvm.Cond.code ({ cls := "com/example/weir/weir/engine/EndingList", name := "add", desc := "(Lcom/example/weir/weir/engine/TripleTable;I)V" } : Jvm.MethodName) prog_25_method_6_code (3 : Nat) (Option.none : Option Jvm.ClassFile.FieldType)).before args0 about1 = true := code_word (m := ⟨9, 3⟩) (meth := k9m3) (c := k9c3) (by decide +kernel) rfl rfl rfl (by decide +kernel)
set_option maxRecDepth 65536 in
theorem w_c17 : (Jvm.Cond.code ({ cls := "com/example/weir/weir/engine/EndingList", name := "place", desc := "(Lcom/example/weir/weir/engine/TripleTable;I)V" } : Jvm.MethodName) prog_25_method_11_code (7 : Nat) (Option.none : Option Jvm.ClassFile.FieldType)).before args0 about1 = true := code_word (m := ⟨9, 5⟩) (meth := k9m5) (c := k9c5) (by decide +kernel) rfl rfl rfl (by decide +kernel)
set_option maxRecDepth 65536 in
theorem w_c18 : (Jvm.Cond.code ({ cls := "com/example/weir/weir/engine/TripleTable", name := "moves", desc := "(I)I" } : Jvm.MethodName) prog_51_method_15_code (2 : Nat) (Option.some Jvm.ClassFile.FieldType.int)).before args0 about1 = true := code_word (m := ⟨2, 5⟩) (meth := k2m5) (c := k2c5) (by decide +kernel) rfl rfl rfl (by decide +kernel)
set_option maxRecDepth 65536 in
theorem w_c19 : (Jvm.Cond.code ({ cls := "com/example/weir/weir/engine/EndingList", name := "dropEntriesNotCurrentIfMany", desc := "(Lcom/example/weir/weir/engine/TripleTable;)V" } : Jvm.MethodName) prog_25_method_13_code (2 : Nat) (Option.none : Option Jvm.ClassFile.FieldType)).before args0 about1 = true := code_word (m := ⟨9, 7⟩) (meth := k9m7) (c := k9c7) (by decide +kernel) rfl rfl rfl (by decide +kernel)
set_option maxRecDepth 65536 in
theorem w_c20 : (Jvm.Cond.code ({ cls := "com/example/weir/weir/engine/EndingList", name := "triple", desc := "(I)I" } : Jvm.MethodName) prog_25_method_4_code (2 : Nat) (Option.some Jvm.ClassFile.FieldType.int)).before args0 about1 = true := code_word (m := ⟨9, 2⟩) (meth := k9m2) (c := k9c2) (by decide +kernel) rfl rfl rfl (by decide +kernel)
set_option maxRecDepth 65536 in
theorem w_c21 : (Jvm.Cond.code ({ cls := "com/example/weir/weir/engine/EndingList", name := "renumber", desc := "([I)V" } : Jvm.MethodName) prog_25_method_10_code (7 : Nat) (Option.none : Option Jvm.ClassFile.FieldType)).before args0 about1 = true := code_word (m := ⟨9, 4⟩) (meth := k9m4) (c := k9c4) (by decide +kernel) rfl rfl rfl (by decide +kernel)
set_option maxRecDepth 65536 in
theorem w_c22 : (Jvm.Cond.code ({ cls := "com/example/weir/weir/engine/EndingList", name := "size", desc := "()I" } : Jvm.MethodName) prog_25_method_3_code (1 : Nat) (Option.some Jvm.ClassFile.FieldType.int)).before args0 about1 = true := code_word (m := ⟨9, 1⟩) (meth := k9m1) (c := k9c1) (by decide +kernel) rfl rfl rfl (by decide +kernel)
set_option maxRecDepth 65536 in
theorem w_c23 : (Jvm.Cond.code ({ cls := "com/example/weir/weir/engine/EndingList", name := "placeFirst", desc := "(Lcom/example/weir/weir/engine/TripleTable;I)V" } : Jvm.MethodName) prog_25_method_12_code (5 : Nat) (Option.none : Option Jvm.ClassFile.FieldType)).before args0 about1 = true := code_word (m := ⟨9, 6⟩) (meth := k9m6) (c := k9c6) (by decide +kernel) rfl rfl rfl (by decide +kernel)
set_option maxRecDepth 65536 in
theorem w_c24 : (Jvm.Cond.code ({ cls := "java/lang/Math", name := "max", desc := "(II)I" } : Jvm.MethodName) jdk_29_method_65_code (2 : Nat) (Option.some Jvm.ClassFile.FieldType.int)).before args0 about1 = true := code_word (m := ⟨11, 1⟩) (meth := k11m1) (c := k11c1) (by decide +kernel) rfl rfl rfl (by decide +kernel)
set_option maxRecDepth 65536 in
theorem w_c25 : (Jvm.Cond.code ({ cls := "com/example/weir/weir/engine/EndingList", name := "moveTo", desc := "(II)V" } : Jvm.MethodName) prog_25_method_16_code (4 : Nat) (Option.none : Option Jvm.ClassFile.FieldType)).before args0 about1 = true := code_word (m := ⟨9, 9⟩) (meth := k9m9) (c := k9c9) (by decide +kernel) rfl rfl rfl (by decide +kernel)
set_option maxRecDepth 65536 in
theorem w_c26 : (Jvm.Cond.code ({ cls := "com/example/weir/weir/engine/EndingList", name := "moveTo", desc := "(I)V" } : Jvm.MethodName) prog_25_method_15_code (2 : Nat) (Option.none : Option Jvm.ClassFile.FieldType)).before args0 about1 = true := code_word (m := ⟨9, 8⟩) (meth := k9m8) (c := k9c8) (by decide +kernel) rfl rfl rfl (by decide +kernel)
def codes1 : List Jvm.Cond := [Jvm.Cond.code x code maxLocals ret, Jvm.Cond.code ({ cls := "com/example/weir/weir/engine/TripleTable", name := "<init>", desc := "()V" } : Jvm.MethodName) prog_51_method_1_code (1 : Nat) (Option.none : Option Jvm.ClassFile.FieldType), Jvm.Cond.code ({ cls := "java/lang/Object", name := "<init>", desc := "()V" } : Jvm.MethodName) object_method_1_code (1 : Nat) (Option.none : Option Jvm.ClassFile.FieldType), Jvm.Cond.code ({ cls := "com/example/weir/weir/engine/Numbers", name := "<init>", desc := "()V" } : Jvm.MethodName) prog_42_method_1_code (1 : Nat) (Option.none : Option Jvm.ClassFile.FieldType), Jvm.Cond.code ({ cls := "com/example/weir/weir/engine/IntList", name := "<init>", desc := "()V" } : Jvm.MethodName) prog_28_method_1_code (1 : Nat) (Option.none : Option Jvm.ClassFile.FieldType), Jvm.Cond.code ({ cls := "com/example/weir/weir/engine/SubjectIndex", name := "<init>", desc := "(Lcom/example/weir/weir/engine/SubjectIndex$Terms;)V" } : Jvm.MethodName) prog_44_method_1_code (2 : Nat) (Option.none : Option Jvm.ClassFile.FieldType), Jvm.Cond.code ({ cls := "com/example/weir/weir/engine/IntIntMap", name := "<init>", desc := "()V" } : Jvm.MethodName) prog_27_method_1_code (1 : Nat) (Option.none : Option Jvm.ClassFile.FieldType), Jvm.Cond.code ({ cls := "com/example/weir/weir/engine/IntIntMap", name := "<init>", desc := "(I)V" } : Jvm.MethodName) prog_27_method_2_code (2 : Nat) (Option.none : Option Jvm.ClassFile.FieldType), Jvm.Cond.code ({ cls := "com/example/weir/weir/engine/IntIntMap", name := "emptyTable", desc := "(IZ)V" } : Jvm.MethodName) prog_27_method_22_code (3 : Nat) (Option.none : Option Jvm.ClassFile.FieldType), Jvm.Cond.code ({ cls := "com/example/weir/weir/engine/TripleTable", name := "setEnd", desc := "(IJ)V" } : Jvm.MethodName) prog_51_method_9_code (4 : Nat) (Option.none : Option Jvm.ClassFile.FieldType), Jvm.Cond.code ({ cls := "com/example/weir/weir/engine/TripleTable", name := "uncountEnd", desc := "(I)V" } : Jvm.MethodName) prog_51_method_22_code (4 : Nat) (Option.none : Option Jvm.ClassFile.FieldType), Jvm.Cond.code ({ cls := "com/example/weir/weir/engine/TripleTable", name := "end", desc := "(I)J" } : Jvm.MethodName) prog_51_method_8_code (2 : Nat) (Option.some Jvm.ClassFile.FieldType.long), Jvm.Cond.code ({ cls := "com/example/weir/weir/engine/TripleTable", name := "putEnd", desc := "(IJ)V" } : Jvm.MethodName) prog_51_method_23_code (4 : Nat) (Option.none : Option Jvm.ClassFile.FieldType), Jvm.Cond.code ({ cls := "com/example/weir/weir/engine/TripleTable", name := "capacity", desc := "()I" } : Jvm.MethodName) prog_51_method_4_code (1 : Nat) (Option.some Jvm.ClassFile.FieldType.int), Jvm.Cond.code ({ cls := "java/util/Arrays", name := "fill", desc := "([JJ)V" } : Jvm.MethodName) jdk_65_method_101_code (5 : Nat) (Option.none : Option Jvm.ClassFile.FieldType), Jvm.Cond.code ({ cls := "com/example/weir/weir/engine/EndingList", name := "<init>", desc := "()V" } : Jvm.MethodName) prog_25_method_1_code (1 : Nat) (Option.none : Option Jvm.ClassFile.FieldType), Jvm.Cond.code ({ cls := "com/example/weir/weir/engine/EndingList", name := "add", desc := "(Lcom/example/weir/weir/engine/TripleTable;I)V" } : Jvm.MethodName) prog_25_method_6_code (3 : Nat) (Option.none : Option Jvm.ClassFile.FieldType), Jvm.Cond.code ({ cls := "com/example/weir/weir/engine/EndingList", name := "place", desc := "(Lcom/example/weir/weir/engine/TripleTable;I)V" } : Jvm.MethodName) prog_25_method_11_code (7 : Nat) (Option.none : Option Jvm.ClassFile.FieldType), Jvm.Cond.code ({ cls := "com/example/weir/weir/engine/TripleTable", name := "moves", desc := "(I)I" } : Jvm.MethodName) prog_51_method_15_code (2 : Nat) (Option.some Jvm.ClassFile.FieldType.int), Jvm.Cond.code ({ cls := "com/example/weir/weir/engine/EndingList", name := "dropEntriesNotCurrentIfMany", desc := "(Lcom/example/weir/weir/engine/TripleTable;)V" } : Jvm.MethodName) prog_25_method_13_code (2 : Nat) (Option.none : Option Jvm.ClassFile.FieldType), Jvm.Cond.code ({ cls := "com/example/weir/weir/engine/EndingList", name := "triple", desc := "(I)I" } : Jvm.MethodName) prog_25_method_4_code (2 : Nat) (Option.some Jvm.ClassFile.FieldType.int), Jvm.Cond.code ({ cls := "com/example/weir/weir/engine/EndingList", name := "renumber", desc := "([I)V" } : Jvm.MethodName) prog_25_method_10_code (7 : Nat) (Option.none : Option Jvm.ClassFile.FieldType), Jvm.Cond.code ({ cls := "com/example/weir/weir/engine/EndingList", name := "size", desc := "()I" } : Jvm.MethodName) prog_25_method_3_code (1 : Nat) (Option.some Jvm.ClassFile.FieldType.int), Jvm.Cond.code ({ cls := "com/example/weir/weir/engine/EndingList", name := "placeFirst", desc := "(Lcom/example/weir/weir/engine/TripleTable;I)V" } : Jvm.MethodName) prog_25_method_12_code (5 : Nat) (Option.none : Option Jvm.ClassFile.FieldType), Jvm.Cond.code ({ cls := "java/lang/Math", name := "max", desc := "(II)I" } : Jvm.MethodName) jdk_29_method_65_code (2 : Nat) (Option.some Jvm.ClassFile.FieldType.int), Jvm.Cond.code ({ cls := "com/example/weir/weir/engine/EndingList", name := "moveTo", desc := "(II)V" } : Jvm.MethodName) prog_25_method_16_code (4 : Nat) (Option.none : Option Jvm.ClassFile.FieldType), Jvm.Cond.code ({ cls := "com/example/weir/weir/engine/EndingList", name := "moveTo", desc := "(I)V" } : Jvm.MethodName) prog_25_method_15_code (2 : Nat) (Option.none : Option Jvm.ClassFile.FieldType)]
set_option maxRecDepth 65536 in
theorem codes_eq : words1.filter isCode = codes1 := rfl
theorem w_codes : ∀ c ∈ words1.filter isCode, c.before args0 about1 = true := by
  rw [codes_eq]
  intro c hc
  simp only [codes1, List.mem_cons, List.not_mem_nil, or_false] at hc
  rcases hc with rfl | rfl | rfl | rfl | rfl | rfl | rfl | rfl | rfl | rfl | rfl | rfl | rfl | rfl | rfl | rfl | rfl | rfl | rfl | rfl | rfl | rfl | rfl | rfl | rfl | rfl | rfl
  · exact w_c0
  · exact w_c1
  · exact w_c2
  · exact w_c3
  · exact w_c4
  · exact w_c5
  · exact w_c6
  · exact w_c7
  · exact w_c8
  · exact w_c9
  · exact w_c10
  · exact w_c11
  · exact w_c12
  · exact w_c13
  · exact w_c14
  · exact w_c15
  · exact w_c16
  · exact w_c17
  · exact w_c18
  · exact w_c19
  · exact w_c20
  · exact w_c21
  · exact w_c22
  · exact w_c23
  · exact w_c24
  · exact w_c25
  · exact w_c26
set_option maxRecDepth 65536 in
theorem w_t1 : (words1.take 24).all (fun c => isCode c || c.before args0 about1) = true := by decide +kernel
set_option maxRecDepth 65536 in
theorem w_t2 : ((words1.drop 24).take 24).all (fun c => isCode c || c.before args0 about1) = true := by decide +kernel
set_option maxRecDepth 65536 in
theorem w_t3 : (((words1.drop 24).drop 24).take 24).all (fun c => isCode c || c.before args0 about1) = true := by decide +kernel
set_option maxRecDepth 65536 in
theorem w_t4 : ((((words1.drop 24).drop 24).drop 24).take 24).all (fun c => isCode c || c.before args0 about1) = true := by decide +kernel
set_option maxRecDepth 65536 in
theorem w_t5 : (((((words1.drop 24).drop 24).drop 24).drop 24).take 24).all (fun c => isCode c || c.before args0 about1) = true := by decide +kernel
set_option maxRecDepth 65536 in
theorem w_t6 : ((((((words1.drop 24).drop 24).drop 24).drop 24).drop 24).take 24).all (fun c => isCode c || c.before args0 about1) = true := by decide +kernel
set_option maxRecDepth 65536 in
theorem w_t7 : (((((((words1.drop 24).drop 24).drop 24).drop 24).drop 24).drop 24).take 24).all (fun c => isCode c || c.before args0 about1) = true := by decide +kernel
set_option maxRecDepth 65536 in
theorem w_t8 : ((((((((words1.drop 24).drop 24).drop 24).drop 24).drop 24).drop 24).drop 24).take 24).all (fun c => isCode c || c.before args0 about1) = true := by decide +kernel
set_option maxRecDepth 65536 in
theorem w_t9 : ((((((((words1.drop 24).drop 24).drop 24).drop 24).drop 24).drop 24).drop 24).drop 24).all (fun c => isCode c || c.before args0 about1) = true := by decide +kernel
theorem w_tables : (allAtoms (Jvm.Cond.code x code maxLocals ret :: tables_1)).before args0 about1 = true := by
  rw [allAtoms_all]
  show words1.all (fun c => c.before args0 about1) = true
  refine all_split ?_ w_codes
  rw [← List.take_append_drop 24 words1, List.all_append, w_t1, ← List.take_append_drop 24 (words1.drop 24), List.all_append, w_t2, ← List.take_append_drop 24 ((words1.drop 24).drop 24), List.all_append, w_t3, ← List.take_append_drop 24 (((words1.drop 24).drop 24).drop 24), List.all_append, w_t4, ← List.take_append_drop 24 ((((words1.drop 24).drop 24).drop 24).drop 24), List.all_append, w_t5, ← List.take_append_drop 24 (((((words1.drop 24).drop 24).drop 24).drop 24).drop 24), List.all_append, w_t6, ← List.take_append_drop 24 ((((((words1.drop 24).drop 24).drop 24).drop 24).drop 24).drop 24), List.all_append, w_t7, ← List.take_append_drop 24 (((((((words1.drop 24).drop 24).drop 24).drop 24).drop 24).drop 24).drop 24), List.all_append, w_t8, w_t9]
  rfl
set_option maxRecDepth 65536 in
theorem w_case : (Jvm.Cond.and given_1 narrow_1).before args0 about1 = true := by decide +kernel
theorem w_applies : (headSpec (Jvm.Cond.code x code maxLocals ret :: tables_1) room_1).applies x e0.platform about1 = true :=
  (Spec.applies_iff w_frames).mpr ⟨w_running, w_runnable, w_alone, w_named, w_hears, w_ripe, w_room, w_tables⟩
theorem atStart : AtStart classFile x code maxLocals ret World_1 tables_1 room_1 Calls_1 rest_1 Pre_1 launch0 p0 e0 about1 theMethod args0 below0 :=
  ⟨lists_1, trivial, launch0.admits_env _ _ _, launch0.least_env, fairChoices_fair.cas, fairChoices_fair.clock, w_frames, w_args, w_heap, w_applies, trivial, trivial, w_case⟩
end start1
theorem witness_1 : WitnessClaimed_1 := ⟨start1.p0, start1.e0, start1.about1, start1.theMethod, start1.args0, start1.below0, start1.atStart⟩
end Jvm.Pilot.@@N@@
