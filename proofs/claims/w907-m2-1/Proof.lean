import JvmDerived
import JvmDerived.Pilot.@@N@@Statement
import JvmDerived.Pilot.@@N@@Code
set_option linter.unusedVariables false
set_option linter.unusedSimpArgs false
@@BLOCK:LamKit.lean.txt@@
namespace Jvm.OwnW
open Sem ClassFile Op Lib Jvm.Stand Jvm.Free Jvm.LawKit Jvm.RoadKit
/-- false: nothing may have been interned; true: the wide word -/
def Md (w : Bool) (s : State) (vm0 : Vm) (n : Nat) : Prop := (w = false → vm0 = s.vm) ∧ ∃ k0, s.Since vm0 k0 ∧ k0 ≤ n
theorem Md.mono {w : Bool} {s : State} {vm0 : Vm} {n n' : Nat} (h : Md w s vm0 n) (q : n ≤ n') : Md w s vm0 n' := ⟨h.1, h.2.imp fun _ r => ⟨r.1, Nat.le_trans r.2 q⟩⟩
theorem Md.start (w : Bool) (s : State) (n : Nat) : Md w s s.vm n := ⟨fun _ => rfl, 0, (State.WarmedH.refl s).since 0, Nat.zero_le _⟩
def EndF (w : Bool) (s : State) (o : Outcome) (t : State) (L : List Loc) (k n : Nat) : Prop := match w with
  | false => FrameEnd s o t L k n
  | true => ReturnedEndW s o t L k n
abbrev Kx : Type := Bool × Program × Launch × Env × Room × State × MethodId × Array Value × List Frame × Method × Code × State × String × Nat × (Option Value → Heap → Prop)
abbrev Kx.w (κ : Kx) : Bool := κ.1
abbrev Kx.p (κ : Kx) : Program := κ.2.1
abbrev Kx.l (κ : Kx) : Launch := κ.2.2.1
abbrev Kx.e (κ : Kx) : Env := κ.2.2.2.1
abbrev Kx.R (κ : Kx) : Room := κ.2.2.2.2.1
abbrev Kx.s (κ : Kx) : State := κ.2.2.2.2.2.1
abbrev Kx.m (κ : Kx) : MethodId := κ.2.2.2.2.2.2.1
abbrev Kx.a (κ : Kx) : Array Value := κ.2.2.2.2.2.2.2.1
abbrev Kx.below (κ : Kx) : List Frame := κ.2.2.2.2.2.2.2.2.1
abbrev Kx.meth (κ : Kx) : Method := κ.2.2.2.2.2.2.2.2.2.1
abbrev Kx.c (κ : Kx) : Code := κ.2.2.2.2.2.2.2.2.2.2.1
abbrev Kx.Z (κ : Kx) : State := κ.2.2.2.2.2.2.2.2.2.2.2.1
abbrev Kx.own (κ : Kx) : String := κ.2.2.2.2.2.2.2.2.2.2.2.2.1
abbrev Kx.n0 (κ : Kx) : Nat := κ.2.2.2.2.2.2.2.2.2.2.2.2.2.1
abbrev Kx.Q (κ : Kx) : Option Value → Heap → Prop := κ.2.2.2.2.2.2.2.2.2.2.2.2.2.2
/-- the body's run from T with the frame g ends as κ.Q says -/
def Ends (κ : Kx) (T : State) (g : JFrame) : Prop := ∃ (t : State) (o : Outcome), Steps κ.p.tables κ.e κ.below (T.setTop g) t ∧ t.status = .running ∧ Ended t κ.below o ∧ ∃ v L, o = .returned v ∧ (κ.Q v t.heap ∧ Fr κ.n0 L) ∧ EndF κ.w κ.s o t L κ.R.cells κ.R.slots
def WP (κ : Kx) (h : Heap) (k n : Nat) (g : JFrame) : Prop :=
  ∀ (T : State) (locs : List Loc) (vm0 : Vm), Stand κ.p κ.l κ.e κ.R (κ.s.setVm vm0) κ.m κ.a κ.below κ.meth κ.c T locs k n → T.heap = h → Md κ.w κ.s vm0 h.size → κ.Z.Warmed39 vm0 → vm0.findClass κ.own = some κ.m.cls → Fr κ.n0 locs → Ends κ T g
/-- what stands fast through a body's walk -/
def Cx (κ : Kx) (w : Bool) (l : Launch) (Z : State) (own : String) (n0 : Nat) (rm : Room) (bytes : ByteArray) (maxL : Nat) (ret : Option FieldType) (nm : String) (Q : Option Value → Heap → Prop) : Prop :=
  κ.p.tables.exec = Jvm.exec ∧ κ.c.code = bytes ∧ κ.c.maxLocals = maxL ∧ κ.meth.sig.returnType = ret ∧ κ.meth.locks = false ∧ κ.meth.name = nm ∧ κ.w = w ∧ κ.l = l ∧ κ.Z = Z ∧ κ.own = own ∧ κ.n0 = n0 ∧ κ.R = rm ∧ κ.Q = Q
/-- a body's contract -/
def Met (w : Bool) (l : Launch) (Z : State) (y : MethodName) (bytes : ByteArray) (maxL : Nat) (ret : Option FieldType) (ws : List Cond) (rm : Room) (as' : Array Value) (h0 : Heap) (n0 : Nat) (Q : Option Value → Heap → Prop) : Prop :=
  MetFree l y (head1 (Cond.code y bytes maxL ret :: ws) rm) (fun a U => a = as' ∧ Z.Warmed39 U.vm ∧ U.heap = h0) (fun _ _ _ _ _ => True) (fun _ U o U' => ∃ v L, o = .returned v ∧ (Q v U'.heap ∧ Fr n0 L) ∧ EndF w U o U' L rm.cells rm.slots)
theorem Met.of {w : Bool} {l : Launch} {Z : State} {y : MethodName} {bytes : ByteArray} {maxL : Nat} {ret : Option FieldType} {ws : List Cond} {rm : Room} {as' : Array Value} {h0 : Heap} {n0 : Nat} {Q : Option Value → Heap → Prop} (hp : plainFor y = true)
    (body : ∀ κ : Kx, Cx κ w l Z y.cls n0 rm bytes maxL ret y.name Q → WP κ h0 0 0 (entryFrame κ.m as' maxL)) : Met w l Z y bytes maxL ret ws rm as' h0 n0 Q := by
  refine MetFree.of_bodySF hp hisR ?_
  intro p e s m args below meth c s₁ Bd hml0 hP hK
  obtain ⟨rfl, hZ, hh⟩ := hP
  exact body (w, p, l, e, rm, s, m, args, below, meth, c, Z, y.cls, n0, Q) ⟨Bd.exec, Bd.bytes, hml0, Bd.returns, Bd.notSynchronized, (name_of_methodNamed Bd.named Bd.method).1, rfl, rfl, rfl, rfl, rfl, rfl, rfl⟩ s₁ [] s.vm (Stand.of_body Bd) (by rw [← hh, Bd.state]; rfl) (Md.start _ _ _) hZ (findClass_of_methodNamed Bd.named) (Fr.nil n0)
theorem Met.ofN {w : Bool} {l : Launch} {Z : State} {y : MethodName} {bytes : ByteArray} {maxL : Nat} {ret : Option FieldType} {ws : List Cond} {rm : Room} {as' : Array Value} {h0 : Heap} {n0 : Nat} {Q : Option Value → Heap → Prop} (hp : plainFor y = true)
    (body : ∀ κ : Kx, Cx κ w l Z y.cls n0 rm bytes maxL ret y.name Q → Z.methodNamed? y = some κ.m → WP κ h0 0 0 (entryFrame κ.m as' maxL)) : Met w l Z y bytes maxL ret ws rm as' h0 n0 Q := by
  refine MetFree.of_bodySF hp hisR ?_
  intro p e s m args below meth c s₁ Bd hml0 hP hK
  obtain ⟨rfl, hZ, hh⟩ := hP
  have hN : Z.methodNamed? y = some m := by
    have q := State.methodNamed?_setVm hZ.alike y
    rw [show (Z.setVm s.vm).methodNamed? y = s.methodNamed? y from congrFun (State.methodNamed?_of_vm rfl) y] at q
    exact q.symm.trans Bd.named
  exact body (w, p, l, e, rm, s, m, args, below, meth, c, Z, y.cls, n0, Q) ⟨Bd.exec, Bd.bytes, hml0, Bd.returns, Bd.notSynchronized, (name_of_methodNamed Bd.named Bd.method).1, rfl, rfl, rfl, rfl, rfl, rfl, rfl⟩ hN s₁ [] s.vm (Stand.of_body Bd) (by rw [← hh, Bd.state]; rfl) (Md.start _ _ _) hZ (findClass_of_methodNamed Bd.named) (Fr.nil n0)
theorem EndF.widen {w : Bool} {s : State} {o : Outcome} {t : State} {L : List Loc} {k n : Nat} (h : EndF w s o t L k n) : ReturnedEndW s o t L k n := by
  cases w
  · exact ReturnedEndW.of_narrow h.1 h.2.1 h.2.2
  · exact h
section Rules
variable {κ : Kx} {w : Bool} {l : Launch} {Z : State} {own nm : String} {n0 : Nat} {rm : Room} {bytes : ByteArray} {maxL : Nat} {ret : Option FieldType} {Q : Option Value → Heap → Prop} {h h' : Heap} {k n k' n' : Nat} {pc pc' : Nat} {L L' : Array Slot} {S : List Value} {a0 : Array Value}
theorem WP.go {g g' : JFrame} (st : ∀ (T : State) (locs : List Loc) (vm0 : Vm), Stand κ.p κ.l κ.e κ.R (κ.s.setVm vm0) κ.m κ.a κ.below κ.meth κ.c T locs k n → T.heap = h → κ.Z.Warmed39 vm0 → vm0.findClass κ.own = some κ.m.cls → ∀ t, Steps κ.p.tables κ.e κ.below (T.setTop g') t → Steps κ.p.tables κ.e κ.below (T.setTop g) t)
    (H : WP κ h k n g') : WP κ h k n g := fun T locs vm0 X e M hZ ho N => by
  obtain ⟨t, o, h1, r⟩ := H T locs vm0 X e M hZ ho N
  exact ⟨t, o, st T locs vm0 X e hZ ho t h1, r⟩
theorem WP.frame {g g' : JFrame} (q : g = g') (H : WP κ h k n g') : WP κ h k n g := q ▸ H
theorem WP.more {g : JFrame} (H : WP κ h k' n' g) (hk : k ≤ k') (hn : n ≤ n') : WP κ h k n g := fun T locs vm0 X e M hZ ho N => H T locs vm0 (X.mono hk hn) e M hZ ho N
/-- a pure stretch with several roads that meet again -/
theorem WP.meet {g g' : JFrame} (H : WP κ h k n g' → WP κ h k n g) (K : WP κ h k n g') : WP κ h k n g := H K
theorem WP.iadd (K : Cx κ w l Z own n0 rm bytes maxL ret nm Q) {x y : Int32} (hd : decode bytes pc = .ok (.iadd, 1))  (hp : pc + 1 = pc') (H : WP κ h k n (mkF κ.m pc' L (.int (x + y) :: S))) : WP κ h k n (mkF κ.m pc L (.int y :: .int x :: S)) := by
  obtain ⟨hx, hby, -⟩ := K
  subst hp
  exact WP.go (fun T locs vm0 X e hZ ho t k => XS.iadd X.here hx rfl (hb hby hd) rfl k) H
theorem WP.isub (K : Cx κ w l Z own n0 rm bytes maxL ret nm Q) {x y : Int32} (hd : decode bytes pc = .ok (.isub, 1))  (hp : pc + 1 = pc') (H : WP κ h k n (mkF κ.m pc' L (.int (x - y) :: S))) : WP κ h k n (mkF κ.m pc L (.int y :: .int x :: S)) := by
  obtain ⟨hx, hby, -⟩ := K
  subst hp
  exact WP.go (fun T locs vm0 X e hZ ho t k => XS.isub X.here hx rfl (hb hby hd) rfl k) H
theorem WP.imul (K : Cx κ w l Z own n0 rm bytes maxL ret nm Q) {x y : Int32} (hd : decode bytes pc = .ok (.imul, 1))  (hp : pc + 1 = pc') (H : WP κ h k n (mkF κ.m pc' L (.int (x * y) :: S))) : WP κ h k n (mkF κ.m pc L (.int y :: .int x :: S)) := by
  obtain ⟨hx, hby, -⟩ := K
  subst hp
  exact WP.go (fun T locs vm0 X e hZ ho t k => XS.imul X.here hx rfl (hb hby hd) rfl k) H
theorem WP.iand (K : Cx κ w l Z own n0 rm bytes maxL ret nm Q) {x y : Int32} (hd : decode bytes pc = .ok (.iand, 1))  (hp : pc + 1 = pc') (H : WP κ h k n (mkF κ.m pc' L (.int (x &&& y) :: S))) : WP κ h k n (mkF κ.m pc L (.int y :: .int x :: S)) := by
  obtain ⟨hx, hby, -⟩ := K
  subst hp
  exact WP.go (fun T locs vm0 X e hZ ho t k => XS.iand X.here hx rfl (hb hby hd) rfl k) H
theorem WP.ixor (K : Cx κ w l Z own n0 rm bytes maxL ret nm Q) {x y : Int32} (hd : decode bytes pc = .ok (.ixor, 1))  (hp : pc + 1 = pc') (H : WP κ h k n (mkF κ.m pc' L (.int (x ^^^ y) :: S))) : WP κ h k n (mkF κ.m pc L (.int y :: .int x :: S)) := by
  obtain ⟨hx, hby, -⟩ := K
  subst hp
  exact WP.go (fun T locs vm0 X e hZ ho t k => XS.ixor X.here hx rfl (hb hby hd) rfl k) H
theorem WP.ior (K : Cx κ w l Z own n0 rm bytes maxL ret nm Q) {x y : Int32} (hd : decode bytes pc = .ok (.ior, 1))  (hp : pc + 1 = pc') (H : WP κ h k n (mkF κ.m pc' L (.int (x ||| y) :: S))) : WP κ h k n (mkF κ.m pc L (.int y :: .int x :: S)) := by
  obtain ⟨hx, hby, -⟩ := K
  subst hp
  exact WP.go (fun T locs vm0 X e hZ ho t k => XS.ior X.here hx rfl (hb hby hd) rfl k) H
theorem WP.ishl (K : Cx κ w l Z own n0 rm bytes maxL ret nm Q) {x y : Int32} (hd : decode bytes pc = .ok (.ishl, 1))  (hp : pc + 1 = pc') (H : WP κ h k n (mkF κ.m pc' L (.int (x <<< (y &&& 31)) :: S))) : WP κ h k n (mkF κ.m pc L (.int y :: .int x :: S)) := by
  obtain ⟨hx, hby, -⟩ := K
  subst hp
  exact WP.go (fun T locs vm0 X e hZ ho t k => XS.ishl X.here hx rfl (hb hby hd) rfl k) H
theorem WP.ishr (K : Cx κ w l Z own n0 rm bytes maxL ret nm Q) {x y : Int32} (hd : decode bytes pc = .ok (.ishr, 1))  (hp : pc + 1 = pc') (H : WP κ h k n (mkF κ.m pc' L (.int (x >>> (y &&& 31)) :: S))) : WP κ h k n (mkF κ.m pc L (.int y :: .int x :: S)) := by
  obtain ⟨hx, hby, -⟩ := K
  subst hp
  exact WP.go (fun T locs vm0 X e hZ ho t k => XS.ishr X.here hx rfl (hb hby hd) rfl k) H
theorem WP.iushr (K : Cx κ w l Z own n0 rm bytes maxL ret nm Q) {x y : Int32} (hd : decode bytes pc = .ok (.iushr, 1))  (hp : pc + 1 = pc') (H : WP κ h k n (mkF κ.m pc' L (.int ((x.toUInt32 >>> (y &&& 31).toUInt32).toInt32) :: S))) : WP κ h k n (mkF κ.m pc L (.int y :: .int x :: S)) := by
  obtain ⟨hx, hby, -⟩ := K
  subst hp
  exact WP.go (fun T locs vm0 X e hZ ho t k => XS.iushr X.here hx rfl (hb hby hd) rfl k) H
theorem WP.ladd (K : Cx κ w l Z own n0 rm bytes maxL ret nm Q) {x y : Int64} (hd : decode bytes pc = .ok (.ladd, 1))  (hp : pc + 1 = pc') (H : WP κ h k n (mkF κ.m pc' L (.long (x + y) :: S))) : WP κ h k n (mkF κ.m pc L (.long y :: .long x :: S)) := by
  obtain ⟨hx, hby, -⟩ := K
  subst hp
  exact WP.go (fun T locs vm0 X e hZ ho t k => XS.ladd X.here hx rfl (hb hby hd) rfl k) H
theorem WP.lsub (K : Cx κ w l Z own n0 rm bytes maxL ret nm Q) {x y : Int64} (hd : decode bytes pc = .ok (.lsub, 1))  (hp : pc + 1 = pc') (H : WP κ h k n (mkF κ.m pc' L (.long (x - y) :: S))) : WP κ h k n (mkF κ.m pc L (.long y :: .long x :: S)) := by
  obtain ⟨hx, hby, -⟩ := K
  subst hp
  exact WP.go (fun T locs vm0 X e hZ ho t k => XS.lsub X.here hx rfl (hb hby hd) rfl k) H
theorem WP.lmul (K : Cx κ w l Z own n0 rm bytes maxL ret nm Q) {x y : Int64} (hd : decode bytes pc = .ok (.lmul, 1))  (hp : pc + 1 = pc') (H : WP κ h k n (mkF κ.m pc' L (.long (x * y) :: S))) : WP κ h k n (mkF κ.m pc L (.long y :: .long x :: S)) := by
  obtain ⟨hx, hby, -⟩ := K
  subst hp
  exact WP.go (fun T locs vm0 X e hZ ho t k => XS.lmul X.here hx rfl (hb hby hd) rfl k) H
theorem WP.land (K : Cx κ w l Z own n0 rm bytes maxL ret nm Q) {x y : Int64} (hd : decode bytes pc = .ok (.land, 1))  (hp : pc + 1 = pc') (H : WP κ h k n (mkF κ.m pc' L (.long (x &&& y) :: S))) : WP κ h k n (mkF κ.m pc L (.long y :: .long x :: S)) := by
  obtain ⟨hx, hby, -⟩ := K
  subst hp
  exact WP.go (fun T locs vm0 X e hZ ho t k => XS.land X.here hx rfl (hb hby hd) rfl k) H
theorem WP.lor (K : Cx κ w l Z own n0 rm bytes maxL ret nm Q) {x y : Int64} (hd : decode bytes pc = .ok (.lor, 1))  (hp : pc + 1 = pc') (H : WP κ h k n (mkF κ.m pc' L (.long (x ||| y) :: S))) : WP κ h k n (mkF κ.m pc L (.long y :: .long x :: S)) := by
  obtain ⟨hx, hby, -⟩ := K
  subst hp
  exact WP.go (fun T locs vm0 X e hZ ho t k => XS.lor X.here hx rfl (hb hby hd) rfl k) H
theorem WP.lxor (K : Cx κ w l Z own n0 rm bytes maxL ret nm Q) {x y : Int64} (hd : decode bytes pc = .ok (.lxor, 1))  (hp : pc + 1 = pc') (H : WP κ h k n (mkF κ.m pc' L (.long (x ^^^ y) :: S))) : WP κ h k n (mkF κ.m pc L (.long y :: .long x :: S)) := by
  obtain ⟨hx, hby, -⟩ := K
  subst hp
  exact WP.go (fun T locs vm0 X e hZ ho t k => XS.lxor X.here hx rfl (hb hby hd) rfl k) H
theorem WP.idiv (K : Cx κ w l Z own n0 rm bytes maxL ret nm Q) {x y : Int32} (hd : decode bytes pc = .ok (.idiv, 1)) (hy : y ≠ 0) (hp : pc + 1 = pc') (H : WP κ h k n (mkF κ.m pc' L (.int (x / y) :: S))) : WP κ h k n (mkF κ.m pc L (.int y :: .int x :: S)) := by
  obtain ⟨hx, hby, -⟩ := K
  subst hp
  exact WP.go (fun T locs vm0 X e hZ ho t k => XS.idiv X.here hx rfl (hb hby hd) rfl hy k) H
theorem WP.irem (K : Cx κ w l Z own n0 rm bytes maxL ret nm Q) {x y : Int32} (hd : decode bytes pc = .ok (.irem, 1)) (hy : y ≠ 0) (hp : pc + 1 = pc') (H : WP κ h k n (mkF κ.m pc' L (.int (x % y) :: S))) : WP κ h k n (mkF κ.m pc L (.int y :: .int x :: S)) := by
  obtain ⟨hx, hby, -⟩ := K
  subst hp
  exact WP.go (fun T locs vm0 X e hZ ho t k => iremM X hx rfl (hb hby hd) rfl hy k) H
theorem WP.ldiv (K : Cx κ w l Z own n0 rm bytes maxL ret nm Q) {x y : Int64} (hd : decode bytes pc = .ok (.ldiv, 1)) (hy : y ≠ 0) (hp : pc + 1 = pc') (H : WP κ h k n (mkF κ.m pc' L (.long (x / y) :: S))) : WP κ h k n (mkF κ.m pc L (.long y :: .long x :: S)) := by
  obtain ⟨hx, hby, -⟩ := K
  subst hp
  exact WP.go (fun T locs vm0 X e hZ ho t k => XT.ldiv X.here hx rfl (hb hby hd) rfl hy k) H
theorem WP.lrem (K : Cx κ w l Z own n0 rm bytes maxL ret nm Q) {x y : Int64} (hd : decode bytes pc = .ok (.lrem, 1)) (hy : y ≠ 0) (hp : pc + 1 = pc') (H : WP κ h k n (mkF κ.m pc' L (.long (x % y) :: S))) : WP κ h k n (mkF κ.m pc L (.long y :: .long x :: S)) := by
  obtain ⟨hx, hby, -⟩ := K
  subst hp
  exact WP.go (fun T locs vm0 X e hZ ho t k => XT.lrem X.here hx rfl (hb hby hd) rfl hy (by rw [lrem_mod]; exact k)) H
theorem WP.ineg (K : Cx κ w l Z own n0 rm bytes maxL ret nm Q) {x : Int32} (hd : decode bytes pc = .ok (.ineg, 1))  (hp : pc + 1 = pc') (H : WP κ h k n (mkF κ.m pc' L (.int (-x) :: S))) : WP κ h k n (mkF κ.m pc L (.int x :: S)) := by
  obtain ⟨hx, hby, -⟩ := K
  subst hp
  exact WP.go (fun T locs vm0 X e hZ ho t k => XS.ineg X.here hx rfl (hb hby hd) rfl k) H
theorem WP.lneg (K : Cx κ w l Z own n0 rm bytes maxL ret nm Q) {x : Int64} (hd : decode bytes pc = .ok (.lneg, 1))  (hp : pc + 1 = pc') (H : WP κ h k n (mkF κ.m pc' L (.long (-x) :: S))) : WP κ h k n (mkF κ.m pc L (.long x :: S)) := by
  obtain ⟨hx, hby, -⟩ := K
  subst hp
  exact WP.go (fun T locs vm0 X e hZ ho t k => XT.lneg X.here hx rfl (hb hby hd) rfl k) H
theorem WP.lshl (K : Cx κ w l Z own n0 rm bytes maxL ret nm Q) {x : Int64} {y : Int32} (hd : decode bytes pc = .ok (.lshl, 1))  (hp : pc + 1 = pc') (H : WP κ h k n (mkF κ.m pc' L (.long (x <<< (y &&& 0x3f).toInt64) :: S))) : WP κ h k n (mkF κ.m pc L (.int y :: .long x :: S)) := by
  obtain ⟨hx, hby, -⟩ := K
  subst hp
  exact WP.go (fun T locs vm0 X e hZ ho t k => XS.lshl X.here hx rfl (hb hby hd) rfl k) H
theorem WP.lshr (K : Cx κ w l Z own n0 rm bytes maxL ret nm Q) {x : Int64} {y : Int32} (hd : decode bytes pc = .ok (.lshr, 1))  (hp : pc + 1 = pc') (H : WP κ h k n (mkF κ.m pc' L (.long (x >>> (y &&& 0x3f).toInt64) :: S))) : WP κ h k n (mkF κ.m pc L (.int y :: .long x :: S)) := by
  obtain ⟨hx, hby, -⟩ := K
  subst hp
  exact WP.go (fun T locs vm0 X e hZ ho t k => XS.lshr X.here hx rfl (hb hby hd) rfl k) H
theorem WP.lushr (K : Cx κ w l Z own n0 rm bytes maxL ret nm Q) {x : Int64} {y : Int32} (hd : decode bytes pc = .ok (.lushr, 1))  (hp : pc + 1 = pc') (H : WP κ h k n (mkF κ.m pc' L (.long ((x.toUInt64 >>> (y &&& 0x3f).toInt64.toUInt64).toInt64) :: S))) : WP κ h k n (mkF κ.m pc L (.int y :: .long x :: S)) := by
  obtain ⟨hx, hby, -⟩ := K
  subst hp
  exact WP.go (fun T locs vm0 X e hZ ho t k => XS.lushr X.here hx rfl (hb hby hd) rfl k) H
theorem WP.i2l (K : Cx κ w l Z own n0 rm bytes maxL ret nm Q) {x : Int32} (hd : decode bytes pc = .ok (.i2l, 1))  (hp : pc + 1 = pc') (H : WP κ h k n (mkF κ.m pc' L (.long (x.toInt64) :: S))) : WP κ h k n (mkF κ.m pc L (.int x :: S)) := by
  obtain ⟨hx, hby, -⟩ := K
  subst hp
  exact WP.go (fun T locs vm0 X e hZ ho t k => XS.i2l X.here hx rfl (hb hby hd) rfl k) H
theorem WP.l2i (K : Cx κ w l Z own n0 rm bytes maxL ret nm Q) {x : Int64} (hd : decode bytes pc = .ok (.l2i, 1))  (hp : pc + 1 = pc') (H : WP κ h k n (mkF κ.m pc' L (.int (x.toInt32) :: S))) : WP κ h k n (mkF κ.m pc L (.long x :: S)) := by
  obtain ⟨hx, hby, -⟩ := K
  subst hp
  exact WP.go (fun T locs vm0 X e hZ ho t k => XS.l2i X.here hx rfl (hb hby hd) rfl k) H
theorem WP.i2b (K : Cx κ w l Z own n0 rm bytes maxL ret nm Q) {x : Int32} (hd : decode bytes pc = .ok (.i2b, 1))  (hp : pc + 1 = pc') (H : WP κ h k n (mkF κ.m pc' L (.int (x.toInt8.toInt32) :: S))) : WP κ h k n (mkF κ.m pc L (.int x :: S)) := by
  obtain ⟨hx, hby, -⟩ := K
  subst hp
  exact WP.go (fun T locs vm0 X e hZ ho t k => XS.i2b X.here hx rfl (hb hby hd) rfl k) H
theorem WP.i2c (K : Cx κ w l Z own n0 rm bytes maxL ret nm Q) {x : Int32} (hd : decode bytes pc = .ok (.i2c, 1))  (hp : pc + 1 = pc') (H : WP κ h k n (mkF κ.m pc' L (.int (x.toUInt32.toUInt16.toUInt32.toInt32) :: S))) : WP κ h k n (mkF κ.m pc L (.int x :: S)) := by
  obtain ⟨hx, hby, -⟩ := K
  subst hp
  exact WP.go (fun T locs vm0 X e hZ ho t k => XS.i2c X.here hx rfl (hb hby hd) rfl k) H
theorem WP.i2s (K : Cx κ w l Z own n0 rm bytes maxL ret nm Q) {x : Int32} (hd : decode bytes pc = .ok (.i2s, 1))  (hp : pc + 1 = pc') (H : WP κ h k n (mkF κ.m pc' L (.int (x.toInt16.toInt32) :: S))) : WP κ h k n (mkF κ.m pc L (.int x :: S)) := by
  obtain ⟨hx, hby, -⟩ := K
  subst hp
  exact WP.go (fun T locs vm0 X e hZ ho t k => XS.i2s X.here hx rfl (hb hby hd) rfl k) H
theorem WP.lcmp (K : Cx κ w l Z own n0 rm bytes maxL ret nm Q) {x y : Int64} (hd : decode bytes pc = .ok (.lcmp, 1))  (hp : pc + 1 = pc') (H : WP κ h k n (mkF κ.m pc' L (.int (lcmpW x y) :: S))) : WP κ h k n (mkF κ.m pc L (.long y :: .long x :: S)) := by
  obtain ⟨hx, hby, -⟩ := K
  subst hp
  exact WP.go (fun T locs vm0 X e hZ ho t k => XS.lcmp X.here hx rfl (hb hby hd) rfl k) H
theorem WP.iconst (K : Cx κ w l Z own n0 rm bytes maxL ret nm Q) {i : Int} {v : Int32} (hd : decode bytes pc = .ok (.iconst i, 1)) (hv : Int32.ofInt i = v) (hp : pc + 1 = pc') (H : WP κ h k n (mkF κ.m pc' L (.int v :: S))) : WP κ h k n (mkF κ.m pc L (S)) := by
  obtain ⟨hx, hby, -⟩ := K
  subst hp
  exact WP.go (fun T locs vm0 X e hZ ho t k => XT.iconstV X.here hx rfl v (hb hby hd) hv k) H
theorem WP.bipush (K : Cx κ w l Z own n0 rm bytes maxL ret nm Q) {i : Int} {v : Int32} (hd : decode bytes pc = .ok (.bipush i, 2)) (hv : (Int8.ofInt i).toInt32 = v) (hp : pc + 2 = pc') (H : WP κ h k n (mkF κ.m pc' L (.int v :: S))) : WP κ h k n (mkF κ.m pc L (S)) := by
  obtain ⟨hx, hby, -⟩ := K
  subst hp
  exact WP.go (fun T locs vm0 X e hZ ho t k => XT.bipushV X.here hx rfl v (hb hby hd) hv k) H
theorem WP.sipush (K : Cx κ w l Z own n0 rm bytes maxL ret nm Q) {i : Int} {v : Int32} (hd : decode bytes pc = .ok (.sipush i, 3)) (hv : (Int16.ofInt i).toInt32 = v) (hp : pc + 3 = pc') (H : WP κ h k n (mkF κ.m pc' L (.int v :: S))) : WP κ h k n (mkF κ.m pc L (S)) := by
  obtain ⟨hx, hby, -⟩ := K
  subst hp
  exact WP.go (fun T locs vm0 X e hZ ho t k => XT.sipushV X.here hx rfl v (hb hby hd) hv k) H
theorem WP.lconst (K : Cx κ w l Z own n0 rm bytes maxL ret nm Q) {i : Fin 2} {v : Int64} (hd : decode bytes pc = .ok (.lconst i, 1)) (hv : Int64.ofNat i = v) (hp : pc + 1 = pc') (H : WP κ h k n (mkF κ.m pc' L (.long v :: S))) : WP κ h k n (mkF κ.m pc L (S)) := by
  obtain ⟨hx, hby, -⟩ := K
  subst hp
  exact WP.go (fun T locs vm0 X e hZ ho t k => XT.lconstV X.here hx rfl v (hb hby hd) hv k) H
theorem WP.aconst_null (K : Cx κ w l Z own n0 rm bytes maxL ret nm Q)  (hd : decode bytes pc = .ok (.aconst_null, 1))  (hp : pc + 1 = pc') (H : WP κ h k n (mkF κ.m pc' L (.null :: S))) : WP κ h k n (mkF κ.m pc L (S)) := by
  obtain ⟨hx, hby, -⟩ := K
  subst hp
  exact WP.go (fun T locs vm0 X e hZ ho t k => XS.aconstNull X.here hx rfl (hb hby hd) k) H
theorem WP.iloadN (K : Cx κ w l Z own n0 rm bytes maxL ret nm Q) {j : Fin 4} {v : Int32} (hd : decode bytes pc = .ok (.iload_n j, 1)) (hl : L[j.val]? = some (.val (.int v))) (hp : pc + 1 = pc') (H : WP κ h k n (mkF κ.m pc' L (.int v :: S))) : WP κ h k n (mkF κ.m pc L (S)) := by
  obtain ⟨hx, hby, -⟩ := K
  subst hp
  exact WP.go (fun T locs vm0 X e hZ ho t k => XS.iloadN X.here hx rfl (hb hby hd) hl k) H
theorem WP.iload (K : Cx κ w l Z own n0 rm bytes maxL ret nm Q) {j : Nat} {v : Int32} (hd : decode bytes pc = .ok (.iload j, 2)) (hl : L[j]? = some (.val (.int v))) (hp : pc + 2 = pc') (H : WP κ h k n (mkF κ.m pc' L (.int v :: S))) : WP κ h k n (mkF κ.m pc L (S)) := by
  obtain ⟨hx, hby, -⟩ := K
  subst hp
  exact WP.go (fun T locs vm0 X e hZ ho t k => XS.iload X.here hx rfl (hb hby hd) hl k) H
theorem WP.lloadN (K : Cx κ w l Z own n0 rm bytes maxL ret nm Q) {j : Fin 4} {v : Int64} (hd : decode bytes pc = .ok (.lload_n j, 1)) (hl : L[j.val]? = some (.val (.long v))) (hp : pc + 1 = pc') (H : WP κ h k n (mkF κ.m pc' L (.long v :: S))) : WP κ h k n (mkF κ.m pc L (S)) := by
  obtain ⟨hx, hby, -⟩ := K
  subst hp
  exact WP.go (fun T locs vm0 X e hZ ho t k => XT.lloadN X.here hx rfl (hb hby hd) hl k) H
theorem WP.lload (K : Cx κ w l Z own n0 rm bytes maxL ret nm Q) {j : Nat} {v : Int64} (hd : decode bytes pc = .ok (.lload j, 2)) (hl : L[j]? = some (.val (.long v))) (hp : pc + 2 = pc') (H : WP κ h k n (mkF κ.m pc' L (.long v :: S))) : WP κ h k n (mkF κ.m pc L (S)) := by
  obtain ⟨hx, hby, -⟩ := K
  subst hp
  exact WP.go (fun T locs vm0 X e hZ ho t k => XT.lload X.here hx rfl (hb hby hd) hl k) H
theorem WP.aloadN (K : Cx κ w l Z own n0 rm bytes maxL ret nm Q) {j : Fin 4} {v : Value} (hd : decode bytes pc = .ok (.aload_n j, 1)) (hl : L[j.val]? = some (.val v)) (hv : v.isRef = true) (hp : pc + 1 = pc') (H : WP κ h k n (mkF κ.m pc' L (v :: S))) : WP κ h k n (mkF κ.m pc L (S)) := by
  obtain ⟨hx, hby, -⟩ := K
  subst hp
  exact WP.go (fun T locs vm0 X e hZ ho t k => XS.aloadN X.here hx rfl (hb hby hd) hl hv k) H
theorem WP.aload (K : Cx κ w l Z own n0 rm bytes maxL ret nm Q) {j : Nat} {v : Value} (hd : decode bytes pc = .ok (.aload j, 2)) (hl : L[j]? = some (.val v)) (hv : v.isRef = true) (hp : pc + 2 = pc') (H : WP κ h k n (mkF κ.m pc' L (v :: S))) : WP κ h k n (mkF κ.m pc L (S)) := by
  obtain ⟨hx, hby, -⟩ := K
  subst hp
  exact WP.go (fun T locs vm0 X e hZ ho t k => XS.aload X.here hx rfl (hb hby hd) hl hv k) H
theorem WP.dloadN (K : Cx κ w l Z own n0 rm bytes maxL ret nm Q) {j : Fin 4} {v : UInt64} (hd : decode bytes pc = .ok (.dload_n j, 1)) (hl : L[j.val]? = some (.val (.double v))) (hp : pc + 1 = pc') (H : WP κ h k n (mkF κ.m pc' L (.double v :: S))) : WP κ h k n (mkF κ.m pc L (S)) := by
  obtain ⟨hx, hby, -⟩ := K
  subst hp
  exact WP.go (fun T locs vm0 X e hZ ho t k => XT.dloadN X.here hx rfl (hb hby hd) hl k) H
theorem WP.dload (K : Cx κ w l Z own n0 rm bytes maxL ret nm Q) {j : Nat} {v : UInt64} (hd : decode bytes pc = .ok (.dload j, 2)) (hl : L[j]? = some (.val (.double v))) (hp : pc + 2 = pc') (H : WP κ h k n (mkF κ.m pc' L (.double v :: S))) : WP κ h k n (mkF κ.m pc L (S)) := by
  obtain ⟨hx, hby, -⟩ := K
  subst hp
  exact WP.go (fun T locs vm0 X e hZ ho t k => XT.dload X.here hx rfl (hb hby hd) hl k) H
theorem WP.dup (K : Cx κ w l Z own n0 rm bytes maxL ret nm Q) {x : Value} (hd : decode bytes pc = .ok (.dup, 1)) (hc : x.category = 1) (hp : pc + 1 = pc') (H : WP κ h k n (mkF κ.m pc' L (x :: x :: S))) : WP κ h k n (mkF κ.m pc L (x :: S)) := by
  obtain ⟨hx, hby, -⟩ := K
  subst hp
  exact WP.go (fun T locs vm0 X e hZ ho t k => XS.dup X.here hx rfl (hb hby hd) rfl hc k) H
theorem WP.pop (K : Cx κ w l Z own n0 rm bytes maxL ret nm Q) {x : Value} (hd : decode bytes pc = .ok (.pop, 1)) (hc : x.category = 1) (hp : pc + 1 = pc') (H : WP κ h k n (mkF κ.m pc' L (S))) : WP κ h k n (mkF κ.m pc L (x :: S)) := by
  obtain ⟨hx, hby, -⟩ := K
  subst hp
  exact WP.go (fun T locs vm0 X e hZ ho t k => XT.pop X.here hx rfl (hb hby hd) rfl hc k) H
theorem WP.dup_x1 (K : Cx κ w l Z own n0 rm bytes maxL ret nm Q) {x y : Value} (hd : decode bytes pc = .ok (.dup_x1, 1)) (hc : x.category = 1) (hc' : y.category = 1) (hp : pc + 1 = pc') (H : WP κ h k n (mkF κ.m pc' L (x :: y :: x :: S))) : WP κ h k n (mkF κ.m pc L (x :: y :: S)) := by
  obtain ⟨hx, hby, -⟩ := K
  subst hp
  exact WP.go (fun T locs vm0 X e hZ ho t k => XT.dupX1 X.here hx rfl (hb hby hd) rfl hc hc' k) H
theorem WP.dup2 (K : Cx κ w l Z own n0 rm bytes maxL ret nm Q) {x y : Value} (hd : decode bytes pc = .ok (.dup2, 1)) (hc : x.category = 1) (hc' : y.category = 1) (hp : pc + 1 = pc') (H : WP κ h k n (mkF κ.m pc' L (x :: y :: x :: y :: S))) : WP κ h k n (mkF κ.m pc L (x :: y :: S)) := by
  obtain ⟨hx, hby, -⟩ := K
  subst hp
  exact WP.go (fun T locs vm0 X e hZ ho t k => XT.dup2 X.here hx rfl (hb hby hd) rfl hc hc' k) H
theorem WP.dup2L (K : Cx κ w l Z own n0 rm bytes maxL ret nm Q) {x : Int64} (hd : decode bytes pc = .ok (.dup2, 1))  (hp : pc + 1 = pc') (H : WP κ h k n (mkF κ.m pc' L (.long x :: .long x :: S))) : WP κ h k n (mkF κ.m pc L (.long x :: S)) := by
  obtain ⟨hx, hby, -⟩ := K
  subst hp
  exact WP.go (fun T locs vm0 X e hZ ho t k => XT.dup2L X.here hx rfl (hb hby hd) rfl k) H
theorem WP.i2d (K : Cx κ w l Z own n0 rm bytes maxL ret nm Q) {x : Int32} (hd : decode bytes pc = .ok (.i2d, 1))  (hp : pc + 1 = pc') (H : WP κ h k n (mkF κ.m pc' L (.double (FP.i2d x) :: S))) : WP κ h k n (mkF κ.m pc L (.int x :: S)) := by
  obtain ⟨hx, hby, -⟩ := K
  subst hp
  exact WP.go (fun T locs vm0 X e hZ ho t k => Jvm.Free.XS.i2dS X.here hx rfl (hb hby hd) rfl rfl k) H
theorem WP.l2d (K : Cx κ w l Z own n0 rm bytes maxL ret nm Q) {x : Int64} (hd : decode bytes pc = .ok (.l2d, 1))  (hp : pc + 1 = pc') (H : WP κ h k n (mkF κ.m pc' L (.double (FP.l2d x) :: S))) : WP κ h k n (mkF κ.m pc L (.long x :: S)) := by
  obtain ⟨hx, hby, -⟩ := K
  subst hp
  exact WP.go (fun T locs vm0 X e hZ ho t k => Jvm.Free.XS.l2dS X.here hx rfl (hb hby hd) rfl rfl k) H
theorem WP.dcmp (K : Cx κ w l Z own n0 rm bytes maxL ret nm Q) {o : CmpOp} {x y : UInt64} (hd : decode bytes pc = .ok (.dcmp o, 1))  (hp : pc + 1 = pc') (H : WP κ h k n (mkF κ.m pc' L (.int (cmpValue (FP.dcmp x y) o) :: S))) : WP κ h k n (mkF κ.m pc L (.double y :: .double x :: S)) := by
  obtain ⟨hx, hby, -⟩ := K
  subst hp
  exact WP.go (fun T locs vm0 X e hZ ho t k => Jvm.Free.XS.dcmpS X.here hx rfl (hb hby hd) rfl rfl k) H
theorem WP.dconst0 (K : Cx κ w l Z own n0 rm bytes maxL ret nm Q) {v : UInt64} (hd : decode bytes pc = .ok (.dconst 0, 1)) (hv : FP.dconst0 = v) (hp : pc + 1 = pc') (H : WP κ h k n (mkF κ.m pc' L (.double v :: S))) : WP κ h k n (mkF κ.m pc L (S)) := by
  obtain ⟨hx, hby, -⟩ := K
  subst hp
  exact WP.go (fun T locs vm0 X e hZ ho t k => Jvm.Free.XS.dconst0 X.here hx rfl (hb hby hd) hv k) H
theorem WP.dconst1 (K : Cx κ w l Z own n0 rm bytes maxL ret nm Q) {v : UInt64} (hd : decode bytes pc = .ok (.dconst 1, 1)) (hv : FP.dconst1 = v) (hp : pc + 1 = pc') (H : WP κ h k n (mkF κ.m pc' L (.double v :: S))) : WP κ h k n (mkF κ.m pc L (S)) := by
  obtain ⟨hx, hby, -⟩ := K
  subst hp
  exact WP.go (fun T locs vm0 X e hZ ho t k => Jvm.Free.XS.dconst1 X.here hx rfl (hb hby hd) hv k) H
theorem WP.ddiv (K : Cx κ w l Z own n0 rm bytes maxL ret nm Q) {x y : UInt64} (hd : decode bytes pc = .ok (.ddiv, 1)) (hn : Jvm.Free.Fl.NoNaN64 (FP.ddiv x y)) (hp : pc + 1 = pc') (H : WP κ h k n (mkF κ.m pc' L (.double (FP.ddiv x y) :: S))) : WP κ h k n (mkF κ.m pc L (.double y :: .double x :: S)) := by
  obtain ⟨hx, hby, -⟩ := K
  subst hp
  exact WP.go (fun T locs vm0 X e hZ ho t k => Jvm.Free.XS.ddivS X.here hx rfl (hb hby hd) rfl hn rfl k) H
theorem WP.istoreN (K : Cx κ w l Z own n0 rm bytes maxL ret nm Q) {j : Fin 4} {x : Int32} (hd : decode bytes pc = .ok (.istore_n j, 1))  (hl : storeLocals L j.val (.int x) = some L') (hp : pc + 1 = pc') (H : WP κ h k n (mkF κ.m pc' L' S)) : WP κ h k n (mkF κ.m pc L ((.int x) :: S)) := by
  obtain ⟨hx, hby, -⟩ := K
  subst hp
  exact WP.go (fun T locs vm0 X e hZ ho t k => XS.istoreN X.here hx rfl (hb hby hd) rfl hl k) H
theorem WP.istore (K : Cx κ w l Z own n0 rm bytes maxL ret nm Q) {j : Nat} {x : Int32} (hd : decode bytes pc = .ok (.istore j, 2))  (hl : storeLocals L j (.int x) = some L') (hp : pc + 2 = pc') (H : WP κ h k n (mkF κ.m pc' L' S)) : WP κ h k n (mkF κ.m pc L ((.int x) :: S)) := by
  obtain ⟨hx, hby, -⟩ := K
  subst hp
  exact WP.go (fun T locs vm0 X e hZ ho t k => XS.istore X.here hx rfl (hb hby hd) rfl hl k) H
theorem WP.lstoreN (K : Cx κ w l Z own n0 rm bytes maxL ret nm Q) {j : Fin 4} {x : Int64} (hd : decode bytes pc = .ok (.lstore_n j, 1))  (hl : storeLocals L j.val (.long x) = some L') (hp : pc + 1 = pc') (H : WP κ h k n (mkF κ.m pc' L' S)) : WP κ h k n (mkF κ.m pc L ((.long x) :: S)) := by
  obtain ⟨hx, hby, -⟩ := K
  subst hp
  exact WP.go (fun T locs vm0 X e hZ ho t k => XT.lstoreN X.here hx rfl (hb hby hd) rfl hl k) H
theorem WP.lstore (K : Cx κ w l Z own n0 rm bytes maxL ret nm Q) {j : Nat} {x : Int64} (hd : decode bytes pc = .ok (.lstore j, 2))  (hl : storeLocals L j (.long x) = some L') (hp : pc + 2 = pc') (H : WP κ h k n (mkF κ.m pc' L' S)) : WP κ h k n (mkF κ.m pc L ((.long x) :: S)) := by
  obtain ⟨hx, hby, -⟩ := K
  subst hp
  exact WP.go (fun T locs vm0 X e hZ ho t k => XT.lstore X.here hx rfl (hb hby hd) rfl hl k) H
theorem WP.astoreN (K : Cx κ w l Z own n0 rm bytes maxL ret nm Q) {j : Fin 4} {x : Value} (hd : decode bytes pc = .ok (.astore_n j, 1)) (hv : x.isRef = true) (hl : storeLocals L j.val x = some L') (hp : pc + 1 = pc') (H : WP κ h k n (mkF κ.m pc' L' S)) : WP κ h k n (mkF κ.m pc L (x :: S)) := by
  obtain ⟨hx, hby, -⟩ := K
  subst hp
  exact WP.go (fun T locs vm0 X e hZ ho t k => XS.astoreN X.here hx rfl (hb hby hd) rfl hv hl k) H
theorem WP.astore (K : Cx κ w l Z own n0 rm bytes maxL ret nm Q) {j : Nat} {x : Value} (hd : decode bytes pc = .ok (.astore j, 2)) (hv : x.isRef = true) (hl : storeLocals L j x = some L') (hp : pc + 2 = pc') (H : WP κ h k n (mkF κ.m pc' L' S)) : WP κ h k n (mkF κ.m pc L (x :: S)) := by
  obtain ⟨hx, hby, -⟩ := K
  subst hp
  exact WP.go (fun T locs vm0 X e hZ ho t k => XS.astore X.here hx rfl (hb hby hd) rfl hv hl k) H
theorem WP.dstoreN (K : Cx κ w l Z own n0 rm bytes maxL ret nm Q) {j : Fin 4} {x : UInt64} (hd : decode bytes pc = .ok (.dstore_n j, 1))  (hl : storeLocals L j.val (.double x) = some L') (hp : pc + 1 = pc') (H : WP κ h k n (mkF κ.m pc' L' S)) : WP κ h k n (mkF κ.m pc L ((.double x) :: S)) := by
  obtain ⟨hx, hby, -⟩ := K
  subst hp
  exact WP.go (fun T locs vm0 X e hZ ho t k => Jvm.Free.XS.dstoreN X.here hx rfl (hb hby hd) rfl hl k) H
theorem WP.dstore (K : Cx κ w l Z own n0 rm bytes maxL ret nm Q) {j : Nat} {x : UInt64} (hd : decode bytes pc = .ok (.dstore j, 2))  (hl : storeLocals L j (.double x) = some L') (hp : pc + 2 = pc') (H : WP κ h k n (mkF κ.m pc' L' S)) : WP κ h k n (mkF κ.m pc L ((.double x) :: S)) := by
  obtain ⟨hx, hby, -⟩ := K
  subst hp
  exact WP.go (fun T locs vm0 X e hZ ho t k => Jvm.Free.XS.dstore X.here hx rfl (hb hby hd) rfl hl k) H
theorem WP.iinc (K : Cx κ w l Z own n0 rm bytes maxL ret nm Q) {j : Nat} {cst : Int} {x v : Int32} (hd : decode bytes pc = .ok (.iinc j cst, 3)) (hv : Int32.ofInt cst = v) (hl : L[j]? = some (.val (.int x))) (hl' : storeLocals L j (.int (x + v)) = some L') (hp : pc + 3 = pc') (H : WP κ h k n (mkF κ.m pc' L' S)) : WP κ h k n (mkF κ.m pc L S) := by
  obtain ⟨hx, hby, -⟩ := K
  subst hp
  exact WP.go (fun T locs vm0 X e hZ ho t k => XT.iincV X.here hx rfl v (hb hby hd) hv hl hl' k) H
theorem WP.goto (K : Cx κ w l Z own n0 rm bytes maxL ret nm Q) {o : Int} (hd : decode bytes pc = .ok (.goto o, 3)) (ho : 0 ≤ (pc : Int) + o) (hp : ((pc : Int) + o).toNat = pc') (H : WP κ h k n (mkF κ.m pc' L S)) : WP κ h k n (mkF κ.m pc L S) := by
  obtain ⟨hx, hby, -⟩ := K
  exact WP.go (fun T locs vm0 X e hZ ho' t k => XS.goto X.here hx rfl rfl (hb hby hd) ho hp k) H
theorem WP.if0T (K : Cx κ w l Z own n0 rm bytes maxL ret nm Q) {cd : ClassFile.Cond} {x : Int32} {o : Int} (hd : decode bytes pc = .ok (.ifCond cd o, 3)) (hc : ifCond.holds cd x = true) (ho : 0 ≤ (pc : Int) + o) (hp : ((pc : Int) + o).toNat = pc') (H : WP κ h k n (mkF κ.m pc' L S)) : WP κ h k n (mkF κ.m pc L (.int x :: S)) := by
  obtain ⟨hx, hby, -⟩ := K
  exact WP.go (fun T locs vm0 X e hZ ho' t k => XS.ifYes X.here hx rfl rfl (hb hby hd) rfl hc ho hp k) H
theorem WP.if0F (K : Cx κ w l Z own n0 rm bytes maxL ret nm Q) {cd : ClassFile.Cond} {x : Int32} {o : Int} (hd : decode bytes pc = .ok (.ifCond cd o, 3)) (hc : ifCond.holds cd x = false) (hp : pc + 3 = pc') (H : WP κ h k n (mkF κ.m pc' L S)) : WP κ h k n (mkF κ.m pc L (.int x :: S)) := by
  obtain ⟨hx, hby, -⟩ := K
  subst hp
  exact WP.go (fun T locs vm0 X e hZ ho' t k => XS.ifNo X.here hx rfl (hb hby hd) rfl hc k) H
theorem WP.icmpT (K : Cx κ w l Z own n0 rm bytes maxL ret nm Q) {cd : ClassFile.Cond} {x y : Int32} {o : Int} (hd : decode bytes pc = .ok (.if_icmp cd o, 3)) (hc : if_icmp.holds cd x y = true) (ho : 0 ≤ (pc : Int) + o) (hp : ((pc : Int) + o).toNat = pc') (H : WP κ h k n (mkF κ.m pc' L S)) : WP κ h k n (mkF κ.m pc L (.int y :: .int x :: S)) := by
  obtain ⟨hx, hby, -⟩ := K
  exact WP.go (fun T locs vm0 X e hZ ho' t k => XS.icmpYes X.here hx rfl rfl (hb hby hd) rfl hc ho hp k) H
theorem WP.icmpF (K : Cx κ w l Z own n0 rm bytes maxL ret nm Q) {cd : ClassFile.Cond} {x y : Int32} {o : Int} (hd : decode bytes pc = .ok (.if_icmp cd o, 3)) (hc : if_icmp.holds cd x y = false) (hp : pc + 3 = pc') (H : WP κ h k n (mkF κ.m pc' L S)) : WP κ h k n (mkF κ.m pc L (.int y :: .int x :: S)) := by
  obtain ⟨hx, hby, -⟩ := K
  subst hp
  exact WP.go (fun T locs vm0 X e hZ ho' t k => XS.icmpNo X.here hx rfl (hb hby hd) rfl hc k) H
theorem WP.acmpT (K : Cx κ w l Z own n0 rm bytes maxL ret nm Q) {cd : ClassFile.ACond} {x y : Value} {o : Int} (hd : decode bytes pc = .ok (.if_acmp cd o, 3)) (h1 : x.isRef = true) (h2 : y.isRef = true) (hc : XT.acmp cd x y = true) (ho : 0 ≤ (pc : Int) + o) (hp : ((pc : Int) + o).toNat = pc') (H : WP κ h k n (mkF κ.m pc' L S)) : WP κ h k n (mkF κ.m pc L (y :: x :: S)) := by
  obtain ⟨hx, hby, -⟩ := K
  exact WP.go (fun T locs vm0 X e hZ ho' t k => XT.acmpYes X.here hx rfl rfl (hb hby hd) rfl h1 h2 hc ho hp k) H
theorem WP.acmpF (K : Cx κ w l Z own n0 rm bytes maxL ret nm Q) {cd : ClassFile.ACond} {x y : Value} {o : Int} (hd : decode bytes pc = .ok (.if_acmp cd o, 3)) (h1 : x.isRef = true) (h2 : y.isRef = true) (hc : XT.acmp cd x y = false) (hp : pc + 3 = pc') (H : WP κ h k n (mkF κ.m pc' L S)) : WP κ h k n (mkF κ.m pc L (y :: x :: S)) := by
  obtain ⟨hx, hby, -⟩ := K
  subst hp
  exact WP.go (fun T locs vm0 X e hZ ho' t k => XT.acmpNo X.here hx rfl (hb hby hd) rfl h1 h2 hc k) H
theorem WP.ifnullT (K : Cx κ w l Z own n0 rm bytes maxL ret nm Q) {o : Int} {b : Addr} (hd : decode bytes pc = .ok (.ifnull o, 3)) (ho : 0 ≤ (pc : Int) + o) (hp : ((pc : Int) + o).toNat = pc') (H : WP κ h k n (mkF κ.m pc' L S)) : WP κ h k n (mkF κ.m pc L (.null :: S)) := by
  obtain ⟨hx, hby, -⟩ := K
  exact WP.go (fun T locs vm0 X e hZ ho' t k => XS.ifnullYes X.here hx rfl rfl (hb hby hd) rfl ho hp k) H
theorem WP.ifnullF (K : Cx κ w l Z own n0 rm bytes maxL ret nm Q) {o : Int} {b : Addr} (hd : decode bytes pc = .ok (.ifnull o, 3)) (hp : pc + 3 = pc') (H : WP κ h k n (mkF κ.m pc' L S)) : WP κ h k n (mkF κ.m pc L (.ref b :: S)) := by
  obtain ⟨hx, hby, -⟩ := K
  subst hp
  exact WP.go (fun T locs vm0 X e hZ ho' t k => XS.ifnullNo X.here hx rfl (hb hby hd) rfl k) H
theorem WP.ifnonnullT (K : Cx κ w l Z own n0 rm bytes maxL ret nm Q) {o : Int} {b : Addr} (hd : decode bytes pc = .ok (.ifnonnull o, 3)) (ho : 0 ≤ (pc : Int) + o) (hp : ((pc : Int) + o).toNat = pc') (H : WP κ h k n (mkF κ.m pc' L S)) : WP κ h k n (mkF κ.m pc L (.ref b :: S)) := by
  obtain ⟨hx, hby, -⟩ := K
  exact WP.go (fun T locs vm0 X e hZ ho' t k => XT.ifnonnullYes X.here hx rfl rfl (hb hby hd) rfl ho hp k) H
theorem WP.ifnonnullF (K : Cx κ w l Z own n0 rm bytes maxL ret nm Q) {o : Int} {b : Addr} (hd : decode bytes pc = .ok (.ifnonnull o, 3)) (hp : pc + 3 = pc') (H : WP κ h k n (mkF κ.m pc' L S)) : WP κ h k n (mkF κ.m pc L (.null :: S)) := by
  obtain ⟨hx, hby, -⟩ := K
  subst hp
  exact WP.go (fun T locs vm0 X e hZ ho' t k => XT.ifnonnullNo X.here hx rfl (hb hby hd) rfl k) H
theorem WP.ldcI (K : Cx κ w l Z own n0 rm bytes maxL ret nm Q) {i : Nat} {v : Int32} (wc : (Cond.constant own i v).before a0 Z = true) (hd : decode bytes pc = .ok (.ldc i, 2)) (hp : pc + 2 = pc') (H : WP κ h k n (mkF κ.m pc' L (.int v :: S))) : WP κ h k n (mkF κ.m pc L S) := by
  obtain ⟨hx, hby, -, -, -, -, -, -, rfl, rfl, -⟩ := K
  subst hp
  exact WP.go (fun T locs vm0 X e hZ ho t k => X.ldcInt hx (own := κ.own) ho (mvT (args := κ.a) (s := κ.s.setVm vm0) hZ wc) (g := mkF κ.m pc L S) rfl (hb hby hd) t k) H
theorem WP.ldcwI (K : Cx κ w l Z own n0 rm bytes maxL ret nm Q) {i : Nat} {v : Int32} (wc : (Cond.constant own i v).before a0 Z = true) (hd : decode bytes pc = .ok (.ldc_w i, 3)) (hp : pc + 3 = pc') (H : WP κ h k n (mkF κ.m pc' L (.int v :: S))) : WP κ h k n (mkF κ.m pc L S) := by
  obtain ⟨hx, hby, -, -, -, -, -, -, rfl, rfl, -⟩ := K
  subst hp
  exact WP.go (fun T locs vm0 X e hZ ho t k => X.ldcwInt hx (own := κ.own) ho (mvT (args := κ.a) (s := κ.s.setVm vm0) hZ wc) (g := mkF κ.m pc L S) rfl (hb hby hd) t k) H
theorem WP.ldc2J (K : Cx κ w l Z own n0 rm bytes maxL ret nm Q) {i : Nat} {v : Int64} (wc : (Cond.constantLong own i v).before a0 Z = true) (hd : decode bytes pc = .ok (.ldc2_w i, 3)) (hp : pc + 3 = pc') (H : WP κ h k n (mkF κ.m pc' L (.long v :: S))) : WP κ h k n (mkF κ.m pc L S) := by
  obtain ⟨hx, hby, -, -, -, -, -, -, rfl, rfl, -⟩ := K
  subst hp
  exact WP.go (fun T locs vm0 X e hZ ho t k => X.ldc2Long hx (own := κ.own) ho (mvT (args := κ.a) (s := κ.s.setVm vm0) hZ wc) (g := mkF κ.m pc L S) rfl (hb hby hd) t k) H
theorem WP.ldc2D (K : Cx κ w l Z own n0 rm bytes maxL ret nm Q) {i : Nat} {v : UInt64} (wc : (Cond.constantDouble own i v).before a0 Z = true) (hd : decode bytes pc = .ok (.ldc2_w i, 3)) (hp : pc + 3 = pc') (H : WP κ h k n (mkF κ.m pc' L (.double v :: S))) : WP κ h k n (mkF κ.m pc L S) := by
  obtain ⟨hx, hby, -, -, -, -, -, -, rfl, rfl, -⟩ := K
  subst hp
  exact WP.go (fun T locs vm0 X e hZ ho t k => X.ldc2DoubleC hx (own := κ.own) ho (mvT (args := κ.a) (s := κ.s.setVm vm0) hZ wc) (g := mkF κ.m pc L S) rfl (hb hby hd) t k) H
theorem Ends.of {T : State} {locs : List Loc} {vm0 : Vm} {v : Option Value} {g : JFrame} (X : Stand κ.p κ.l κ.e κ.R (κ.s.setVm vm0) κ.m κ.a κ.below κ.meth κ.c T locs k n) (M : Md κ.w κ.s vm0 T.heap.size) (N : Fr κ.n0 locs) (hv : κ.meth.sig.returnType = none → v = none) (hlk : κ.meth.locks = false) (hk : k ≤ κ.R.cells) (hn : n ≤ κ.R.slots) (hq : κ.Q v T.heap)
    (st : ∀ fs, (∀ (f : JFrame) (acts : List Action), f.method = κ.m → f.locked = none → f.entered = [] → (doReturn κ.e (T.setTop f) acts v).1 = T.setFrames fs) → Steps κ.p.tables κ.e κ.below (T.setTop g) (T.setFrames fs)) : Ends κ T g := by
  obtain ⟨k0, hS, hk0⟩ := M.2
  by_cases hw : κ.w = true
  · obtain ⟨fs, h1, h2, h3, h4⟩ := (X.mono hk hn).leaveW hS hk0 hv hlk
    exact ⟨_, _, st fs h1, h2, h3, v, locs, rfl, ⟨hq, N⟩, by rw [hw]; exact h4⟩
  · have hw' : κ.w = false := by simpa using hw
    have e := M.1 hw'
    subst e
    obtain ⟨fs, h1, h2, h3, h4, h5⟩ := (X.mono hk hn).leave hv hlk
    exact ⟨_, _, st fs h1, h2, h3, v, locs, rfl, ⟨hq, N⟩, by rw [hw']; exact ⟨⟨v, rfl⟩, h4, h5⟩⟩
theorem WP.ret0 (K : Cx κ w l Z own n0 rm bytes maxL none nm Q) (hd : decode bytes pc = .ok (.return_, 1)) (hk : k ≤ rm.cells) (hn : n ≤ rm.slots) (hq : Q none h) : WP κ h k n (mkF κ.m pc L ([])) := by
  obtain ⟨hx, hby, -, hr, hlk, -, -, -, rfl, rfl, rfl, rfl, rfl⟩ := K
  intro T locs vm0 X e M hZ ho N
  subst e
  exact Ends.of X M N (fun _ => rfl) hlk hk hn hq fun fs hl => X.returnOut hx hr (hb hby hd) hl
theorem WP.retI (K : Cx κ w l Z own n0 rm bytes maxL (some .int) nm Q) {z : Int32} (hd : decode bytes pc = .ok (.ireturn, 1)) (hk : k ≤ rm.cells) (hn : n ≤ rm.slots) (hq : Q (some (.int z)) h) : WP κ h k n (mkF κ.m pc L (.int z :: S)) := by
  obtain ⟨hx, hby, -, hr, hlk, -, -, -, rfl, rfl, rfl, rfl, rfl⟩ := K
  intro T locs vm0 X e M hZ ho N
  subst e
  exact Ends.of X M N (fun q => by rw [hr] at q; cases q) hlk hk hn hq fun fs hl => retOut X hx hr rfl (Or.inl ⟨rfl, Or.inl rfl, z, rfl⟩) (hb hby hd) hl
theorem WP.retJ (K : Cx κ w l Z own n0 rm bytes maxL (some .long) nm Q) {z : Int64} (hd : decode bytes pc = .ok (.lreturn, 1)) (hk : k ≤ rm.cells) (hn : n ≤ rm.slots) (hq : Q (some (.long z)) h) : WP κ h k n (mkF κ.m pc L (.long z :: S)) := by
  obtain ⟨hx, hby, -, hr, hlk, -, -, -, rfl, rfl, rfl, rfl, rfl⟩ := K
  intro T locs vm0 X e M hZ ho N
  subst e
  exact Ends.of X M N (fun q => by rw [hr] at q; cases q) hlk hk hn hq fun fs hl => retOut X hx hr rfl (Or.inr (Or.inl ⟨rfl, rfl, z, rfl⟩)) (hb hby hd) hl
theorem WP.retD (K : Cx κ w l Z own n0 rm bytes maxL (some .double) nm Q) {z : UInt64} (hd : decode bytes pc = .ok (.dreturn, 1)) (hk : k ≤ rm.cells) (hn : n ≤ rm.slots) (hq : Q (some (.double z)) h) : WP κ h k n (mkF κ.m pc L (.double z :: S)) := by
  obtain ⟨hx, hby, -, hr, hlk, -, -, -, rfl, rfl, rfl, rfl, rfl⟩ := K
  intro T locs vm0 X e M hZ ho N
  subst e
  exact Ends.of X M N (fun q => by rw [hr] at q; cases q) hlk hk hn hq fun fs hl => retOut X hx hr rfl (Or.inr (Or.inr (Or.inl ⟨rfl, rfl, z, rfl⟩))) (hb hby hd) hl
theorem WP.retR {ty : FieldType} (K : Cx κ w l Z own n0 rm bytes maxL (some ty) nm Q) {v : Value} (ht : ty.isReference = true) (hv : v.isRef = true) (hd : decode bytes pc = .ok (.areturn, 1)) (hk : k ≤ rm.cells) (hn : n ≤ rm.slots) (hq : Q (some v) h) : WP κ h k n (mkF κ.m pc L (v :: S)) := by
  obtain ⟨hx, hby, -, hr, hlk, -, -, -, rfl, rfl, rfl, rfl, rfl⟩ := K
  intro T locs vm0 X e M hZ ho N
  subst e
  exact Ends.of X M N (fun q => by rw [hr] at q; cases q) hlk hk hn hq fun fs hl => retOut X hx hr (by cases ty <;> first | rfl | (cases ht) | (rcases ref_cases hv with rfl | ⟨_, rfl⟩ <;> rfl)) (Or.inr (Or.inr (Or.inr (Or.inr ⟨rfl, ht, hv⟩)))) (hb hby hd) hl
theorem WP.retN {ty : FieldType} (K : Cx κ w l Z own n0 rm bytes maxL (some ty) nm Q) {z : Int32} (ht : ty = .boolean ∨ ty = .byte ∨ ty = .char ∨ ty = .short) (hd : decode bytes pc = .ok (.ireturn, 1)) (hk : k ≤ rm.cells) (hn : n ≤ rm.slots) (hq : Q (some (.int (nar ty z))) h) : WP κ h k n (mkF κ.m pc L (.int z :: S)) := by
  obtain ⟨hx, hby, -, hr, hlk, -, -, -, rfl, rfl, rfl, rfl, rfl⟩ := K
  intro T locs vm0 X e M hZ ho N
  subst e
  exact Ends.of X M N (fun q => by rw [hr] at q; cases q) hlk hk hn hq fun fs hl => RoadKit.retN X hx hr ht (hb hby hd) hl
theorem WP.getF (K : Cx κ w l Z own n0 rm bytes maxL ret nm Q) {i : Nat} {R0 O f d : String} {a : Addr} {v : Value} (wl : (Cond.fieldLink own i R0 f d).before a0 Z = true) (via : Via Z R0 O f d) (F : Fld Z h a O f d v) (hd : decode bytes pc = .ok (.getfield i, 3)) (hp : pc + 3 = pc') (H : WP κ h k n (mkF κ.m pc' L (v :: S))) : WP κ h k n (mkF κ.m pc L (.ref a :: S)) := by
  obtain ⟨hx, hby, -, -, -, hnm, -, -, rfl, rfl, rfl, rfl, -⟩ := K
  subst hp
  intro T locs vm0 X e M hZ ho N
  obtain ⟨T', X', e', st⟩ := RoadKit.getF X hx (s := κ.s.setVm vm0) hZ ho (host := "") (Or.inl wl) via e F (g := mkF κ.m pc L (.ref a :: S)) rfl rfl (hb hby hd)
  obtain ⟨t, o, h1, r⟩ := H T' locs vm0 X' e' M hZ ho N
  exact ⟨t, o, st _ h1, r⟩
theorem WP.getS (K : Cx κ w l Z own n0 rm bytes maxL ret nm Q) {i : Nat} {R0 O f d : String} {v : Value} (wl : (Cond.fieldLink own i R0 f d).before a0 Z = true) (via : Via Z R0 O f d) (F : Sta Z h O f d v) (hd : decode bytes pc = .ok (.getstatic i, 3)) (hp : pc + 3 = pc') (H : WP κ h k n (mkF κ.m pc' L (v :: S))) : WP κ h k n (mkF κ.m pc L S) := by
  obtain ⟨hx, hby, -, -, -, hnm, -, -, rfl, rfl, rfl, rfl, -⟩ := K
  subst hp
  intro T locs vm0 X e M hZ ho N
  obtain ⟨T', X', e', st⟩ := RoadKit.getS (host := "") X hx (s := κ.s.setVm vm0) hZ ho wl via e F (g := mkF κ.m pc L S) rfl (hb hby hd)
  obtain ⟨t, o, h1, r⟩ := H T' locs vm0 X' e' M hZ ho N
  exact ⟨t, o, st _ h1, r⟩
theorem WP.putF (K : Cx κ w l Z own n0 rm bytes maxL ret nm Q) {i kk : Nat} {R0 O f d C : String} {ty : FieldType} {a : Addr} {v old : Value} (wl : (Cond.fieldLink own i R0 f d).before a0 Z = true) (via : Via Z R0 O f d) (F : Fld Z h a O f d old) (E : Exa Z h a C) (la : (Cond.lays C O f d).before a0 Z = true ∨ ((Cond.laysFinal C O f d).before a0 Z = true ∧ own = O ∧ nm = "<init>")) (wi : (Cond.instantiable C kk).before a0 Z = true)
    (hty : parseFieldDescriptor d = some ty) (hn1 : narrow ty v = v) (hf : fits ty v = true) (ha : n0 ≤ a) (hd : decode bytes pc = .ok (.putfield i, 3)) (hp : pc + 3 = pc') (H : ∀ h', Wr h h' a (Jvm.RoadKit.slotOf Z O f d) v → WP κ h' k n (mkF κ.m pc' L S)) : WP κ h k n (mkF κ.m pc L (v :: .ref a :: S)) := by
  obtain ⟨hx, hby, -, -, -, hnm, -, -, rfl, rfl, rfl, rfl, -⟩ := K
  subst hp
  intro T locs vm0 X e M hZ ho N
  obtain ⟨T', h', X', e', W, st⟩ := RoadKit.putF X hx (s := κ.s.setVm vm0) hZ ho (host := "") (Or.inl wl) via e F E (la.imp id fun q => ⟨q.1, q.2.1, hnm.trans q.2.2⟩) wi hty hn1 hf (g := mkF κ.m pc L (v :: .ref a :: S)) rfl rfl (hb hby hd)
  obtain ⟨t, o, h1, r⟩ := H h' W T' _ vm0 X' e' (M.mono (Nat.le_of_eq W.size.symm)) hZ ho (Fr.snoc X' N ha)
  exact ⟨t, o, st _ h1, r⟩
theorem WP.putFN (K : Cx κ w l Z own n0 rm bytes maxL ret nm Q) {i kk : Nat} {R0 O f d C : String} {ty : FieldType} {a : Addr} {v v' old : Value} (wl : (Cond.fieldLink own i R0 f d).before a0 Z = true) (via : Via Z R0 O f d) (F : Fld Z h a O f d old) (E : Exa Z h a C) (la : (Cond.lays C O f d).before a0 Z = true ∨ ((Cond.laysFinal C O f d).before a0 Z = true ∧ own = O ∧ nm = "<init>")) (wi : (Cond.instantiable C kk).before a0 Z = true)
    (hty : parseFieldDescriptor d = some ty) (hn1 : narrow ty v = v') (hf : fits ty v' = true) (ha : n0 ≤ a) (hd : decode bytes pc = .ok (.putfield i, 3)) (hp : pc + 3 = pc') (H : ∀ h', Wr h h' a (Jvm.RoadKit.slotOf Z O f d) v' → WP κ h' k n (mkF κ.m pc' L S)) : WP κ h k n (mkF κ.m pc L (v :: .ref a :: S)) := by
  obtain ⟨hx, hby, -, -, -, hnm, -, -, rfl, rfl, rfl, rfl, -⟩ := K
  subst hp
  intro T locs vm0 X e M hZ ho N
  obtain ⟨T', h', X', e', W, st⟩ := RoadKit.putFN X hx (s := κ.s.setVm vm0) hZ ho wl via e F E (la.imp id fun q => ⟨q.1, q.2.1, hnm.trans q.2.2⟩) wi hty hn1 hf (g := mkF κ.m pc L (v :: .ref a :: S)) rfl rfl (hb hby hd)
  obtain ⟨t, o, h1, r⟩ := H h' W T' _ vm0 X' e' (M.mono (Nat.le_of_eq W.size.symm)) hZ ho (Fr.snoc X' N ha)
  exact ⟨t, o, st _ h1, r⟩
theorem WP.new (K : Cx κ w l Z own n0 rm bytes maxL ret nm Q) {i sl : Nat} {C : String} (w1 : (Cond.classLink own i C).before a0 Z = true) (w2 : (Cond.instantiable C sl).before a0 Z = true) (w3 : (Cond.initialized C).before a0 Z = true) (hd : decode bytes pc = .ok (.new i, 3)) (hk : k + 1 = k') (hn : n + sl = n') (hk' : k' ≤ rm.cells) (hn' : n' ≤ rm.slots) (hp : pc + 3 = pc')
    (H : ∀ (h' : Heap) (a : Addr), @Eq Nat h.size a → Ext h h' → Exa Z h' a C → (∀ {O f d : String} {ty : FieldType}, Laid Z a0 C O f d → parseFieldDescriptor d = some ty → Fld Z h' a O f d (defaultValue ty)) → WP κ h' k' n' (mkF κ.m pc' L (.ref a :: S))) : WP κ h k n (mkF κ.m pc L S) := by
  obtain ⟨hx, hby, -, -, -, hnm, -, -, rfl, rfl, rfl, rfl, -⟩ := K
  subst hp hk hn
  intro T locs vm0 X e M hZ ho N
  obtain ⟨T', h', X', e', E, A, D, -, st⟩ := newO X hx (s := κ.s.setVm vm0) hZ ho w1 w2 w3 e (g := mkF κ.m pc L S) rfl (hb hby hd) hk' hn'
  obtain ⟨t, o, h1, r⟩ := H h' _ rfl E A D T' _ vm0 X' e' (M.mono E.1) hZ ho N
  exact ⟨t, o, st _ h1, r⟩
theorem WP.initO (K : Cx κ w l Z own n0 rm bytes maxL ret nm Q) {i W : Nat} {a : Addr} (w1 : (Cond.methodLink own i Lib.objectInit).before a0 Z = true) (w2 : (Cond.instanceMethod Lib.objectInit).before a0 Z = true) (w3 : (Cond.code Lib.objectInit ⟨#[0xb1]⟩ 1 none).before a0 Z = true) (hd : decode bytes pc = .ok (.invokespecial i, 3)) (hL : L.size = maxL) (hf : 1 ≤ rm.frames) (hW : (S.map fun v => v.category).sum = W) (hl : W + 12 ≤ rm.locals) (hp : pc + 3 = pc')
    (H : WP κ h k n (mkF κ.m pc' L S)) : WP κ h k n (mkF κ.m pc L (.ref a :: S)) := by
  obtain ⟨hx, hby, hml, -, -, -, -, -, rfl, rfl, rfl, rfl, -⟩ := K
  subst hp
  intro T locs vm0 X e M hZ ho N
  obtain ⟨T', X', e', st⟩ := RoadKit.initO X hx (s := κ.s.setVm vm0) hZ ho w1 w2 w3 e (g := mkF κ.m pc L (.ref a :: S)) rfl (hL.trans hml.symm) rfl (hb hby hd) hf (W := W) (by show 2 * 0 + _ ≤ _; omega) hl
  obtain ⟨t, o, h1, r⟩ := H T' locs vm0 X' e' M hZ ho N
  exact ⟨t, o, st _ h1, r⟩
/-- an array: its class, its kind of component, its length, its components -/
def Ary (Z : State) (h : Heap) (a : Addr) (kA : ClassId) (ty : FieldType) (N : Nat) (f : Nat → Value) : Prop := ∃ c : Cell, Arr Z h a c ty ∧ c.cls = kA ∧ c.slots.size = N ∧ N < 2 ^ 31 ∧ (∀ i, i < N → c.slots[i]? = some (f i)) ∧ ∀ i, i < N → fits ty (f i) = true
def upd (f : Nat → Value) (i : Nat) (v : Value) : Nat → Value := fun j => if j = i then v else f j
theorem upd_same (f : Nat → Value) (i : Nat) (v : Value) : upd f i v i = v := if_pos rfl
theorem upd_ne (f : Nat → Value) {i j : Nat} (v : Value) (q : j ≠ i) : upd f i v j = f j := if_neg q
def fset {α : Type} (f : Nat → α) (i : Nat) (v : α) : Nat → α := fun j => if j = i then v else f j
theorem fset_same {α : Type} (f : Nat → α) (i : Nat) (v : α) : fset f i v i = v := if_pos rfl
theorem fset_ne {α : Type} (f : Nat → α) {i j : Nat} (v : α) (q : j ≠ i) : fset f i v j = f j := if_neg q
theorem upd_int (F : Nat → Int32) (i : Nat) (v : Int32) : upd (fun j => .int (F j)) i (.int v) = fun j => .int (fset F i v j) := by funext j; unfold upd fset; split <;> rfl
theorem upd_long (F : Nat → Int64) (i : Nat) (v : Int64) : upd (fun j => .long (F j)) i (.long v) = fun j => .long (fset F i v j) := by funext j; unfold upd fset; split <;> rfl
theorem upd_double (F : Nat → UInt64) (i : Nat) (v : UInt64) : upd (fun j => .double (F j)) i (.double v) = fun j => .double (fset F i v j) := by funext j; unfold upd fset; split <;> rfl
section Arrays
variable {a b : Addr} {kA : ClassId} {ty : FieldType} {N : Nat} {f f' : Nat → Value} {sl : Nat} {v : Value} {ws : List Addr}
theorem Ary.lt (A : Ary Z h a kA ty N f) : a < h.size := by obtain ⟨c, q, -⟩ := A; exact q.lt
theorem Ary.len (A : Ary Z h a kA ty N f) : N < 2 ^ 31 := by obtain ⟨c, -, -, -, q, -⟩ := A; exact q
theorem Ary.ext (E : Ext h h') (A : Ary Z h a kA ty N f) : Ary Z h' a kA ty N f := by obtain ⟨c, q, r⟩ := A; exact ⟨c, q.ext E, r⟩
theorem Ary.other (W : Wr h h' b sl v) (A : Ary Z h a kA ty N f) (q : a ≠ b) : Ary Z h' a kA ty N f := by obtain ⟨c, A, r⟩ := A; exact ⟨c, A.other W q, r⟩
theorem Ary.keep (K : Keep h h' ws) (A : Ary Z h a kA ty N f) (q : a ∉ ws) : Ary Z h' a kA ty N f := by obtain ⟨c, A, r⟩ := A; exact ⟨c, ⟨K.2.1 a c A.1 q, A.2⟩, r⟩
theorem Ary.congr (A : Ary Z h a kA ty N f) (q : ∀ i, i < N → f i = f' i) : Ary Z h a kA ty N f' := by obtain ⟨c, A, r1, r2, r3, r4, r5⟩ := A; exact ⟨c, A, r1, r2, r3, fun i hi => by rw [← q i hi]; exact r4 i hi, fun i hi => by rw [← q i hi]; exact r5 i hi⟩
theorem Ary.fits (A : Ary Z h a kA ty N f) {i : Nat} (hi : i < N) : Jvm.fits ty (f i) = true := by obtain ⟨c, -, -, -, -, -, q⟩ := A; exact q i hi
theorem Ary.set (W : Wr h h' a sl v) (A : Ary Z h a kA ty N f) (hv : Jvm.fits ty v = true) : Ary Z h' a kA ty N (upd f sl v) := by
  obtain ⟨c, A, r1, r2, r3, r4, r5⟩ := A
  refine ⟨_, A.same W, r1, by rw [sz_set]; exact r2, r3, fun i hi => ?_, fun i hi => ?_⟩
  · by_cases q : i = sl
    · subst q; rw [upd_same]; simp [Cell.setSlot, r2, hi]
    · rw [upd_ne f v q]; simp only [Cell.setSlot]; rw [Array.getElem?_setIfInBounds_ne (Ne.symm q)]; exact r4 i hi
  · by_cases q : i = sl
    · subst q; rw [upd_same]; exact hv
    · rw [upd_ne f v q]; exact r5 i hi
theorem Ary.ints (A : Ary Z h a kA ty N f) (ht : ty = .int ∨ ty = .boolean ∨ ty = .byte ∨ ty = .char ∨ ty = .short) : ∃ F : Nat → Int32, Ary Z h a kA ty N (fun i => .int (F i)) := by
  refine ⟨fun i => match f i with | .int x => x | _ => 0, A.congr fun i hi => ?_⟩
  obtain ⟨x, e⟩ := fit_I (A.fits hi) ht
  simp only [e]
theorem Ary.doubles (A : Ary Z h a kA .double N f) : ∃ F : Nat → UInt64, Ary Z h a kA .double N (fun i => .double (F i)) := by
  refine ⟨fun i => match f i with | .double x => x | _ => 0, A.congr fun i hi => ?_⟩
  obtain ⟨x, e⟩ := fit_D (A.fits hi)
  simp only [e]
theorem Ary.longs (A : Ary Z h a kA .long N f) : ∃ F : Nat → Int64, Ary Z h a kA .long N (fun i => .long (F i)) := by
  refine ⟨fun i => match f i with | .long x => x | _ => 0, A.congr fun i hi => ?_⟩
  obtain ⟨x, e⟩ := fit_J (A.fits hi)
  simp only [e]
theorem static_ary {s : State} {args : Array Value} {C nm d : String} {z : Int32} (hf : Fit s) (wl : (Cond.laysStatic C nm d).before args s = true) (wi : (Cond.initialized C).before args s = true) (hd : parseFieldDescriptor d = some (.array ty))
    (hA : (Cond.arrayOf (Term.static C nm d) ty).value args s none s [] = some true) (hL : (Cond.eq (Term.length (Term.static C nm d)) (Term.int z)).value args s none s [] = some true) (hz : z.toInt = (N : Int)) :
    ∃ (a : Addr) (kA : ClassId) (f : Nat → Value), Sta s s.heap C nm d (.ref a) ∧ Ary s s.heap a kA ty N f ∧ ∀ (i : Nat) (j v : Int32), j.toInt = (i : Int) → i < N → (Cond.eq (Term.elem (Term.static C nm d) (Term.int j)) (Term.int v)).value args s none s [] = some true → f i = .int v := by
  obtain ⟨v, ev, hv⟩ := static_fit hf wl hd
  have hr := fit_R hv rfl
  rcases ref_cases hr with rfl | ⟨a, rfl⟩
  · exfalso; simp [Cond.value, ev] at hA
  obtain ⟨c, A⟩ := Arr.start ev hA
  have hc := A.fin (Vm.Alike.refl _)
  have hs : c.slots.size < 2 ^ 31 ∧ c.slots.size.toInt32 = z := by
    obtain ⟨x, y, ex, ey⟩ := cmp_v (Or.inl hL)
    obtain ⟨a', c', ea, hc', rfl, q⟩ := Jvm.Free.SB.Term.length_small ex
    cases ev.symm.trans ea
    cases hc.symm.trans hc'
    exact ⟨q, by simpa [Cond.value, ex, Term.int_eval] using hL⟩
  have hN : c.slots.size = N := by have e := len_toInt hs.1; rw [hs.2, hz] at e; omega
  refine ⟨a, c.cls, fun i => c.slots.getD i .null, Sta.start ev (Or.inr ⟨wi, wl⟩), ⟨c, A, rfl, hN, by omega, fun i hi => ?_, fun i hi => ?_⟩, fun i j v hj hi he => ?_⟩
  · simp [Array.getD, hN, hi]
  · have q := hf A.1 (i := i) (by omega)
    obtain ⟨hst, k, hk, comp, hkind⟩ := A.2.1
    have e : s.slotType? c.cls c.vm i = some ty := by
      cases hq : c.vm <;> first | exact absurd hq (hst _) | simp [State.slotType?, hk, hkind]
    have hi' : i < c.slots.size := by omega
    simpa [State.fitsSlot, e, Array.getD, hi'] using q
  · have hi' : i < c.slots.size := by omega
    have hn : j.toNatClampNeg = i := by simp only [Int32.toNatClampNeg, hj]; omega
    obtain ⟨x, y, ex, ey⟩ := cmp_v (Or.inl he)
    obtain ⟨a', j', c', ea, ej, hc', -, hx⟩ := Term.elem_spec ex
    cases ev.symm.trans ea
    cases hc.symm.trans hc'
    cases (Term.int_eval j).symm.trans ej
    rw [hn] at hx
    have q : x = .int v := by
      have r := hf A.1 (i := i) hi'
      simp only [Cond.value, ex, Term.int_eval] at he
      cases x <;> simp at he
      rw [he]
    simp only [Array.getD, hi', dif_pos]
    rw [Array.getElem?_eq_getElem hi'] at hx
    exact (Option.some.inj hx).trans q
theorem Ary.of_new {cA : ClassId} {z : Int32} (A : Arr Z h a (newA cA ty z) ty) (hz : z.toInt = (N : Int)) : Ary Z h a cA ty N (fun _ => defaultValue ty) := by
  have e : z.toNatClampNeg = N := by simp only [Int32.toNatClampNeg]; omega
  have q := z.toInt_lt
  refine ⟨_, A, rfl, by rw [sz_new, e], by omega, fun i hi => ?_, fun i _ => by cases ty <;> rfl⟩
  simp [newA, e, hi]
theorem Ary.ne {a0 : Array Value} {C : String} {m : Nat} (E : Exa Z h b C) (A : Ary Z h a kA ty N f) (w : (Cond.instantiable C m).before a0 Z = true) : b ≠ a := by obtain ⟨c, q, -⟩ := A; exact ne_arr E w q
theorem in_of {c : Cell} {j : Int32} {i N : Nat} (S : c.slots.size = N) (hj : j.toInt = (i : Int)) (hi : i < N) : ¬ (j < 0 ∨ c.slots.size ≤ j.toNatClampNeg) := by
  rw [S, Int32.lt_iff_toInt_lt]; simp only [Int32.toNatClampNeg, hj]; have : (0 : Int32).toInt = 0 := rfl; omega
theorem nat_of {j : Int32} {i : Nat} (hj : j.toInt = (i : Int)) : j.toNatClampNeg = i := by simp only [Int32.toNatClampNeg, hj]; omega
end Arrays
theorem WP.iaload (K : Cx κ w l Z own n0 rm bytes maxL ret nm Q) {a : Addr} {kA : ClassId} {N i : Nat} {f : Nat → Value} {j : Int32} {v : Value} (A : Ary Z h a kA .int N f) (hj : j.toInt = (i : Int)) (hi : i < N) (hv : f i = v) (hd : decode bytes pc = .ok (.iaload, 1)) (hp : pc + 1 = pc') (H : WP κ h k n (mkF κ.m pc' L (v :: S))) : WP κ h k n (mkF κ.m pc L (.int j :: .ref a :: S)) := by
  obtain ⟨hx, hby, -, -, -, -, -, -, rfl, rfl, -⟩ := K
  subst hp hv
  obtain ⟨c, A, -, r2, -, r4, -⟩ := A
  refine WP.go (fun T locs vm0 X e hZ ho t k => ?_) H
  exact X.iaload hx (by rw [e]; exact A.1) (State.isArrayOf_alike (T := κ.s.setVm vm0) hZ.alike A.2.1) A.2.2 (in_of r2 hj hi) (by rw [nat_of hj]; exact r4 i hi) (g := mkF κ.m pc L (.int j :: .ref a :: S)) rfl rfl (hb hby hd) t k
theorem WP.laload (K : Cx κ w l Z own n0 rm bytes maxL ret nm Q) {a : Addr} {kA : ClassId} {N i : Nat} {f : Nat → Value} {j : Int32} {v : Value} (A : Ary Z h a kA .long N f) (hj : j.toInt = (i : Int)) (hi : i < N) (hv : f i = v) (hd : decode bytes pc = .ok (.laload, 1)) (hp : pc + 1 = pc') (H : WP κ h k n (mkF κ.m pc' L (v :: S))) : WP κ h k n (mkF κ.m pc L (.int j :: .ref a :: S)) := by
  obtain ⟨hx, hby, -, -, -, -, -, -, rfl, rfl, -⟩ := K
  subst hp hv
  obtain ⟨c, A, -, r2, -, r4, -⟩ := A
  refine WP.go (fun T locs vm0 X e hZ ho t k => ?_) H
  exact X.laload hx (by rw [e]; exact A.1) (State.isArrayOf_alike (T := κ.s.setVm vm0) hZ.alike A.2.1) A.2.2 (in_of r2 hj hi) (by rw [nat_of hj]; exact r4 i hi) (g := mkF κ.m pc L (.int j :: .ref a :: S)) rfl rfl (hb hby hd) t k
theorem WP.caload (K : Cx κ w l Z own n0 rm bytes maxL ret nm Q) {a : Addr} {kA : ClassId} {N i : Nat} {f : Nat → Value} {j : Int32} {v : Value} (A : Ary Z h a kA .char N f) (hj : j.toInt = (i : Int)) (hi : i < N) (hv : f i = v) (hd : decode bytes pc = .ok (.caload, 1)) (hp : pc + 1 = pc') (H : WP κ h k n (mkF κ.m pc' L (v :: S))) : WP κ h k n (mkF κ.m pc L (.int j :: .ref a :: S)) := by
  obtain ⟨hx, hby, -, -, -, -, -, -, rfl, rfl, -⟩ := K
  subst hp hv
  obtain ⟨c, A, -, r2, -, r4, -⟩ := A
  refine WP.go (fun T locs vm0 X e hZ ho t k => ?_) H
  exact X.caload hx (by rw [e]; exact A.1) (State.isArrayOf_alike (T := κ.s.setVm vm0) hZ.alike A.2.1) A.2.2 (in_of r2 hj hi) (by rw [nat_of hj]; exact r4 i hi) (g := mkF κ.m pc L (.int j :: .ref a :: S)) rfl rfl (hb hby hd) t k
theorem WP.baload (K : Cx κ w l Z own n0 rm bytes maxL ret nm Q) {a : Addr} {kA : ClassId} {N i : Nat} {f : Nat → Value} {j : Int32} {v : Value} (A : Ary Z h a kA .byte N f) (hj : j.toInt = (i : Int)) (hi : i < N) (hv : f i = v) (hd : decode bytes pc = .ok (.baload, 1)) (hp : pc + 1 = pc') (H : WP κ h k n (mkF κ.m pc' L (v :: S))) : WP κ h k n (mkF κ.m pc L (.int j :: .ref a :: S)) := by
  obtain ⟨hx, hby, -, -, -, -, -, -, rfl, rfl, -⟩ := K
  subst hp hv
  obtain ⟨c, A, -, r2, -, r4, -⟩ := A
  refine WP.go (fun T locs vm0 X e hZ ho t k => ?_) H
  exact X.baloadBytes hx (by rw [e]; exact A.1) (State.isArrayOf_alike (T := κ.s.setVm vm0) hZ.alike A.2.1) A.2.2 (in_of r2 hj hi) (by rw [nat_of hj]; exact r4 i hi) (g := mkF κ.m pc L (.int j :: .ref a :: S)) rfl rfl (hb hby hd) t k
theorem WP.baloadZ (K : Cx κ w l Z own n0 rm bytes maxL ret nm Q) {a : Addr} {kA : ClassId} {N i : Nat} {f : Nat → Value} {j : Int32} {v : Value} (A : Ary Z h a kA .boolean N f) (hj : j.toInt = (i : Int)) (hi : i < N) (hv : f i = v) (hd : decode bytes pc = .ok (.baload, 1)) (hp : pc + 1 = pc') (H : WP κ h k n (mkF κ.m pc' L (v :: S))) : WP κ h k n (mkF κ.m pc L (.int j :: .ref a :: S)) := by
  obtain ⟨hx, hby, -, -, -, -, -, -, rfl, rfl, -⟩ := K
  subst hp hv
  obtain ⟨c, A, -, r2, -, r4, -⟩ := A
  refine WP.go (fun T locs vm0 X e hZ ho t k => ?_) H
  exact X.baloadBooleans hx (by rw [e]; exact A.1) (State.isArrayOf_alike (T := κ.s.setVm vm0) hZ.alike A.2.1) A.2.2 (in_of r2 hj hi) (by rw [nat_of hj]; exact r4 i hi) (g := mkF κ.m pc L (.int j :: .ref a :: S)) rfl rfl (hb hby hd) t k
theorem WP.daload (K : Cx κ w l Z own n0 rm bytes maxL ret nm Q) {a : Addr} {kA : ClassId} {N i : Nat} {f : Nat → Value} {j : Int32} {v : Value} (A : Ary Z h a kA .double N f) (hj : j.toInt = (i : Int)) (hi : i < N) (hv : f i = v) (hd : decode bytes pc = .ok (.daload, 1)) (hp : pc + 1 = pc') (H : WP κ h k n (mkF κ.m pc' L (v :: S))) : WP κ h k n (mkF κ.m pc L (.int j :: .ref a :: S)) := by
  obtain ⟨hx, hby, -, -, -, -, -, -, rfl, rfl, -⟩ := K
  subst hp hv
  obtain ⟨c, A, -, r2, -, r4, -⟩ := A
  refine WP.go (fun T locs vm0 X e hZ ho t k => ?_) H
  exact X.daload hx (by rw [e]; exact A.1) (State.isArrayOf_alike (T := κ.s.setVm vm0) hZ.alike A.2.1) A.2.2 (in_of r2 hj hi) (by rw [nat_of hj]; exact r4 i hi) (g := mkF κ.m pc L (.int j :: .ref a :: S)) rfl rfl (hb hby hd) t k
theorem WP.aaload (K : Cx κ w l Z own n0 rm bytes maxL ret nm Q) {a : Addr} {kA : ClassId} {N i : Nat} {f : Nat → Value} {j : Int32} {v : Value} {ty : FieldType} (ht : ty.isReference = true) (A : Ary Z h a kA ty N f) (hj : j.toInt = (i : Int)) (hi : i < N) (hv : f i = v) (hd : decode bytes pc = .ok (.aaload, 1)) (hp : pc + 1 = pc') (H : WP κ h k n (mkF κ.m pc' L (v :: S))) : WP κ h k n (mkF κ.m pc L (.int j :: .ref a :: S)) := by
  obtain ⟨hx, hby, -, -, -, -, -, -, rfl, rfl, -⟩ := K
  subst hp hv
  obtain ⟨c, A, -, r2, -, r4, -⟩ := A
  refine WP.go (fun T locs vm0 X e hZ ho t k => ?_) H
  exact X.aaload hx (by rw [e]; exact A.1) (State.isArrayOf_alike (T := κ.s.setVm vm0) hZ.alike A.2.1) ht A.2.2 (in_of r2 hj hi) (by rw [nat_of hj]; exact r4 i hi) (g := mkF κ.m pc L (.int j :: .ref a :: S)) rfl rfl (hb hby hd) t k
theorem WP.arraylength (K : Cx κ w l Z own n0 rm bytes maxL ret nm Q) {a : Addr} {kA : ClassId} {ty : FieldType} {N : Nat} {f : Nat → Value} (A : Ary Z h a kA ty N f) (hd : decode bytes pc = .ok (.arraylength, 1)) (hp : pc + 1 = pc') (H : WP κ h k n (mkF κ.m pc' L (.int (Int32.ofNat N) :: S))) : WP κ h k n (mkF κ.m pc L (.ref a :: S)) := by
  obtain ⟨hx, hby, -, -, -, -, -, -, rfl, rfl, -⟩ := K
  subst hp
  obtain ⟨c, A, -, r2, -⟩ := A
  refine WP.go (fun T locs vm0 X e hZ ho t k => ?_) H
  exact X.arraylength hx (by rw [e]; exact A.1) (State.isArrayOf_alike (T := κ.s.setVm vm0) hZ.alike A.2.1) (g := mkF κ.m pc L (.ref a :: S)) rfl rfl (hb hby hd) t (by rw [r2]; exact k)
theorem WP.iastore (K : Cx κ w l Z own n0 rm bytes maxL ret nm Q) {a : Addr} {kA : ClassId} {N i : Nat} {f : Nat → Value} {j : Int32} {x : Int32} (A : Ary Z h a kA .int N f) (hj : j.toInt = (i : Int)) (hi : i < N) (ha : n0 ≤ a) (hd : decode bytes pc = .ok (.iastore, 1)) (hp : pc + 1 = pc')
    (H : ∀ h', Wr h h' a i (.int x) → Ary Z h' a kA .int N (upd f i (.int x)) → WP κ h' k n (mkF κ.m pc' L S)) : WP κ h k n (mkF κ.m pc L (.int x :: .int j :: .ref a :: S)) := by
  obtain ⟨hx, hby, -, -, -, hnm, -, -, rfl, rfl, rfl, rfl, -⟩ := K
  subst hp
  have A0 := A
  obtain ⟨c, A, -, r2, -⟩ := A
  intro T locs vm0 X e M hZ ho N
  obtain ⟨T', h', X', e', W, st⟩ := RoadKit.stI X hx (s := κ.s.setVm vm0) hZ e A (in_of r2 hj hi) (g := mkF κ.m pc L (.int x :: .int j :: .ref a :: S)) rfl rfl (hb hby hd)
  rw [nat_of hj] at W
  obtain ⟨t, o, h1, r⟩ := H h' W (A0.set W rfl) T' _ vm0 X' e' (M.mono (Nat.le_of_eq W.size.symm)) hZ ho (Fr.snoc X' N ha)
  exact ⟨t, o, st _ h1, r⟩
theorem WP.lastore (K : Cx κ w l Z own n0 rm bytes maxL ret nm Q) {a : Addr} {kA : ClassId} {N i : Nat} {f : Nat → Value} {j : Int32} {x : Int64} (A : Ary Z h a kA .long N f) (hj : j.toInt = (i : Int)) (hi : i < N) (ha : n0 ≤ a) (hd : decode bytes pc = .ok (.lastore, 1)) (hp : pc + 1 = pc')
    (H : ∀ h', Wr h h' a i (.long x) → Ary Z h' a kA .long N (upd f i (.long x)) → WP κ h' k n (mkF κ.m pc' L S)) : WP κ h k n (mkF κ.m pc L (.long x :: .int j :: .ref a :: S)) := by
  obtain ⟨hx, hby, -, -, -, hnm, -, -, rfl, rfl, rfl, rfl, -⟩ := K
  subst hp
  have A0 := A
  obtain ⟨c, A, -, r2, -⟩ := A
  intro T locs vm0 X e M hZ ho N
  obtain ⟨T', h', X', e', W, st⟩ := RoadKit.stJ X hx (s := κ.s.setVm vm0) hZ e A (in_of r2 hj hi) (g := mkF κ.m pc L (.long x :: .int j :: .ref a :: S)) rfl rfl (hb hby hd)
  rw [nat_of hj] at W
  obtain ⟨t, o, h1, r⟩ := H h' W (A0.set W rfl) T' _ vm0 X' e' (M.mono (Nat.le_of_eq W.size.symm)) hZ ho (Fr.snoc X' N ha)
  exact ⟨t, o, st _ h1, r⟩
theorem WP.castore (K : Cx κ w l Z own n0 rm bytes maxL ret nm Q) {a : Addr} {kA : ClassId} {N i : Nat} {f : Nat → Value} {j : Int32} {x : Int32} (A : Ary Z h a kA .char N f) (hj : j.toInt = (i : Int)) (hi : i < N) (ha : n0 ≤ a) (hd : decode bytes pc = .ok (.castore, 1)) (hp : pc + 1 = pc')
    (H : ∀ h', Wr h h' a i (.int (nar .char x)) → Ary Z h' a kA .char N (upd f i (.int (nar .char x))) → WP κ h' k n (mkF κ.m pc' L S)) : WP κ h k n (mkF κ.m pc L (.int x :: .int j :: .ref a :: S)) := by
  obtain ⟨hx, hby, -, -, -, hnm, -, -, rfl, rfl, rfl, rfl, -⟩ := K
  subst hp
  have A0 := A
  obtain ⟨c, A, -, r2, -⟩ := A
  intro T locs vm0 X e M hZ ho N
  obtain ⟨T', h', X', e', W, st⟩ := RoadKit.stC X hx (s := κ.s.setVm vm0) hZ e A (in_of r2 hj hi) (g := mkF κ.m pc L (.int x :: .int j :: .ref a :: S)) rfl rfl (hb hby hd)
  rw [nat_of hj] at W
  obtain ⟨t, o, h1, r⟩ := H h' W (A0.set W (fits_nar_char x)) T' _ vm0 X' e' (M.mono (Nat.le_of_eq W.size.symm)) hZ ho (Fr.snoc X' N ha)
  exact ⟨t, o, st _ h1, r⟩
theorem WP.bastore (K : Cx κ w l Z own n0 rm bytes maxL ret nm Q) {a : Addr} {kA : ClassId} {N i : Nat} {f : Nat → Value} {j : Int32} {x : Int32} (A : Ary Z h a kA .byte N f) (hj : j.toInt = (i : Int)) (hi : i < N) (ha : n0 ≤ a) (hd : decode bytes pc = .ok (.bastore, 1)) (hp : pc + 1 = pc')
    (H : ∀ h', Wr h h' a i (.int (nar .byte x)) → Ary Z h' a kA .byte N (upd f i (.int (nar .byte x))) → WP κ h' k n (mkF κ.m pc' L S)) : WP κ h k n (mkF κ.m pc L (.int x :: .int j :: .ref a :: S)) := by
  obtain ⟨hx, hby, -, -, -, hnm, -, -, rfl, rfl, rfl, rfl, -⟩ := K
  subst hp
  have A0 := A
  obtain ⟨c, A, -, r2, -⟩ := A
  intro T locs vm0 X e M hZ ho N
  obtain ⟨T', h', X', e', W, st⟩ := RoadKit.stB X hx (s := κ.s.setVm vm0) hZ e A (in_of r2 hj hi) (g := mkF κ.m pc L (.int x :: .int j :: .ref a :: S)) rfl rfl (hb hby hd)
  rw [nat_of hj] at W
  obtain ⟨t, o, h1, r⟩ := H h' W (A0.set W (fits_nar_byte x)) T' _ vm0 X' e' (M.mono (Nat.le_of_eq W.size.symm)) hZ ho (Fr.snoc X' N ha)
  exact ⟨t, o, st _ h1, r⟩
theorem WP.bastoreZ (K : Cx κ w l Z own n0 rm bytes maxL ret nm Q) {a : Addr} {kA : ClassId} {N i : Nat} {f : Nat → Value} {j : Int32} {x : Int32} (A : Ary Z h a kA .boolean N f) (hj : j.toInt = (i : Int)) (hi : i < N) (ha : n0 ≤ a) (hd : decode bytes pc = .ok (.bastore, 1)) (hp : pc + 1 = pc')
    (H : ∀ h', Wr h h' a i (.int (nar .boolean x)) → Ary Z h' a kA .boolean N (upd f i (.int (nar .boolean x))) → WP κ h' k n (mkF κ.m pc' L S)) : WP κ h k n (mkF κ.m pc L (.int x :: .int j :: .ref a :: S)) := by
  obtain ⟨hx, hby, -, -, -, hnm, -, -, rfl, rfl, rfl, rfl, -⟩ := K
  subst hp
  have A0 := A
  obtain ⟨c, A, -, r2, -⟩ := A
  intro T locs vm0 X e M hZ ho N
  obtain ⟨T', h', X', e', W, st⟩ := RoadKit.stZ X hx (s := κ.s.setVm vm0) hZ e A (in_of r2 hj hi) (g := mkF κ.m pc L (.int x :: .int j :: .ref a :: S)) rfl rfl (hb hby hd)
  rw [nat_of hj] at W
  obtain ⟨t, o, h1, r⟩ := H h' W (A0.set W (fits_nar_bool x)) T' _ vm0 X' e' (M.mono (Nat.le_of_eq W.size.symm)) hZ ho (Fr.snoc X' N ha)
  exact ⟨t, o, st _ h1, r⟩
theorem WP.dastore (K : Cx κ w l Z own n0 rm bytes maxL ret nm Q) {a : Addr} {kA : ClassId} {N i : Nat} {f : Nat → Value} {j : Int32} {x : UInt64} (A : Ary Z h a kA .double N f) (hj : j.toInt = (i : Int)) (hi : i < N) (ha : n0 ≤ a) (hd : decode bytes pc = .ok (.dastore, 1)) (hp : pc + 1 = pc')
    (H : ∀ h', Wr h h' a i (.double x) → Ary Z h' a kA .double N (upd f i (.double x)) → WP κ h' k n (mkF κ.m pc' L S)) : WP κ h k n (mkF κ.m pc L (.double x :: .int j :: .ref a :: S)) := by
  obtain ⟨hx, hby, -, -, -, hnm, -, -, rfl, rfl, rfl, rfl, -⟩ := K
  subst hp
  have A0 := A
  obtain ⟨c, A, -, r2, -⟩ := A
  intro T locs vm0 X e M hZ ho N
  obtain ⟨T', h', X', e', W, st⟩ := RoadKit.stD X hx (s := κ.s.setVm vm0) hZ e A (in_of r2 hj hi) (g := mkF κ.m pc L (.double x :: .int j :: .ref a :: S)) rfl rfl (hb hby hd)
  rw [nat_of hj] at W
  obtain ⟨t, o, h1, r⟩ := H h' W (A0.set W rfl) T' _ vm0 X' e' (M.mono (Nat.le_of_eq W.size.symm)) hZ ho (Fr.snoc X' N ha)
  exact ⟨t, o, st _ h1, r⟩
theorem WP.newarray (K : Cx κ w l Z own n0 rm bytes maxL ret nm Q) {aty : ArrayType} {z : Int32} {N cap : Nat} (w1 : (Cond.arrayClass (newarray.typeOf aty)).before a0 Z = true) (hd : decode bytes pc = .ok (.newarray aty, 2)) (hz : z.toInt = (N : Int)) (hcap : N ≤ cap) (hbig : cap * 8 ≤ 536870912) (hk : k + 1 = k') (hn : n + cap = n') (hk' : k' ≤ rm.cells) (hn' : n' ≤ rm.slots) (hp : pc + 2 = pc')
    (H : ∀ (h' : Heap) (a : Addr) (kA : ClassId), @Eq Nat h.size a → Ext h h' → Ary Z h' a kA (newarray.typeOf aty) N (fun _ => defaultValue (newarray.typeOf aty)) → WP κ h' k' n' (mkF κ.m pc' L (.ref a :: S))) : WP κ h k n (mkF κ.m pc L (.int z :: S)) := by
  obtain ⟨hx, hby, -, -, -, hnm, -, -, rfl, rfl, rfl, rfl, -⟩ := K
  subst hp hk hn
  intro T locs vm0 X e M hZ ho N
  obtain ⟨T', h', cA, X', e', E, A, st⟩ := newP X hx (s := κ.s.setVm vm0) hZ w1 e (g := mkF κ.m pc L (.int z :: S)) rfl (hb hby hd) rfl (by rw [Int32.lt_iff_toInt_lt, hz]; show ¬ _ < (0 : Int); omega) (cap := cap) (by rw [nat_of hz]; exact hcap) hbig hk' hn'
  obtain ⟨t, o, h1, r⟩ := H h' _ cA rfl E (Ary.of_new A hz) T' _ vm0 X' e' (M.mono E.1) hZ ho N
  exact ⟨t, o, st _ h1, r⟩
/-- what a call's law hands back, in both modes -/
theorem Met.back {y : MethodName} {by' : ByteArray} {mL' : Nat} {rt' : Option FieldType} {rm' : Room} {as' : Array Value} {Q' : Option Value → Heap → Prop} {len W : Nat} {R : Room} {p : Program} {e : Env} {below : List Frame} {s : State} {args : Array Value}
    (hM : Met false l Z y by' mL' rt' [] rm' as' h n0 Q') (hZ : Z.Warmed39 s.vm) (wc : (Cond.code y by' mL' rt').before a0 Z = true) (wz : (Cond.initialized y.cls).before a0 Z = true) (hf : rm'.frames + 1 ≤ R.frames) (hl : W + (mL' + 11) + rm'.locals ≤ R.locals) :
    Back l R p e below s args y len W (fun A a => a = as' ∧ A.U.heap = h ∧ A.cells + rm'.cells ≤ R.cells ∧ A.slots + rm'.slots ≤ R.slots) (fun A _ v B => ∃ L, (Q' v B.U.heap ∧ Fr n0 L) ∧ B.locs = A.locs ++ L ∧ B.cells = A.cells + rm'.cells ∧ B.slots = A.slots + rm'.slots) :=
  backOf (Q := fun v h L => Q' v h ∧ Fr n0 L) hM hZ wc wz hf hl
theorem Met.backW {y : MethodName} {by' : ByteArray} {mL' : Nat} {rt' : Option FieldType} {rm' : Room} {as' : Array Value} {Q' : Option Value → Heap → Prop} {len W : Nat} {R : Room} {p : Program} {e : Env} {below : List Frame} {s : State} {args : Array Value}
    (hM : Met true l Z y by' mL' rt' [] rm' as' h n0 Q') (hZ : Z.Warmed39 s.vm) (wc : (Cond.code y by' mL' rt').before a0 Z = true) (wz : (Cond.initialized y.cls).before a0 Z = true) (hf : rm'.frames + 1 ≤ R.frames) (hl : W + (mL' + 11) + rm'.locals ≤ R.locals) :
    BackS l R p e below s args y len W (fun A a => a = as' ∧ A.U.heap = h ∧ A.cells + rm'.cells ≤ R.cells ∧ A.slots + rm'.slots ≤ R.slots) (fun A _ v B => ∃ L, (Q' v B.U.heap ∧ Fr n0 L) ∧ B.locs = A.locs ++ L ∧ B.cells = A.cells + rm'.cells ∧ B.slots = A.slots + rm'.slots) :=
  backOfS (Q := fun v h L => Q' v h ∧ Fr n0 L) hM hZ wc wz hf hl
theorem Ends.call {T : State} {locs : List Loc} {vm0 : Vm} {g g' : JFrame} {rm' : Room} {Q' : Option Value → Heap → Prop} {T1 B : Pt} {v : Option Value} (M : Md κ.w κ.s vm0 h.size) (N : Fr κ.n0 locs) (hc : T1 = ⟨T1.1, locs, k, n⟩)
    (hpost : ∃ L, (Q' v B.U.heap ∧ Fr κ.n0 L) ∧ B.locs = T1.locs ++ L ∧ B.cells = T1.cells + rm'.cells ∧ B.slots = T1.slots + rm'.slots) (hk : k + rm'.cells = k') (hn : n + rm'.slots = n') {vm1 : Vm}
    (X' : Stand κ.p κ.l κ.e κ.R (κ.s.setVm vm1) κ.m κ.a κ.below κ.meth κ.c B.U B.locs B.cells B.slots) (M' : Md κ.w κ.s vm1 B.U.heap.size) (hZ : κ.Z.Warmed39 vm1) (ho : vm1.findClass κ.own = some κ.m.cls) (st : Steps κ.p.tables κ.e κ.below (T.setTop g) (B.U.setTop g'))
    (H : ∀ h', Q' v h' → WP κ h' k' n' g') : Ends κ T g := by
  obtain ⟨Lc, ⟨hQ, hN⟩, l1, l2, l3⟩ := hpost
  rw [hc] at l1 l2 l3
  dsimp only [Pt.U, Pt.locs, Pt.cells, Pt.slots] at l1 l2 l3 X' hQ M' st
  subst hk hn
  rw [l1, l2, l3] at X'
  obtain ⟨t, o, h1, r⟩ := H _ hQ _ _ vm1 X' rfl M' hZ ho (Fr.app N hN)
  exact ⟨t, o, st.trans h1, r⟩
theorem WP.callS (K : Cx κ w l Z own n0 rm bytes maxL ret nm Q) {y : MethodName} {by' : ByteArray} {mL' : Nat} {rt' : Option FieldType} {rm' : Room} {Q' : Option Value → Heap → Prop} {i W : Nat} {argsL : List Value} {S' : List Value} (w1 : (Cond.methodLink own i y).before a0 Z = true) (w2 : (Cond.static y).before a0 Z = true) (hM : Met w l Z y by' mL' rt' [] rm' argsL.toArray h n0 Q') (wc : (Cond.code y by' mL' rt').before a0 Z = true) (wz : (Cond.initialized y.cls).before a0 Z = true) (hy : y.cls ≠ "java/lang/invoke/MethodHandle" ∧ y.cls ≠ "java/lang/invoke/VarHandle")
    (hL : L.size = maxL) (hlen : ∀ sig, parseMethodDescriptor y.desc = some sig → argsL.length = sig.parameters.length) (hS : S' = argsL.reverse ++ S) (hW : (S.map fun v => v.category).sum = W) (hf : rm'.frames + 1 ≤ rm.frames) (hl : W + (mL' + 11) + rm'.locals ≤ rm.locals) (hk : k + rm'.cells = k') (hn : n + rm'.slots = n') (hk' : k' ≤ rm.cells) (hn' : n' ≤ rm.slots) (hd : decode bytes pc = .ok (.invokestatic i, 3)) (hp : pc + 3 = pc')
    (H : ∀ (v : Option Value) (h' : Heap), Q' v h' → WP κ h' k' n' (mkF κ.m pc' L (v.toList ++ S))) : WP κ h k n (mkF κ.m pc L S') := by
  obtain ⟨hx, hby, hml, -, -, -, rfl, rfl, rfl, rfl, rfl, rfl, -⟩ := K
  subst hp hS
  intro T locs vm0 X e M hZ ho N
  by_cases hw : κ.w = true
  · rw [hw] at hM
    obtain ⟨v, vm₁, B, -, X', hSi, hgr, hpost, st⟩ := callSS X hx (y := y) ho (mvT (s := κ.s.setVm vm0) hZ w1) (mvT (s := κ.s.setVm vm0) hZ w2) (mvT (s := κ.s.setVm vm0) hZ wz) (mvT (s := κ.s.setVm vm0) hZ wc) hy (Met.backW (s := κ.s.setVm vm0) hM hZ wc wz hf hl) (g := mkF κ.m pc L (argsL.reverse ++ S)) rfl (hL.trans hml.symm) (argsL := argsL) (rest := S) hlen rfl (by show 2 * 0 + _ ≤ _; omega) (hb hby hd) (fun _ _ => ⟨rfl, e, by rw [← hk] at hk'; exact hk', by rw [← hn] at hn'; exact hn'⟩)
    obtain ⟨k0, hS0, hk0⟩ := M.2
    obtain ⟨X'', hS1, hZ1, ho1⟩ := rebS hS0 hk0 X' hSi (e ▸ hgr) hZ ho
    exact Ends.call (Q' := Q') (T1 := ⟨T.setVm vm₁, locs, k, n⟩) M N rfl hpost hk hn X'' ⟨fun q => (by rw [hw] at q; cases q), _, hS1, Nat.le_refl _⟩ hZ1 ho1 st (H v)
  · have hw' : κ.w = false := by simpa using hw
    rw [hw'] at hM
    obtain ⟨v, vm₁, B, -, X', hpost, st⟩ := Jvm.LawKit.callS X hx (y := y) ho (mvT (s := κ.s.setVm vm0) hZ w1) (mvT (s := κ.s.setVm vm0) hZ w2) (mvT (s := κ.s.setVm vm0) hZ wz) (mvT (s := κ.s.setVm vm0) hZ wc) hy (Met.back (s := κ.s.setVm vm0) hM hZ wc wz hf hl) (g := mkF κ.m pc L (argsL.reverse ++ S)) rfl (hL.trans hml.symm) (argsL := argsL) (rest := S) hlen rfl (by show 2 * 0 + _ ≤ _; omega) (hb hby hd) (fun _ _ => ⟨rfl, e, by rw [← hk] at hk'; exact hk', by rw [← hn] at hn'; exact hn'⟩)
    refine Ends.call (Q' := Q') (T1 := ⟨T.setVm vm₁, locs, k, n⟩) M N rfl hpost hk hn X' ?_ hZ ho (st _ (Steps.refl _)) (H v)
    have e0 := M.1 hw'
    subst e0
    exact Md.start _ _ _
theorem WP.callI (K : Cx κ w l Z own n0 rm bytes maxL ret nm Q) {y : MethodName} {by' : ByteArray} {mL' : Nat}  {rm' : Room} {Q' : Option Value → Heap → Prop} {i W : Nat} {argsL : List Value} {S' : List Value} {a : Addr} (hy1 : y.name = "<init>") (w1 : (Cond.methodLink own i y).before a0 Z = true) (w2 : (Cond.instanceMethod y).before a0 Z = true) (hM : Met w l Z y by' mL' none [] rm' (.ref a :: argsL).toArray h n0 Q') (wc : (Cond.code y by' mL' none).before a0 Z = true) (wz : (Cond.initialized y.cls).before a0 Z = true) (hy : y.cls ≠ "java/lang/invoke/MethodHandle" ∧ y.cls ≠ "java/lang/invoke/VarHandle")
    (hL : L.size = maxL) (hlen : ∀ sig, parseMethodDescriptor y.desc = some sig → argsL.length = sig.parameters.length) (hS : S' = argsL.reverse ++ .ref a :: S) (hW : (S.map fun v => v.category).sum = W) (hf : rm'.frames + 1 ≤ rm.frames) (hl : W + (mL' + 11) + rm'.locals ≤ rm.locals) (hk : k + rm'.cells = k') (hn : n + rm'.slots = n') (hk' : k' ≤ rm.cells) (hn' : n' ≤ rm.slots) (hd : decode bytes pc = .ok (.invokespecial i, 3)) (hp : pc + 3 = pc')
    (H : ∀ (v : Option Value) (h' : Heap), Q' v h' → WP κ h' k' n' (mkF κ.m pc' L (v.toList ++ S))) : WP κ h k n (mkF κ.m pc L S') := by
  obtain ⟨hx, hby, hml, -, -, -, rfl, rfl, rfl, rfl, rfl, rfl, -⟩ := K
  subst hp hS
  intro T locs vm0 X e M hZ ho N
  by_cases hw : κ.w = true
  · rw [hw] at hM
    obtain ⟨v, vm₁, B, -, X', hSi, hgr, hpost, st⟩ := X.specialBackS hx (y := y) hy1 ho (mvT (s := κ.s.setVm vm0) hZ w1) (mvT (s := κ.s.setVm vm0) hZ w2) (mvT (s := κ.s.setVm vm0) hZ wc) hy (Met.backW (s := κ.s.setVm vm0) hM hZ wc wz hf hl) (g := mkF κ.m pc L (argsL.reverse ++ .ref a :: S)) rfl (hL.trans hml.symm) (Steps.refl _) (a := a) (argsL := argsL) (rest := S) hlen rfl (by show 2 * 0 + _ ≤ _; omega) (hb hby hd) (fun _ _ => ⟨rfl, e, by rw [← hk] at hk'; exact hk', by rw [← hn] at hn'; exact hn'⟩)
    obtain ⟨k0, hS0, hk0⟩ := M.2
    obtain ⟨X'', hS1, hZ1, ho1⟩ := rebS hS0 hk0 X' hSi (e ▸ hgr) hZ ho
    exact Ends.call (Q' := Q') (T1 := ⟨T.setVm vm₁, locs, k, n⟩) M N rfl hpost hk hn X'' ⟨fun q => (by rw [hw] at q; cases q), _, hS1, Nat.le_refl _⟩ hZ1 ho1 st (H v)
  · have hw' : κ.w = false := by simpa using hw
    rw [hw'] at hM
    obtain ⟨v, vm₁, B, -, X', hpost, st⟩ := X.specialBack hx (y := y) hy1 ho (mvT (s := κ.s.setVm vm0) hZ w1) (mvT (s := κ.s.setVm vm0) hZ w2) (mvT (s := κ.s.setVm vm0) hZ wc) hy (Met.back (s := κ.s.setVm vm0) hM hZ wc wz hf hl) (g := mkF κ.m pc L (argsL.reverse ++ .ref a :: S)) rfl (hL.trans hml.symm) (Steps.refl _) (a := a) (argsL := argsL) (rest := S) hlen rfl (by show 2 * 0 + _ ≤ _; omega) (hb hby hd) (fun _ _ => ⟨rfl, e, by rw [← hk] at hk'; exact hk', by rw [← hn] at hn'; exact hn'⟩)
    refine Ends.call (Q' := Q') (T1 := ⟨T.setVm vm₁, locs, k, n⟩) M N rfl hpost hk hn X' ?_ hZ ho st (H v)
    have e0 := M.1 hw'
    subst e0
    exact Md.start _ _ _
theorem WP.callV (K : Cx κ w l Z own n0 rm bytes maxL ret nm Q) {x y : MethodName} {by' : ByteArray} {mL' : Nat} {rt' : Option FieldType} {rm' : Room} {Q' : Option Value → Heap → Prop} {i W : Nat} {argsL : List Value} {S' : List Value} {a : Addr} {C : String} (w1 : (Cond.methodLink own i x).before a0 Z = true) (w2 : (Cond.declares x).before a0 Z = true) (nf : ∀ vm0 : Vm, Z.Warmed39 vm0 → NotFace (κ.s.setVm vm0) x) (w3 : (Cond.selects C x y).before a0 Z = true) (w4 : (Cond.instanceMethod y).before a0 Z = true) (hx' : x.cls ≠ "java/lang/invoke/MethodHandle" ∧ x.cls ≠ "java/lang/invoke/VarHandle") (E : Exa Z h a C) (hM : Met w l Z y by' mL' rt' [] rm' (.ref a :: argsL).toArray h n0 Q') (wc : (Cond.code y by' mL' rt').before a0 Z = true) (wz : (Cond.initialized y.cls).before a0 Z = true) (hy : y.cls ≠ "java/lang/invoke/MethodHandle" ∧ y.cls ≠ "java/lang/invoke/VarHandle")
    (hL : L.size = maxL) (hlen : ∀ sig, parseMethodDescriptor x.desc = some sig → argsL.length = sig.parameters.length) (hS : S' = argsL.reverse ++ .ref a :: S) (hW : (S.map fun v => v.category).sum = W) (hf : rm'.frames + 1 ≤ rm.frames) (hl : W + (mL' + 11) + rm'.locals ≤ rm.locals) (hk : k + rm'.cells = k') (hn : n + rm'.slots = n') (hk' : k' ≤ rm.cells) (hn' : n' ≤ rm.slots) (hd : decode bytes pc = .ok (.invokevirtual i, 3)) (hp : pc + 3 = pc')
    (H : ∀ (v : Option Value) (h' : Heap), Q' v h' → WP κ h' k' n' (mkF κ.m pc' L (v.toList ++ S))) : WP κ h k n (mkF κ.m pc L S') := by
  obtain ⟨hx, hby, hml, -, -, -, rfl, rfl, rfl, rfl, rfl, rfl, -⟩ := K
  subst hp hS
  intro T locs vm0 X e M hZ ho N
  obtain ⟨cB, kB, q1, q2, q3⟩ := isOf (s := κ.s.setVm vm0) hZ e E
  by_cases hw : κ.w = true
  · rw [hw] at hM
    obtain ⟨v, vm₁, B, -, X', hSi, hgr, hpost, st⟩ := X.virtualBackS hx (y := x) (z := y) ho (mvT (s := κ.s.setVm vm0) hZ w1) (mvT (s := κ.s.setVm vm0) hZ w2) (nf vm0 hZ) (mvT (s := κ.s.setVm vm0) hZ w3) (mvT (s := κ.s.setVm vm0) hZ w4) hx' (Met.backW (s := κ.s.setVm vm0) hM hZ wc wz hf hl) q1 q3 (g := mkF κ.m pc L (argsL.reverse ++ .ref a :: S)) rfl (hL.trans hml.symm) (Steps.refl _) (argsL := argsL) (rest := S) hlen rfl (by show 2 * 0 + _ ≤ _; omega) (hb hby hd) (fun _ _ => ⟨rfl, e, by rw [← hk] at hk'; exact hk', by rw [← hn] at hn'; exact hn'⟩)
    obtain ⟨k0, hS0, hk0⟩ := M.2
    obtain ⟨X'', hS1, hZ1, ho1⟩ := rebS hS0 hk0 X' hSi (e ▸ hgr) hZ ho
    exact Ends.call (Q' := Q') (T1 := ⟨T.setVm vm₁, locs, k, n⟩) M N rfl hpost hk hn X'' ⟨fun q => (by rw [hw] at q; cases q), _, hS1, Nat.le_refl _⟩ hZ1 ho1 st (H v)
  · have hw' : κ.w = false := by simpa using hw
    rw [hw'] at hM
    obtain ⟨v, vm₁, B, -, X', hpost, st⟩ := X.virtualBack hx (y := x) (z := y) ho (mvT (s := κ.s.setVm vm0) hZ w1) (mvT (s := κ.s.setVm vm0) hZ w2) (nf vm0 hZ) (mvT (s := κ.s.setVm vm0) hZ w3) (mvT (s := κ.s.setVm vm0) hZ w4) hx' (Met.back (s := κ.s.setVm vm0) hM hZ wc wz hf hl) q1 q3 (g := mkF κ.m pc L (argsL.reverse ++ .ref a :: S)) rfl (hL.trans hml.symm) (Steps.refl _) (argsL := argsL) (rest := S) hlen rfl (by show 2 * 0 + _ ≤ _; omega) (hb hby hd) (fun _ _ => ⟨rfl, e, by rw [← hk] at hk'; exact hk', by rw [← hn] at hn'; exact hn'⟩)
    refine Ends.call (Q' := Q') (T1 := ⟨T.setVm vm₁, locs, k, n⟩) M N rfl hpost hk hn X' ?_ hZ ho st (H v)
    have e0 := M.1 hw'
    subst e0
    exact Md.start _ _ _
theorem WP.callP (K : Cx κ w l Z own n0 rm bytes maxL ret nm Q) {y : MethodName} {by' : ByteArray} {mL' : Nat} {rt' : Option FieldType} {rm' : Room} {Q' : Option Value → Heap → Prop} {i W : Nat} {argsL : List Value} {S' : List Value} {a : Addr} {nI : Nat} {C : String} (w1 : (Cond.methodLink own i y).before a0 Z = true) (w2 : (Cond.instanceMethod y).before a0 Z = true) (wi : (Cond.instantiable y.cls nI).before a0 Z = true) (w3 : (Cond.privateMethod y).before a0 Z = true) (E : Exa Z h a C) (hM : Met w l Z y by' mL' rt' [] rm' (.ref a :: argsL).toArray h n0 Q') (wc : (Cond.code y by' mL' rt').before a0 Z = true) (wz : (Cond.initialized y.cls).before a0 Z = true) (hy : y.cls ≠ "java/lang/invoke/MethodHandle" ∧ y.cls ≠ "java/lang/invoke/VarHandle")
    (hL : L.size = maxL) (hlen : ∀ sig, parseMethodDescriptor y.desc = some sig → argsL.length = sig.parameters.length) (hS : S' = argsL.reverse ++ .ref a :: S) (hW : (S.map fun v => v.category).sum = W) (hf : rm'.frames + 1 ≤ rm.frames) (hl : W + (mL' + 11) + rm'.locals ≤ rm.locals) (hk : k + rm'.cells = k') (hn : n + rm'.slots = n') (hk' : k' ≤ rm.cells) (hn' : n' ≤ rm.slots) (hd : decode bytes pc = .ok (.invokevirtual i, 3)) (hp : pc + 3 = pc')
    (H : ∀ (v : Option Value) (h' : Heap), Q' v h' → WP κ h' k' n' (mkF κ.m pc' L (v.toList ++ S))) : WP κ h k n (mkF κ.m pc L S') := by
  obtain ⟨hx, hby, hml, -, -, -, rfl, rfl, rfl, rfl, rfl, rfl, -⟩ := K
  subst hp hS
  intro T locs vm0 X e M hZ ho N
  obtain ⟨cell, e1, e2⟩ := E.cell
  have hpr : (κ.s.setVm vm0).PrivateAt y := Cond.privateMethod_at (mvP (s := κ.s.setVm vm0) hZ w3 (args := #[]))
  have hsel : (Cond.selects y.cls y y).before κ.a (κ.s.setVm vm0) = true := by
    obtain ⟨c1, k1, i1, i2, i3, i4, -⟩ := Cond.instantiable_spec (mvT (args := κ.a) (s := κ.s.setVm vm0) hZ wi)
    rw [Bool.or_eq_false_iff] at i4
    exact Jvm.Stand.selects_self_of_private i1 i2 i4.1 hpr (mvT (s := κ.s.setVm vm0) hZ w2) hy
  by_cases hw : κ.w = true
  · rw [hw] at hM
    obtain ⟨v, vm₁, B, -, X', hSi, hgr, hpost, st⟩ := X.privateBackS hx (y := y) ho (mvT (s := κ.s.setVm vm0) hZ w1) (mvT (s := κ.s.setVm vm0) hZ w2) hsel hpr (mvT (s := κ.s.setVm vm0) hZ wc) hy (Met.backW (s := κ.s.setVm vm0) hM hZ wc wz hf hl) (g := mkF κ.m pc L (argsL.reverse ++ .ref a :: S)) rfl (hL.trans hml.symm) (Steps.refl _) (a := a) (by rw [e]; exact e1) e2 (argsL := argsL) (rest := S) hlen rfl (by show 2 * 0 + _ ≤ _; omega) (hb hby hd) (fun _ _ => ⟨rfl, e, by rw [← hk] at hk'; exact hk', by rw [← hn] at hn'; exact hn'⟩)
    obtain ⟨k0, hS0, hk0⟩ := M.2
    obtain ⟨X'', hS1, hZ1, ho1⟩ := rebS hS0 hk0 X' hSi (e ▸ hgr) hZ ho
    exact Ends.call (Q' := Q') (T1 := ⟨T.setVm vm₁, locs, k, n⟩) M N rfl hpost hk hn X'' ⟨fun q => (by rw [hw] at q; cases q), _, hS1, Nat.le_refl _⟩ hZ1 ho1 st (H v)
  · have hw' : κ.w = false := by simpa using hw
    rw [hw'] at hM
    obtain ⟨v, vm₁, B, -, X', hpost, st⟩ := X.privateBack hx (y := y) ho (mvT (s := κ.s.setVm vm0) hZ w1) (mvT (s := κ.s.setVm vm0) hZ w2) hsel hpr (mvT (s := κ.s.setVm vm0) hZ wc) hy (Met.back (s := κ.s.setVm vm0) hM hZ wc wz hf hl) (g := mkF κ.m pc L (argsL.reverse ++ .ref a :: S)) rfl (hL.trans hml.symm) (Steps.refl _) (a := a) (by rw [e]; exact e1) e2 (argsL := argsL) (rest := S) hlen rfl (by show 2 * 0 + _ ≤ _; omega) (hb hby hd) (fun _ _ => ⟨rfl, e, by rw [← hk] at hk'; exact hk', by rw [← hn] at hn'; exact hn'⟩)
    refine Ends.call (Q' := Q') (T1 := ⟨T.setVm vm₁, locs, k, n⟩) M N rfl hpost hk hn X' ?_ hZ ho st (H v)
    have e0 := M.1 hw'
    subst e0
    exact Md.start _ _ _
theorem Ary.arv {a : Addr} {kA : ClassId} {ty : FieldType} {N : Nat} {f : Nat → Value} (A : Ary Z h a kA ty N f) (dv : Value) : Arv Z h a kA ty (Int32.ofNat N) ((List.range N).map f) dv := by
  obtain ⟨c, A, r1, r2, r3, r4, r5⟩ := A
  have e : (Int32.ofNat N).toNatClampNeg = N := by simp only [Int32.toNatClampNeg, Int32.toInt_ofNat_small r3]; omega
  have g : ∀ i, i < N → ((List.range N).map f).getD i dv = f i := fun i hi => by simp [List.getD_eq_getElem?_getD, hi]
  refine ⟨c, A, r1, by rw [e]; exact r2, ?_, fun i hi => ?_, fun i hi => ?_⟩
  · rw [Int32.lt_iff_toInt_lt, Int32.toInt_ofNat_small r3]; show ¬ (N : Int) < 0; omega
  · rw [g i (by omega)]; exact r4 i (by omega)
  · rw [g i (by omega)]; exact r5 i (by omega)
theorem Arv.ary {a : Addr} {kA : ClassId} {ty : FieldType} {N : Nat} {vs : List Value} {dv : Value} (r3 : N < 2 ^ 31) (A : Arv Z h a kA ty (Int32.ofNat N) vs dv) : Ary Z h a kA ty N (fun i => vs.getD i dv) := by
  obtain ⟨c, A, r1, r2, -, H, G⟩ := A
  have e : (Int32.ofNat N).toNatClampNeg = N := by simp only [Int32.toNatClampNeg, Int32.toInt_ofNat_small r3]; omega
  rw [e] at r2
  exact ⟨c, A, r1, r2, r3, fun i hi => H i (by omega), fun i hi => G i (by omega)⟩
theorem cp_get {f g : Nat → Value} {N i j m : Nat} {dv : Value} (hj : j + m ≤ N) {x : Nat} (hx : x < N) : (((List.range N).map g).take j ++ ((List.range m).map fun t => f (i + t)) ++ ((List.range N).map g).drop (j + m)).getD x dv = if j ≤ x ∧ x < j + m then f (i + (x - j)) else g x := by
  simp only [List.getD_eq_getElem?_getD]
  by_cases h1 : x < j
  · rw [List.append_assoc, List.getElem?_append_left (by simp; omega), if_neg (by omega)]
    simp [List.getElem?_take, h1, hx]
  · by_cases h2 : x < j + m
    · rw [List.append_assoc, List.getElem?_append_right (by simp; omega), if_pos ⟨by omega, h2⟩]
      have e : (((List.range N).map g).take j).length = j := by simp; omega
      rw [e, List.getElem?_append_left (by simp; omega)]
      simp [show x - j < m by omega]
    · rw [List.getElem?_append_right (by simp; omega), if_neg (by omega)]
      have e : (((List.range N).map g).take j ++ ((List.range m).map fun t => f (i + t))).length = j + m := by simp; omega
      rw [e]
      simp [List.getElem?_drop, show j + m + (x - (j + m)) = x by omega, hx]
theorem WP.arraycopy (K : Cx κ w l Z own n0 rm bytes maxL ret nm Q) {i0 W : Nat} {a b : Addr} {kA kB : ClassId} {ty : FieldType} {N M i j m : Nat} {f g : Nat → Value} {sp dp nn : Int32} (w1 : (Cond.methodLink own i0 Jvm.Stand.acN).before a0 Z = true) (w2 : (Cond.native Jvm.Stand.acN).before a0 Z = true) (w3 : (Cond.static Jvm.Stand.acN).before a0 Z = true) (w4 : (Cond.initialized "java/lang/System").before a0 Z = true)
    (A : Ary Z h a kA ty N f) (B : Ary Z h b kB ty M g) (hp : refKind ty = false) (hsp : sp.toInt = (i : Int)) (hdp : dp.toInt = (j : Int)) (hnn : nn.toInt = (m : Int)) (h1 : i + m ≤ N) (h2 : j + m ≤ M) (ha : n0 ≤ b) (hd : decode bytes pc = .ok (.invokestatic i0, 3)) (hL : L.size = maxL) (hf : 1 ≤ rm.frames) (hW : (S.map fun v => v.category).sum = W) (hl : W + (nativeFrameWords "java/lang/System" "arraycopy" 5 + 11) ≤ rm.locals) (hpc : pc + 3 = pc')
    (H : ∀ h', Keep h h' [b] → Ary Z h' b kB ty M (fun x => if j ≤ x ∧ x < j + m then f (i + (x - j)) else g x) → WP κ h' k n (mkF κ.m pc' L S)) : WP κ h k n (mkF κ.m pc L (.int nn :: .int dp :: .ref b :: .int sp :: .ref a :: S)) := by
  obtain ⟨hx, hby, hml, -, -, hnm, -, -, rfl, rfl, rfl, rfl, -⟩ := K
  subst hpc
  intro T locs vm0 X e M' hZ ho N'
  have nA := A.len; have nB := B.len
  have eA : (Int32.ofNat N).toNatClampNeg = N := by simp only [Int32.toNatClampNeg, Int32.toInt_ofNat_small nA]; omega
  have eB : (Int32.ofNat M).toNatClampNeg = M := by simp only [Int32.toNatClampNeg, Int32.toInt_ofNat_small nB]; omega
  have nn0 : ∀ {z : Int32} {q : Nat}, z.toInt = (q : Int) → ¬ z < 0 := fun {z q} hz => by rw [Int32.lt_iff_toInt_lt, hz]; show ¬ (q : Int) < 0; omega
  obtain ⟨T', h', L', X', e', NF, K', A', st⟩ := cpA X hx (s := κ.s.setVm vm0) hZ ho w1 w2 w3 w4 e (A.arv .null) (B.arv .null) (Or.inl ⟨rfl, hp⟩) (nn0 hsp) (nn0 hdp) (nn0 hnn) (by rw [nat_of hsp, nat_of hnn, eA]; exact h1) (by rw [nat_of hdp, nat_of hnn, eB]; exact h2) rfl (by rw [nat_of hdp, nat_of hnn]; simpa using h2) N' ha (g := mkF κ.m pc L (.int nn :: .int dp :: .ref b :: .int sp :: .ref a :: S)) rfl (hL.trans hml.symm) rfl (hb hby hd) hf (W := W) (by show 2 * 0 + _ ≤ _; omega) hl
  have A2 := (Arv.ary nB A').congr (f' := fun x => if j ≤ x ∧ x < j + m then f (i + (x - j)) else g x) (fun x hx' => by
    rw [nat_of hdp, nat_of hnn, nat_of hsp]
    have q : (List.map (fun t => ((List.range N).map f).getD (i + t) Value.null) (List.range m)) = (List.range m).map fun t => f (i + t) := List.map_congr_left fun t ht => by
      have := List.mem_range.mp ht
      simp [List.getD_eq_getElem?_getD, show i + t < N by omega]
    rw [q]
    exact cp_get h2 hx')
  obtain ⟨t, o, h1', r⟩ := H h' K' A2 T' _ vm0 X' e' (M'.mono K'.1) hZ ho NF
  exact ⟨t, o, st _ h1', r⟩
theorem WP.callF (K : Cx κ w l Z own n0 rm bytes maxL ret nm Q) {x y : MethodName} {by' : ByteArray} {mL' : Nat} {rt' : Option FieldType} {rm' : Room} {Q' : Option Value → Heap → Prop} {i W : Nat} {argsL : List Value} {S' : List Value} {a : Addr} {C : String} {cnt : Nat} (w1 : (Cond.methodLink own i x).before a0 Z = true) (w2 : (Cond.declares x).before a0 Z = true) (w3 : ∀ vm0 : Vm, Z.Warmed39 vm0 → (Cond.interfaceMethod x.cls x.cls x.name x.desc).before κ.a (κ.s.setVm vm0) = true) (w4 : (Cond.selects C x y).before a0 Z = true) (w5 : (Cond.instanceMethod y).before a0 Z = true) (w6 : (Cond.publicMethod y).before a0 Z = true) (w7 : (Cond.unhidden C x.name x.desc).before a0 Z = true) (w8 : (Cond.castable C x.cls).before a0 Z = true) (hx' : x.cls ≠ "java/lang/invoke/MethodHandle" ∧ x.cls ≠ "java/lang/invoke/VarHandle") (E : Exa Z h a C) (hM : Met w l Z y by' mL' rt' [] rm' (.ref a :: argsL).toArray h n0 Q') (wc : (Cond.code y by' mL' rt').before a0 Z = true) (wz : (Cond.initialized y.cls).before a0 Z = true) (hy : y.cls ≠ "java/lang/invoke/MethodHandle" ∧ y.cls ≠ "java/lang/invoke/VarHandle")
    (hL : L.size = maxL) (hlen : ∀ sig, parseMethodDescriptor x.desc = some sig → argsL.length = sig.parameters.length) (hS : S' = argsL.reverse ++ .ref a :: S) (hW : (S.map fun v => v.category).sum = W) (hf : rm'.frames + 1 ≤ rm.frames) (hl : W + (mL' + 11) + rm'.locals ≤ rm.locals) (hk : k + rm'.cells = k') (hn : n + rm'.slots = n') (hk' : k' ≤ rm.cells) (hn' : n' ≤ rm.slots) (hd : decode bytes pc = .ok (.invokeinterface i cnt, 5)) (hp : pc + 5 = pc')
    (H : ∀ (v : Option Value) (h' : Heap), Q' v h' → WP κ h' k' n' (mkF κ.m pc' L (v.toList ++ S))) : WP κ h k n (mkF κ.m pc L S') := by
  obtain ⟨hx, hby, hml, -, -, -, rfl, rfl, rfl, rfl, rfl, rfl, -⟩ := K
  subst hp hS
  intro T locs vm0 X e M hZ ho N
  obtain ⟨cB, kB, q1, q2, q3⟩ := isOf (s := κ.s.setVm vm0) hZ e E
  by_cases hw : κ.w = true
  · rw [hw] at hM
    obtain ⟨v, vm₁, B, -, X', hSi, hgr, hpost, st⟩ := X.interfaceBackS hx (xi := x) (y := y) ho (mvT (s := κ.s.setVm vm0) hZ w1) (mvT (s := κ.s.setVm vm0) hZ w2) (w3 vm0 hZ) (mvT (s := κ.s.setVm vm0) hZ w4) (mvT (s := κ.s.setVm vm0) hZ w5) (mvT (s := κ.s.setVm vm0) hZ w6) (mvT (s := κ.s.setVm vm0) hZ w7) (mvT (s := κ.s.setVm vm0) hZ w8) hx' (Met.backW (s := κ.s.setVm vm0) hM hZ wc wz hf hl) q1 q2 q3 (g := mkF κ.m pc L (argsL.reverse ++ .ref a :: S)) rfl (hL.trans hml.symm) (Steps.refl _) (argsL := argsL) (rest := S) hlen rfl (by show 2 * 0 + _ ≤ _; omega) (hb hby hd) (fun _ _ => ⟨rfl, e, by rw [← hk] at hk'; exact hk', by rw [← hn] at hn'; exact hn'⟩)
    obtain ⟨k0, hS0, hk0⟩ := M.2
    obtain ⟨X'', hS1, hZ1, ho1⟩ := rebS hS0 hk0 X' hSi (e ▸ hgr) hZ ho
    exact Ends.call (Q' := Q') (T1 := ⟨T.setVm vm₁, locs, k, n⟩) M N rfl hpost hk hn X'' ⟨fun q => (by rw [hw] at q; cases q), _, hS1, Nat.le_refl _⟩ hZ1 ho1 st (H v)
  · have hw' : κ.w = false := by simpa using hw
    rw [hw'] at hM
    obtain ⟨v, vm₁, B, -, X', hpost, st⟩ := X.interfaceBack hx (xi := x) (y := y) ho (mvT (s := κ.s.setVm vm0) hZ w1) (mvT (s := κ.s.setVm vm0) hZ w2) (w3 vm0 hZ) (mvT (s := κ.s.setVm vm0) hZ w4) (mvT (s := κ.s.setVm vm0) hZ w5) (mvT (s := κ.s.setVm vm0) hZ w6) (mvT (s := κ.s.setVm vm0) hZ w7) (mvT (s := κ.s.setVm vm0) hZ w8) hx' (Met.back (s := κ.s.setVm vm0) hM hZ wc wz hf hl) q1 q2 q3 (g := mkF κ.m pc L (argsL.reverse ++ .ref a :: S)) rfl (hL.trans hml.symm) (Steps.refl _) (argsL := argsL) (rest := S) hlen rfl (by show 2 * 0 + _ ≤ _; omega) (hb hby hd) (fun _ _ => ⟨rfl, e, by rw [← hk] at hk'; exact hk', by rw [← hn] at hn'; exact hn'⟩)
    refine Ends.call (Q' := Q') (T1 := ⟨T.setVm vm₁, locs, k, n⟩) M N rfl hpost hk hn X' ?_ hZ ho st (H v)
    have e0 := M.1 hw'
    subst e0
    exact Md.start _ _ _
theorem Ary.newR {cA : ClassId} {C : String} {z : Int32} {a : Addr} {N : Nat} (A : Arr Z h a (newA cA (.object C) z) (.object C)) (hz : z.toInt = (N : Int)) : Ary Z h a cA (.object C) N (fun _ => .null) := Ary.of_new (ty := .object C) A hz
theorem WP.anewarray (K : Cx κ w l Z own n0 rm bytes maxL ret nm Q) {i : Nat} {C : String} {z : Int32} {N cap : Nat} (w1 : (Cond.classLink own i C).before a0 Z = true) (w2 : (Cond.arrayOver (.object C)).before a0 Z = true) (hd : decode bytes pc = .ok (.anewarray i, 3)) (hz : z.toInt = (N : Int)) (hcap : N ≤ cap) (hbig : cap * 8 ≤ 536870912) (hk : k + 1 = k') (hn : n + cap = n') (hk' : k' ≤ rm.cells) (hn' : n' ≤ rm.slots) (hp : pc + 3 = pc')
    (H : ∀ (h' : Heap) (a : Addr) (kA : ClassId), @Eq Nat h.size a → Ext h h' → Ary Z h' a kA (.object C) N (fun _ => .null) → Ovr Z kA C → WP κ h' k' n' (mkF κ.m pc' L (.ref a :: S))) : WP κ h k n (mkF κ.m pc L (.int z :: S)) := by
  obtain ⟨hx, hby, -, -, -, hnm, -, -, rfl, rfl, rfl, rfl, -⟩ := K
  subst hp hk hn
  intro T locs vm0 X e M hZ ho N
  obtain ⟨T', h', cA, X', e', E, A, O, st⟩ := RoadKit.newR X hx (s := κ.s.setVm vm0) hZ ho w1 w2 e (g := mkF κ.m pc L (.int z :: S)) rfl (hb hby hd) rfl (by rw [Int32.lt_iff_toInt_lt, hz]; show ¬ _ < (0 : Int); omega) (cap := cap) (by rw [nat_of hz]; exact hcap) hbig hk' hn'
  obtain ⟨t, o, h1, r⟩ := H h' _ cA rfl E (Ary.newR A hz) O T' _ vm0 X' e' (M.mono E.1) hZ ho N
  exact ⟨t, o, st _ h1, r⟩
theorem WP.aastore (K : Cx κ w l Z own n0 rm bytes maxL ret nm Q) {a y : Addr} {kA : ClassId} {ty : FieldType} {C : String} {N i : Nat} {f : Nat → Value} {j : Int32} (A : Ary Z h a kA ty N f) (ht : ty.isReference = true) (O : Ovr Z kA C) (I : Ins Z h y C true) (hj : j.toInt = (i : Int)) (hi : i < N) (ha : n0 ≤ a) (hd : decode bytes pc = .ok (.aastore, 1)) (hp : pc + 1 = pc')
    (H : ∀ h', Wr h h' a i (.ref y) → Ary Z h' a kA ty N (upd f i (.ref y)) → WP κ h' k n (mkF κ.m pc' L S)) : WP κ h k n (mkF κ.m pc L (.ref y :: .int j :: .ref a :: S)) := by
  obtain ⟨hx, hby, -, -, -, hnm, -, -, rfl, rfl, rfl, rfl, -⟩ := K
  subst hp
  have A0 := A
  obtain ⟨c, A, q, r2, -⟩ := A
  intro T locs vm0 X e M hZ ho N
  obtain ⟨T', h', X', e', W, st⟩ := RoadKit.stR X hx (s := κ.s.setVm vm0) hZ e A (in_of r2 hj hi) ht (Sto.ofV A q O I) (g := mkF κ.m pc L (.ref y :: .int j :: .ref a :: S)) rfl rfl (hb hby hd)
  rw [nat_of hj] at W
  obtain ⟨t, o, h1, r⟩ := H h' W (A0.set W (by cases ty <;> first | rfl | (cases ht))) T' _ vm0 X' e' (M.mono (Nat.le_of_eq W.size.symm)) hZ ho (Fr.snoc X' N ha)
  exact ⟨t, o, st _ h1, r⟩
theorem WP.checkcast (K : Cx κ w l Z own n0 rm bytes maxL ret nm Q) {i : Nat} {C : String} {a : Addr} (w1 : (Cond.classLink own i C).before a0 Z = true) (I : Ins Z h a C true) (hd : decode bytes pc = .ok (.checkcast i, 3)) (hp : pc + 3 = pc') (H : WP κ h k n (mkF κ.m pc' L (.ref a :: S))) : WP κ h k n (mkF κ.m pc L (.ref a :: S)) := by
  obtain ⟨hx, hby, -, -, -, hnm, -, -, rfl, rfl, rfl, rfl, -⟩ := K
  subst hp
  intro T locs vm0 X e M hZ ho N
  obtain ⟨T', X', e', st⟩ := castY X hx (s := κ.s.setVm vm0) hZ ho w1 e I (g := mkF κ.m pc L (.ref a :: S)) rfl rfl (hb hby hd)
  obtain ⟨t, o, h1, r⟩ := H T' locs vm0 X' e' M hZ ho N
  exact ⟨t, o, st _ h1, r⟩
theorem WP.instY (K : Cx κ w l Z own n0 rm bytes maxL ret nm Q) {i : Nat} {C : String} {a : Addr} (w1 : (Cond.classLink own i C).before a0 Z = true) (I : Ins Z h a C true) (hd : decode bytes pc = .ok (.instanceof i, 3)) (hp : pc + 3 = pc') (H : WP κ h k n (mkF κ.m pc' L (.int 1 :: S))) : WP κ h k n (mkF κ.m pc L (.ref a :: S)) := by
  obtain ⟨hx, hby, -, -, -, hnm, -, -, rfl, rfl, rfl, rfl, -⟩ := K
  subst hp
  intro T locs vm0 X e M hZ ho N
  obtain ⟨T', X', e', st⟩ := RoadKit.instY X hx (s := κ.s.setVm vm0) hZ ho w1 e I (g := mkF κ.m pc L (.ref a :: S)) rfl rfl (hb hby hd)
  obtain ⟨t, o, h1, r⟩ := H T' locs vm0 X' e' M hZ ho N
  exact ⟨t, o, st _ h1, r⟩
/-- 'ldc' of a String constant (the wide mode alone): some String, of whose text nothing is said -/
theorem WP.ldcS (K : Cx κ true l Z own n0 rm bytes maxL ret nm Q) {i cap : Nat} {text : String} (w1 : (Cond.stringLink own i text).before a0 Z = true) (wS : ∀ a ∈ Bundle.stringAtoms, a.before a0 Z = true) (hd : decode bytes pc = .ok (.ldc i, 2)) (hcap : 4 * text.toList.length ≤ cap) (hbig : cap ≤ 536870912) (hk : k + 2 = k') (hn : n + (cap + 4) = n') (hk' : k' ≤ rm.cells) (hn' : n' ≤ rm.slots) (hp : pc + 2 = pc')
    (H : ∀ (h' : Heap) (a : Addr), Ext h h' → WP κ h' k' n' (mkF κ.m pc' L (.ref a :: S))) : WP κ h k n (mkF κ.m pc L S) := by
  obtain ⟨hx, hby, -, -, -, -, hw, -, rfl, rfl, rfl, rfl, -⟩ := K
  subst hp hk hn
  intro T locs vm0 X e M hZ ho N
  obtain ⟨k0, hS, hk0⟩ := M.2
  obtain ⟨a, T', h', k1, X', e', E, hS', hk1, hZ', ho', st⟩ := RoadKit.ldcS X hx hZ ho w1 wS e hS hk0 (g := mkF κ.m pc L S) rfl (hb hby hd) hcap hbig hk' hn'
  obtain ⟨t, o, h1, r⟩ := H h' a E T' locs T'.vm X' e' ⟨fun q => (by rw [hw] at q; cases q), k1, hS', hk1⟩ hZ' ho' N
  exact ⟨t, o, st _ h1, r⟩
theorem WP.newarrayE (K : Cx κ w l Z own n0 rm bytes maxL ret nm Q) {aty : ArrayType} {z : Int32} {N cap : Nat} {ad : String} (had : "[" ++ (newarray.typeOf aty).toString = ad) (w1 : (Cond.arrayClass (newarray.typeOf aty)).before a0 Z = true) (hd : decode bytes pc = .ok (.newarray aty, 2)) (hz : z.toInt = (N : Int)) (hcap : N ≤ cap) (hbig : cap * 8 ≤ 536870912) (hk : k + 1 = k') (hn : n + cap = n') (hk' : k' ≤ rm.cells) (hn' : n' ≤ rm.slots) (hp : pc + 2 = pc')
    (H : ∀ (h' : Heap) (a : Addr) (kA : ClassId), @Eq Nat h.size a → Ext h h' → Ary Z h' a kA (newarray.typeOf aty) N (fun _ => defaultValue (newarray.typeOf aty)) → Exa Z h' a ad → WP κ h' k' n' (mkF κ.m pc' L (.ref a :: S))) : WP κ h k n (mkF κ.m pc L (.int z :: S)) := by
  obtain ⟨hx, hby, -, -, -, hnm, -, -, rfl, rfl, rfl, rfl, -⟩ := K
  subst hp hk hn
  intro T locs vm0 X e M hZ ho N
  obtain ⟨T', h', cA, X', e', E, A, Ex, st⟩ := newPE X hx (s := κ.s.setVm vm0) hZ w1 e (g := mkF κ.m pc L (.int z :: S)) rfl (hb hby hd) rfl (by rw [Int32.lt_iff_toInt_lt, hz]; show ¬ _ < (0 : Int); omega) (cap := cap) (by rw [nat_of hz]; exact hcap) hbig hk' hn' had
  obtain ⟨t, o, h1, r⟩ := H h' _ cA rfl E (Ary.of_new A hz) Ex T' _ vm0 X' e' (M.mono E.1) hZ ho N
  exact ⟨t, o, st _ h1, r⟩
/-- the native clone of an array -/
theorem WP.cloneA (K : Cx κ w l Z own n0 rm bytes maxL ret nm Q) {i W cap : Nat} {ad : String} {a : Addr} {kA : ClassId} {ty : FieldType} {N : Nat} {f : Nat → Value} (w1 : (Cond.methodLink own i ⟨ad, "clone", "()Ljava/lang/Object;"⟩).before a0 Z = true) (w2 : (Cond.sameMethod ad "java/lang/Object" "clone" "()Ljava/lang/Object;").before a0 Z = true) (w3 : (Cond.native ⟨"java/lang/Object", "clone", "()Ljava/lang/Object;"⟩).before a0 Z = true)
    (w4 : (Cond.instanceMethod ⟨"java/lang/Object", "clone", "()Ljava/lang/Object;"⟩).before a0 Z = true) (w5 : (Cond.selects ad ⟨ad, "clone", "()Ljava/lang/Object;"⟩ ⟨"java/lang/Object", "clone", "()Ljava/lang/Object;"⟩).before a0 Z = true) (w6 : (Cond.castable ad "java/lang/Cloneable").before a0 Z = true)
    (A : Ary Z h a kA ty N f) (E : Exa Z h a ad) (hd : decode bytes pc = .ok (.invokevirtual i, 3)) (hL : L.size = maxL) (hf : 1 ≤ rm.frames) (hW : (S.map fun v => v.category).sum = W) (hl : W + 14 ≤ rm.locals) (hcap : N ≤ cap) (hk : k + 1 = k') (hn : n + cap = n') (hk' : k' ≤ rm.cells) (hn' : n' ≤ rm.slots) (hp : pc + 3 = pc')
    (H : ∀ (h' : Heap) (b : Addr), @Eq Nat h.size b → Ext h h' → Ary Z h' b kA ty N f → Exa Z h' b ad → WP κ h' k' n' (mkF κ.m pc' L (.ref b :: S))) : WP κ h k n (mkF κ.m pc L (.ref a :: S)) := by
  obtain ⟨hx, hby, hml, -, -, -, -, -, rfl, rfl, rfl, rfl, -⟩ := K
  subst hp hk hn
  intro T locs vm0 X e M hZ ho N'
  obtain ⟨c, A, r1, r2, r3, r4, r5⟩ := A
  have FC : FitC κ.Z c := fitC_of A fun i hi v hv => by rw [r4 i (by omega)] at hv; cases hv; exact r5 i (by omega)
  obtain ⟨T', h', X', e', E', A', Ex, st⟩ := RoadKit.cloneA X hx (s := κ.s.setVm vm0) hZ ho w1 w2 w3 w4 w5 w6 e A E FC (g := mkF κ.m pc L (.ref a :: S)) rfl (hL.trans hml.symm) rfl (hb hby hd) hf (W := W) (by show 2 * 0 + _ ≤ _; omega) hl (cap := cap) (by rw [r2]; exact hcap) hk' hn'
  obtain ⟨t, o, h1, r⟩ := H h' _ rfl E' ⟨cloneOf c, A', r1, r2, r3, r4, r5⟩ Ex T' _ vm0 X' e' (M.mono E'.1) hZ ho N'
  exact ⟨t, o, st _ h1, r⟩
/-- a function object made at a site of the class C, that captured one reference -/
def Fun1 (Z : State) (h : Heap) (σ : Lambda.Shape) (C : String) (b a : Addr) : Prop := ∃ (cell : Cell) (d : ClassId) (dk : Class), h[b]? = some cell ∧ cell.vm = .none ∧ cell.slots[0]? = some (.ref a) ∧ Z.vm.classes[d]? = some dk ∧ dk.name = C ∧ Lambda.isMade { classPath := fun _ => none } Z.vm d σ cell.cls = true ∧ Z.lambdaCallable σ cell.cls = true
section Funs
variable {σ : Lambda.Shape} {C : String} {a b : Addr}
theorem Fun1.lt (F : Fun1 Z h σ C b a) : b < h.size := by obtain ⟨cell, _, _, q, _⟩ := F; exact (Array.getElem?_eq_some_iff.mp q).1
theorem Fun1.ext (E : Ext h h') (F : Fun1 Z h σ C b a) : Fun1 Z h' σ C b a := by obtain ⟨cell, d, dk, q, r⟩ := F; exact ⟨cell, d, dk, E.2 _ _ q, r⟩
theorem Fun1.keep {ws : List Addr} (K : Keep h h' ws) (F : Fun1 Z h σ C b a) (q : b ∉ ws) : Fun1 Z h' σ C b a := by obtain ⟨cell, d, dk, p, r⟩ := F; exact ⟨cell, d, dk, K.2.1 _ _ p q, r⟩
theorem Fun1.other {c : Addr} {sl : Nat} {v : Value} (W : Wr h h' c sl v) (F : Fun1 Z h σ C b a) (q : b ≠ c) : Fun1 Z h' σ C b a := Fun1.keep (Keep.wr (Keep.refl h [c]) W (Or.inl (List.mem_singleton.mpr rfl))) F (fun z => q (List.mem_singleton.mp z))
end Funs
/-- a lambda's site that captures one reference: a new function object -/
theorem WP.lambda1 (K : Cx κ w l Z own n0 rm bytes maxL ret nm Q) {x : MethodName} {i W : Nat} {σ : Lambda.Shape} {C0 : String} {a : Addr} (hN : Z.methodNamed? x = some κ.m) (w1 : (Cond.lambdaSite x pc i σ).before a0 Z = true) (wO : (Cond.instantiable "java/lang/Object" 0).before a0 Z = true) (hcap : σ.captured = [.object C0]) (lays : ((σ.file x.cls).bind (layoutFields · 0)).map (·.2.1) = some #[.object C0])
    (hd : decode bytes pc = .ok (.invokedynamic i, 5)) (hL : L.size = maxL) (hW : (S.map fun v => v.category).sum = W) (hl : W + 1 + 3072 ≤ rm.locals) (hk : k + 1 = k') (hn : n + 1 = n') (hk' : k' ≤ rm.cells) (hn' : n' ≤ rm.slots) (hp : pc + 5 = pc')
    (H : ∀ (h' : Heap) (b : Addr), @Eq Nat h.size b → Ext h h' → Fun1 Z h' σ x.cls b a → WP κ h' k' n' (mkF κ.m pc' L (.ref b :: S))) : WP κ h k n (mkF κ.m pc L (.ref a :: S)) := by
  obtain ⟨hx, hby, hml, -, -, -, -, -, rfl, rfl, rfl, rfl, -⟩ := K
  subst hp hk hn
  intro T locs vm0 X e M hZ ho N'
  obtain ⟨cK, one, hat⟩ := Cond.lambdaSite_spec w1
  obtain ⟨m', kS, cfS, i0, p0, lk, hm', hkS, hcfS, hshape, -, hfind, hmade, hcan, hlk⟩ := State.lambdaAt?_spec hat
  cases hN.symm.trans hm'
  obtain ⟨rfl, rfl, -⟩ : lk = .makes cK ∧ one = none ∧ σ.captured ≠ [] := by
    rcases hlk with ⟨a, cell, -, -, h, -⟩ | h
    · rw [hcap] at h; cases h
    · exact h
  obtain ⟨kS', hkS', hnameS⟩ := className_of_methodNamed hN
  cases hkS.symm.trans hkS'
  obtain ⟨bsm, nt, desc, site, hc, hnt, hsite, hpar⟩ := Lambda.shapeOf?_site hshape
  obtain ⟨kK, hkK, htyK, hkindK, hhid⟩ := Lambda.made_types hmade hkS wO (by rw [hnameS]; exact lays)
  obtain ⟨k2, hk2, he2⟩ := hZ.alike.2.2 _ _ hkS
  obtain ⟨k3, hk3, he3⟩ := hZ.alike.2.2 _ _ hkK
  have hty3 : k3.instanceTypes = #[.object C0] := by rw [he3]; exact htyK
  have hkd3 : k3.kind = .ordinary := by rw [he3]; exact hkindK
  have hE : ((k3.instanceTypes.toList.zip [(Value.ref a)]).map fun (t, v) => narrow t v) = [Value.ref a] := by rw [hty3]; rfl
  obtain ⟨X', st⟩ := X.lambdaMakes hx (g := mkF κ.m pc L (.ref a :: S)) rfl (hL.trans hml.symm) (hb hby hd) (vals := [Value.ref a]) (rest := S) hk2 (by rw [he2]; exact hfind) (by rw [he2]; exact hcfS) hc hnt (parseLong_of_parse hsite) (by rw [hpar, hcap]; rfl) rfl hk3
    (by rw [X.admits.platform]; show 2 * 0 + (1 + (S.map fun v => v.category).sum) + 3072 ≤ _; omega) hk' (by rw [hE]; exact hn')
    (fun i v hv => by
      rw [hE] at hv
      match i, hv with
      | 0, hv => simp at hv; subst hv; simp [State.fitsSlot, State.slotType?, hk3, hkd3, hty3, fits]
      | k + 1, hv => simp at hv)
  rw [hE] at X' st
  subst e
  have E : Ext T.heap (T.pushCell { cls := cK, slots := [Value.ref a].toArray, vm := .none }).heap := ext_of fun a q => Array.getElem?_push_lt q |>.trans (Array.getElem?_eq_getElem q).symm
  have F : Fun1 κ.Z (T.pushCell { cls := cK, slots := [Value.ref a].toArray, vm := .none }).heap σ x.cls T.heap.size a := ⟨{ cls := cK, slots := [Value.ref a].toArray, vm := .none }, κ.m.cls, kS, Array.getElem?_push_size, rfl, rfl, hkS, hnameS, hmade, hcan⟩
  obtain ⟨t, o, h1, r⟩ := H _ _ rfl E F _ _ vm0 X' rfl (M.mono E.1) hZ ho N'
  exact ⟨t, o, st _ h1, r⟩
end Rules
end Jvm.OwnW
namespace Jvm.Pilot.@@N@@
open Jvm Jvm.ClassFile Sem Op Lib Jvm.Free Jvm.Stand Jvm.LawKit Jvm.RoadKit Bundle Jvm.OwnW Jvm.Pilot.@@N@@.Jvm.D

def own_max (x y : Int32) : Int32 := if x < y then y else x
def own_min (x y : Int32) : Int32 := if y < x then y else x
def own_spread (x : Int64) : Int32 := ((((((x * (-7046029254386353131 : Int64))).toUInt64 >>> ((32 : Int32) &&& 0x3f).toInt64.toUInt64).toInt64)).toInt32)
theorem own_add2 {x y : Int32} {n k : Nat} (h : x.toInt = (n : Int)) (hy : y.toInt = (k : Int)) (hn : n + k < 2147483648) : (x + y).toInt = ((n + k : Nat) : Int) := by
  have q := c_iadd x y
  have r2 := rng32 (x + y)
  omega
def own_lfill (F : Nat → Int64) (k : Nat) (v : Int64) : Nat → Int64 := fun j => if j < k then v else F j
theorem own_lfill_0 (F : Nat → Int64) (v : Int64) : own_lfill F 0 v = F := by funext j; unfold own_lfill; rw [if_neg (by omega)]
theorem own_lfill_step {F : Nat → Int64} {k : Nat} {v : Int64} : fset (own_lfill F k v) k v = own_lfill F (k + 1) v := by
  funext j; unfold fset own_lfill
  by_cases q : j = k
  · subst q; rw [if_pos rfl, if_pos (by omega)]
  · rw [if_neg q]
    by_cases r : j < k
    · rw [if_pos r, if_pos (by omega)]
    · rw [if_neg r, if_neg (by omega)]
def own_ifill (F : Nat → Int32) (k : Nat) (v : Int32) : Nat → Int32 := fun j => if j < k then v else F j
theorem own_ifill_0 (F : Nat → Int32) (v : Int32) : own_ifill F 0 v = F := by funext j; unfold own_ifill; rw [if_neg (by omega)]
theorem own_ifill_step {F : Nat → Int32} {k : Nat} {v : Int32} : fset (own_ifill F k v) k v = own_ifill F (k + 1) v := by
  funext j; unfold fset own_ifill
  by_cases q : j = k
  · subst q; rw [if_pos rfl, if_pos (by omega)]
  · rw [if_neg q]
    by_cases r : j < k
    · rw [if_pos r, if_pos (by omega)]
    · rw [if_neg r, if_neg (by omega)]
theorem own_iJ {Z : State} {h : Heap} {a : Addr} {k k' : ClassId} {N M : Nat} {f g : Nat → Value} (A : Ary Z h a k .int N f) (B : Ary Z h a k' .long M g) : False := by
  obtain ⟨c, ⟨a1, ⟨-, kk, a2, comp, a3⟩, -⟩, -⟩ := A
  obtain ⟨c', ⟨b1, ⟨-, kk', b2, comp', b3⟩, -⟩, -⟩ := B
  cases a1.symm.trans b1; cases a2.symm.trans b2; rw [a3] at b3; cases b3
def own_pE (Z : State) (h : Heap) (A : Nat) (v : Value) (e : Bool) (D0 : Int64) : Prop := (e = false ∧ v = .null ∧ D0 = (9223372036854775807 : Int64)) ∨ (e = true ∧ ∃ (ea : Addr) (kD : ClassId) (F : Nat → Int64), @LE.le Nat _ A ea ∧ v = .ref ea ∧ Ary Z h ea kD .long 64 (fun j => .long (F j)) ∧ F 0 = D0)
def own_pI (Z : State) (h : Heap) (v : Value) (m : Bool) : Prop := (m = false ∧ v = .null) ∨ (m = true ∧ ∃ (ma : Addr) (kM : ClassId) (f : Nat → Value), v = .ref ma ∧ Ary Z h ma kM .int 64 f)
def own_ct (D : Int64) : Int32 := if D = (9223372036854775807 : Int64) then 0 else 1
theorem own_dF {D : Int64} (h : D = (9223372036854775807 : Int64)) : decide (¬ D = (9223372036854775807 : Int64)) = false := decide_eq_false (fun q => q h)
theorem own_dT {D : Int64} (h : ¬ D = (9223372036854775807 : Int64)) : decide (¬ D = (9223372036854775807 : Int64)) = true := decide_eq_true h
theorem own_sF {x : Int32} (h : x = (1 : Int32)) : decide (¬ x = (1 : Int32)) = false := decide_eq_false (fun q => q h)
theorem own_sT {x : Int32} (h : ¬ x = (1 : Int32)) : decide (¬ x = (1 : Int32)) = true := decide_eq_true h
theorem own_ctF {D : Int64} (h : D = (9223372036854775807 : Int64)) : (0 : Int32) = own_ct D := (if_pos h).symm
theorem own_ctT {D : Int64} (h : ¬ D = (9223372036854775807 : Int64)) : (0 : Int32) + 1 = own_ct D := (show (0 : Int32) + 1 = 1 by decide).trans (if_neg h).symm
theorem own_ct1 (D : Int64) : (if D = (9223372036854775807 : Int64) then (0 : Int32) else 0 + 1) = own_ct D := by
  by_cases q : D = (9223372036854775807 : Int64)
  · rw [if_pos q]; exact own_ctF q
  · rw [if_neg q]; exact own_ctT q
theorem own_ct0 {D : Int64} {c : Int32} (h : c = own_ct D) : (if D = (9223372036854775807 : Int64) then c else c - 1) = (0 : Int32) := by
  by_cases q : D = (9223372036854775807 : Int64)
  · rw [if_pos q, h]; exact if_pos q
  · rw [if_neg q, h, show own_ct D = 1 from if_neg q]; decide
def own_room (e m s : Bool) : Int32 := (cond e 512 0 + cond m 256 0) + cond s 256 0
def own_pick (s : Int32) (v : Int64) : Int64 := if s = (0 : Int32) then (9223372036854775807 : Int64) else if s = (1 : Int32) then (-9223372036854775807 : Int64) else if v = (-9223372036854775808 : Int64) then (-9223372036854775807 : Int64) else v

theorem own_rdy {Z : State} {vm' : Vm} (hZ : Z.Warmed39 vm') {c : ClassId} {k : Class} (hk : Z.vm.classes[c]? = some k) : ∃ k', vm'.classes[c]? = some k' ∧ k'.cf = k.cf ∧ k'.name = k.name ∧ k'.fields = k.fields ∧ ∀ (i : Nat) (r : Resolved), k.resolved[i]? = some (some r) → k'.resolved[i]? = some (some r) := by
  obtain ⟨k', h1, e⟩ := hZ.alike.2.2 _ _ hk
  refine ⟨k', h1, by rw [e], by rw [e], by rw [e], fun i r h => ?_⟩
  rcases hZ.entry hk h1 i with q | ⟨q, -⟩
  · rw [q]; exact h
  · rw [h] at q; cases q
/-- what is known of the class made for the shape σ at a site of the class C: its one method hands the receiver and two ints to y -/
def OwnMade (Z : State) (σ : Lambda.Shape) (C kn : String) (y : MethodName) (fwd : ByteArray) (fi mi ci nt : Nat) : Prop := ∀ (d c : ClassId) (dk : Class), Z.vm.classes[d]? = some dk → dk.name = C → Lambda.isMade { classPath := fun _ => none } Z.vm d σ c = true →
  ∃ (k tk : Class) (file : ClassFile) (methk : Method) (ck : Code) (toy : ClassId) (t : MethodId) (g0 : Field), Z.vm.classes[c]? = some k ∧ k.name = kn ∧ k.cf = some file ∧ file.constantPool[mi]? = some (.methodref ci nt) ∧
    Z.vm.method? ⟨c, 1⟩ = some methk ∧ methk.code = some ck ∧ ck.code = fwd ∧ ck.maxLocals = 3 ∧ methk.locks = false ∧ methk.accessFlags = 0x0001 ∧ methk.sig.returnType = some .int ∧
    Z.vm.findClass y.cls = some toy ∧ Z.vm.classes[toy]? = some tk ∧ tk.isInterface = false ∧ Z.vm.methodReady c mi t ∧ Z.vm.classReady c ci toy ∧ Z.vm.fieldReady c fi c g0 ∧ g0.isStatic = false ∧ g0.slot = 0 ∧ ((methodIn toy y.name y.desc tk.isInterface none).ask { classPath := fun _ => none } Z.vm).1 = .ok t
set_option maxHeartbeats 4000000 in
theorem own_callFun {κ : Kx} {w : Bool} {l : Launch} {Z : State} {own nm : String} {n0 : Nat} {rm : Room} {bytes : ByteArray} {maxL : Nat} {ret : Option FieldType} {Q : Option Value → Heap → Prop} {h : Heap} {k n pc pc' : Nat} {L : Array Slot} {S : List Value} {a0 : Array Value}
    (K : Cx κ w l Z own n0 rm bytes maxL ret nm Q) {i cnt W : Nat} {x y : MethodName} {σ : Lambda.Shape} {C kn : String} {b a : Addr} {u1 u2 r : Int32} {by' fwd : ByteArray} {mL' : Nat} {rm' : Room} {fi mi ci nt : Nat}
    (w1 : (Cond.methodLink own i x).before a0 Z = true) (w2 : (Cond.declares x).before a0 Z = true) (w3 : ∀ vm0 : Vm, Z.Warmed39 vm0 → (Cond.interfaceMethod x.cls x.cls x.name x.desc).before κ.a (κ.s.setVm vm0) = true) (hx' : x.cls ≠ "java/lang/invoke/MethodHandle" ∧ x.cls ≠ "java/lang/invoke/VarHandle")
    (e1 : σ.iface = x.cls) (e2 : σ.name = x.name) (e3 : σ.sam.toString = x.desc) (hxd : parseMethodDescriptor x.desc = some ⟨[.int, .int], some .int⟩) (F : Fun1 Z h σ C b a) (E : Exa Z h a y.cls) (MF : OwnMade Z σ C kn y fwd fi mi ci nt) (hkn : plainName kn = true)
    (wc : (Cond.code y by' mL' (some .int)).before a0 Z = true) (wz : (Cond.initialized y.cls).before a0 Z = true) (wi : (Cond.instanceMethod y).before a0 Z = true) (ws : (Cond.selects y.cls y y).before a0 Z = true) (hy : y.cls ≠ "java/lang/invoke/MethodHandle" ∧ y.cls ≠ "java/lang/invoke/VarHandle") (hyd : parseMethodDescriptor y.desc = some ⟨[.int, .int], some .int⟩)
    (f0 : decode fwd 0 = .ok (.aload_n 0, 1)) (f1 : decode fwd 1 = .ok (.getfield fi, 3)) (f4 : decode fwd 4 = .ok (.iload_n 1, 1)) (f5 : decode fwd 5 = .ok (.iload_n 2, 1)) (f6 : decode fwd 6 = .ok (.invokevirtual mi, 3)) (f9 : decode fwd 9 = .ok (.ireturn, 1))
    (hM : Met false l Z y by' mL' (some .int) [] rm' #[.ref a, .int u1, .int u2] h n0 (fun v h' => v = some (.int r) ∧ h = h')) (hrc : rm'.cells = 0) (hrs : rm'.slots = 0)
    (hd : decode bytes pc = .ok (.invokeinterface i cnt, 5)) (hL : L.size = maxL) (hW : (S.map fun v => v.category).sum = W) (hf : rm'.frames + 2 ≤ rm.frames) (hl : W + 14 + ((mL' + 11) + rm'.locals) ≤ rm.locals) (hk' : k ≤ rm.cells) (hn' : n ≤ rm.slots) (hp : pc + 5 = pc')
    (H : WP κ h k n (mkF κ.m pc' L (.int r :: S))) : WP κ h k n (mkF κ.m pc L (.int u2 :: .int u1 :: .ref b :: S)) := by
  obtain ⟨hx, hby, hml, -, -, -, rfl, rfl, rfl, rfl, rfl, rfl, -⟩ := K
  subst hp
  intro T locs vm0 X e M hZ ho N
  obtain ⟨cell, d, dk, q1, q2, q3, q4, q5, q6, q7⟩ := F
  obtain ⟨kK, tk, file, methk, ck, toy, t, g0, m1, m2, m3, m4, m5, m6, m7, m8, m9, m10, m11, m12, m13, m14, m15, m16, m17, m18, m19, m20⟩ := MF d cell.cls dk q4 q5 q6
  have hal : κ.Z.vm.Alike vm0 := hZ.alike
  obtain ⟨r0, rM, hn, hrm, hstR, hsigR⟩ := Cond.declares_spec (mvT (args := κ.a) (s := κ.s.setVm vm0) hZ w2)
  obtain ⟨cL, kL, r1, hcL, hkL, hiL, hfoundL, hn1⟩ := Cond.interfaceMethod_spec (w3 vm0 hZ)
  cases hn.symm.trans hn1
  have hr0 : r0.cls = cL := Option.some.inj ((findClass_of_methodNamed hn).symm.trans hcL)
  obtain ⟨hnameR, hdescR⟩ := name_of_methodNamed hn hrm
  obtain ⟨i2, c1, c2, c3⟩ := State.lambdaCallable_spec q7
  have hi2 : cL = i2 := by
    have c1' : vm0.findClass x.cls = some i2 := by rw [hal.findClass, ← e1]; exact c1
    exact Option.some.inj ((show vm0.findClass x.cls = some cL from hcL).symm.trans c1')
  obtain ⟨dk', kk, ok, tk', file', cf', object, iface', t', lay, methods, tgt, found, -, -, -, -, -, hi', -, -, -, -, -, -, hfound', -, -, -, -, -, -, -, -, -, -, hsel⟩ := Lambda.isMade_spec q6
  cases c1.symm.trans hi'
  have hf0 : found = r0 := by
    have z := Jvm.Free.Fw.look_of_named (U := κ.s.setVm vm0) hn hx' cL kL hcL hkL
    rw [hiL] at z
    have z2 := (Lambda.methodIn_ask_alike hal cL x.name x.desc true).symm.trans z
    rw [e2, e3, ← hi2] at hfound'
    exact Except.ok.inj (hfound'.symm.trans z2)
  have hselS : selectMethod κ.e.platform vm0 cell.cls r0 = .method ⟨cell.cls, 1⟩ := by rw [Launch.admits_selectMethod X.admits, hal.selectMethod, ← hf0]; exact hsel
  have hway : ((cell.cls :: vm0.superclasses cell.cls).any fun k => (declaredIn vm0 rM.name rM.desc k).any fun (_, z) => z.isPrivate || z.isStatic) = false := by
    rw [hnameR, hdescR, ← e2, ← e3]
    simp only [hal.superclasses, hal.declaredIn]
    exact c3
  obtain ⟨k0, hk0, -⟩ := hal.2.2 _ _ m1
  obtain ⟨vm₁, X₁, st1⟩ := X.invokeinterface hx (own := κ.own) ho (mvT (args := κ.a) (s := κ.s.setVm vm0) hZ w1) hn hrm hstR (by rw [hr0]; exact hkL) hiL hx' (a := b) (cell := cell) (kcell := k0) (by rw [e]; exact q1) (fun z q => by rw [q2] at q; cases q) hk0
    (by show vm0.assignable _ _ = true; rw [hal.assignable, hr0, hi2]; exact c2) hselS (meth' := methk) (by show vm0.method? _ = _; rw [hal.method?]; exact m5) hway (by rw [m10]; decide) (by simp [Method.isAbstract, m10, hasFlag, Acc.abstract]) (g := mkF κ.m pc L (.int u2 :: .int u1 :: .ref b :: S)) rfl (argsL := [.int u1, .int u2]) (rest := S)
    (by rw [← Option.some.inj (hxd.symm.trans hsigR)]; rfl) rfl (hb hby hd)
  have hZ1 : κ.Z.Warmed39 vm₁ := State.Warmed39.trans (t := κ.s.setVm vm0) hZ X₁.warmed.wide
  have hal1 : κ.Z.vm.Alike vm₁ := hZ1.alike
  obtain ⟨k1, r1, r2, r3, r4, r5⟩ := own_rdy hZ1 m1
  obtain ⟨ktk, s1, s2⟩ := hal1.2.2 _ _ m13
  obtain ⟨cA, kA, g1, g2, g3, g4, -⟩ := E
  have hZU : ∀ g' : JFrame, ∀ a' : Array Value, κ.Z.Warmed39 ((T.setVm vm₁).calling g' ⟨cell.cls, 1⟩ a').vm := fun g' a' => hZ1
  have hnamed : (T.setVm vm₁).methodNamed? y = some t := by
    obtain ⟨ty, methy, hny, -⟩ := Cond.instanceMethod_spec (mvT (args := κ.a) (s := T.setVm vm₁) hZ1 wi)
    have z := Jvm.Free.Fw.look_of_named (U := T.setVm vm₁) hny hy toy ktk (by show vm₁.findClass _ = _; rw [hal1.findClass]; exact m12) s1
    have z2 := (Lambda.methodIn_ask_alike hal1 toy y.name y.desc ktk.isInterface).symm.trans z
    have ei : ktk.isInterface = tk.isInterface := by rw [s2]; rfl
    rw [ei] at z2
    cases m20.symm.trans z2
    exact hny
  have VA : Jvm.Free.Fw.VirtualAt κ.e (T.setVm vm₁) cell.cls mi y toy 2 := Jvm.Free.Fw.VirtualAt.of_made X.admits (kK := k1) (tk := ktk) (file := file) (ci := ci) (nt := nt) (t := t) (bytes := by') (maxL := mL') (ret := some .int) r1 (by rw [r2]; exact m3) m4
    (by obtain ⟨k', z1, z2⟩ := m15; cases m1.symm.trans z1; exact ⟨k1, r1, r5 _ _ z2⟩) (by obtain ⟨k', z1, z2⟩ := m16; cases m1.symm.trans z1; exact ⟨k1, r1, r5 _ _ z2⟩) (by show vm₁.findClass _ = _; rw [hal1.findClass]; exact m12) s1 (by rw [s2]; exact m14) hnamed hy
    (mvT (args := #[]) (s := T.setVm vm₁) hZ1 wc) (mvT (args := #[]) (s := T.setVm vm₁) hZ1 wi) (mvT (args := #[]) (s := T.setVm vm₁) hZ1 ws) (sig := ⟨[.int, .int], some .int⟩) hyd rfl
  have FR : (T.setVm vm₁).vm.fieldReady cell.cls fi cell.cls g0 := by
    obtain ⟨k', j, kf, z1, z2, z3, z4⟩ := m17
    cases m1.symm.trans z1
    cases m1.symm.trans z3
    exact ⟨k1, j, k1, r1, r5 _ _ z2, r1, by rw [r4]; exact z4⟩
  have hhe : (T.setVm vm₁).heap = h := e
  have ent : entryFrame ⟨cell.cls, 1⟩ #[.ref b, .int u1, .int u2] 3 = { method := ⟨cell.cls, 1⟩, pc := 0, locals := #[.val (.ref b), .val (.int u1), .val (.int u2)], stack := [], locked := none } := rfl
  obtain ⟨v, T', U₁, L₁, c₁, n₁, X', ⟨rfl, hh1, NL, hc1, hn1'⟩, hh, hv, hW', st2⟩ := X₁.through (g := mkF κ.m pc L S) rfl (hL.trans hml.symm) (hb hby hd) #[.ref b, .int u1, .int u2] (mk := ⟨cell.cls, 1⟩) (methk := methk) (ck := ck) (R' := { frames := rm'.frames + 1, cells := 0, slots := 0, locals := (mL' + 11) + rm'.locals })
    (by show vm₁.method? _ = _; rw [hal1.method?]; exact m5) m6 m9 (State.plainMethod.of_name fun k' hk' => by cases r1.symm.trans hk'; rw [r3, m2]; exact hkn) (by show rm'.frames + 1 + 1 ≤ _; omega) (by rw [m8]; show 2 * 0 + (S.map fun v => v.category).sum + 14 + ((mL' + 11) + rm'.locals) ≤ _; omega) hk' hn'
    (Φ := fun v U₁ L₁ c₁ n₁ => v = some (.int r) ∧ U₁.heap = h ∧ Fr κ.n0 L₁ ∧ c₁ = 0 ∧ n₁ = 0)
    (fun U₀ hU₀ Y₀ => by
      have hvm : U₀.vm = (T.setVm vm₁).vm := by rw [hU₀]; rfl
      have hheap : U₀.heap = h := by rw [hU₀]; exact e
      rw [m8, ent]
      have k1' : Steps κ.p.tables κ.e (.java (mkF κ.m pc L S) :: κ.below) (U₀.setTop { method := ⟨cell.cls, 1⟩, pc := 0, locals := #[.val (.ref b), .val (.int u1), .val (.int u2)], stack := [], locked := none }) (U₀.setTop { method := ⟨cell.cls, 1⟩, pc := 1, locals := #[.val (.ref b), .val (.int u1), .val (.int u2)], stack := [.ref b], locked := none }) := by
        jvm_step Y₀.here [hx, (show decode ck.code 0 = .ok (.aload_n 0, 1) by rw [m7]; exact f0), Value.isRef]
        exact Steps.refl _
      have k2 := Y₀.getfieldR hx (g := { method := ⟨cell.cls, 1⟩, pc := 1, locals := #[.val (.ref b), .val (.int u1), .val (.int u2)], stack := [.ref b], locked := none }) rfl (index := fi) (cF := cell.cls) (a := b) (field := g0) (cell := cell) (v := .ref a) (rest := []) (by rw [hvm]; exact FR) m18 rfl (by rw [hheap]; exact q1) (by rw [q2]; intro q; cases q) (by rw [m19]; exact q3) (by rw [m7]; exact f1) k1'
      have k3 : Steps κ.p.tables κ.e (.java (mkF κ.m pc L S) :: κ.below) (U₀.setTop { method := ⟨cell.cls, 1⟩, pc := 0, locals := #[.val (.ref b), .val (.int u1), .val (.int u2)], stack := [], locked := none }) (U₀.setTop { method := ⟨cell.cls, 1⟩, pc := 6, locals := #[.val (.ref b), .val (.int u1), .val (.int u2)], stack := [.int u2, .int u1, .ref a], locked := none }) := by
        refine k2.trans ?_
        jvm_step Y₀.here [hx, (show decode ck.code 4 = .ok (.iload_n 1, 1) by rw [m7]; exact f4)]
        jvm_step Y₀.here [hx, (show decode ck.code 5 = .ok (.iload_n 2, 1) by rw [m7]; exact f5)]
        exact Steps.refl _
      obtain ⟨rr, tt, kr, kt, methr, metht, z1, z2, z3, z4, z5, z6, z7, z8, z9, z10, z11, z12, z13⟩ := VA.of hvm
      have hcA : cA.cls = toy := by rw [m12] at g2; exact (Option.some.inj g2).symm
      obtain ⟨v, ⟨U₁, L₁, c₁, n₁⟩, Y₁, ⟨Lc, ⟨hQ, NLc⟩, b1, b2, b3⟩, kE⟩ := Y₀.virtualR hx (g := { method := ⟨cell.cls, 1⟩, pc := 6, locals := #[.val (.ref b), .val (.int u1), .val (.int u2)], stack := [.int u2, .int u1, .ref a], locked := none }) rfl (by rw [m8]; rfl) (index := mi) (a := a) (y := y) (cell := cA) (argsL := [.int u1, .int u2]) (rest := []) z1 z2 z3 z4 z5 z6 z7.symm rfl (by rw [hheap]; exact g1) (fun q z => by rw [z] at g4; cases g4) (by rw [hcA]; exact z8) z9 z10 z11 z12 z13
        (Met.back (s := (T.setVm vm₁).calling (mkF κ.m pc L S) ⟨cell.cls, 1⟩ #[.ref b, .int u1, .int u2]) (W := 0) hM (hZU _ _) wc wz (Nat.le_refl _) (by show 0 + (mL' + 11) + rm'.locals ≤ (mL' + 11) + rm'.locals; omega)) (by show 2 * 0 + 0 ≤ 0; decide) ⟨rfl, hheap, by show 0 + rm'.cells ≤ 0; omega, by show 0 + rm'.slots ≤ 0; omega⟩ (by rw [m7]; exact f6) k3
      dsimp only [Pt.U, Pt.locs, Pt.cells, Pt.slots] at Y₁ kE b1 b2 b3 hQ
      obtain ⟨rfl, hhQ⟩ := hQ
      exact ⟨some (.int r), U₁, L₁, c₁, n₁, Y₁, (fun z => by rw [m11] at z; cases z), ⟨rfl, hhQ.symm, by rw [b1]; exact NLc, by rw [b2, hrc], by rw [b3, hrs]⟩, fun fs hleave => kE.trans (Y₁.ireturnOut hx m11 rfl (Or.inl rfl) (by rw [m7]; exact f9) hleave)⟩)
  subst hc1 hn1'
  have hT' : T'.heap = h := hh.trans hh1
  obtain ⟨tE, o, hE, rE⟩ := H T' _ vm0 X' hT' M hZ ho (Fr.app N NL)
  exact ⟨tE, o, st1 _ fun acts => by
    rw [doInvoke_state]
    exact st2.trans hE, rE⟩

theorem own_law2 (P16 P32 P256 : Prop) [Decidable P16] [Decidable P32] [Decidable P256] (e1 e2 : Int64) (sv st : Int32) (s : Bool) (hs : (sv = (0 : Int32) ∧ s = false) ∨ (sv = (1 : Int32) ∧ s = decide (¬ st = (1 : Int32)))) :
    (¬ (if P256 then (0 : Int32) else (if (if P16 then e1 else e2) = (9223372036854775807 : Int64) then (1 : Int32) else (0 : Int32))) = (0 : Int32) → own_room ((decide (¬ e1 = (9223372036854775807 : Int64)) || (!decide P16 && decide (¬ e2 = (9223372036854775807 : Int64)))) && (decide P256 || decide (¬ (if P16 then e1 else e2) = (9223372036854775807 : Int64)))) (!decide P32 && (decide P256 || decide (¬ (if P16 then e1 else e2) = (9223372036854775807 : Int64)))) (s && (decide P256 || decide (¬ (if P16 then e1 else e2) = (9223372036854775807 : Int64)))) = (0 : Int32)) ∧
    ((if P256 then (0 : Int32) else (if (if P16 then e1 else e2) = (9223372036854775807 : Int64) then (1 : Int32) else (0 : Int32))) = (0 : Int32) → own_room ((decide (¬ e1 = (9223372036854775807 : Int64)) || (!decide P16 && decide (¬ e2 = (9223372036854775807 : Int64)))) && (decide P256 || decide (¬ (if P16 then e1 else e2) = (9223372036854775807 : Int64)))) (!decide P32 && (decide P256 || decide (¬ (if P16 then e1 else e2) = (9223372036854775807 : Int64)))) (s && (decide P256 || decide (¬ (if P16 then e1 else e2) = (9223372036854775807 : Int64)))) =
      ((if (if e1 = (9223372036854775807 : Int64) then (if P16 then (0 : Int32) else (if e2 = (9223372036854775807 : Int64) then (0 : Int32) else (1 : Int32))) else (1 : Int32)) = (0 : Int32) then (0 : Int32) else 512) + (if P32 then (0 : Int32) else 256)) + (if (if sv = (0 : Int32) then (0 : Int32) else (if st = (1 : Int32) then (0 : Int32) else (1 : Int32))) = (0 : Int32) then (0 : Int32) else 256)) := by
  by_cases q1 : e1 = (9223372036854775807 : Int64) <;> by_cases q2 : e2 = (9223372036854775807 : Int64) <;> by_cases q3 : P16 <;> by_cases q4 : P32 <;> by_cases q5 : P256 <;> by_cases q6 : st = (1 : Int32) <;> rcases hs with ⟨rfl, rfl⟩ | ⟨rfl, rfl⟩ <;> simp [q1, q2, q3, q4, q5, q6, own_room]
theorem w_0 {Z : State} {a0 : Array Value} (hw : ∀ d ∈ tables_1, d.before a0 Z = true) : (Jvm.Cond.methodLink "com/example/weir/weir/engine/TripleTableEndRoomPinLaw" (17 : Nat) ({ cls := "com/example/weir/weir/engine/TripleTableEndRoomPinLaw", name := "pick", desc := "(IJ)J" } : Jvm.MethodName)).before a0 Z = true := hw _ (List.mem_of_getElem? (i := 0) rfl)
theorem w_1 {Z : State} {a0 : Array Value} (hw : ∀ d ∈ tables_1, d.before a0 Z = true) : (Jvm.Cond.static ({ cls := "com/example/weir/weir/engine/TripleTableEndRoomPinLaw", name := "pick", desc := "(IJ)J" } : Jvm.MethodName)).before a0 Z = true := hw _ (List.mem_of_getElem? (i := 1) rfl)
theorem w_2 {Z : State} {a0 : Array Value} (hw : ∀ d ∈ tables_1, d.before a0 Z = true) : (Jvm.Cond.initialized "com/example/weir/weir/engine/TripleTableEndRoomPinLaw").before a0 Z = true := hw _ (List.mem_of_getElem? (i := 2) rfl)
theorem w_3 {Z : State} {a0 : Array Value} (hw : ∀ d ∈ tables_1, d.before a0 Z = true) : (Jvm.Cond.code ({ cls := "com/example/weir/weir/engine/TripleTableEndRoomPinLaw", name := "pick", desc := "(IJ)J" } : Jvm.MethodName) method_2_code (3 : Nat) (Option.some Jvm.ClassFile.FieldType.long)).before a0 Z = true := hw _ (List.mem_of_getElem? (i := 3) rfl)
theorem w_4 {Z : State} {a0 : Array Value} (hw : ∀ d ∈ tables_1, d.before a0 Z = true) : (Jvm.Cond.constantLong "com/example/weir/weir/engine/TripleTableEndRoomPinLaw" (9 : Nat) (9223372036854775807 : Int64)).before a0 Z = true := hw _ (List.mem_of_getElem? (i := 4) rfl)
theorem w_5 {Z : State} {a0 : Array Value} (hw : ∀ d ∈ tables_1, d.before a0 Z = true) : (Jvm.Cond.methodLink "com/example/weir/weir/engine/TripleTableEndRoomPinLaw" (23 : Nat) ({ cls := "java/lang/Math", name := "max", desc := "(II)I" } : Jvm.MethodName)).before a0 Z = true := hw _ (List.mem_of_getElem? (i := 5) rfl)
theorem w_6 {Z : State} {a0 : Array Value} (hw : ∀ d ∈ tables_1, d.before a0 Z = true) : (Jvm.Cond.static ({ cls := "java/lang/Math", name := "max", desc := "(II)I" } : Jvm.MethodName)).before a0 Z = true := hw _ (List.mem_of_getElem? (i := 6) rfl)
theorem w_7 {Z : State} {a0 : Array Value} (hw : ∀ d ∈ tables_1, d.before a0 Z = true) : (Jvm.Cond.initialized "java/lang/Math").before a0 Z = true := hw _ (List.mem_of_getElem? (i := 7) rfl)
theorem w_8 {Z : State} {a0 : Array Value} (hw : ∀ d ∈ tables_1, d.before a0 Z = true) : (Jvm.Cond.code ({ cls := "java/lang/Math", name := "max", desc := "(II)I" } : Jvm.MethodName) jdk_29_method_65_code (2 : Nat) (Option.some Jvm.ClassFile.FieldType.int)).before a0 Z = true := hw _ (List.mem_of_getElem? (i := 8) rfl)
theorem w_9 {Z : State} {a0 : Array Value} (hw : ∀ d ∈ tables_1, d.before a0 Z = true) : (Jvm.Cond.classLink "com/example/weir/weir/engine/TripleTableEndRoomPinLaw" (7 : Nat) "com/example/weir/weir/engine/TripleTable").before a0 Z = true := hw _ (List.mem_of_getElem? (i := 9) rfl)
theorem w_10 {Z : State} {a0 : Array Value} (hw : ∀ d ∈ tables_1, d.before a0 Z = true) : (Jvm.Cond.instantiable "com/example/weir/weir/engine/TripleTable" (9 : Nat)).before a0 Z = true := hw _ (List.mem_of_getElem? (i := 10) rfl)
theorem w_11 {Z : State} {a0 : Array Value} (hw : ∀ d ∈ tables_1, d.before a0 Z = true) : (Jvm.Cond.initialized "com/example/weir/weir/engine/TripleTable").before a0 Z = true := hw _ (List.mem_of_getElem? (i := 11) rfl)
theorem w_12 {Z : State} {a0 : Array Value} (hw : ∀ d ∈ tables_1, d.before a0 Z = true) : (Jvm.Cond.methodLink "com/example/weir/weir/engine/TripleTableEndRoomPinLaw" (29 : Nat) ({ cls := "com/example/weir/weir/engine/TripleTable", name := "<init>", desc := "()V" } : Jvm.MethodName)).before a0 Z = true := hw _ (List.mem_of_getElem? (i := 12) rfl)
theorem w_13 {Z : State} {a0 : Array Value} (hw : ∀ d ∈ tables_1, d.before a0 Z = true) : (Jvm.Cond.instanceMethod ({ cls := "com/example/weir/weir/engine/TripleTable", name := "<init>", desc := "()V" } : Jvm.MethodName)).before a0 Z = true := hw _ (List.mem_of_getElem? (i := 13) rfl)
theorem w_14 {Z : State} {a0 : Array Value} (hw : ∀ d ∈ tables_1, d.before a0 Z = true) : (Jvm.Cond.code ({ cls := "com/example/weir/weir/engine/TripleTable", name := "<init>", desc := "()V" } : Jvm.MethodName) prog_50_method_1_code (1 : Nat) (Option.none : Option Jvm.ClassFile.FieldType)).before a0 Z = true := hw _ (List.mem_of_getElem? (i := 14) rfl)
theorem w_15 {Z : State} {a0 : Array Value} (hw : ∀ d ∈ tables_1, d.before a0 Z = true) : (Jvm.Cond.methodLink "com/example/weir/weir/engine/TripleTable" (3 : Nat) ({ cls := "java/lang/Object", name := "<init>", desc := "()V" } : Jvm.MethodName)).before a0 Z = true := hw _ (List.mem_of_getElem? (i := 15) rfl)
theorem w_16 {Z : State} {a0 : Array Value} (hw : ∀ d ∈ tables_1, d.before a0 Z = true) : (Jvm.Cond.instanceMethod ({ cls := "java/lang/Object", name := "<init>", desc := "()V" } : Jvm.MethodName)).before a0 Z = true := hw _ (List.mem_of_getElem? (i := 16) rfl)
theorem w_17 {Z : State} {a0 : Array Value} (hw : ∀ d ∈ tables_1, d.before a0 Z = true) : (Jvm.Cond.code ({ cls := "java/lang/Object", name := "<init>", desc := "()V" } : Jvm.MethodName) object_method_1_code (1 : Nat) (Option.none : Option Jvm.ClassFile.FieldType)).before a0 Z = true := hw _ (List.mem_of_getElem? (i := 17) rfl)
theorem w_18 {Z : State} {a0 : Array Value} (hw : ∀ d ∈ tables_1, d.before a0 Z = true) : (Jvm.Cond.arrayClass Jvm.ClassFile.FieldType.int).before a0 Z = true := hw _ (List.mem_of_getElem? (i := 18) rfl)
theorem w_19 {Z : State} {a0 : Array Value} (hw : ∀ d ∈ tables_1, d.before a0 Z = true) : (Jvm.Cond.fieldLink "com/example/weir/weir/engine/TripleTable" (11 : Nat) "com/example/weir/weir/engine/TripleTable" "terms" "[I").before a0 Z = true := hw _ (List.mem_of_getElem? (i := 19) rfl)
theorem w_20 {Z : State} {a0 : Array Value} (hw : ∀ d ∈ tables_1, d.before a0 Z = true) : (Jvm.Cond.lays "com/example/weir/weir/engine/TripleTable" "com/example/weir/weir/engine/TripleTable" "terms" "[I").before a0 Z = true := hw _ (List.mem_of_getElem? (i := 20) rfl)
theorem w_21 {Z : State} {a0 : Array Value} (hw : ∀ d ∈ tables_1, d.before a0 Z = true) : (Jvm.Cond.classLink "com/example/weir/weir/engine/TripleTable" (15 : Nat) "com/example/weir/weir/engine/Numbers").before a0 Z = true := hw _ (List.mem_of_getElem? (i := 21) rfl)
theorem w_22 {Z : State} {a0 : Array Value} (hw : ∀ d ∈ tables_1, d.before a0 Z = true) : (Jvm.Cond.instantiable "com/example/weir/weir/engine/Numbers" (2 : Nat)).before a0 Z = true := hw _ (List.mem_of_getElem? (i := 22) rfl)
theorem w_23 {Z : State} {a0 : Array Value} (hw : ∀ d ∈ tables_1, d.before a0 Z = true) : (Jvm.Cond.initialized "com/example/weir/weir/engine/Numbers").before a0 Z = true := hw _ (List.mem_of_getElem? (i := 23) rfl)
theorem w_24 {Z : State} {a0 : Array Value} (hw : ∀ d ∈ tables_1, d.before a0 Z = true) : (Jvm.Cond.methodLink "com/example/weir/weir/engine/TripleTable" (17 : Nat) ({ cls := "com/example/weir/weir/engine/Numbers", name := "<init>", desc := "()V" } : Jvm.MethodName)).before a0 Z = true := hw _ (List.mem_of_getElem? (i := 24) rfl)
theorem w_25 {Z : State} {a0 : Array Value} (hw : ∀ d ∈ tables_1, d.before a0 Z = true) : (Jvm.Cond.instanceMethod ({ cls := "com/example/weir/weir/engine/Numbers", name := "<init>", desc := "()V" } : Jvm.MethodName)).before a0 Z = true := hw _ (List.mem_of_getElem? (i := 25) rfl)
theorem w_26 {Z : State} {a0 : Array Value} (hw : ∀ d ∈ tables_1, d.before a0 Z = true) : (Jvm.Cond.code ({ cls := "com/example/weir/weir/engine/Numbers", name := "<init>", desc := "()V" } : Jvm.MethodName) prog_41_method_1_code (1 : Nat) (Option.none : Option Jvm.ClassFile.FieldType)).before a0 Z = true := hw _ (List.mem_of_getElem? (i := 26) rfl)
theorem w_27 {Z : State} {a0 : Array Value} (hw : ∀ d ∈ tables_1, d.before a0 Z = true) : (Jvm.Cond.methodLink "com/example/weir/weir/engine/Numbers" (1 : Nat) ({ cls := "java/lang/Object", name := "<init>", desc := "()V" } : Jvm.MethodName)).before a0 Z = true := hw _ (List.mem_of_getElem? (i := 27) rfl)
theorem w_28 {Z : State} {a0 : Array Value} (hw : ∀ d ∈ tables_1, d.before a0 Z = true) : (Jvm.Cond.classLink "com/example/weir/weir/engine/Numbers" (7 : Nat) "com/example/weir/weir/engine/IntList").before a0 Z = true := hw _ (List.mem_of_getElem? (i := 28) rfl)
theorem w_29 {Z : State} {a0 : Array Value} (hw : ∀ d ∈ tables_1, d.before a0 Z = true) : (Jvm.Cond.instantiable "com/example/weir/weir/engine/IntList" (2 : Nat)).before a0 Z = true := hw _ (List.mem_of_getElem? (i := 29) rfl)
theorem w_30 {Z : State} {a0 : Array Value} (hw : ∀ d ∈ tables_1, d.before a0 Z = true) : (Jvm.Cond.initialized "com/example/weir/weir/engine/IntList").before a0 Z = true := hw _ (List.mem_of_getElem? (i := 30) rfl)
theorem w_31 {Z : State} {a0 : Array Value} (hw : ∀ d ∈ tables_1, d.before a0 Z = true) : (Jvm.Cond.methodLink "com/example/weir/weir/engine/Numbers" (9 : Nat) ({ cls := "com/example/weir/weir/engine/IntList", name := "<init>", desc := "()V" } : Jvm.MethodName)).before a0 Z = true := hw _ (List.mem_of_getElem? (i := 31) rfl)
theorem w_32 {Z : State} {a0 : Array Value} (hw : ∀ d ∈ tables_1, d.before a0 Z = true) : (Jvm.Cond.instanceMethod ({ cls := "com/example/weir/weir/engine/IntList", name := "<init>", desc := "()V" } : Jvm.MethodName)).before a0 Z = true := hw _ (List.mem_of_getElem? (i := 32) rfl)
theorem w_33 {Z : State} {a0 : Array Value} (hw : ∀ d ∈ tables_1, d.before a0 Z = true) : (Jvm.Cond.code ({ cls := "com/example/weir/weir/engine/IntList", name := "<init>", desc := "()V" } : Jvm.MethodName) prog_27_method_1_code (1 : Nat) (Option.none : Option Jvm.ClassFile.FieldType)).before a0 Z = true := hw _ (List.mem_of_getElem? (i := 33) rfl)
theorem w_34 {Z : State} {a0 : Array Value} (hw : ∀ d ∈ tables_1, d.before a0 Z = true) : (Jvm.Cond.methodLink "com/example/weir/weir/engine/IntList" (1 : Nat) ({ cls := "java/lang/Object", name := "<init>", desc := "()V" } : Jvm.MethodName)).before a0 Z = true := hw _ (List.mem_of_getElem? (i := 34) rfl)
theorem w_35 {Z : State} {a0 : Array Value} (hw : ∀ d ∈ tables_1, d.before a0 Z = true) : (Jvm.Cond.fieldLink "com/example/weir/weir/engine/IntList" (9 : Nat) "com/example/weir/weir/engine/IntList" "values" "[I").before a0 Z = true := hw _ (List.mem_of_getElem? (i := 35) rfl)
theorem w_36 {Z : State} {a0 : Array Value} (hw : ∀ d ∈ tables_1, d.before a0 Z = true) : (Jvm.Cond.lays "com/example/weir/weir/engine/IntList" "com/example/weir/weir/engine/IntList" "values" "[I").before a0 Z = true := hw _ (List.mem_of_getElem? (i := 36) rfl)
theorem w_37 {Z : State} {a0 : Array Value} (hw : ∀ d ∈ tables_1, d.before a0 Z = true) : (Jvm.Cond.fieldLink "com/example/weir/weir/engine/Numbers" (10 : Nat) "com/example/weir/weir/engine/Numbers" "free" "Lcom/example/weir/weir/engine/IntList;").before a0 Z = true := hw _ (List.mem_of_getElem? (i := 37) rfl)
theorem w_38 {Z : State} {a0 : Array Value} (hw : ∀ d ∈ tables_1, d.before a0 Z = true) : (Jvm.Cond.lays "com/example/weir/weir/engine/Numbers" "com/example/weir/weir/engine/Numbers" "free" "Lcom/example/weir/weir/engine/IntList;").before a0 Z = true := hw _ (List.mem_of_getElem? (i := 38) rfl)
theorem w_39 {Z : State} {a0 : Array Value} (hw : ∀ d ∈ tables_1, d.before a0 Z = true) : (Jvm.Cond.fieldLink "com/example/weir/weir/engine/TripleTable" (18 : Nat) "com/example/weir/weir/engine/TripleTable" "numbers" "Lcom/example/weir/weir/engine/Numbers;").before a0 Z = true := hw _ (List.mem_of_getElem? (i := 39) rfl)
theorem w_40 {Z : State} {a0 : Array Value} (hw : ∀ d ∈ tables_1, d.before a0 Z = true) : (Jvm.Cond.laysFinal "com/example/weir/weir/engine/TripleTable" "com/example/weir/weir/engine/TripleTable" "numbers" "Lcom/example/weir/weir/engine/Numbers;").before a0 Z = true := hw _ (List.mem_of_getElem? (i := 40) rfl)
theorem w_41 {Z : State} {a0 : Array Value} (hw : ∀ d ∈ tables_1, d.before a0 Z = true) : (Jvm.Cond.classLink "com/example/weir/weir/engine/TripleTable" (22 : Nat) "com/example/weir/weir/engine/SubjectIndex").before a0 Z = true := hw _ (List.mem_of_getElem? (i := 41) rfl)
theorem w_42 {Z : State} {a0 : Array Value} (hw : ∀ d ∈ tables_1, d.before a0 Z = true) : (Jvm.Cond.instantiable "com/example/weir/weir/engine/SubjectIndex" (3 : Nat)).before a0 Z = true := hw _ (List.mem_of_getElem? (i := 42) rfl)
theorem w_43 {Z : State} {a0 : Array Value} (hw : ∀ d ∈ tables_1, d.before a0 Z = true) : (Jvm.Cond.initialized "com/example/weir/weir/engine/SubjectIndex").before a0 Z = true := hw _ (List.mem_of_getElem? (i := 43) rfl)
theorem w_44 {Z : State} {a0 : Array Value} (hw : ∀ d ∈ tables_1, d.before a0 Z = true) : (Jvm.Cond.lambdaSite ({ cls := "com/example/weir/weir/engine/TripleTable", name := "<init>", desc := "()V" } : Jvm.MethodName) (30 : Nat) (24 : Nat) (Jvm.Lambda.Shape.mk "com/example/weir/weir/engine/SubjectIndex$Terms" "term" (Jvm.ClassFile.MethodDescriptor.mk ([Jvm.ClassFile.FieldType.int, Jvm.ClassFile.FieldType.int] : List Jvm.ClassFile.FieldType) (Option.some Jvm.ClassFile.FieldType.int)) ([(Jvm.ClassFile.FieldType.object "com/example/weir/weir/engine/TripleTable")] : List Jvm.ClassFile.FieldType) (5 : Nat) "com/example/weir/weir/engine/TripleTable" "term" (Jvm.ClassFile.MethodDescriptor.mk ([Jvm.ClassFile.FieldType.int, Jvm.ClassFile.FieldType.int] : List Jvm.ClassFile.FieldType) (Option.some Jvm.ClassFile.FieldType.int)) false (Jvm.ClassFile.MethodDescriptor.mk ([Jvm.ClassFile.FieldType.int, Jvm.ClassFile.FieldType.int] : List Jvm.ClassFile.FieldType) (Option.some Jvm.ClassFile.FieldType.int)))).before a0 Z = true := hw _ (List.mem_of_getElem? (i := 44) rfl)
theorem w_47 {Z : State} {a0 : Array Value} (hw : ∀ d ∈ tables_1, d.before a0 Z = true) : (Jvm.Cond.instantiable "java/lang/Object" (0 : Nat)).before a0 Z = true := hw _ (List.mem_of_getElem? (i := 47) rfl)
theorem w_48 {Z : State} {a0 : Array Value} (hw : ∀ d ∈ tables_1, d.before a0 Z = true) : (Jvm.Cond.methodLink "com/example/weir/weir/engine/TripleTable" (28 : Nat) ({ cls := "com/example/weir/weir/engine/SubjectIndex", name := "<init>", desc := "(Lcom/example/weir/weir/engine/SubjectIndex$Terms;)V" } : Jvm.MethodName)).before a0 Z = true := hw _ (List.mem_of_getElem? (i := 48) rfl)
theorem w_49 {Z : State} {a0 : Array Value} (hw : ∀ d ∈ tables_1, d.before a0 Z = true) : (Jvm.Cond.instanceMethod ({ cls := "com/example/weir/weir/engine/SubjectIndex", name := "<init>", desc := "(Lcom/example/weir/weir/engine/SubjectIndex$Terms;)V" } : Jvm.MethodName)).before a0 Z = true := hw _ (List.mem_of_getElem? (i := 49) rfl)
theorem w_50 {Z : State} {a0 : Array Value} (hw : ∀ d ∈ tables_1, d.before a0 Z = true) : (Jvm.Cond.code ({ cls := "com/example/weir/weir/engine/SubjectIndex", name := "<init>", desc := "(Lcom/example/weir/weir/engine/SubjectIndex$Terms;)V" } : Jvm.MethodName) prog_43_method_1_code (2 : Nat) (Option.none : Option Jvm.ClassFile.FieldType)).before a0 Z = true := hw _ (List.mem_of_getElem? (i := 50) rfl)
theorem w_51 {Z : State} {a0 : Array Value} (hw : ∀ d ∈ tables_1, d.before a0 Z = true) : (Jvm.Cond.methodLink "com/example/weir/weir/engine/SubjectIndex" (3 : Nat) ({ cls := "java/lang/Object", name := "<init>", desc := "()V" } : Jvm.MethodName)).before a0 Z = true := hw _ (List.mem_of_getElem? (i := 51) rfl)
theorem w_52 {Z : State} {a0 : Array Value} (hw : ∀ d ∈ tables_1, d.before a0 Z = true) : (Jvm.Cond.classLink "com/example/weir/weir/engine/SubjectIndex" (9 : Nat) "com/example/weir/weir/engine/IntIntMap").before a0 Z = true := hw _ (List.mem_of_getElem? (i := 52) rfl)
theorem w_53 {Z : State} {a0 : Array Value} (hw : ∀ d ∈ tables_1, d.before a0 Z = true) : (Jvm.Cond.instantiable "com/example/weir/weir/engine/IntIntMap" (9 : Nat)).before a0 Z = true := hw _ (List.mem_of_getElem? (i := 53) rfl)
theorem w_54 {Z : State} {a0 : Array Value} (hw : ∀ d ∈ tables_1, d.before a0 Z = true) : (Jvm.Cond.initialized "com/example/weir/weir/engine/IntIntMap").before a0 Z = true := hw _ (List.mem_of_getElem? (i := 54) rfl)
theorem w_55 {Z : State} {a0 : Array Value} (hw : ∀ d ∈ tables_1, d.before a0 Z = true) : (Jvm.Cond.methodLink "com/example/weir/weir/engine/SubjectIndex" (11 : Nat) ({ cls := "com/example/weir/weir/engine/IntIntMap", name := "<init>", desc := "()V" } : Jvm.MethodName)).before a0 Z = true := hw _ (List.mem_of_getElem? (i := 55) rfl)
theorem w_56 {Z : State} {a0 : Array Value} (hw : ∀ d ∈ tables_1, d.before a0 Z = true) : (Jvm.Cond.instanceMethod ({ cls := "com/example/weir/weir/engine/IntIntMap", name := "<init>", desc := "()V" } : Jvm.MethodName)).before a0 Z = true := hw _ (List.mem_of_getElem? (i := 56) rfl)
theorem w_57 {Z : State} {a0 : Array Value} (hw : ∀ d ∈ tables_1, d.before a0 Z = true) : (Jvm.Cond.code ({ cls := "com/example/weir/weir/engine/IntIntMap", name := "<init>", desc := "()V" } : Jvm.MethodName) prog_26_method_1_code (1 : Nat) (Option.none : Option Jvm.ClassFile.FieldType)).before a0 Z = true := hw _ (List.mem_of_getElem? (i := 57) rfl)
theorem w_58 {Z : State} {a0 : Array Value} (hw : ∀ d ∈ tables_1, d.before a0 Z = true) : (Jvm.Cond.methodLink "com/example/weir/weir/engine/IntIntMap" (1 : Nat) ({ cls := "com/example/weir/weir/engine/IntIntMap", name := "<init>", desc := "(I)V" } : Jvm.MethodName)).before a0 Z = true := hw _ (List.mem_of_getElem? (i := 58) rfl)
theorem w_59 {Z : State} {a0 : Array Value} (hw : ∀ d ∈ tables_1, d.before a0 Z = true) : (Jvm.Cond.instanceMethod ({ cls := "com/example/weir/weir/engine/IntIntMap", name := "<init>", desc := "(I)V" } : Jvm.MethodName)).before a0 Z = true := hw _ (List.mem_of_getElem? (i := 59) rfl)
theorem w_60 {Z : State} {a0 : Array Value} (hw : ∀ d ∈ tables_1, d.before a0 Z = true) : (Jvm.Cond.code ({ cls := "com/example/weir/weir/engine/IntIntMap", name := "<init>", desc := "(I)V" } : Jvm.MethodName) prog_26_method_2_code (2 : Nat) (Option.none : Option Jvm.ClassFile.FieldType)).before a0 Z = true := hw _ (List.mem_of_getElem? (i := 60) rfl)
theorem w_61 {Z : State} {a0 : Array Value} (hw : ∀ d ∈ tables_1, d.before a0 Z = true) : (Jvm.Cond.methodLink "com/example/weir/weir/engine/IntIntMap" (7 : Nat) ({ cls := "java/lang/Object", name := "<init>", desc := "()V" } : Jvm.MethodName)).before a0 Z = true := hw _ (List.mem_of_getElem? (i := 61) rfl)
theorem w_62 {Z : State} {a0 : Array Value} (hw : ∀ d ∈ tables_1, d.before a0 Z = true) : (Jvm.Cond.fieldLink "com/example/weir/weir/engine/IntIntMap" (12 : Nat) "com/example/weir/weir/engine/IntIntMap" "width" "I").before a0 Z = true := hw _ (List.mem_of_getElem? (i := 62) rfl)
theorem w_63 {Z : State} {a0 : Array Value} (hw : ∀ d ∈ tables_1, d.before a0 Z = true) : (Jvm.Cond.laysFinal "com/example/weir/weir/engine/IntIntMap" "com/example/weir/weir/engine/IntIntMap" "width" "I").before a0 Z = true := hw _ (List.mem_of_getElem? (i := 63) rfl)
theorem w_64 {Z : State} {a0 : Array Value} (hw : ∀ d ∈ tables_1, d.before a0 Z = true) : (Jvm.Cond.fieldLink "com/example/weir/weir/engine/IntIntMap" (16 : Nat) "com/example/weir/weir/engine/IntIntMap" "stride" "I").before a0 Z = true := hw _ (List.mem_of_getElem? (i := 64) rfl)
theorem w_65 {Z : State} {a0 : Array Value} (hw : ∀ d ∈ tables_1, d.before a0 Z = true) : (Jvm.Cond.laysFinal "com/example/weir/weir/engine/IntIntMap" "com/example/weir/weir/engine/IntIntMap" "stride" "I").before a0 Z = true := hw _ (List.mem_of_getElem? (i := 65) rfl)
theorem w_66 {Z : State} {a0 : Array Value} (hw : ∀ d ∈ tables_1, d.before a0 Z = true) : (Jvm.Cond.methodLink "com/example/weir/weir/engine/IntIntMap" (19 : Nat) ({ cls := "com/example/weir/weir/engine/IntIntMap", name := "emptyTable", desc := "(IZ)V" } : Jvm.MethodName)).before a0 Z = true := hw _ (List.mem_of_getElem? (i := 66) rfl)
theorem w_67 {Z : State} {a0 : Array Value} (hw : ∀ d ∈ tables_1, d.before a0 Z = true) : (Jvm.Cond.instanceMethod ({ cls := "com/example/weir/weir/engine/IntIntMap", name := "emptyTable", desc := "(IZ)V" } : Jvm.MethodName)).before a0 Z = true := hw _ (List.mem_of_getElem? (i := 67) rfl)
theorem w_68 {Z : State} {a0 : Array Value} (hw : ∀ d ∈ tables_1, d.before a0 Z = true) : (Jvm.Cond.privateMethod ({ cls := "com/example/weir/weir/engine/IntIntMap", name := "emptyTable", desc := "(IZ)V" } : Jvm.MethodName)).before a0 Z = true := hw _ (List.mem_of_getElem? (i := 68) rfl)
theorem w_69 {Z : State} {a0 : Array Value} (hw : ∀ d ∈ tables_1, d.before a0 Z = true) : (Jvm.Cond.code ({ cls := "com/example/weir/weir/engine/IntIntMap", name := "emptyTable", desc := "(IZ)V" } : Jvm.MethodName) prog_26_method_22_code (3 : Nat) (Option.none : Option Jvm.ClassFile.FieldType)).before a0 Z = true := hw _ (List.mem_of_getElem? (i := 69) rfl)
theorem w_70 {Z : State} {a0 : Array Value} (hw : ∀ d ∈ tables_1, d.before a0 Z = true) : (Jvm.Cond.fieldLink "com/example/weir/weir/engine/IntIntMap" (30 : Nat) "com/example/weir/weir/engine/IntIntMap" "entries" "[I").before a0 Z = true := hw _ (List.mem_of_getElem? (i := 70) rfl)
theorem w_71 {Z : State} {a0 : Array Value} (hw : ∀ d ∈ tables_1, d.before a0 Z = true) : (Jvm.Cond.lays "com/example/weir/weir/engine/IntIntMap" "com/example/weir/weir/engine/IntIntMap" "entries" "[I").before a0 Z = true := hw _ (List.mem_of_getElem? (i := 71) rfl)
theorem w_72 {Z : State} {a0 : Array Value} (hw : ∀ d ∈ tables_1, d.before a0 Z = true) : (Jvm.Cond.fieldLink "com/example/weir/weir/engine/IntIntMap" (68 : Nat) "com/example/weir/weir/engine/IntIntMap" "slots" "I").before a0 Z = true := hw _ (List.mem_of_getElem? (i := 72) rfl)
theorem w_73 {Z : State} {a0 : Array Value} (hw : ∀ d ∈ tables_1, d.before a0 Z = true) : (Jvm.Cond.lays "com/example/weir/weir/engine/IntIntMap" "com/example/weir/weir/engine/IntIntMap" "slots" "I").before a0 Z = true := hw _ (List.mem_of_getElem? (i := 73) rfl)
theorem w_74 {Z : State} {a0 : Array Value} (hw : ∀ d ∈ tables_1, d.before a0 Z = true) : (Jvm.Cond.fieldLink "com/example/weir/weir/engine/IntIntMap" (80 : Nat) "com/example/weir/weir/engine/IntIntMap" "objects" "[Ljava/lang/Object;").before a0 Z = true := hw _ (List.mem_of_getElem? (i := 74) rfl)
theorem w_75 {Z : State} {a0 : Array Value} (hw : ∀ d ∈ tables_1, d.before a0 Z = true) : (Jvm.Cond.lays "com/example/weir/weir/engine/IntIntMap" "com/example/weir/weir/engine/IntIntMap" "objects" "[Ljava/lang/Object;").before a0 Z = true := hw _ (List.mem_of_getElem? (i := 75) rfl)
theorem w_76 {Z : State} {a0 : Array Value} (hw : ∀ d ∈ tables_1, d.before a0 Z = true) : (Jvm.Cond.fieldLink "com/example/weir/weir/engine/IntIntMap" (54 : Nat) "com/example/weir/weir/engine/IntIntMap" "greatestKey" "I").before a0 Z = true := hw _ (List.mem_of_getElem? (i := 76) rfl)
theorem w_77 {Z : State} {a0 : Array Value} (hw : ∀ d ∈ tables_1, d.before a0 Z = true) : (Jvm.Cond.lays "com/example/weir/weir/engine/IntIntMap" "com/example/weir/weir/engine/IntIntMap" "greatestKey" "I").before a0 Z = true := hw _ (List.mem_of_getElem? (i := 77) rfl)
theorem w_78 {Z : State} {a0 : Array Value} (hw : ∀ d ∈ tables_1, d.before a0 Z = true) : (Jvm.Cond.fieldLink "com/example/weir/weir/engine/SubjectIndex" (12 : Nat) "com/example/weir/weir/engine/SubjectIndex" "subjects" "Lcom/example/weir/weir/engine/IntIntMap;").before a0 Z = true := hw _ (List.mem_of_getElem? (i := 78) rfl)
theorem w_79 {Z : State} {a0 : Array Value} (hw : ∀ d ∈ tables_1, d.before a0 Z = true) : (Jvm.Cond.laysFinal "com/example/weir/weir/engine/SubjectIndex" "com/example/weir/weir/engine/SubjectIndex" "subjects" "Lcom/example/weir/weir/engine/IntIntMap;").before a0 Z = true := hw _ (List.mem_of_getElem? (i := 79) rfl)
theorem w_80 {Z : State} {a0 : Array Value} (hw : ∀ d ∈ tables_1, d.before a0 Z = true) : (Jvm.Cond.fieldLink "com/example/weir/weir/engine/SubjectIndex" (16 : Nat) "com/example/weir/weir/engine/SubjectIndex" "NO_LINKS" "[I").before a0 Z = true := hw _ (List.mem_of_getElem? (i := 80) rfl)
theorem w_81 {Z : State} {a0 : Array Value} (hw : ∀ d ∈ tables_1, d.before a0 Z = true) : (Jvm.Cond.laysStatic "com/example/weir/weir/engine/SubjectIndex" "NO_LINKS" "[I").before a0 Z = true := hw _ (List.mem_of_getElem? (i := 81) rfl)
theorem w_82 {Z : State} {a0 : Array Value} (hw : ∀ d ∈ tables_1, d.before a0 Z = true) : (Jvm.Cond.fieldLink "com/example/weir/weir/engine/SubjectIndex" (20 : Nat) "com/example/weir/weir/engine/SubjectIndex" "next" "[I").before a0 Z = true := hw _ (List.mem_of_getElem? (i := 82) rfl)
theorem w_83 {Z : State} {a0 : Array Value} (hw : ∀ d ∈ tables_1, d.before a0 Z = true) : (Jvm.Cond.lays "com/example/weir/weir/engine/SubjectIndex" "com/example/weir/weir/engine/SubjectIndex" "next" "[I").before a0 Z = true := hw _ (List.mem_of_getElem? (i := 83) rfl)
theorem w_84 {Z : State} {a0 : Array Value} (hw : ∀ d ∈ tables_1, d.before a0 Z = true) : (Jvm.Cond.fieldLink "com/example/weir/weir/engine/SubjectIndex" (23 : Nat) "com/example/weir/weir/engine/SubjectIndex" "terms" "Lcom/example/weir/weir/engine/SubjectIndex$Terms;").before a0 Z = true := hw _ (List.mem_of_getElem? (i := 84) rfl)
theorem w_85 {Z : State} {a0 : Array Value} (hw : ∀ d ∈ tables_1, d.before a0 Z = true) : (Jvm.Cond.laysFinal "com/example/weir/weir/engine/SubjectIndex" "com/example/weir/weir/engine/SubjectIndex" "terms" "Lcom/example/weir/weir/engine/SubjectIndex$Terms;").before a0 Z = true := hw _ (List.mem_of_getElem? (i := 85) rfl)
theorem w_86 {Z : State} {a0 : Array Value} (hw : ∀ d ∈ tables_1, d.before a0 Z = true) : (Jvm.Cond.fieldLink "com/example/weir/weir/engine/TripleTable" (31 : Nat) "com/example/weir/weir/engine/TripleTable" "index" "Lcom/example/weir/weir/engine/SubjectIndex;").before a0 Z = true := hw _ (List.mem_of_getElem? (i := 86) rfl)
theorem w_87 {Z : State} {a0 : Array Value} (hw : ∀ d ∈ tables_1, d.before a0 Z = true) : (Jvm.Cond.lays "com/example/weir/weir/engine/TripleTable" "com/example/weir/weir/engine/TripleTable" "index" "Lcom/example/weir/weir/engine/SubjectIndex;").before a0 Z = true := hw _ (List.mem_of_getElem? (i := 87) rfl)
theorem w_88 {Z : State} {a0 : Array Value} (hw : ∀ d ∈ tables_1, d.before a0 Z = true) : (Jvm.Cond.methodLink "com/example/weir/weir/engine/TripleTableEndRoomPinLaw" (30 : Nat) ({ cls := "com/example/weir/weir/engine/TripleTable", name := "add", desc := "(IIIJ)I" } : Jvm.MethodName)).before a0 Z = true := hw _ (List.mem_of_getElem? (i := 88) rfl)
theorem w_89 {Z : State} {a0 : Array Value} (hw : ∀ d ∈ tables_1, d.before a0 Z = true) : (Jvm.Cond.declares ({ cls := "com/example/weir/weir/engine/TripleTable", name := "add", desc := "(IIIJ)I" } : Jvm.MethodName)).before a0 Z = true := hw _ (List.mem_of_getElem? (i := 89) rfl)
theorem w_90 {Z : State} {a0 : Array Value} (hw : ∀ d ∈ tables_1, d.before a0 Z = true) : (Jvm.Cond.instanceMethod ({ cls := "com/example/weir/weir/engine/TripleTable", name := "add", desc := "(IIIJ)I" } : Jvm.MethodName)).before a0 Z = true := hw _ (List.mem_of_getElem? (i := 90) rfl)
theorem w_91 {Z : State} {a0 : Array Value} (hw : ∀ d ∈ tables_1, d.before a0 Z = true) : (Jvm.Cond.selects "com/example/weir/weir/engine/TripleTable" ({ cls := "com/example/weir/weir/engine/TripleTable", name := "add", desc := "(IIIJ)I" } : Jvm.MethodName) ({ cls := "com/example/weir/weir/engine/TripleTable", name := "add", desc := "(IIIJ)I" } : Jvm.MethodName)).before a0 Z = true := hw _ (List.mem_of_getElem? (i := 91) rfl)
theorem w_92 {Z : State} {a0 : Array Value} (hw : ∀ d ∈ tables_1, d.before a0 Z = true) : (Jvm.Cond.code ({ cls := "com/example/weir/weir/engine/TripleTable", name := "add", desc := "(IIIJ)I" } : Jvm.MethodName) prog_50_method_18_code (7 : Nat) (Option.some Jvm.ClassFile.FieldType.int)).before a0 Z = true := hw _ (List.mem_of_getElem? (i := 92) rfl)
theorem w_93 {Z : State} {a0 : Array Value} (hw : ∀ d ∈ tables_1, d.before a0 Z = true) : (Jvm.Cond.methodLink "com/example/weir/weir/engine/TripleTable" (88 : Nat) ({ cls := "com/example/weir/weir/engine/Numbers", name := "take", desc := "()I" } : Jvm.MethodName)).before a0 Z = true := hw _ (List.mem_of_getElem? (i := 93) rfl)
theorem w_94 {Z : State} {a0 : Array Value} (hw : ∀ d ∈ tables_1, d.before a0 Z = true) : (Jvm.Cond.declares ({ cls := "com/example/weir/weir/engine/Numbers", name := "take", desc := "()I" } : Jvm.MethodName)).before a0 Z = true := hw _ (List.mem_of_getElem? (i := 94) rfl)
theorem w_95 {Z : State} {a0 : Array Value} (hw : ∀ d ∈ tables_1, d.before a0 Z = true) : (Jvm.Cond.instanceMethod ({ cls := "com/example/weir/weir/engine/Numbers", name := "take", desc := "()I" } : Jvm.MethodName)).before a0 Z = true := hw _ (List.mem_of_getElem? (i := 95) rfl)
theorem w_96 {Z : State} {a0 : Array Value} (hw : ∀ d ∈ tables_1, d.before a0 Z = true) : (Jvm.Cond.selects "com/example/weir/weir/engine/Numbers" ({ cls := "com/example/weir/weir/engine/Numbers", name := "take", desc := "()I" } : Jvm.MethodName) ({ cls := "com/example/weir/weir/engine/Numbers", name := "take", desc := "()I" } : Jvm.MethodName)).before a0 Z = true := hw _ (List.mem_of_getElem? (i := 96) rfl)
theorem w_97 {Z : State} {a0 : Array Value} (hw : ∀ d ∈ tables_1, d.before a0 Z = true) : (Jvm.Cond.code ({ cls := "com/example/weir/weir/engine/Numbers", name := "take", desc := "()I" } : Jvm.MethodName) prog_41_method_2_code (1 : Nat) (Option.some Jvm.ClassFile.FieldType.int)).before a0 Z = true := hw _ (List.mem_of_getElem? (i := 97) rfl)
theorem w_98 {Z : State} {a0 : Array Value} (hw : ∀ d ∈ tables_1, d.before a0 Z = true) : (Jvm.Cond.methodLink "com/example/weir/weir/engine/Numbers" (16 : Nat) ({ cls := "com/example/weir/weir/engine/IntList", name := "size", desc := "()I" } : Jvm.MethodName)).before a0 Z = true := hw _ (List.mem_of_getElem? (i := 98) rfl)
theorem w_99 {Z : State} {a0 : Array Value} (hw : ∀ d ∈ tables_1, d.before a0 Z = true) : (Jvm.Cond.declares ({ cls := "com/example/weir/weir/engine/IntList", name := "size", desc := "()I" } : Jvm.MethodName)).before a0 Z = true := hw _ (List.mem_of_getElem? (i := 99) rfl)
theorem w_100 {Z : State} {a0 : Array Value} (hw : ∀ d ∈ tables_1, d.before a0 Z = true) : (Jvm.Cond.instanceMethod ({ cls := "com/example/weir/weir/engine/IntList", name := "size", desc := "()I" } : Jvm.MethodName)).before a0 Z = true := hw _ (List.mem_of_getElem? (i := 100) rfl)
theorem w_101 {Z : State} {a0 : Array Value} (hw : ∀ d ∈ tables_1, d.before a0 Z = true) : (Jvm.Cond.selects "com/example/weir/weir/engine/IntList" ({ cls := "com/example/weir/weir/engine/IntList", name := "size", desc := "()I" } : Jvm.MethodName) ({ cls := "com/example/weir/weir/engine/IntList", name := "size", desc := "()I" } : Jvm.MethodName)).before a0 Z = true := hw _ (List.mem_of_getElem? (i := 101) rfl)
theorem w_102 {Z : State} {a0 : Array Value} (hw : ∀ d ∈ tables_1, d.before a0 Z = true) : (Jvm.Cond.code ({ cls := "com/example/weir/weir/engine/IntList", name := "size", desc := "()I" } : Jvm.MethodName) prog_27_method_6_code (1 : Nat) (Option.some Jvm.ClassFile.FieldType.int)).before a0 Z = true := hw _ (List.mem_of_getElem? (i := 102) rfl)
theorem w_103 {Z : State} {a0 : Array Value} (hw : ∀ d ∈ tables_1, d.before a0 Z = true) : (Jvm.Cond.fieldLink "com/example/weir/weir/engine/IntList" (13 : Nat) "com/example/weir/weir/engine/IntList" "size" "I").before a0 Z = true := hw _ (List.mem_of_getElem? (i := 103) rfl)
theorem w_104 {Z : State} {a0 : Array Value} (hw : ∀ d ∈ tables_1, d.before a0 Z = true) : (Jvm.Cond.lays "com/example/weir/weir/engine/IntList" "com/example/weir/weir/engine/IntList" "size" "I").before a0 Z = true := hw _ (List.mem_of_getElem? (i := 104) rfl)
theorem w_105 {Z : State} {a0 : Array Value} (hw : ∀ d ∈ tables_1, d.before a0 Z = true) : (Jvm.Cond.fieldLink "com/example/weir/weir/engine/Numbers" (23 : Nat) "com/example/weir/weir/engine/Numbers" "limit" "I").before a0 Z = true := hw _ (List.mem_of_getElem? (i := 105) rfl)
theorem w_106 {Z : State} {a0 : Array Value} (hw : ∀ d ∈ tables_1, d.before a0 Z = true) : (Jvm.Cond.lays "com/example/weir/weir/engine/Numbers" "com/example/weir/weir/engine/Numbers" "limit" "I").before a0 Z = true := hw _ (List.mem_of_getElem? (i := 106) rfl)
theorem w_107 {Z : State} {a0 : Array Value} (hw : ∀ d ∈ tables_1, d.before a0 Z = true) : (Jvm.Cond.methodLink "com/example/weir/weir/engine/TripleTable" (57 : Nat) ({ cls := "com/example/weir/weir/engine/TripleTable", name := "putEnd", desc := "(IJ)V" } : Jvm.MethodName)).before a0 Z = true := hw _ (List.mem_of_getElem? (i := 107) rfl)
theorem w_108 {Z : State} {a0 : Array Value} (hw : ∀ d ∈ tables_1, d.before a0 Z = true) : (Jvm.Cond.instanceMethod ({ cls := "com/example/weir/weir/engine/TripleTable", name := "putEnd", desc := "(IJ)V" } : Jvm.MethodName)).before a0 Z = true := hw _ (List.mem_of_getElem? (i := 108) rfl)
theorem w_109 {Z : State} {a0 : Array Value} (hw : ∀ d ∈ tables_1, d.before a0 Z = true) : (Jvm.Cond.privateMethod ({ cls := "com/example/weir/weir/engine/TripleTable", name := "putEnd", desc := "(IJ)V" } : Jvm.MethodName)).before a0 Z = true := hw _ (List.mem_of_getElem? (i := 109) rfl)
theorem w_110 {Z : State} {a0 : Array Value} (hw : ∀ d ∈ tables_1, d.before a0 Z = true) : (Jvm.Cond.code ({ cls := "com/example/weir/weir/engine/TripleTable", name := "putEnd", desc := "(IJ)V" } : Jvm.MethodName) prog_50_method_23_code (4 : Nat) (Option.none : Option Jvm.ClassFile.FieldType)).before a0 Z = true := hw _ (List.mem_of_getElem? (i := 110) rfl)
theorem w_111 {Z : State} {a0 : Array Value} (hw : ∀ d ∈ tables_1, d.before a0 Z = true) : (Jvm.Cond.constantLong "com/example/weir/weir/engine/TripleTable" (51 : Nat) (9223372036854775807 : Int64)).before a0 Z = true := hw _ (List.mem_of_getElem? (i := 111) rfl)
theorem w_112 {Z : State} {a0 : Array Value} (hw : ∀ d ∈ tables_1, d.before a0 Z = true) : (Jvm.Cond.fieldLink "com/example/weir/weir/engine/TripleTable" (47 : Nat) "com/example/weir/weir/engine/TripleTable" "ends" "[J").before a0 Z = true := hw _ (List.mem_of_getElem? (i := 112) rfl)
theorem w_113 {Z : State} {a0 : Array Value} (hw : ∀ d ∈ tables_1, d.before a0 Z = true) : (Jvm.Cond.lays "com/example/weir/weir/engine/TripleTable" "com/example/weir/weir/engine/TripleTable" "ends" "[J").before a0 Z = true := hw _ (List.mem_of_getElem? (i := 113) rfl)
theorem w_114 {Z : State} {a0 : Array Value} (hw : ∀ d ∈ tables_1, d.before a0 Z = true) : (Jvm.Cond.fieldLink "com/example/weir/weir/engine/TripleTable" (35 : Nat) "com/example/weir/weir/engine/TripleTable" "size" "I").before a0 Z = true := hw _ (List.mem_of_getElem? (i := 114) rfl)
theorem w_115 {Z : State} {a0 : Array Value} (hw : ∀ d ∈ tables_1, d.before a0 Z = true) : (Jvm.Cond.lays "com/example/weir/weir/engine/TripleTable" "com/example/weir/weir/engine/TripleTable" "size" "I").before a0 Z = true := hw _ (List.mem_of_getElem? (i := 115) rfl)
theorem w_116 {Z : State} {a0 : Array Value} (hw : ∀ d ∈ tables_1, d.before a0 Z = true) : (Jvm.Cond.methodLink "com/example/weir/weir/engine/TripleTable" (67 : Nat) ({ cls := "com/example/weir/weir/engine/TripleTable", name := "capacity", desc := "()I" } : Jvm.MethodName)).before a0 Z = true := hw _ (List.mem_of_getElem? (i := 116) rfl)
theorem w_117 {Z : State} {a0 : Array Value} (hw : ∀ d ∈ tables_1, d.before a0 Z = true) : (Jvm.Cond.declares ({ cls := "com/example/weir/weir/engine/TripleTable", name := "capacity", desc := "()I" } : Jvm.MethodName)).before a0 Z = true := hw _ (List.mem_of_getElem? (i := 117) rfl)
theorem w_118 {Z : State} {a0 : Array Value} (hw : ∀ d ∈ tables_1, d.before a0 Z = true) : (Jvm.Cond.instanceMethod ({ cls := "com/example/weir/weir/engine/TripleTable", name := "capacity", desc := "()I" } : Jvm.MethodName)).before a0 Z = true := hw _ (List.mem_of_getElem? (i := 118) rfl)
theorem w_119 {Z : State} {a0 : Array Value} (hw : ∀ d ∈ tables_1, d.before a0 Z = true) : (Jvm.Cond.selects "com/example/weir/weir/engine/TripleTable" ({ cls := "com/example/weir/weir/engine/TripleTable", name := "capacity", desc := "()I" } : Jvm.MethodName) ({ cls := "com/example/weir/weir/engine/TripleTable", name := "capacity", desc := "()I" } : Jvm.MethodName)).before a0 Z = true := hw _ (List.mem_of_getElem? (i := 119) rfl)
theorem w_120 {Z : State} {a0 : Array Value} (hw : ∀ d ∈ tables_1, d.before a0 Z = true) : (Jvm.Cond.code ({ cls := "com/example/weir/weir/engine/TripleTable", name := "capacity", desc := "()I" } : Jvm.MethodName) prog_50_method_4_code (1 : Nat) (Option.some Jvm.ClassFile.FieldType.int)).before a0 Z = true := hw _ (List.mem_of_getElem? (i := 120) rfl)
theorem w_121 {Z : State} {a0 : Array Value} (hw : ∀ d ∈ tables_1, d.before a0 Z = true) : (Jvm.Cond.methodLink "com/example/weir/weir/engine/TripleTable" (104 : Nat) ({ cls := "com/example/weir/weir/engine/SubjectIndex", name := "add", desc := "(II)V" } : Jvm.MethodName)).before a0 Z = true := hw _ (List.mem_of_getElem? (i := 121) rfl)
theorem w_122 {Z : State} {a0 : Array Value} (hw : ∀ d ∈ tables_1, d.before a0 Z = true) : (Jvm.Cond.declares ({ cls := "com/example/weir/weir/engine/SubjectIndex", name := "add", desc := "(II)V" } : Jvm.MethodName)).before a0 Z = true := hw _ (List.mem_of_getElem? (i := 122) rfl)
theorem w_123 {Z : State} {a0 : Array Value} (hw : ∀ d ∈ tables_1, d.before a0 Z = true) : (Jvm.Cond.instanceMethod ({ cls := "com/example/weir/weir/engine/SubjectIndex", name := "add", desc := "(II)V" } : Jvm.MethodName)).before a0 Z = true := hw _ (List.mem_of_getElem? (i := 123) rfl)
theorem w_124 {Z : State} {a0 : Array Value} (hw : ∀ d ∈ tables_1, d.before a0 Z = true) : (Jvm.Cond.selects "com/example/weir/weir/engine/SubjectIndex" ({ cls := "com/example/weir/weir/engine/SubjectIndex", name := "add", desc := "(II)V" } : Jvm.MethodName) ({ cls := "com/example/weir/weir/engine/SubjectIndex", name := "add", desc := "(II)V" } : Jvm.MethodName)).before a0 Z = true := hw _ (List.mem_of_getElem? (i := 124) rfl)
theorem w_125 {Z : State} {a0 : Array Value} (hw : ∀ d ∈ tables_1, d.before a0 Z = true) : (Jvm.Cond.code ({ cls := "com/example/weir/weir/engine/SubjectIndex", name := "add", desc := "(II)V" } : Jvm.MethodName) prog_43_method_4_code (6 : Nat) (Option.none : Option Jvm.ClassFile.FieldType)).before a0 Z = true := hw _ (List.mem_of_getElem? (i := 125) rfl)
theorem w_126 {Z : State} {a0 : Array Value} (hw : ∀ d ∈ tables_1, d.before a0 Z = true) : (Jvm.Cond.methodLink "com/example/weir/weir/engine/SubjectIndex" (52 : Nat) ({ cls := "java/util/Arrays", name := "copyOf", desc := "([II)[I" } : Jvm.MethodName)).before a0 Z = true := hw _ (List.mem_of_getElem? (i := 126) rfl)
theorem w_127 {Z : State} {a0 : Array Value} (hw : ∀ d ∈ tables_1, d.before a0 Z = true) : (Jvm.Cond.static ({ cls := "java/util/Arrays", name := "copyOf", desc := "([II)[I" } : Jvm.MethodName)).before a0 Z = true := hw _ (List.mem_of_getElem? (i := 127) rfl)
theorem w_128 {Z : State} {a0 : Array Value} (hw : ∀ d ∈ tables_1, d.before a0 Z = true) : (Jvm.Cond.initialized "java/util/Arrays").before a0 Z = true := hw _ (List.mem_of_getElem? (i := 128) rfl)
theorem w_129 {Z : State} {a0 : Array Value} (hw : ∀ d ∈ tables_1, d.before a0 Z = true) : (Jvm.Cond.code ({ cls := "java/util/Arrays", name := "copyOf", desc := "([II)[I" } : Jvm.MethodName) jdk_65_method_123_code (3 : Nat) (Option.some (Jvm.ClassFile.FieldType.array Jvm.ClassFile.FieldType.int))).before a0 Z = true := hw _ (List.mem_of_getElem? (i := 129) rfl)
theorem w_130 {Z : State} {a0 : Array Value} (hw : ∀ d ∈ tables_1, d.before a0 Z = true) : (Jvm.Cond.methodLink "java/util/Arrays" (304 : Nat) ({ cls := "java/lang/Math", name := "min", desc := "(II)I" } : Jvm.MethodName)).before a0 Z = true := hw _ (List.mem_of_getElem? (i := 130) rfl)
theorem w_131 {Z : State} {a0 : Array Value} (hw : ∀ d ∈ tables_1, d.before a0 Z = true) : (Jvm.Cond.static ({ cls := "java/lang/Math", name := "min", desc := "(II)I" } : Jvm.MethodName)).before a0 Z = true := hw _ (List.mem_of_getElem? (i := 131) rfl)
theorem w_132 {Z : State} {a0 : Array Value} (hw : ∀ d ∈ tables_1, d.before a0 Z = true) : (Jvm.Cond.code ({ cls := "java/lang/Math", name := "min", desc := "(II)I" } : Jvm.MethodName) jdk_29_method_69_code (2 : Nat) (Option.some Jvm.ClassFile.FieldType.int)).before a0 Z = true := hw _ (List.mem_of_getElem? (i := 132) rfl)
theorem w_133 {Z : State} {a0 : Array Value} (hw : ∀ d ∈ tables_1, d.before a0 Z = true) : (Jvm.Cond.methodLink "java/util/Arrays" (150 : Nat) ({ cls := "java/lang/System", name := "arraycopy", desc := "(Ljava/lang/Object;ILjava/lang/Object;II)V" } : Jvm.MethodName)).before a0 Z = true := hw _ (List.mem_of_getElem? (i := 133) rfl)
theorem w_134 {Z : State} {a0 : Array Value} (hw : ∀ d ∈ tables_1, d.before a0 Z = true) : (Jvm.Cond.static ({ cls := "java/lang/System", name := "arraycopy", desc := "(Ljava/lang/Object;ILjava/lang/Object;II)V" } : Jvm.MethodName)).before a0 Z = true := hw _ (List.mem_of_getElem? (i := 134) rfl)
theorem w_135 {Z : State} {a0 : Array Value} (hw : ∀ d ∈ tables_1, d.before a0 Z = true) : (Jvm.Cond.initialized "java/lang/System").before a0 Z = true := hw _ (List.mem_of_getElem? (i := 135) rfl)
theorem w_136 {Z : State} {a0 : Array Value} (hw : ∀ d ∈ tables_1, d.before a0 Z = true) : (Jvm.Cond.native ({ cls := "java/lang/System", name := "arraycopy", desc := "(Ljava/lang/Object;ILjava/lang/Object;II)V" } : Jvm.MethodName)).before a0 Z = true := hw _ (List.mem_of_getElem? (i := 136) rfl)
theorem w_137 {Z : State} {a0 : Array Value} (hw : ∀ d ∈ tables_1, d.before a0 Z = true) : (Jvm.Cond.methodLink "com/example/weir/weir/engine/SubjectIndex" (60 : Nat) ({ cls := "com/example/weir/weir/engine/SubjectIndex$Terms", name := "term", desc := "(II)I" } : Jvm.MethodName)).before a0 Z = true := hw _ (List.mem_of_getElem? (i := 137) rfl)
theorem w_138 {Z : State} {a0 : Array Value} (hw : ∀ d ∈ tables_1, d.before a0 Z = true) : (Jvm.Cond.declares ({ cls := "com/example/weir/weir/engine/SubjectIndex$Terms", name := "term", desc := "(II)I" } : Jvm.MethodName)).before a0 Z = true := hw _ (List.mem_of_getElem? (i := 138) rfl)
theorem w_139 {Z : State} {a0 : Array Value} (hw : ∀ d ∈ tables_1, d.before a0 Z = true) : (Jvm.Cond.interfaceMethod "com/example/weir/weir/engine/SubjectIndex$Terms" "com/example/weir/weir/engine/SubjectIndex$Terms" "term" "(II)I").before a0 Z = true := hw _ (List.mem_of_getElem? (i := 139) rfl)
theorem w_141 {Z : State} {a0 : Array Value} (hw : ∀ d ∈ tables_1, d.before a0 Z = true) : (Jvm.Cond.selects "com/example/weir/weir/engine/TripleTable" ({ cls := "com/example/weir/weir/engine/TripleTable", name := "term", desc := "(II)I" } : Jvm.MethodName) ({ cls := "com/example/weir/weir/engine/TripleTable", name := "term", desc := "(II)I" } : Jvm.MethodName)).before a0 Z = true := hw _ (List.mem_of_getElem? (i := 141) rfl)
theorem w_142 {Z : State} {a0 : Array Value} (hw : ∀ d ∈ tables_1, d.before a0 Z = true) : (Jvm.Cond.instanceMethod ({ cls := "com/example/weir/weir/engine/TripleTable", name := "term", desc := "(II)I" } : Jvm.MethodName)).before a0 Z = true := hw _ (List.mem_of_getElem? (i := 142) rfl)
theorem w_143 {Z : State} {a0 : Array Value} (hw : ∀ d ∈ tables_1, d.before a0 Z = true) : (Jvm.Cond.code ({ cls := "com/example/weir/weir/engine/TripleTable", name := "term", desc := "(II)I" } : Jvm.MethodName) prog_50_method_7_code (3 : Nat) (Option.some Jvm.ClassFile.FieldType.int)).before a0 Z = true := hw _ (List.mem_of_getElem? (i := 143) rfl)
theorem w_144 {Z : State} {a0 : Array Value} (hw : ∀ d ∈ tables_1, d.before a0 Z = true) : (Jvm.Cond.methodLink "com/example/weir/weir/engine/SubjectIndex" (36 : Nat) ({ cls := "com/example/weir/weir/engine/IntIntMap", name := "place", desc := "(I)I" } : Jvm.MethodName)).before a0 Z = true := hw _ (List.mem_of_getElem? (i := 144) rfl)
theorem w_145 {Z : State} {a0 : Array Value} (hw : ∀ d ∈ tables_1, d.before a0 Z = true) : (Jvm.Cond.declares ({ cls := "com/example/weir/weir/engine/IntIntMap", name := "place", desc := "(I)I" } : Jvm.MethodName)).before a0 Z = true := hw _ (List.mem_of_getElem? (i := 145) rfl)
theorem w_146 {Z : State} {a0 : Array Value} (hw : ∀ d ∈ tables_1, d.before a0 Z = true) : (Jvm.Cond.instanceMethod ({ cls := "com/example/weir/weir/engine/IntIntMap", name := "place", desc := "(I)I" } : Jvm.MethodName)).before a0 Z = true := hw _ (List.mem_of_getElem? (i := 146) rfl)
theorem w_147 {Z : State} {a0 : Array Value} (hw : ∀ d ∈ tables_1, d.before a0 Z = true) : (Jvm.Cond.selects "com/example/weir/weir/engine/IntIntMap" ({ cls := "com/example/weir/weir/engine/IntIntMap", name := "place", desc := "(I)I" } : Jvm.MethodName) ({ cls := "com/example/weir/weir/engine/IntIntMap", name := "place", desc := "(I)I" } : Jvm.MethodName)).before a0 Z = true := hw _ (List.mem_of_getElem? (i := 147) rfl)
theorem w_148 {Z : State} {a0 : Array Value} (hw : ∀ d ∈ tables_1, d.before a0 Z = true) : (Jvm.Cond.code ({ cls := "com/example/weir/weir/engine/IntIntMap", name := "place", desc := "(I)I" } : Jvm.MethodName) prog_26_method_7_code (3 : Nat) (Option.some Jvm.ClassFile.FieldType.int)).before a0 Z = true := hw _ (List.mem_of_getElem? (i := 148) rfl)
theorem w_149 {Z : State} {a0 : Array Value} (hw : ∀ d ∈ tables_1, d.before a0 Z = true) : (Jvm.Cond.fieldLink "com/example/weir/weir/engine/IntIntMap" (26 : Nat) "com/example/weir/weir/engine/IntIntMap" "values" "[I").before a0 Z = true := hw _ (List.mem_of_getElem? (i := 149) rfl)
theorem w_150 {Z : State} {a0 : Array Value} (hw : ∀ d ∈ tables_1, d.before a0 Z = true) : (Jvm.Cond.lays "com/example/weir/weir/engine/IntIntMap" "com/example/weir/weir/engine/IntIntMap" "values" "[I").before a0 Z = true := hw _ (List.mem_of_getElem? (i := 150) rfl)
theorem w_151 {Z : State} {a0 : Array Value} (hw : ∀ d ∈ tables_1, d.before a0 Z = true) : (Jvm.Cond.methodLink "com/example/weir/weir/engine/IntIntMap" (36 : Nat) ({ cls := "com/example/weir/weir/engine/IntIntMap", name := "find", desc := "(I)I" } : Jvm.MethodName)).before a0 Z = true := hw _ (List.mem_of_getElem? (i := 151) rfl)
theorem w_152 {Z : State} {a0 : Array Value} (hw : ∀ d ∈ tables_1, d.before a0 Z = true) : (Jvm.Cond.instanceMethod ({ cls := "com/example/weir/weir/engine/IntIntMap", name := "find", desc := "(I)I" } : Jvm.MethodName)).before a0 Z = true := hw _ (List.mem_of_getElem? (i := 152) rfl)
theorem w_153 {Z : State} {a0 : Array Value} (hw : ∀ d ∈ tables_1, d.before a0 Z = true) : (Jvm.Cond.privateMethod ({ cls := "com/example/weir/weir/engine/IntIntMap", name := "find", desc := "(I)I" } : Jvm.MethodName)).before a0 Z = true := hw _ (List.mem_of_getElem? (i := 153) rfl)
theorem w_154 {Z : State} {a0 : Array Value} (hw : ∀ d ∈ tables_1, d.before a0 Z = true) : (Jvm.Cond.code ({ cls := "com/example/weir/weir/engine/IntIntMap", name := "find", desc := "(I)I" } : Jvm.MethodName) prog_26_method_20_code (4 : Nat) (Option.some Jvm.ClassFile.FieldType.int)).before a0 Z = true := hw _ (List.mem_of_getElem? (i := 154) rfl)
theorem w_155 {Z : State} {a0 : Array Value} (hw : ∀ d ∈ tables_1, d.before a0 Z = true) : (Jvm.Cond.methodLink "com/example/weir/weir/engine/IntIntMap" (88 : Nat) ({ cls := "com/example/weir/weir/engine/LinearProbing", name := "spread", desc := "(J)I" } : Jvm.MethodName)).before a0 Z = true := hw _ (List.mem_of_getElem? (i := 155) rfl)
theorem w_156 {Z : State} {a0 : Array Value} (hw : ∀ d ∈ tables_1, d.before a0 Z = true) : (Jvm.Cond.static ({ cls := "com/example/weir/weir/engine/LinearProbing", name := "spread", desc := "(J)I" } : Jvm.MethodName)).before a0 Z = true := hw _ (List.mem_of_getElem? (i := 156) rfl)
theorem w_157 {Z : State} {a0 : Array Value} (hw : ∀ d ∈ tables_1, d.before a0 Z = true) : (Jvm.Cond.initialized "com/example/weir/weir/engine/LinearProbing").before a0 Z = true := hw _ (List.mem_of_getElem? (i := 157) rfl)
theorem w_158 {Z : State} {a0 : Array Value} (hw : ∀ d ∈ tables_1, d.before a0 Z = true) : (Jvm.Cond.code ({ cls := "com/example/weir/weir/engine/LinearProbing", name := "spread", desc := "(J)I" } : Jvm.MethodName) prog_28_method_2_code (2 : Nat) (Option.some Jvm.ClassFile.FieldType.int)).before a0 Z = true := hw _ (List.mem_of_getElem? (i := 158) rfl)
theorem w_159 {Z : State} {a0 : Array Value} (hw : ∀ d ∈ tables_1, d.before a0 Z = true) : (Jvm.Cond.constantLong "com/example/weir/weir/engine/LinearProbing" (7 : Nat) (-7046029254386353131 : Int64)).before a0 Z = true := hw _ (List.mem_of_getElem? (i := 159) rfl)
theorem w_160 {Z : State} {a0 : Array Value} (hw : ∀ d ∈ tables_1, d.before a0 Z = true) : (Jvm.Cond.methodLink "com/example/weir/weir/engine/SubjectIndex" (65 : Nat) ({ cls := "com/example/weir/weir/engine/IntIntMap", name := "add", desc := "(II)I" } : Jvm.MethodName)).before a0 Z = true := hw _ (List.mem_of_getElem? (i := 160) rfl)
theorem w_161 {Z : State} {a0 : Array Value} (hw : ∀ d ∈ tables_1, d.before a0 Z = true) : (Jvm.Cond.declares ({ cls := "com/example/weir/weir/engine/IntIntMap", name := "add", desc := "(II)I" } : Jvm.MethodName)).before a0 Z = true := hw _ (List.mem_of_getElem? (i := 161) rfl)
theorem w_162 {Z : State} {a0 : Array Value} (hw : ∀ d ∈ tables_1, d.before a0 Z = true) : (Jvm.Cond.instanceMethod ({ cls := "com/example/weir/weir/engine/IntIntMap", name := "add", desc := "(II)I" } : Jvm.MethodName)).before a0 Z = true := hw _ (List.mem_of_getElem? (i := 162) rfl)
theorem w_163 {Z : State} {a0 : Array Value} (hw : ∀ d ∈ tables_1, d.before a0 Z = true) : (Jvm.Cond.selects "com/example/weir/weir/engine/IntIntMap" ({ cls := "com/example/weir/weir/engine/IntIntMap", name := "add", desc := "(II)I" } : Jvm.MethodName) ({ cls := "com/example/weir/weir/engine/IntIntMap", name := "add", desc := "(II)I" } : Jvm.MethodName)).before a0 Z = true := hw _ (List.mem_of_getElem? (i := 163) rfl)
theorem w_164 {Z : State} {a0 : Array Value} (hw : ∀ d ∈ tables_1, d.before a0 Z = true) : (Jvm.Cond.code ({ cls := "com/example/weir/weir/engine/IntIntMap", name := "add", desc := "(II)I" } : Jvm.MethodName) prog_26_method_8_code (5 : Nat) (Option.some Jvm.ClassFile.FieldType.int)).before a0 Z = true := hw _ (List.mem_of_getElem? (i := 164) rfl)
theorem w_165 {Z : State} {a0 : Array Value} (hw : ∀ d ∈ tables_1, d.before a0 Z = true) : (Jvm.Cond.fieldLink "com/example/weir/weir/engine/IntIntMap" (23 : Nat) "com/example/weir/weir/engine/IntIntMap" "size" "I").before a0 Z = true := hw _ (List.mem_of_getElem? (i := 165) rfl)
theorem w_166 {Z : State} {a0 : Array Value} (hw : ∀ d ∈ tables_1, d.before a0 Z = true) : (Jvm.Cond.lays "com/example/weir/weir/engine/IntIntMap" "com/example/weir/weir/engine/IntIntMap" "size" "I").before a0 Z = true := hw _ (List.mem_of_getElem? (i := 166) rfl)
theorem w_167 {Z : State} {a0 : Array Value} (hw : ∀ d ∈ tables_1, d.before a0 Z = true) : (Jvm.Cond.methodLink "com/example/weir/weir/engine/IntIntMap" (57 : Nat) ({ cls := "java/lang/Math", name := "max", desc := "(II)I" } : Jvm.MethodName)).before a0 Z = true := hw _ (List.mem_of_getElem? (i := 167) rfl)
theorem w_168 {Z : State} {a0 : Array Value} (hw : ∀ d ∈ tables_1, d.before a0 Z = true) : (Jvm.Cond.methodLink "com/example/weir/weir/engine/IntIntMap" (62 : Nat) ({ cls := "com/example/weir/weir/engine/IntIntMap", name := "toArray", desc := "(I)V" } : Jvm.MethodName)).before a0 Z = true := hw _ (List.mem_of_getElem? (i := 168) rfl)
theorem w_169 {Z : State} {a0 : Array Value} (hw : ∀ d ∈ tables_1, d.before a0 Z = true) : (Jvm.Cond.instanceMethod ({ cls := "com/example/weir/weir/engine/IntIntMap", name := "toArray", desc := "(I)V" } : Jvm.MethodName)).before a0 Z = true := hw _ (List.mem_of_getElem? (i := 169) rfl)
theorem w_170 {Z : State} {a0 : Array Value} (hw : ∀ d ∈ tables_1, d.before a0 Z = true) : (Jvm.Cond.privateMethod ({ cls := "com/example/weir/weir/engine/IntIntMap", name := "toArray", desc := "(I)V" } : Jvm.MethodName)).before a0 Z = true := hw _ (List.mem_of_getElem? (i := 170) rfl)
theorem w_171 {Z : State} {a0 : Array Value} (hw : ∀ d ∈ tables_1, d.before a0 Z = true) : (Jvm.Cond.code ({ cls := "com/example/weir/weir/engine/IntIntMap", name := "toArray", desc := "(I)V" } : Jvm.MethodName) prog_26_method_24_code (5 : Nat) (Option.none : Option Jvm.ClassFile.FieldType)).before a0 Z = true := hw _ (List.mem_of_getElem? (i := 171) rfl)
theorem w_172 {Z : State} {a0 : Array Value} (hw : ∀ d ∈ tables_1, d.before a0 Z = true) : (Jvm.Cond.fieldLink "com/example/weir/weir/engine/IntIntMap" (33 : Nat) "com/example/weir/weir/engine/IntIntMap" "keys" "I").before a0 Z = true := hw _ (List.mem_of_getElem? (i := 172) rfl)
theorem w_173 {Z : State} {a0 : Array Value} (hw : ∀ d ∈ tables_1, d.before a0 Z = true) : (Jvm.Cond.lays "com/example/weir/weir/engine/IntIntMap" "com/example/weir/weir/engine/IntIntMap" "keys" "I").before a0 Z = true := hw _ (List.mem_of_getElem? (i := 173) rfl)
theorem w_174 {Z : State} {a0 : Array Value} (hw : ∀ d ∈ tables_1, d.before a0 Z = true) : (Jvm.Cond.methodLink "com/example/weir/weir/engine/IntIntMap" (133 : Nat) ({ cls := "java/util/Arrays", name := "fill", desc := "([II)V" } : Jvm.MethodName)).before a0 Z = true := hw _ (List.mem_of_getElem? (i := 174) rfl)
theorem w_175 {Z : State} {a0 : Array Value} (hw : ∀ d ∈ tables_1, d.before a0 Z = true) : (Jvm.Cond.static ({ cls := "java/util/Arrays", name := "fill", desc := "([II)V" } : Jvm.MethodName)).before a0 Z = true := hw _ (List.mem_of_getElem? (i := 175) rfl)
theorem w_176 {Z : State} {a0 : Array Value} (hw : ∀ d ∈ tables_1, d.before a0 Z = true) : (Jvm.Cond.code ({ cls := "java/util/Arrays", name := "fill", desc := "([II)V" } : Jvm.MethodName) jdk_65_method_103_code (4 : Nat) (Option.none : Option Jvm.ClassFile.FieldType)).before a0 Z = true := hw _ (List.mem_of_getElem? (i := 176) rfl)
theorem w_177 {Z : State} {a0 : Array Value} (hw : ∀ d ∈ tables_1, d.before a0 Z = true) : (Jvm.Cond.methodLink "com/example/weir/weir/engine/TripleTableEndRoomPinLaw" (49 : Nat) ({ cls := "com/example/weir/weir/engine/TripleTable", name := "endRoom", desc := "()I" } : Jvm.MethodName)).before a0 Z = true := hw _ (List.mem_of_getElem? (i := 177) rfl)
theorem w_178 {Z : State} {a0 : Array Value} (hw : ∀ d ∈ tables_1, d.before a0 Z = true) : (Jvm.Cond.declares ({ cls := "com/example/weir/weir/engine/TripleTable", name := "endRoom", desc := "()I" } : Jvm.MethodName)).before a0 Z = true := hw _ (List.mem_of_getElem? (i := 178) rfl)
theorem w_179 {Z : State} {a0 : Array Value} (hw : ∀ d ∈ tables_1, d.before a0 Z = true) : (Jvm.Cond.instanceMethod ({ cls := "com/example/weir/weir/engine/TripleTable", name := "endRoom", desc := "()I" } : Jvm.MethodName)).before a0 Z = true := hw _ (List.mem_of_getElem? (i := 179) rfl)
theorem w_180 {Z : State} {a0 : Array Value} (hw : ∀ d ∈ tables_1, d.before a0 Z = true) : (Jvm.Cond.selects "com/example/weir/weir/engine/TripleTable" ({ cls := "com/example/weir/weir/engine/TripleTable", name := "endRoom", desc := "()I" } : Jvm.MethodName) ({ cls := "com/example/weir/weir/engine/TripleTable", name := "endRoom", desc := "()I" } : Jvm.MethodName)).before a0 Z = true := hw _ (List.mem_of_getElem? (i := 180) rfl)
theorem w_181 {Z : State} {a0 : Array Value} (hw : ∀ d ∈ tables_1, d.before a0 Z = true) : (Jvm.Cond.code ({ cls := "com/example/weir/weir/engine/TripleTable", name := "endRoom", desc := "()I" } : Jvm.MethodName) prog_50_method_14_code (1 : Nat) (Option.some Jvm.ClassFile.FieldType.int)).before a0 Z = true := hw _ (List.mem_of_getElem? (i := 181) rfl)
theorem w_182 {Z : State} {a0 : Array Value} (hw : ∀ d ∈ tables_1, d.before a0 Z = true) : (Jvm.Cond.fieldLink "com/example/weir/weir/engine/TripleTable" (79 : Nat) "com/example/weir/weir/engine/TripleTable" "moves" "[I").before a0 Z = true := hw _ (List.mem_of_getElem? (i := 182) rfl)
theorem w_183 {Z : State} {a0 : Array Value} (hw : ∀ d ∈ tables_1, d.before a0 Z = true) : (Jvm.Cond.lays "com/example/weir/weir/engine/TripleTable" "com/example/weir/weir/engine/TripleTable" "moves" "[I").before a0 Z = true := hw _ (List.mem_of_getElem? (i := 183) rfl)
theorem w_184 {Z : State} {a0 : Array Value} (hw : ∀ d ∈ tables_1, d.before a0 Z = true) : (Jvm.Cond.fieldLink "com/example/weir/weir/engine/TripleTable" (64 : Nat) "com/example/weir/weir/engine/TripleTable" "strata" "[I").before a0 Z = true := hw _ (List.mem_of_getElem? (i := 184) rfl)
theorem w_185 {Z : State} {a0 : Array Value} (hw : ∀ d ∈ tables_1, d.before a0 Z = true) : (Jvm.Cond.lays "com/example/weir/weir/engine/TripleTable" "com/example/weir/weir/engine/TripleTable" "strata" "[I").before a0 Z = true := hw _ (List.mem_of_getElem? (i := 185) rfl)
theorem w_186 {Z : State} {a0 : Array Value} (hw : ∀ d ∈ tables_1, d.before a0 Z = true) : (Jvm.Cond.methodLink "com/example/weir/weir/engine/TripleTableEndRoomPinLaw" (53 : Nat) ({ cls := "com/example/weir/weir/engine/TripleTable", name := "capacity", desc := "()I" } : Jvm.MethodName)).before a0 Z = true := hw _ (List.mem_of_getElem? (i := 186) rfl)
theorem w_187 {Z : State} {a0 : Array Value} (hw : ∀ d ∈ tables_1, d.before a0 Z = true) : (Jvm.Cond.constantLong "com/example/weir/weir/engine/TripleTableEndRoomPinLaw" (15 : Nat) (-9223372036854775808 : Int64)).before a0 Z = true := hw _ (List.mem_of_getElem? (i := 187) rfl)
theorem w_188 {Z : State} {a0 : Array Value} (hw : ∀ d ∈ tables_1, d.before a0 Z = true) : (Jvm.Cond.arrayClass Jvm.ClassFile.FieldType.long).before a0 Z = true := hw _ (List.mem_of_getElem? (i := 188) rfl)
theorem w_189 {Z : State} {a0 : Array Value} (hw : ∀ d ∈ tables_1, d.before a0 Z = true) : (Jvm.Cond.methodLink "com/example/weir/weir/engine/TripleTable" (136 : Nat) ({ cls := "java/util/Arrays", name := "fill", desc := "([JJ)V" } : Jvm.MethodName)).before a0 Z = true := hw _ (List.mem_of_getElem? (i := 189) rfl)
theorem w_190 {Z : State} {a0 : Array Value} (hw : ∀ d ∈ tables_1, d.before a0 Z = true) : (Jvm.Cond.static ({ cls := "java/util/Arrays", name := "fill", desc := "([JJ)V" } : Jvm.MethodName)).before a0 Z = true := hw _ (List.mem_of_getElem? (i := 190) rfl)
theorem w_191 {Z : State} {a0 : Array Value} (hw : ∀ d ∈ tables_1, d.before a0 Z = true) : (Jvm.Cond.code ({ cls := "java/util/Arrays", name := "fill", desc := "([JJ)V" } : Jvm.MethodName) jdk_65_method_101_code (5 : Nat) (Option.none : Option Jvm.ClassFile.FieldType)).before a0 Z = true := hw _ (List.mem_of_getElem? (i := 191) rfl)
theorem w_192 {Z : State} {a0 : Array Value} (hw : ∀ d ∈ tables_1, d.before a0 Z = true) : (Jvm.Cond.fieldLink "com/example/weir/weir/engine/TripleTable" (76 : Nat) "com/example/weir/weir/engine/TripleTable" "ending" "I").before a0 Z = true := hw _ (List.mem_of_getElem? (i := 192) rfl)
theorem w_193 {Z : State} {a0 : Array Value} (hw : ∀ d ∈ tables_1, d.before a0 Z = true) : (Jvm.Cond.lays "com/example/weir/weir/engine/TripleTable" "com/example/weir/weir/engine/TripleTable" "ending" "I").before a0 Z = true := hw _ (List.mem_of_getElem? (i := 193) rfl)
theorem w_194 {Z : State} {a0 : Array Value} (hw : ∀ d ∈ tables_1, d.before a0 Z = true) : (Jvm.Cond.constantLong "com/example/weir/weir/engine/TripleTable" (134 : Nat) (-9223372036854775807 : Int64)).before a0 Z = true := hw _ (List.mem_of_getElem? (i := 194) rfl)
theorem w_195 {Z : State} {a0 : Array Value} (hw : ∀ d ∈ tables_1, d.before a0 Z = true) : (Jvm.Cond.constantLong "com/example/weir/weir/engine/TripleTableEndRoomPinLaw" (11 : Nat) (-9223372036854775807 : Int64)).before a0 Z = true := hw _ (List.mem_of_getElem? (i := 195) rfl)
theorem w_196 {Z : State} {a0 : Array Value} (hw : ∀ d ∈ tables_1, d.before a0 Z = true) : (Jvm.Cond.fieldLink "com/example/weir/weir/engine/TripleTable" (61 : Nat) "com/example/weir/weir/engine/TripleTable" "earliest" "I").before a0 Z = true := hw _ (List.mem_of_getElem? (i := 196) rfl)
theorem w_197 {Z : State} {a0 : Array Value} (hw : ∀ d ∈ tables_1, d.before a0 Z = true) : (Jvm.Cond.lays "com/example/weir/weir/engine/TripleTable" "com/example/weir/weir/engine/TripleTable" "earliest" "I").before a0 Z = true := hw _ (List.mem_of_getElem? (i := 197) rfl)
theorem w_198 {Z : State} {a0 : Array Value} (hw : ∀ d ∈ tables_1, d.before a0 Z = true) : (Jvm.Cond.methodLink "com/example/weir/weir/engine/TripleTableEndRoomPinLaw" (38 : Nat) ({ cls := "com/example/weir/weir/engine/TripleTable", name := "countMove", desc := "(I)V" } : Jvm.MethodName)).before a0 Z = true := hw _ (List.mem_of_getElem? (i := 198) rfl)
theorem w_199 {Z : State} {a0 : Array Value} (hw : ∀ d ∈ tables_1, d.before a0 Z = true) : (Jvm.Cond.declares ({ cls := "com/example/weir/weir/engine/TripleTable", name := "countMove", desc := "(I)V" } : Jvm.MethodName)).before a0 Z = true := hw _ (List.mem_of_getElem? (i := 199) rfl)
theorem w_200 {Z : State} {a0 : Array Value} (hw : ∀ d ∈ tables_1, d.before a0 Z = true) : (Jvm.Cond.instanceMethod ({ cls := "com/example/weir/weir/engine/TripleTable", name := "countMove", desc := "(I)V" } : Jvm.MethodName)).before a0 Z = true := hw _ (List.mem_of_getElem? (i := 200) rfl)
theorem w_201 {Z : State} {a0 : Array Value} (hw : ∀ d ∈ tables_1, d.before a0 Z = true) : (Jvm.Cond.selects "com/example/weir/weir/engine/TripleTable" ({ cls := "com/example/weir/weir/engine/TripleTable", name := "countMove", desc := "(I)V" } : Jvm.MethodName) ({ cls := "com/example/weir/weir/engine/TripleTable", name := "countMove", desc := "(I)V" } : Jvm.MethodName)).before a0 Z = true := hw _ (List.mem_of_getElem? (i := 201) rfl)
theorem w_202 {Z : State} {a0 : Array Value} (hw : ∀ d ∈ tables_1, d.before a0 Z = true) : (Jvm.Cond.code ({ cls := "com/example/weir/weir/engine/TripleTable", name := "countMove", desc := "(I)V" } : Jvm.MethodName) prog_50_method_16_code (2 : Nat) (Option.none : Option Jvm.ClassFile.FieldType)).before a0 Z = true := hw _ (List.mem_of_getElem? (i := 202) rfl)
theorem w_203 {Z : State} {a0 : Array Value} (hw : ∀ d ∈ tables_1, d.before a0 Z = true) : (Jvm.Cond.methodLink "com/example/weir/weir/engine/TripleTableEndRoomPinLaw" (42 : Nat) ({ cls := "com/example/weir/weir/engine/TripleTable", name := "setEnd", desc := "(IJ)V" } : Jvm.MethodName)).before a0 Z = true := hw _ (List.mem_of_getElem? (i := 203) rfl)
theorem w_204 {Z : State} {a0 : Array Value} (hw : ∀ d ∈ tables_1, d.before a0 Z = true) : (Jvm.Cond.declares ({ cls := "com/example/weir/weir/engine/TripleTable", name := "setEnd", desc := "(IJ)V" } : Jvm.MethodName)).before a0 Z = true := hw _ (List.mem_of_getElem? (i := 204) rfl)
theorem w_205 {Z : State} {a0 : Array Value} (hw : ∀ d ∈ tables_1, d.before a0 Z = true) : (Jvm.Cond.instanceMethod ({ cls := "com/example/weir/weir/engine/TripleTable", name := "setEnd", desc := "(IJ)V" } : Jvm.MethodName)).before a0 Z = true := hw _ (List.mem_of_getElem? (i := 205) rfl)
theorem w_206 {Z : State} {a0 : Array Value} (hw : ∀ d ∈ tables_1, d.before a0 Z = true) : (Jvm.Cond.selects "com/example/weir/weir/engine/TripleTable" ({ cls := "com/example/weir/weir/engine/TripleTable", name := "setEnd", desc := "(IJ)V" } : Jvm.MethodName) ({ cls := "com/example/weir/weir/engine/TripleTable", name := "setEnd", desc := "(IJ)V" } : Jvm.MethodName)).before a0 Z = true := hw _ (List.mem_of_getElem? (i := 206) rfl)
theorem w_207 {Z : State} {a0 : Array Value} (hw : ∀ d ∈ tables_1, d.before a0 Z = true) : (Jvm.Cond.code ({ cls := "com/example/weir/weir/engine/TripleTable", name := "setEnd", desc := "(IJ)V" } : Jvm.MethodName) prog_50_method_9_code (4 : Nat) (Option.none : Option Jvm.ClassFile.FieldType)).before a0 Z = true := hw _ (List.mem_of_getElem? (i := 207) rfl)
theorem w_208 {Z : State} {a0 : Array Value} (hw : ∀ d ∈ tables_1, d.before a0 Z = true) : (Jvm.Cond.methodLink "com/example/weir/weir/engine/TripleTable" (53 : Nat) ({ cls := "com/example/weir/weir/engine/TripleTable", name := "uncountEnd", desc := "(I)V" } : Jvm.MethodName)).before a0 Z = true := hw _ (List.mem_of_getElem? (i := 208) rfl)
theorem w_209 {Z : State} {a0 : Array Value} (hw : ∀ d ∈ tables_1, d.before a0 Z = true) : (Jvm.Cond.instanceMethod ({ cls := "com/example/weir/weir/engine/TripleTable", name := "uncountEnd", desc := "(I)V" } : Jvm.MethodName)).before a0 Z = true := hw _ (List.mem_of_getElem? (i := 209) rfl)
theorem w_210 {Z : State} {a0 : Array Value} (hw : ∀ d ∈ tables_1, d.before a0 Z = true) : (Jvm.Cond.privateMethod ({ cls := "com/example/weir/weir/engine/TripleTable", name := "uncountEnd", desc := "(I)V" } : Jvm.MethodName)).before a0 Z = true := hw _ (List.mem_of_getElem? (i := 210) rfl)
theorem w_211 {Z : State} {a0 : Array Value} (hw : ∀ d ∈ tables_1, d.before a0 Z = true) : (Jvm.Cond.code ({ cls := "com/example/weir/weir/engine/TripleTable", name := "uncountEnd", desc := "(I)V" } : Jvm.MethodName) prog_50_method_22_code (4 : Nat) (Option.none : Option Jvm.ClassFile.FieldType)).before a0 Z = true := hw _ (List.mem_of_getElem? (i := 211) rfl)
theorem w_212 {Z : State} {a0 : Array Value} (hw : ∀ d ∈ tables_1, d.before a0 Z = true) : (Jvm.Cond.methodLink "com/example/weir/weir/engine/TripleTable" (130 : Nat) ({ cls := "com/example/weir/weir/engine/TripleTable", name := "end", desc := "(I)J" } : Jvm.MethodName)).before a0 Z = true := hw _ (List.mem_of_getElem? (i := 212) rfl)
theorem w_213 {Z : State} {a0 : Array Value} (hw : ∀ d ∈ tables_1, d.before a0 Z = true) : (Jvm.Cond.declares ({ cls := "com/example/weir/weir/engine/TripleTable", name := "end", desc := "(I)J" } : Jvm.MethodName)).before a0 Z = true := hw _ (List.mem_of_getElem? (i := 213) rfl)
theorem w_214 {Z : State} {a0 : Array Value} (hw : ∀ d ∈ tables_1, d.before a0 Z = true) : (Jvm.Cond.instanceMethod ({ cls := "com/example/weir/weir/engine/TripleTable", name := "end", desc := "(I)J" } : Jvm.MethodName)).before a0 Z = true := hw _ (List.mem_of_getElem? (i := 214) rfl)
theorem w_215 {Z : State} {a0 : Array Value} (hw : ∀ d ∈ tables_1, d.before a0 Z = true) : (Jvm.Cond.selects "com/example/weir/weir/engine/TripleTable" ({ cls := "com/example/weir/weir/engine/TripleTable", name := "end", desc := "(I)J" } : Jvm.MethodName) ({ cls := "com/example/weir/weir/engine/TripleTable", name := "end", desc := "(I)J" } : Jvm.MethodName)).before a0 Z = true := hw _ (List.mem_of_getElem? (i := 215) rfl)
theorem w_216 {Z : State} {a0 : Array Value} (hw : ∀ d ∈ tables_1, d.before a0 Z = true) : (Jvm.Cond.code ({ cls := "com/example/weir/weir/engine/TripleTable", name := "end", desc := "(I)J" } : Jvm.MethodName) prog_50_method_8_code (2 : Nat) (Option.some Jvm.ClassFile.FieldType.long)).before a0 Z = true := hw _ (List.mem_of_getElem? (i := 216) rfl)
theorem w_217 {Z : State} {a0 : Array Value} (hw : ∀ d ∈ tables_1, d.before a0 Z = true) : (Jvm.Cond.methodLink "com/example/weir/weir/engine/TripleTableEndRoomPinLaw" (46 : Nat) ({ cls := "com/example/weir/weir/engine/TripleTable", name := "letGoOfEnds", desc := "()V" } : Jvm.MethodName)).before a0 Z = true := hw _ (List.mem_of_getElem? (i := 217) rfl)
theorem w_218 {Z : State} {a0 : Array Value} (hw : ∀ d ∈ tables_1, d.before a0 Z = true) : (Jvm.Cond.declares ({ cls := "com/example/weir/weir/engine/TripleTable", name := "letGoOfEnds", desc := "()V" } : Jvm.MethodName)).before a0 Z = true := hw _ (List.mem_of_getElem? (i := 218) rfl)
theorem w_219 {Z : State} {a0 : Array Value} (hw : ∀ d ∈ tables_1, d.before a0 Z = true) : (Jvm.Cond.instanceMethod ({ cls := "com/example/weir/weir/engine/TripleTable", name := "letGoOfEnds", desc := "()V" } : Jvm.MethodName)).before a0 Z = true := hw _ (List.mem_of_getElem? (i := 219) rfl)
theorem w_220 {Z : State} {a0 : Array Value} (hw : ∀ d ∈ tables_1, d.before a0 Z = true) : (Jvm.Cond.selects "com/example/weir/weir/engine/TripleTable" ({ cls := "com/example/weir/weir/engine/TripleTable", name := "letGoOfEnds", desc := "()V" } : Jvm.MethodName) ({ cls := "com/example/weir/weir/engine/TripleTable", name := "letGoOfEnds", desc := "()V" } : Jvm.MethodName)).before a0 Z = true := hw _ (List.mem_of_getElem? (i := 220) rfl)
theorem w_221 {Z : State} {a0 : Array Value} (hw : ∀ d ∈ tables_1, d.before a0 Z = true) : (Jvm.Cond.code ({ cls := "com/example/weir/weir/engine/TripleTable", name := "letGoOfEnds", desc := "()V" } : Jvm.MethodName) prog_50_method_13_code (1 : Nat) (Option.none : Option Jvm.ClassFile.FieldType)).before a0 Z = true := hw _ (List.mem_of_getElem? (i := 221) rfl)
theorem w_222 {Z : State} {a0 : Array Value} (hw : ∀ d ∈ tables_1, d.before a0 Z = true) : (Jvm.Cond.methodLink "com/example/weir/weir/engine/TripleTableEndRoomPinLaw" (34 : Nat) ({ cls := "com/example/weir/weir/engine/TripleTable", name := "setStratum", desc := "(II)V" } : Jvm.MethodName)).before a0 Z = true := hw _ (List.mem_of_getElem? (i := 222) rfl)
theorem w_223 {Z : State} {a0 : Array Value} (hw : ∀ d ∈ tables_1, d.before a0 Z = true) : (Jvm.Cond.declares ({ cls := "com/example/weir/weir/engine/TripleTable", name := "setStratum", desc := "(II)V" } : Jvm.MethodName)).before a0 Z = true := hw _ (List.mem_of_getElem? (i := 223) rfl)
theorem w_224 {Z : State} {a0 : Array Value} (hw : ∀ d ∈ tables_1, d.before a0 Z = true) : (Jvm.Cond.instanceMethod ({ cls := "com/example/weir/weir/engine/TripleTable", name := "setStratum", desc := "(II)V" } : Jvm.MethodName)).before a0 Z = true := hw _ (List.mem_of_getElem? (i := 224) rfl)
theorem w_225 {Z : State} {a0 : Array Value} (hw : ∀ d ∈ tables_1, d.before a0 Z = true) : (Jvm.Cond.selects "com/example/weir/weir/engine/TripleTable" ({ cls := "com/example/weir/weir/engine/TripleTable", name := "setStratum", desc := "(II)V" } : Jvm.MethodName) ({ cls := "com/example/weir/weir/engine/TripleTable", name := "setStratum", desc := "(II)V" } : Jvm.MethodName)).before a0 Z = true := hw _ (List.mem_of_getElem? (i := 225) rfl)
theorem w_226 {Z : State} {a0 : Array Value} (hw : ∀ d ∈ tables_1, d.before a0 Z = true) : (Jvm.Cond.code ({ cls := "com/example/weir/weir/engine/TripleTable", name := "setStratum", desc := "(II)V" } : Jvm.MethodName) prog_50_method_12_code (3 : Nat) (Option.none : Option Jvm.ClassFile.FieldType)).before a0 Z = true := hw _ (List.mem_of_getElem? (i := 226) rfl)
theorem w_227 {Z : State} {a0 : Array Value} (hw : ∀ d ∈ tables_1, d.before a0 Z = true) : (Jvm.Cond.methodLink "com/example/weir/weir/engine/TripleTable" (70 : Nat) ({ cls := "java/util/Arrays", name := "fill", desc := "([II)V" } : Jvm.MethodName)).before a0 Z = true := hw _ (List.mem_of_getElem? (i := 227) rfl)
theorem pd_0 : parseMethodDescriptor "(II)I" = some ⟨[.int, .int], some .int⟩ := by decide +kernel
theorem pd_1 : parseMethodDescriptor "()V" = some ⟨[], none⟩ := by decide +kernel
theorem pd_2 : parseMethodDescriptor "(IZ)V" = some ⟨[.int, .boolean], none⟩ := by decide +kernel
theorem pd_3 : parseMethodDescriptor "(I)V" = some ⟨[.int], none⟩ := by decide +kernel
theorem pd_4 : parseMethodDescriptor "(Lcom/example/weir/weir/engine/SubjectIndex$Terms;)V" = some ⟨[(.object "com/example/weir/weir/engine/SubjectIndex$Terms")], none⟩ := by decide +kernel
theorem pd_5 : parseMethodDescriptor "()I" = some ⟨[], some .int⟩ := by decide +kernel
theorem pd_6 : parseMethodDescriptor "(J)I" = some ⟨[.long], some .int⟩ := by decide +kernel
theorem pd_7 : parseMethodDescriptor "(I)I" = some ⟨[.int], some .int⟩ := by decide +kernel
theorem pd_8 : parseMethodDescriptor "([II)V" = some ⟨[(.array .int), .int], none⟩ := by decide +kernel
theorem pd_9 : parseMethodDescriptor "([II)[I" = some ⟨[(.array .int), .int], some (.array .int)⟩ := by decide +kernel
theorem pd_10 : parseMethodDescriptor "(I)J" = some ⟨[.int], some .long⟩ := by decide +kernel
theorem pd_11 : parseMethodDescriptor "([JJ)V" = some ⟨[(.array .long), .long], none⟩ := by decide +kernel
theorem pd_12 : parseMethodDescriptor "(IJ)V" = some ⟨[.int, .long], none⟩ := by decide +kernel
theorem pd_13 : parseMethodDescriptor "(II)V" = some ⟨[.int, .int], none⟩ := by decide +kernel
theorem pd_14 : parseMethodDescriptor "(IJ)J" = some ⟨[.int, .long], some .long⟩ := by decide +kernel
theorem pd_15 : parseMethodDescriptor "(IIIJ)I" = some ⟨[.int, .int, .int, .long], some .int⟩ := by decide +kernel
theorem d10_0 : decode prog_26_method_22_code 0 = .ok (.aload_n 0, 1) := by decide +kernel
theorem d10_1 : decode prog_26_method_22_code 1 = .ok (.aload_n 0, 1) := by decide +kernel
theorem d10_12 : decode prog_26_method_22_code 12 = .ok (.aload_n 0, 1) := by decide +kernel
theorem d10_13 : decode prog_26_method_22_code 13 = .ok (.iload_n 1, 1) := by decide +kernel
theorem d10_14 : decode prog_26_method_22_code 14 = .ok (.putfield 68, 3) := by decide +kernel
theorem d10_17 : decode prog_26_method_22_code 17 = .ok (.aload_n 0, 1) := by decide +kernel
theorem d10_18 : decode prog_26_method_22_code 18 = .ok (.iload_n 2, 1) := by decide +kernel
theorem d10_19 : decode prog_26_method_22_code 19 = .ok (.ifCond .eq 10, 3) := by decide +kernel
theorem d10_2 : decode prog_26_method_22_code 2 = .ok (.getfield 16, 3) := by decide +kernel
theorem d10_29 : decode prog_26_method_22_code 29 = .ok (.aconst_null, 1) := by decide +kernel
theorem d10_30 : decode prog_26_method_22_code 30 = .ok (.putfield 80, 3) := by decide +kernel
theorem d10_33 : decode prog_26_method_22_code 33 = .ok (.aload_n 0, 1) := by decide +kernel
theorem d10_34 : decode prog_26_method_22_code 34 = .ok (.iconst 0, 1) := by decide +kernel
theorem d10_35 : decode prog_26_method_22_code 35 = .ok (.putfield 54, 3) := by decide +kernel
theorem d10_38 : decode prog_26_method_22_code 38 = .ok (.return_, 1) := by decide +kernel
theorem d10_5 : decode prog_26_method_22_code 5 = .ok (.iload_n 1, 1) := by decide +kernel
theorem d10_6 : decode prog_26_method_22_code 6 = .ok (.imul, 1) := by decide +kernel
theorem d10_7 : decode prog_26_method_22_code 7 = .ok (.newarray .int, 2) := by decide +kernel
theorem d10_9 : decode prog_26_method_22_code 9 = .ok (.putfield 30, 3) := by decide +kernel
theorem d11_0 : decode prog_50_method_18_code 0 = .ok (.aload_n 0, 1) := by decide +kernel
theorem d11_1 : decode prog_50_method_18_code 1 = .ok (.getfield 18, 3) := by decide +kernel
theorem d11_10 : decode prog_50_method_18_code 10 = .ok (.iload 6, 2) := by decide +kernel
theorem d11_111 : decode prog_50_method_18_code 111 = .ok (.aload_n 0, 1) := by decide +kernel
theorem d11_112 : decode prog_50_method_18_code 112 = .ok (.getfield 11, 3) := by decide +kernel
theorem d11_115 : decode prog_50_method_18_code 115 = .ok (.iconst 3, 1) := by decide +kernel
theorem d11_116 : decode prog_50_method_18_code 116 = .ok (.iload 6, 2) := by decide +kernel
theorem d11_118 : decode prog_50_method_18_code 118 = .ok (.imul, 1) := by decide +kernel
theorem d11_119 : decode prog_50_method_18_code 119 = .ok (.iload_n 1, 1) := by decide +kernel
theorem d11_12 : decode prog_50_method_18_code 12 = .ok (.imul, 1) := by decide +kernel
theorem d11_120 : decode prog_50_method_18_code 120 = .ok (.iastore, 1) := by decide +kernel
theorem d11_121 : decode prog_50_method_18_code 121 = .ok (.aload_n 0, 1) := by decide +kernel
theorem d11_122 : decode prog_50_method_18_code 122 = .ok (.getfield 11, 3) := by decide +kernel
theorem d11_125 : decode prog_50_method_18_code 125 = .ok (.iconst 3, 1) := by decide +kernel
theorem d11_126 : decode prog_50_method_18_code 126 = .ok (.iload 6, 2) := by decide +kernel
theorem d11_128 : decode prog_50_method_18_code 128 = .ok (.imul, 1) := by decide +kernel
theorem d11_129 : decode prog_50_method_18_code 129 = .ok (.iconst 1, 1) := by decide +kernel
theorem d11_13 : decode prog_50_method_18_code 13 = .ok (.aload_n 0, 1) := by decide +kernel
theorem d11_130 : decode prog_50_method_18_code 130 = .ok (.iadd, 1) := by decide +kernel
theorem d11_131 : decode prog_50_method_18_code 131 = .ok (.iload_n 2, 1) := by decide +kernel
theorem d11_132 : decode prog_50_method_18_code 132 = .ok (.iastore, 1) := by decide +kernel
theorem d11_133 : decode prog_50_method_18_code 133 = .ok (.aload_n 0, 1) := by decide +kernel
theorem d11_134 : decode prog_50_method_18_code 134 = .ok (.getfield 11, 3) := by decide +kernel
theorem d11_137 : decode prog_50_method_18_code 137 = .ok (.iconst 3, 1) := by decide +kernel
theorem d11_138 : decode prog_50_method_18_code 138 = .ok (.iload 6, 2) := by decide +kernel
theorem d11_14 : decode prog_50_method_18_code 14 = .ok (.getfield 11, 3) := by decide +kernel
theorem d11_140 : decode prog_50_method_18_code 140 = .ok (.imul, 1) := by decide +kernel
theorem d11_141 : decode prog_50_method_18_code 141 = .ok (.iconst 2, 1) := by decide +kernel
theorem d11_142 : decode prog_50_method_18_code 142 = .ok (.iadd, 1) := by decide +kernel
theorem d11_143 : decode prog_50_method_18_code 143 = .ok (.iload_n 3, 1) := by decide +kernel
theorem d11_144 : decode prog_50_method_18_code 144 = .ok (.iastore, 1) := by decide +kernel
theorem d11_145 : decode prog_50_method_18_code 145 = .ok (.aload_n 0, 1) := by decide +kernel
theorem d11_146 : decode prog_50_method_18_code 146 = .ok (.iload 6, 2) := by decide +kernel
theorem d11_148 : decode prog_50_method_18_code 148 = .ok (.lload 4, 2) := by decide +kernel
theorem d11_150 : decode prog_50_method_18_code 150 = .ok (.invokevirtual 57, 3) := by decide +kernel
theorem d11_153 : decode prog_50_method_18_code 153 = .ok (.aload_n 0, 1) := by decide +kernel
theorem d11_154 : decode prog_50_method_18_code 154 = .ok (.dup, 1) := by decide +kernel
theorem d11_155 : decode prog_50_method_18_code 155 = .ok (.getfield 35, 3) := by decide +kernel
theorem d11_158 : decode prog_50_method_18_code 158 = .ok (.iconst 1, 1) := by decide +kernel
theorem d11_159 : decode prog_50_method_18_code 159 = .ok (.iadd, 1) := by decide +kernel
theorem d11_160 : decode prog_50_method_18_code 160 = .ok (.putfield 35, 3) := by decide +kernel
theorem d11_163 : decode prog_50_method_18_code 163 = .ok (.aload_n 0, 1) := by decide +kernel
theorem d11_164 : decode prog_50_method_18_code 164 = .ok (.getfield 31, 3) := by decide +kernel
theorem d11_167 : decode prog_50_method_18_code 167 = .ok (.iload 6, 2) := by decide +kernel
theorem d11_169 : decode prog_50_method_18_code 169 = .ok (.aload_n 0, 1) := by decide +kernel
theorem d11_17 : decode prog_50_method_18_code 17 = .ok (.arraylength, 1) := by decide +kernel
theorem d11_170 : decode prog_50_method_18_code 170 = .ok (.invokevirtual 67, 3) := by decide +kernel
theorem d11_173 : decode prog_50_method_18_code 173 = .ok (.invokevirtual 104, 3) := by decide +kernel
theorem d11_176 : decode prog_50_method_18_code 176 = .ok (.iload 6, 2) := by decide +kernel
theorem d11_178 : decode prog_50_method_18_code 178 = .ok (.ireturn, 1) := by decide +kernel
theorem d11_18 : decode prog_50_method_18_code 18 = .ok (.if_icmp .ne 93, 3) := by decide +kernel
theorem d11_4 : decode prog_50_method_18_code 4 = .ok (.invokevirtual 88, 3) := by decide +kernel
theorem d11_7 : decode prog_50_method_18_code 7 = .ok (.istore 6, 2) := by decide +kernel
theorem d11_9 : decode prog_50_method_18_code 9 = .ok (.iconst 3, 1) := by decide +kernel
theorem d12_0 : decode prog_41_method_2_code 0 = .ok (.aload_n 0, 1) := by decide +kernel
theorem d12_1 : decode prog_41_method_2_code 1 = .ok (.getfield 10, 3) := by decide +kernel
theorem d12_20 : decode prog_41_method_2_code 20 = .ok (.aload_n 0, 1) := by decide +kernel
theorem d12_21 : decode prog_41_method_2_code 21 = .ok (.dup, 1) := by decide +kernel
theorem d12_22 : decode prog_41_method_2_code 22 = .ok (.getfield 23, 3) := by decide +kernel
theorem d12_25 : decode prog_41_method_2_code 25 = .ok (.dup_x1, 1) := by decide +kernel
theorem d12_26 : decode prog_41_method_2_code 26 = .ok (.iconst 1, 1) := by decide +kernel
theorem d12_27 : decode prog_41_method_2_code 27 = .ok (.iadd, 1) := by decide +kernel
theorem d12_28 : decode prog_41_method_2_code 28 = .ok (.putfield 23, 3) := by decide +kernel
theorem d12_31 : decode prog_41_method_2_code 31 = .ok (.ireturn, 1) := by decide +kernel
theorem d12_4 : decode prog_41_method_2_code 4 = .ok (.invokevirtual 16, 3) := by decide +kernel
theorem d12_7 : decode prog_41_method_2_code 7 = .ok (.ifCond .le 13, 3) := by decide +kernel
theorem d13_0 : decode prog_27_method_6_code 0 = .ok (.aload_n 0, 1) := by decide +kernel
theorem d13_1 : decode prog_27_method_6_code 1 = .ok (.getfield 13, 3) := by decide +kernel
theorem d13_4 : decode prog_27_method_6_code 4 = .ok (.ireturn, 1) := by decide +kernel
theorem d14_0 : decode prog_50_method_23_code 0 = .ok (.lload_n 2, 1) := by decide +kernel
theorem d14_1 : decode prog_50_method_23_code 1 = .ok (.ldc2_w 51, 3) := by decide +kernel
theorem d14_12 : decode prog_50_method_23_code 12 = .ok (.ifnull 12, 3) := by decide +kernel
theorem d14_15 : decode prog_50_method_23_code 15 = .ok (.aload_n 0, 1) := by decide +kernel
theorem d14_16 : decode prog_50_method_23_code 16 = .ok (.getfield 47, 3) := by decide +kernel
theorem d14_19 : decode prog_50_method_23_code 19 = .ok (.iload_n 1, 1) := by decide +kernel
theorem d14_20 : decode prog_50_method_23_code 20 = .ok (.ldc2_w 51, 3) := by decide +kernel
theorem d14_23 : decode prog_50_method_23_code 23 = .ok (.lastore, 1) := by decide +kernel
theorem d14_24 : decode prog_50_method_23_code 24 = .ok (.return_, 1) := by decide +kernel
theorem d14_25 : decode prog_50_method_23_code 25 = .ok (.aload_n 0, 1) := by decide +kernel
theorem d14_26 : decode prog_50_method_23_code 26 = .ok (.getfield 47, 3) := by decide +kernel
theorem d14_29 : decode prog_50_method_23_code 29 = .ok (.ifnonnull 23, 3) := by decide +kernel
theorem d14_32 : decode prog_50_method_23_code 32 = .ok (.aload_n 0, 1) := by decide +kernel
theorem d14_33 : decode prog_50_method_23_code 33 = .ok (.aload_n 0, 1) := by decide +kernel
theorem d14_34 : decode prog_50_method_23_code 34 = .ok (.invokevirtual 67, 3) := by decide +kernel
theorem d14_37 : decode prog_50_method_23_code 37 = .ok (.newarray .long, 2) := by decide +kernel
theorem d14_39 : decode prog_50_method_23_code 39 = .ok (.putfield 47, 3) := by decide +kernel
theorem d14_4 : decode prog_50_method_23_code 4 = .ok (.lcmp, 1) := by decide +kernel
theorem d14_42 : decode prog_50_method_23_code 42 = .ok (.aload_n 0, 1) := by decide +kernel
theorem d14_43 : decode prog_50_method_23_code 43 = .ok (.getfield 47, 3) := by decide +kernel
theorem d14_46 : decode prog_50_method_23_code 46 = .ok (.ldc2_w 51, 3) := by decide +kernel
theorem d14_49 : decode prog_50_method_23_code 49 = .ok (.invokestatic 136, 3) := by decide +kernel
theorem d14_5 : decode prog_50_method_23_code 5 = .ok (.ifCond .ne 20, 3) := by decide +kernel
theorem d14_52 : decode prog_50_method_23_code 52 = .ok (.aload_n 0, 1) := by decide +kernel
theorem d14_53 : decode prog_50_method_23_code 53 = .ok (.getfield 47, 3) := by decide +kernel
theorem d14_56 : decode prog_50_method_23_code 56 = .ok (.iload_n 1, 1) := by decide +kernel
theorem d14_57 : decode prog_50_method_23_code 57 = .ok (.lload_n 2, 1) := by decide +kernel
theorem d14_58 : decode prog_50_method_23_code 58 = .ok (.lastore, 1) := by decide +kernel
theorem d14_59 : decode prog_50_method_23_code 59 = .ok (.aload_n 0, 1) := by decide +kernel
theorem d14_60 : decode prog_50_method_23_code 60 = .ok (.dup, 1) := by decide +kernel
theorem d14_61 : decode prog_50_method_23_code 61 = .ok (.getfield 76, 3) := by decide +kernel
theorem d14_64 : decode prog_50_method_23_code 64 = .ok (.iconst 1, 1) := by decide +kernel
theorem d14_65 : decode prog_50_method_23_code 65 = .ok (.iadd, 1) := by decide +kernel
theorem d14_66 : decode prog_50_method_23_code 66 = .ok (.putfield 76, 3) := by decide +kernel
theorem d14_69 : decode prog_50_method_23_code 69 = .ok (.lload_n 2, 1) := by decide +kernel
theorem d14_70 : decode prog_50_method_23_code 70 = .ok (.ldc2_w 134, 3) := by decide +kernel
theorem d14_73 : decode prog_50_method_23_code 73 = .ok (.lcmp, 1) := by decide +kernel
theorem d14_74 : decode prog_50_method_23_code 74 = .ok (.ifCond .ne 13, 3) := by decide +kernel
theorem d14_77 : decode prog_50_method_23_code 77 = .ok (.aload_n 0, 1) := by decide +kernel
theorem d14_78 : decode prog_50_method_23_code 78 = .ok (.dup, 1) := by decide +kernel
theorem d14_79 : decode prog_50_method_23_code 79 = .ok (.getfield 61, 3) := by decide +kernel
theorem d14_8 : decode prog_50_method_23_code 8 = .ok (.aload_n 0, 1) := by decide +kernel
theorem d14_82 : decode prog_50_method_23_code 82 = .ok (.iconst 1, 1) := by decide +kernel
theorem d14_83 : decode prog_50_method_23_code 83 = .ok (.iadd, 1) := by decide +kernel
theorem d14_84 : decode prog_50_method_23_code 84 = .ok (.putfield 61, 3) := by decide +kernel
theorem d14_87 : decode prog_50_method_23_code 87 = .ok (.return_, 1) := by decide +kernel
theorem d14_9 : decode prog_50_method_23_code 9 = .ok (.getfield 47, 3) := by decide +kernel
theorem d15_0 : decode prog_50_method_4_code 0 = .ok (.aload_n 0, 1) := by decide +kernel
theorem d15_1 : decode prog_50_method_4_code 1 = .ok (.getfield 11, 3) := by decide +kernel
theorem d15_4 : decode prog_50_method_4_code 4 = .ok (.arraylength, 1) := by decide +kernel
theorem d15_5 : decode prog_50_method_4_code 5 = .ok (.iconst 3, 1) := by decide +kernel
theorem d15_6 : decode prog_50_method_4_code 6 = .ok (.idiv, 1) := by decide +kernel
theorem d15_7 : decode prog_50_method_4_code 7 = .ok (.ireturn, 1) := by decide +kernel
theorem d16_0 : decode prog_43_method_4_code 0 = .ok (.iload_n 1, 1) := by decide +kernel
theorem d16_1 : decode prog_43_method_4_code 1 = .ok (.aload_n 0, 1) := by decide +kernel
theorem d16_10 : decode prog_43_method_4_code 10 = .ok (.aload_n 0, 1) := by decide +kernel
theorem d16_11 : decode prog_43_method_4_code 11 = .ok (.getfield 20, 3) := by decide +kernel
theorem d16_14 : decode prog_43_method_4_code 14 = .ok (.iload_n 2, 1) := by decide +kernel
theorem d16_15 : decode prog_43_method_4_code 15 = .ok (.invokestatic 52, 3) := by decide +kernel
theorem d16_18 : decode prog_43_method_4_code 18 = .ok (.putfield 20, 3) := by decide +kernel
theorem d16_2 : decode prog_43_method_4_code 2 = .ok (.getfield 20, 3) := by decide +kernel
theorem d16_21 : decode prog_43_method_4_code 21 = .ok (.aload_n 0, 1) := by decide +kernel
theorem d16_22 : decode prog_43_method_4_code 22 = .ok (.getfield 23, 3) := by decide +kernel
theorem d16_25 : decode prog_43_method_4_code 25 = .ok (.iload_n 1, 1) := by decide +kernel
theorem d16_26 : decode prog_43_method_4_code 26 = .ok (.iconst 0, 1) := by decide +kernel
theorem d16_27 : decode prog_43_method_4_code 27 = .ok (.invokeinterface 60 3, 5) := by decide +kernel
theorem d16_32 : decode prog_43_method_4_code 32 = .ok (.istore_n 3, 1) := by decide +kernel
theorem d16_33 : decode prog_43_method_4_code 33 = .ok (.aload_n 0, 1) := by decide +kernel
theorem d16_34 : decode prog_43_method_4_code 34 = .ok (.getfield 12, 3) := by decide +kernel
theorem d16_37 : decode prog_43_method_4_code 37 = .ok (.iload_n 3, 1) := by decide +kernel
theorem d16_38 : decode prog_43_method_4_code 38 = .ok (.invokevirtual 36, 3) := by decide +kernel
theorem d16_41 : decode prog_43_method_4_code 41 = .ok (.istore 4, 2) := by decide +kernel
theorem d16_43 : decode prog_43_method_4_code 43 = .ok (.iload 4, 2) := by decide +kernel
theorem d16_45 : decode prog_43_method_4_code 45 = .ok (.iconst (-1), 1) := by decide +kernel
theorem d16_46 : decode prog_43_method_4_code 46 = .ok (.if_icmp .ne 21, 3) := by decide +kernel
theorem d16_49 : decode prog_43_method_4_code 49 = .ok (.aload_n 0, 1) := by decide +kernel
theorem d16_5 : decode prog_43_method_4_code 5 = .ok (.arraylength, 1) := by decide +kernel
theorem d16_50 : decode prog_43_method_4_code 50 = .ok (.getfield 20, 3) := by decide +kernel
theorem d16_53 : decode prog_43_method_4_code 53 = .ok (.iload_n 1, 1) := by decide +kernel
theorem d16_54 : decode prog_43_method_4_code 54 = .ok (.iconst (-1), 1) := by decide +kernel
theorem d16_55 : decode prog_43_method_4_code 55 = .ok (.iastore, 1) := by decide +kernel
theorem d16_56 : decode prog_43_method_4_code 56 = .ok (.aload_n 0, 1) := by decide +kernel
theorem d16_57 : decode prog_43_method_4_code 57 = .ok (.getfield 12, 3) := by decide +kernel
theorem d16_6 : decode prog_43_method_4_code 6 = .ok (.if_icmp .lt 15, 3) := by decide +kernel
theorem d16_60 : decode prog_43_method_4_code 60 = .ok (.iload_n 3, 1) := by decide +kernel
theorem d16_61 : decode prog_43_method_4_code 61 = .ok (.iload_n 1, 1) := by decide +kernel
theorem d16_62 : decode prog_43_method_4_code 62 = .ok (.invokevirtual 65, 3) := by decide +kernel
theorem d16_65 : decode prog_43_method_4_code 65 = .ok (.pop, 1) := by decide +kernel
theorem d16_66 : decode prog_43_method_4_code 66 = .ok (.return_, 1) := by decide +kernel
theorem d16_9 : decode prog_43_method_4_code 9 = .ok (.aload_n 0, 1) := by decide +kernel
theorem d17_0 : decode jdk_65_method_123_code 0 = .ok (.iload_n 1, 1) := by decide +kernel
theorem d17_1 : decode jdk_65_method_123_code 1 = .ok (.aload_n 0, 1) := by decide +kernel
theorem d17_14 : decode jdk_65_method_123_code 14 = .ok (.iload_n 1, 1) := by decide +kernel
theorem d17_15 : decode jdk_65_method_123_code 15 = .ok (.newarray .int, 2) := by decide +kernel
theorem d17_17 : decode jdk_65_method_123_code 17 = .ok (.astore_n 2, 1) := by decide +kernel
theorem d17_18 : decode jdk_65_method_123_code 18 = .ok (.aload_n 0, 1) := by decide +kernel
theorem d17_19 : decode jdk_65_method_123_code 19 = .ok (.iconst 0, 1) := by decide +kernel
theorem d17_2 : decode jdk_65_method_123_code 2 = .ok (.arraylength, 1) := by decide +kernel
theorem d17_20 : decode jdk_65_method_123_code 20 = .ok (.aload_n 2, 1) := by decide +kernel
theorem d17_21 : decode jdk_65_method_123_code 21 = .ok (.iconst 0, 1) := by decide +kernel
theorem d17_22 : decode jdk_65_method_123_code 22 = .ok (.aload_n 0, 1) := by decide +kernel
theorem d17_23 : decode jdk_65_method_123_code 23 = .ok (.arraylength, 1) := by decide +kernel
theorem d17_24 : decode jdk_65_method_123_code 24 = .ok (.iload_n 1, 1) := by decide +kernel
theorem d17_25 : decode jdk_65_method_123_code 25 = .ok (.invokestatic 304, 3) := by decide +kernel
theorem d17_28 : decode jdk_65_method_123_code 28 = .ok (.invokestatic 150, 3) := by decide +kernel
theorem d17_3 : decode jdk_65_method_123_code 3 = .ok (.if_icmp .ne 11, 3) := by decide +kernel
theorem d17_31 : decode jdk_65_method_123_code 31 = .ok (.aload_n 2, 1) := by decide +kernel
theorem d17_32 : decode jdk_65_method_123_code 32 = .ok (.areturn, 1) := by decide +kernel
theorem d18_0 : decode jdk_29_method_69_code 0 = .ok (.iload_n 0, 1) := by decide +kernel
theorem d18_1 : decode jdk_29_method_69_code 1 = .ok (.iload_n 1, 1) := by decide +kernel
theorem d18_10 : decode jdk_29_method_69_code 10 = .ok (.ireturn, 1) := by decide +kernel
theorem d18_2 : decode jdk_29_method_69_code 2 = .ok (.if_icmp .gt 7, 3) := by decide +kernel
theorem d18_5 : decode jdk_29_method_69_code 5 = .ok (.iload_n 0, 1) := by decide +kernel
theorem d18_6 : decode jdk_29_method_69_code 6 = .ok (.goto 4, 3) := by decide +kernel
theorem d18_9 : decode jdk_29_method_69_code 9 = .ok (.iload_n 1, 1) := by decide +kernel
theorem d19_0 : decode prog_50_method_7_code 0 = .ok (.aload_n 0, 1) := by decide +kernel
theorem d19_1 : decode prog_50_method_7_code 1 = .ok (.getfield 11, 3) := by decide +kernel
theorem d19_10 : decode prog_50_method_7_code 10 = .ok (.ireturn, 1) := by decide +kernel
theorem d19_4 : decode prog_50_method_7_code 4 = .ok (.iconst 3, 1) := by decide +kernel
theorem d19_5 : decode prog_50_method_7_code 5 = .ok (.iload_n 1, 1) := by decide +kernel
theorem d19_6 : decode prog_50_method_7_code 6 = .ok (.imul, 1) := by decide +kernel
theorem d19_7 : decode prog_50_method_7_code 7 = .ok (.iload_n 2, 1) := by decide +kernel
theorem d19_8 : decode prog_50_method_7_code 8 = .ok (.iadd, 1) := by decide +kernel
theorem d19_9 : decode prog_50_method_7_code 9 = .ok (.iaload, 1) := by decide +kernel
theorem d1_0 : decode method_2_code 0 = .ok (.iload_n 0, 1) := by decide +kernel
theorem d1_1 : decode method_2_code 1 = .ok (.ifCond .ne 7, 3) := by decide +kernel
theorem d1_10 : decode method_2_code 10 = .ok (.if_icmp .ne 7, 3) := by decide +kernel
theorem d1_13 : decode method_2_code 13 = .ok (.ldc2_w 11, 3) := by decide +kernel
theorem d1_16 : decode method_2_code 16 = .ok (.lreturn, 1) := by decide +kernel
theorem d1_17 : decode method_2_code 17 = .ok (.lload_n 1, 1) := by decide +kernel
theorem d1_18 : decode method_2_code 18 = .ok (.ldc2_w 15, 3) := by decide +kernel
theorem d1_21 : decode method_2_code 21 = .ok (.lcmp, 1) := by decide +kernel
theorem d1_22 : decode method_2_code 22 = .ok (.ifCond .ne 9, 3) := by decide +kernel
theorem d1_25 : decode method_2_code 25 = .ok (.ldc2_w 11, 3) := by decide +kernel
theorem d1_28 : decode method_2_code 28 = .ok (.goto 4, 3) := by decide +kernel
theorem d1_31 : decode method_2_code 31 = .ok (.lload_n 1, 1) := by decide +kernel
theorem d1_32 : decode method_2_code 32 = .ok (.lreturn, 1) := by decide +kernel
theorem d1_4 : decode method_2_code 4 = .ok (.ldc2_w 9, 3) := by decide +kernel
theorem d1_7 : decode method_2_code 7 = .ok (.lreturn, 1) := by decide +kernel
theorem d1_8 : decode method_2_code 8 = .ok (.iload_n 0, 1) := by decide +kernel
theorem d1_9 : decode method_2_code 9 = .ok (.iconst 1, 1) := by decide +kernel
theorem d20_0 : decode prog_26_method_7_code 0 = .ok (.aload_n 0, 1) := by decide +kernel
theorem d20_1 : decode prog_26_method_7_code 1 = .ok (.getfield 26, 3) := by decide +kernel
theorem d20_36 : decode prog_26_method_7_code 36 = .ok (.aload_n 0, 1) := by decide +kernel
theorem d20_37 : decode prog_26_method_7_code 37 = .ok (.iload_n 1, 1) := by decide +kernel
theorem d20_38 : decode prog_26_method_7_code 38 = .ok (.invokevirtual 36, 3) := by decide +kernel
theorem d20_4 : decode prog_26_method_7_code 4 = .ok (.ifnull 32, 3) := by decide +kernel
theorem d20_41 : decode prog_26_method_7_code 41 = .ok (.istore_n 2, 1) := by decide +kernel
theorem d20_42 : decode prog_26_method_7_code 42 = .ok (.aload_n 0, 1) := by decide +kernel
theorem d20_43 : decode prog_26_method_7_code 43 = .ok (.getfield 30, 3) := by decide +kernel
theorem d20_46 : decode prog_26_method_7_code 46 = .ok (.aload_n 0, 1) := by decide +kernel
theorem d20_47 : decode prog_26_method_7_code 47 = .ok (.getfield 16, 3) := by decide +kernel
theorem d20_50 : decode prog_26_method_7_code 50 = .ok (.iload_n 2, 1) := by decide +kernel
theorem d20_51 : decode prog_26_method_7_code 51 = .ok (.imul, 1) := by decide +kernel
theorem d20_52 : decode prog_26_method_7_code 52 = .ok (.iaload, 1) := by decide +kernel
theorem d20_53 : decode prog_26_method_7_code 53 = .ok (.ifCond .ne 7, 3) := by decide +kernel
theorem d20_56 : decode prog_26_method_7_code 56 = .ok (.iconst (-1), 1) := by decide +kernel
theorem d20_57 : decode prog_26_method_7_code 57 = .ok (.goto 4, 3) := by decide +kernel
theorem d20_61 : decode prog_26_method_7_code 61 = .ok (.ireturn, 1) := by decide +kernel
theorem d21_0 : decode prog_26_method_20_code 0 = .ok (.aload_n 0, 1) := by decide +kernel
theorem d21_1 : decode prog_26_method_20_code 1 = .ok (.getfield 68, 3) := by decide +kernel
theorem d21_12 : decode prog_26_method_20_code 12 = .ok (.iload_n 2, 1) := by decide +kernel
theorem d21_13 : decode prog_26_method_20_code 13 = .ok (.iand, 1) := by decide +kernel
theorem d21_14 : decode prog_26_method_20_code 14 = .ok (.istore_n 3, 1) := by decide +kernel
theorem d21_15 : decode prog_26_method_20_code 15 = .ok (.aload_n 0, 1) := by decide +kernel
theorem d21_16 : decode prog_26_method_20_code 16 = .ok (.getfield 30, 3) := by decide +kernel
theorem d21_19 : decode prog_26_method_20_code 19 = .ok (.aload_n 0, 1) := by decide +kernel
theorem d21_20 : decode prog_26_method_20_code 20 = .ok (.getfield 16, 3) := by decide +kernel
theorem d21_23 : decode prog_26_method_20_code 23 = .ok (.iload_n 3, 1) := by decide +kernel
theorem d21_24 : decode prog_26_method_20_code 24 = .ok (.imul, 1) := by decide +kernel
theorem d21_25 : decode prog_26_method_20_code 25 = .ok (.iaload, 1) := by decide +kernel
theorem d21_26 : decode prog_26_method_20_code 26 = .ok (.ifCond .eq 29, 3) := by decide +kernel
theorem d21_4 : decode prog_26_method_20_code 4 = .ok (.iconst 1, 1) := by decide +kernel
theorem d21_5 : decode prog_26_method_20_code 5 = .ok (.isub, 1) := by decide +kernel
theorem d21_55 : decode prog_26_method_20_code 55 = .ok (.iload_n 3, 1) := by decide +kernel
theorem d21_56 : decode prog_26_method_20_code 56 = .ok (.ireturn, 1) := by decide +kernel
theorem d21_6 : decode prog_26_method_20_code 6 = .ok (.istore_n 2, 1) := by decide +kernel
theorem d21_7 : decode prog_26_method_20_code 7 = .ok (.iload_n 1, 1) := by decide +kernel
theorem d21_8 : decode prog_26_method_20_code 8 = .ok (.i2l, 1) := by decide +kernel
theorem d21_9 : decode prog_26_method_20_code 9 = .ok (.invokestatic 88, 3) := by decide +kernel
theorem d22_0 : decode prog_28_method_2_code 0 = .ok (.lload_n 0, 1) := by decide +kernel
theorem d22_1 : decode prog_28_method_2_code 1 = .ok (.ldc2_w 7, 3) := by decide +kernel
theorem d22_4 : decode prog_28_method_2_code 4 = .ok (.lmul, 1) := by decide +kernel
theorem d22_5 : decode prog_28_method_2_code 5 = .ok (.bipush 32, 2) := by decide +kernel
theorem d22_7 : decode prog_28_method_2_code 7 = .ok (.lushr, 1) := by decide +kernel
theorem d22_8 : decode prog_28_method_2_code 8 = .ok (.l2i, 1) := by decide +kernel
theorem d22_9 : decode prog_28_method_2_code 9 = .ok (.ireturn, 1) := by decide +kernel
theorem d23_0 : decode prog_26_method_8_code 0 = .ok (.aload_n 0, 1) := by decide +kernel
theorem d23_1 : decode prog_26_method_8_code 1 = .ok (.getfield 26, 3) := by decide +kernel
theorem d23_100 : decode prog_26_method_8_code 100 = .ok (.if_icmp .lt 24, 3) := by decide +kernel
theorem d23_124 : decode prog_26_method_8_code 124 = .ok (.aload_n 0, 1) := by decide +kernel
theorem d23_125 : decode prog_26_method_8_code 125 = .ok (.getfield 26, 3) := by decide +kernel
theorem d23_128 : decode prog_26_method_8_code 128 = .ok (.aload_n 0, 1) := by decide +kernel
theorem d23_129 : decode prog_26_method_8_code 129 = .ok (.getfield 12, 3) := by decide +kernel
theorem d23_132 : decode prog_26_method_8_code 132 = .ok (.iload_n 1, 1) := by decide +kernel
theorem d23_133 : decode prog_26_method_8_code 133 = .ok (.imul, 1) := by decide +kernel
theorem d23_134 : decode prog_26_method_8_code 134 = .ok (.iload_n 2, 1) := by decide +kernel
theorem d23_135 : decode prog_26_method_8_code 135 = .ok (.iastore, 1) := by decide +kernel
theorem d23_136 : decode prog_26_method_8_code 136 = .ok (.iload_n 1, 1) := by decide +kernel
theorem d23_137 : decode prog_26_method_8_code 137 = .ok (.ireturn, 1) := by decide +kernel
theorem d23_36 : decode prog_26_method_8_code 36 = .ok (.aload_n 0, 1) := by decide +kernel
theorem d23_37 : decode prog_26_method_8_code 37 = .ok (.getfield 26, 3) := by decide +kernel
theorem d23_4 : decode prog_26_method_8_code 4 = .ok (.ifnull 32, 3) := by decide +kernel
theorem d23_40 : decode prog_26_method_8_code 40 = .ok (.ifnonnull 38, 3) := by decide +kernel
theorem d23_43 : decode prog_26_method_8_code 43 = .ok (.iconst 2, 1) := by decide +kernel
theorem d23_44 : decode prog_26_method_8_code 44 = .ok (.aload_n 0, 1) := by decide +kernel
theorem d23_45 : decode prog_26_method_8_code 45 = .ok (.getfield 23, 3) := by decide +kernel
theorem d23_48 : decode prog_26_method_8_code 48 = .ok (.iconst 1, 1) := by decide +kernel
theorem d23_49 : decode prog_26_method_8_code 49 = .ok (.iadd, 1) := by decide +kernel
theorem d23_50 : decode prog_26_method_8_code 50 = .ok (.imul, 1) := by decide +kernel
theorem d23_51 : decode prog_26_method_8_code 51 = .ok (.iload_n 1, 1) := by decide +kernel
theorem d23_52 : decode prog_26_method_8_code 52 = .ok (.aload_n 0, 1) := by decide +kernel
theorem d23_53 : decode prog_26_method_8_code 53 = .ok (.getfield 54, 3) := by decide +kernel
theorem d23_56 : decode prog_26_method_8_code 56 = .ok (.invokestatic 57, 3) := by decide +kernel
theorem d23_59 : decode prog_26_method_8_code 59 = .ok (.iconst 1, 1) := by decide +kernel
theorem d23_60 : decode prog_26_method_8_code 60 = .ok (.iadd, 1) := by decide +kernel
theorem d23_61 : decode prog_26_method_8_code 61 = .ok (.if_icmp .lt 17, 3) := by decide +kernel
theorem d23_64 : decode prog_26_method_8_code 64 = .ok (.aload_n 0, 1) := by decide +kernel
theorem d23_65 : decode prog_26_method_8_code 65 = .ok (.iload_n 1, 1) := by decide +kernel
theorem d23_66 : decode prog_26_method_8_code 66 = .ok (.aload_n 0, 1) := by decide +kernel
theorem d23_67 : decode prog_26_method_8_code 67 = .ok (.getfield 54, 3) := by decide +kernel
theorem d23_70 : decode prog_26_method_8_code 70 = .ok (.invokestatic 57, 3) := by decide +kernel
theorem d23_73 : decode prog_26_method_8_code 73 = .ok (.iconst 1, 1) := by decide +kernel
theorem d23_74 : decode prog_26_method_8_code 74 = .ok (.iadd, 1) := by decide +kernel
theorem d23_75 : decode prog_26_method_8_code 75 = .ok (.invokevirtual 62, 3) := by decide +kernel
theorem d23_78 : decode prog_26_method_8_code 78 = .ok (.aload_n 0, 1) := by decide +kernel
theorem d23_79 : decode prog_26_method_8_code 79 = .ok (.dup, 1) := by decide +kernel
theorem d23_80 : decode prog_26_method_8_code 80 = .ok (.getfield 23, 3) := by decide +kernel
theorem d23_83 : decode prog_26_method_8_code 83 = .ok (.iconst 1, 1) := by decide +kernel
theorem d23_84 : decode prog_26_method_8_code 84 = .ok (.iadd, 1) := by decide +kernel
theorem d23_85 : decode prog_26_method_8_code 85 = .ok (.putfield 23, 3) := by decide +kernel
theorem d23_88 : decode prog_26_method_8_code 88 = .ok (.aload_n 0, 1) := by decide +kernel
theorem d23_89 : decode prog_26_method_8_code 89 = .ok (.getfield 26, 3) := by decide +kernel
theorem d23_92 : decode prog_26_method_8_code 92 = .ok (.ifnull 46, 3) := by decide +kernel
theorem d23_95 : decode prog_26_method_8_code 95 = .ok (.iload_n 1, 1) := by decide +kernel
theorem d23_96 : decode prog_26_method_8_code 96 = .ok (.aload_n 0, 1) := by decide +kernel
theorem d23_97 : decode prog_26_method_8_code 97 = .ok (.getfield 33, 3) := by decide +kernel
theorem d24_0 : decode prog_26_method_24_code 0 = .ok (.aload_n 0, 1) := by decide +kernel
theorem d24_1 : decode prog_26_method_24_code 1 = .ok (.getfield 80, 3) := by decide +kernel
theorem d24_10 : decode prog_26_method_24_code 10 = .ok (.iload_n 1, 1) := by decide +kernel
theorem d24_11 : decode prog_26_method_24_code 11 = .ok (.imul, 1) := by decide +kernel
theorem d24_12 : decode prog_26_method_24_code 12 = .ok (.newarray .int, 2) := by decide +kernel
theorem d24_124 : decode prog_26_method_24_code 124 = .ok (.iinc 3 1, 3) := by decide +kernel
theorem d24_127 : decode prog_26_method_24_code 127 = .ok (.goto (-79), 3) := by decide +kernel
theorem d24_130 : decode prog_26_method_24_code 130 = .ok (.aload_n 0, 1) := by decide +kernel
theorem d24_131 : decode prog_26_method_24_code 131 = .ok (.aconst_null, 1) := by decide +kernel
theorem d24_132 : decode prog_26_method_24_code 132 = .ok (.putfield 30, 3) := by decide +kernel
theorem d24_135 : decode prog_26_method_24_code 135 = .ok (.aload_n 0, 1) := by decide +kernel
theorem d24_136 : decode prog_26_method_24_code 136 = .ok (.iconst 0, 1) := by decide +kernel
theorem d24_137 : decode prog_26_method_24_code 137 = .ok (.putfield 68, 3) := by decide +kernel
theorem d24_14 : decode prog_26_method_24_code 14 = .ok (.putfield 26, 3) := by decide +kernel
theorem d24_140 : decode prog_26_method_24_code 140 = .ok (.return_, 1) := by decide +kernel
theorem d24_17 : decode prog_26_method_24_code 17 = .ok (.aload_n 0, 1) := by decide +kernel
theorem d24_18 : decode prog_26_method_24_code 18 = .ok (.iload_n 1, 1) := by decide +kernel
theorem d24_19 : decode prog_26_method_24_code 19 = .ok (.putfield 33, 3) := by decide +kernel
theorem d24_22 : decode prog_26_method_24_code 22 = .ok (.aload_n 0, 1) := by decide +kernel
theorem d24_23 : decode prog_26_method_24_code 23 = .ok (.getfield 26, 3) := by decide +kernel
theorem d24_26 : decode prog_26_method_24_code 26 = .ok (.iconst (-1), 1) := by decide +kernel
theorem d24_27 : decode prog_26_method_24_code 27 = .ok (.invokestatic 133, 3) := by decide +kernel
theorem d24_30 : decode prog_26_method_24_code 30 = .ok (.aload_n 0, 1) := by decide +kernel
theorem d24_31 : decode prog_26_method_24_code 31 = .ok (.aload_n 2, 1) := by decide +kernel
theorem d24_32 : decode prog_26_method_24_code 32 = .ok (.ifnonnull 7, 3) := by decide +kernel
theorem d24_35 : decode prog_26_method_24_code 35 = .ok (.aconst_null, 1) := by decide +kernel
theorem d24_36 : decode prog_26_method_24_code 36 = .ok (.goto 7, 3) := by decide +kernel
theorem d24_4 : decode prog_26_method_24_code 4 = .ok (.astore_n 2, 1) := by decide +kernel
theorem d24_43 : decode prog_26_method_24_code 43 = .ok (.putfield 80, 3) := by decide +kernel
theorem d24_46 : decode prog_26_method_24_code 46 = .ok (.iconst 0, 1) := by decide +kernel
theorem d24_47 : decode prog_26_method_24_code 47 = .ok (.istore_n 3, 1) := by decide +kernel
theorem d24_48 : decode prog_26_method_24_code 48 = .ok (.iload_n 3, 1) := by decide +kernel
theorem d24_49 : decode prog_26_method_24_code 49 = .ok (.aload_n 0, 1) := by decide +kernel
theorem d24_5 : decode prog_26_method_24_code 5 = .ok (.aload_n 0, 1) := by decide +kernel
theorem d24_50 : decode prog_26_method_24_code 50 = .ok (.getfield 68, 3) := by decide +kernel
theorem d24_53 : decode prog_26_method_24_code 53 = .ok (.if_icmp .ge 77, 3) := by decide +kernel
theorem d24_56 : decode prog_26_method_24_code 56 = .ok (.aload_n 0, 1) := by decide +kernel
theorem d24_57 : decode prog_26_method_24_code 57 = .ok (.getfield 30, 3) := by decide +kernel
theorem d24_6 : decode prog_26_method_24_code 6 = .ok (.aload_n 0, 1) := by decide +kernel
theorem d24_60 : decode prog_26_method_24_code 60 = .ok (.aload_n 0, 1) := by decide +kernel
theorem d24_61 : decode prog_26_method_24_code 61 = .ok (.getfield 16, 3) := by decide +kernel
theorem d24_64 : decode prog_26_method_24_code 64 = .ok (.iload_n 3, 1) := by decide +kernel
theorem d24_65 : decode prog_26_method_24_code 65 = .ok (.imul, 1) := by decide +kernel
theorem d24_66 : decode prog_26_method_24_code 66 = .ok (.iaload, 1) := by decide +kernel
theorem d24_67 : decode prog_26_method_24_code 67 = .ok (.iconst 1, 1) := by decide +kernel
theorem d24_68 : decode prog_26_method_24_code 68 = .ok (.isub, 1) := by decide +kernel
theorem d24_69 : decode prog_26_method_24_code 69 = .ok (.istore 4, 2) := by decide +kernel
theorem d24_7 : decode prog_26_method_24_code 7 = .ok (.getfield 12, 3) := by decide +kernel
theorem d24_71 : decode prog_26_method_24_code 71 = .ok (.iload 4, 2) := by decide +kernel
theorem d24_73 : decode prog_26_method_24_code 73 = .ok (.iconst (-1), 1) := by decide +kernel
theorem d24_74 : decode prog_26_method_24_code 74 = .ok (.if_icmp .eq 50, 3) := by decide +kernel
theorem d25_0 : decode jdk_65_method_103_code 0 = .ok (.iconst 0, 1) := by decide +kernel
theorem d25_1 : decode jdk_65_method_103_code 1 = .ok (.istore_n 2, 1) := by decide +kernel
theorem d25_10 : decode jdk_65_method_103_code 10 = .ok (.aload_n 0, 1) := by decide +kernel
theorem d25_11 : decode jdk_65_method_103_code 11 = .ok (.iload_n 2, 1) := by decide +kernel
theorem d25_12 : decode jdk_65_method_103_code 12 = .ok (.iload_n 1, 1) := by decide +kernel
theorem d25_13 : decode jdk_65_method_103_code 13 = .ok (.iastore, 1) := by decide +kernel
theorem d25_14 : decode jdk_65_method_103_code 14 = .ok (.iinc 2 1, 3) := by decide +kernel
theorem d25_17 : decode jdk_65_method_103_code 17 = .ok (.goto (-12), 3) := by decide +kernel
theorem d25_2 : decode jdk_65_method_103_code 2 = .ok (.aload_n 0, 1) := by decide +kernel
theorem d25_20 : decode jdk_65_method_103_code 20 = .ok (.return_, 1) := by decide +kernel
theorem d25_3 : decode jdk_65_method_103_code 3 = .ok (.arraylength, 1) := by decide +kernel
theorem d25_4 : decode jdk_65_method_103_code 4 = .ok (.istore_n 3, 1) := by decide +kernel
theorem d25_5 : decode jdk_65_method_103_code 5 = .ok (.iload_n 2, 1) := by decide +kernel
theorem d25_6 : decode jdk_65_method_103_code 6 = .ok (.iload_n 3, 1) := by decide +kernel
theorem d25_7 : decode jdk_65_method_103_code 7 = .ok (.if_icmp .ge 13, 3) := by decide +kernel
theorem d26_0 : decode prog_50_method_14_code 0 = .ok (.aload_n 0, 1) := by decide +kernel
theorem d26_1 : decode prog_50_method_14_code 1 = .ok (.getfield 47, 3) := by decide +kernel
theorem d26_11 : decode prog_50_method_14_code 11 = .ok (.bipush 8, 2) := by decide +kernel
theorem d26_13 : decode prog_50_method_14_code 13 = .ok (.aload_n 0, 1) := by decide +kernel
theorem d26_14 : decode prog_50_method_14_code 14 = .ok (.getfield 47, 3) := by decide +kernel
theorem d26_17 : decode prog_50_method_14_code 17 = .ok (.arraylength, 1) := by decide +kernel
theorem d26_18 : decode prog_50_method_14_code 18 = .ok (.imul, 1) := by decide +kernel
theorem d26_19 : decode prog_50_method_14_code 19 = .ok (.aload_n 0, 1) := by decide +kernel
theorem d26_20 : decode prog_50_method_14_code 20 = .ok (.getfield 79, 3) := by decide +kernel
theorem d26_23 : decode prog_50_method_14_code 23 = .ok (.ifnonnull 7, 3) := by decide +kernel
theorem d26_26 : decode prog_50_method_14_code 26 = .ok (.iconst 0, 1) := by decide +kernel
theorem d26_27 : decode prog_50_method_14_code 27 = .ok (.goto 10, 3) := by decide +kernel
theorem d26_30 : decode prog_50_method_14_code 30 = .ok (.iconst 4, 1) := by decide +kernel
theorem d26_31 : decode prog_50_method_14_code 31 = .ok (.aload_n 0, 1) := by decide +kernel
theorem d26_32 : decode prog_50_method_14_code 32 = .ok (.getfield 79, 3) := by decide +kernel
theorem d26_35 : decode prog_50_method_14_code 35 = .ok (.arraylength, 1) := by decide +kernel
theorem d26_36 : decode prog_50_method_14_code 36 = .ok (.imul, 1) := by decide +kernel
theorem d26_37 : decode prog_50_method_14_code 37 = .ok (.iadd, 1) := by decide +kernel
theorem d26_38 : decode prog_50_method_14_code 38 = .ok (.aload_n 0, 1) := by decide +kernel
theorem d26_39 : decode prog_50_method_14_code 39 = .ok (.getfield 64, 3) := by decide +kernel
theorem d26_4 : decode prog_50_method_14_code 4 = .ok (.ifnonnull 7, 3) := by decide +kernel
theorem d26_42 : decode prog_50_method_14_code 42 = .ok (.ifnonnull 7, 3) := by decide +kernel
theorem d26_45 : decode prog_50_method_14_code 45 = .ok (.iconst 0, 1) := by decide +kernel
theorem d26_46 : decode prog_50_method_14_code 46 = .ok (.goto 10, 3) := by decide +kernel
theorem d26_49 : decode prog_50_method_14_code 49 = .ok (.iconst 4, 1) := by decide +kernel
theorem d26_50 : decode prog_50_method_14_code 50 = .ok (.aload_n 0, 1) := by decide +kernel
theorem d26_51 : decode prog_50_method_14_code 51 = .ok (.getfield 64, 3) := by decide +kernel
theorem d26_54 : decode prog_50_method_14_code 54 = .ok (.arraylength, 1) := by decide +kernel
theorem d26_55 : decode prog_50_method_14_code 55 = .ok (.imul, 1) := by decide +kernel
theorem d26_56 : decode prog_50_method_14_code 56 = .ok (.iadd, 1) := by decide +kernel
theorem d26_57 : decode prog_50_method_14_code 57 = .ok (.ireturn, 1) := by decide +kernel
theorem d26_7 : decode prog_50_method_14_code 7 = .ok (.iconst 0, 1) := by decide +kernel
theorem d26_8 : decode prog_50_method_14_code 8 = .ok (.goto 11, 3) := by decide +kernel
theorem d27_0 : decode jdk_65_method_101_code 0 = .ok (.iconst 0, 1) := by decide +kernel
theorem d27_1 : decode jdk_65_method_101_code 1 = .ok (.istore_n 3, 1) := by decide +kernel
theorem d27_12 : decode jdk_65_method_101_code 12 = .ok (.aload_n 0, 1) := by decide +kernel
theorem d27_13 : decode jdk_65_method_101_code 13 = .ok (.iload_n 3, 1) := by decide +kernel
theorem d27_14 : decode jdk_65_method_101_code 14 = .ok (.lload_n 1, 1) := by decide +kernel
theorem d27_15 : decode jdk_65_method_101_code 15 = .ok (.lastore, 1) := by decide +kernel
theorem d27_16 : decode jdk_65_method_101_code 16 = .ok (.iinc 3 1, 3) := by decide +kernel
theorem d27_19 : decode jdk_65_method_101_code 19 = .ok (.goto (-13), 3) := by decide +kernel
theorem d27_2 : decode jdk_65_method_101_code 2 = .ok (.aload_n 0, 1) := by decide +kernel
theorem d27_22 : decode jdk_65_method_101_code 22 = .ok (.return_, 1) := by decide +kernel
theorem d27_3 : decode jdk_65_method_101_code 3 = .ok (.arraylength, 1) := by decide +kernel
theorem d27_4 : decode jdk_65_method_101_code 4 = .ok (.istore 4, 2) := by decide +kernel
theorem d27_6 : decode jdk_65_method_101_code 6 = .ok (.iload_n 3, 1) := by decide +kernel
theorem d27_7 : decode jdk_65_method_101_code 7 = .ok (.iload 4, 2) := by decide +kernel
theorem d27_9 : decode jdk_65_method_101_code 9 = .ok (.if_icmp .ge 13, 3) := by decide +kernel
theorem d28_0 : decode prog_50_method_16_code 0 = .ok (.aload_n 0, 1) := by decide +kernel
theorem d28_1 : decode prog_50_method_16_code 1 = .ok (.getfield 79, 3) := by decide +kernel
theorem d28_12 : decode prog_50_method_16_code 12 = .ok (.newarray .int, 2) := by decide +kernel
theorem d28_14 : decode prog_50_method_16_code 14 = .ok (.putfield 79, 3) := by decide +kernel
theorem d28_17 : decode prog_50_method_16_code 17 = .ok (.aload_n 0, 1) := by decide +kernel
theorem d28_18 : decode prog_50_method_16_code 18 = .ok (.getfield 79, 3) := by decide +kernel
theorem d28_21 : decode prog_50_method_16_code 21 = .ok (.iload_n 1, 1) := by decide +kernel
theorem d28_22 : decode prog_50_method_16_code 22 = .ok (.dup2, 1) := by decide +kernel
theorem d28_23 : decode prog_50_method_16_code 23 = .ok (.iaload, 1) := by decide +kernel
theorem d28_24 : decode prog_50_method_16_code 24 = .ok (.iconst 1, 1) := by decide +kernel
theorem d28_25 : decode prog_50_method_16_code 25 = .ok (.iadd, 1) := by decide +kernel
theorem d28_26 : decode prog_50_method_16_code 26 = .ok (.iastore, 1) := by decide +kernel
theorem d28_27 : decode prog_50_method_16_code 27 = .ok (.return_, 1) := by decide +kernel
theorem d28_4 : decode prog_50_method_16_code 4 = .ok (.ifnonnull 13, 3) := by decide +kernel
theorem d28_7 : decode prog_50_method_16_code 7 = .ok (.aload_n 0, 1) := by decide +kernel
theorem d28_8 : decode prog_50_method_16_code 8 = .ok (.aload_n 0, 1) := by decide +kernel
theorem d28_9 : decode prog_50_method_16_code 9 = .ok (.invokevirtual 67, 3) := by decide +kernel
theorem d29_0 : decode prog_50_method_9_code 0 = .ok (.aload_n 0, 1) := by decide +kernel
theorem d29_1 : decode prog_50_method_9_code 1 = .ok (.iload_n 1, 1) := by decide +kernel
theorem d29_11 : decode prog_50_method_9_code 11 = .ok (.return_, 1) := by decide +kernel
theorem d29_2 : decode prog_50_method_9_code 2 = .ok (.invokevirtual 53, 3) := by decide +kernel
theorem d29_5 : decode prog_50_method_9_code 5 = .ok (.aload_n 0, 1) := by decide +kernel
theorem d29_6 : decode prog_50_method_9_code 6 = .ok (.iload_n 1, 1) := by decide +kernel
theorem d29_7 : decode prog_50_method_9_code 7 = .ok (.lload_n 2, 1) := by decide +kernel
theorem d29_8 : decode prog_50_method_9_code 8 = .ok (.invokevirtual 57, 3) := by decide +kernel
theorem d2_0 : decode jdk_29_method_65_code 0 = .ok (.iload_n 0, 1) := by decide +kernel
theorem d2_1 : decode jdk_29_method_65_code 1 = .ok (.iload_n 1, 1) := by decide +kernel
theorem d2_10 : decode jdk_29_method_65_code 10 = .ok (.ireturn, 1) := by decide +kernel
theorem d2_2 : decode jdk_29_method_65_code 2 = .ok (.if_icmp .lt 7, 3) := by decide +kernel
theorem d2_5 : decode jdk_29_method_65_code 5 = .ok (.iload_n 0, 1) := by decide +kernel
theorem d2_6 : decode jdk_29_method_65_code 6 = .ok (.goto 4, 3) := by decide +kernel
theorem d2_9 : decode jdk_29_method_65_code 9 = .ok (.iload_n 1, 1) := by decide +kernel
theorem d30_0 : decode prog_50_method_22_code 0 = .ok (.aload_n 0, 1) := by decide +kernel
theorem d30_1 : decode prog_50_method_22_code 1 = .ok (.iload_n 1, 1) := by decide +kernel
theorem d30_10 : decode prog_50_method_22_code 10 = .ok (.lcmp, 1) := by decide +kernel
theorem d30_11 : decode prog_50_method_22_code 11 = .ok (.ifCond .eq 13, 3) := by decide +kernel
theorem d30_14 : decode prog_50_method_22_code 14 = .ok (.aload_n 0, 1) := by decide +kernel
theorem d30_15 : decode prog_50_method_22_code 15 = .ok (.dup, 1) := by decide +kernel
theorem d30_16 : decode prog_50_method_22_code 16 = .ok (.getfield 76, 3) := by decide +kernel
theorem d30_19 : decode prog_50_method_22_code 19 = .ok (.iconst 1, 1) := by decide +kernel
theorem d30_2 : decode prog_50_method_22_code 2 = .ok (.invokevirtual 130, 3) := by decide +kernel
theorem d30_20 : decode prog_50_method_22_code 20 = .ok (.isub, 1) := by decide +kernel
theorem d30_21 : decode prog_50_method_22_code 21 = .ok (.putfield 76, 3) := by decide +kernel
theorem d30_24 : decode prog_50_method_22_code 24 = .ok (.lload_n 2, 1) := by decide +kernel
theorem d30_25 : decode prog_50_method_22_code 25 = .ok (.ldc2_w 134, 3) := by decide +kernel
theorem d30_28 : decode prog_50_method_22_code 28 = .ok (.lcmp, 1) := by decide +kernel
theorem d30_29 : decode prog_50_method_22_code 29 = .ok (.ifCond .ne 13, 3) := by decide +kernel
theorem d30_32 : decode prog_50_method_22_code 32 = .ok (.aload_n 0, 1) := by decide +kernel
theorem d30_33 : decode prog_50_method_22_code 33 = .ok (.dup, 1) := by decide +kernel
theorem d30_34 : decode prog_50_method_22_code 34 = .ok (.getfield 61, 3) := by decide +kernel
theorem d30_37 : decode prog_50_method_22_code 37 = .ok (.iconst 1, 1) := by decide +kernel
theorem d30_38 : decode prog_50_method_22_code 38 = .ok (.isub, 1) := by decide +kernel
theorem d30_39 : decode prog_50_method_22_code 39 = .ok (.putfield 61, 3) := by decide +kernel
theorem d30_42 : decode prog_50_method_22_code 42 = .ok (.return_, 1) := by decide +kernel
theorem d30_5 : decode prog_50_method_22_code 5 = .ok (.lstore_n 2, 1) := by decide +kernel
theorem d30_6 : decode prog_50_method_22_code 6 = .ok (.lload_n 2, 1) := by decide +kernel
theorem d30_7 : decode prog_50_method_22_code 7 = .ok (.ldc2_w 51, 3) := by decide +kernel
theorem d31_0 : decode prog_50_method_8_code 0 = .ok (.aload_n 0, 1) := by decide +kernel
theorem d31_1 : decode prog_50_method_8_code 1 = .ok (.getfield 47, 3) := by decide +kernel
theorem d31_10 : decode prog_50_method_8_code 10 = .ok (.goto 9, 3) := by decide +kernel
theorem d31_13 : decode prog_50_method_8_code 13 = .ok (.aload_n 0, 1) := by decide +kernel
theorem d31_14 : decode prog_50_method_8_code 14 = .ok (.getfield 47, 3) := by decide +kernel
theorem d31_17 : decode prog_50_method_8_code 17 = .ok (.iload_n 1, 1) := by decide +kernel
theorem d31_18 : decode prog_50_method_8_code 18 = .ok (.laload, 1) := by decide +kernel
theorem d31_19 : decode prog_50_method_8_code 19 = .ok (.lreturn, 1) := by decide +kernel
theorem d31_4 : decode prog_50_method_8_code 4 = .ok (.ifnonnull 9, 3) := by decide +kernel
theorem d31_7 : decode prog_50_method_8_code 7 = .ok (.ldc2_w 51, 3) := by decide +kernel
theorem d32_0 : decode prog_50_method_13_code 0 = .ok (.aload_n 0, 1) := by decide +kernel
theorem d32_1 : decode prog_50_method_13_code 1 = .ok (.getfield 76, 3) := by decide +kernel
theorem d32_12 : decode prog_50_method_13_code 12 = .ok (.aload_n 0, 1) := by decide +kernel
theorem d32_13 : decode prog_50_method_13_code 13 = .ok (.aconst_null, 1) := by decide +kernel
theorem d32_14 : decode prog_50_method_13_code 14 = .ok (.putfield 79, 3) := by decide +kernel
theorem d32_17 : decode prog_50_method_13_code 17 = .ok (.aload_n 0, 1) := by decide +kernel
theorem d32_18 : decode prog_50_method_13_code 18 = .ok (.aconst_null, 1) := by decide +kernel
theorem d32_19 : decode prog_50_method_13_code 19 = .ok (.putfield 64, 3) := by decide +kernel
theorem d32_22 : decode prog_50_method_13_code 22 = .ok (.return_, 1) := by decide +kernel
theorem d32_4 : decode prog_50_method_13_code 4 = .ok (.ifCond .ne 18, 3) := by decide +kernel
theorem d32_7 : decode prog_50_method_13_code 7 = .ok (.aload_n 0, 1) := by decide +kernel
theorem d32_8 : decode prog_50_method_13_code 8 = .ok (.aconst_null, 1) := by decide +kernel
theorem d32_9 : decode prog_50_method_13_code 9 = .ok (.putfield 47, 3) := by decide +kernel
theorem d33_0 : decode prog_50_method_12_code 0 = .ok (.aload_n 0, 1) := by decide +kernel
theorem d33_1 : decode prog_50_method_12_code 1 = .ok (.getfield 64, 3) := by decide +kernel
theorem d33_12 : decode prog_50_method_12_code 12 = .ok (.return_, 1) := by decide +kernel
theorem d33_13 : decode prog_50_method_12_code 13 = .ok (.aload_n 0, 1) := by decide +kernel
theorem d33_14 : decode prog_50_method_12_code 14 = .ok (.aload_n 0, 1) := by decide +kernel
theorem d33_15 : decode prog_50_method_12_code 15 = .ok (.invokevirtual 67, 3) := by decide +kernel
theorem d33_18 : decode prog_50_method_12_code 18 = .ok (.newarray .int, 2) := by decide +kernel
theorem d33_20 : decode prog_50_method_12_code 20 = .ok (.putfield 64, 3) := by decide +kernel
theorem d33_23 : decode prog_50_method_12_code 23 = .ok (.aload_n 0, 1) := by decide +kernel
theorem d33_24 : decode prog_50_method_12_code 24 = .ok (.getfield 64, 3) := by decide +kernel
theorem d33_27 : decode prog_50_method_12_code 27 = .ok (.iconst 1, 1) := by decide +kernel
theorem d33_28 : decode prog_50_method_12_code 28 = .ok (.invokestatic 70, 3) := by decide +kernel
theorem d33_31 : decode prog_50_method_12_code 31 = .ok (.aload_n 0, 1) := by decide +kernel
theorem d33_32 : decode prog_50_method_12_code 32 = .ok (.getfield 64, 3) := by decide +kernel
theorem d33_35 : decode prog_50_method_12_code 35 = .ok (.iload_n 1, 1) := by decide +kernel
theorem d33_36 : decode prog_50_method_12_code 36 = .ok (.iload_n 2, 1) := by decide +kernel
theorem d33_37 : decode prog_50_method_12_code 37 = .ok (.iastore, 1) := by decide +kernel
theorem d33_38 : decode prog_50_method_12_code 38 = .ok (.return_, 1) := by decide +kernel
theorem d33_4 : decode prog_50_method_12_code 4 = .ok (.ifnonnull 27, 3) := by decide +kernel
theorem d33_7 : decode prog_50_method_12_code 7 = .ok (.iload_n 2, 1) := by decide +kernel
theorem d33_8 : decode prog_50_method_12_code 8 = .ok (.iconst 1, 1) := by decide +kernel
theorem d33_9 : decode prog_50_method_12_code 9 = .ok (.if_icmp .ne 4, 3) := by decide +kernel
theorem d3_0 : decode prog_50_method_1_code 0 = .ok (.aload_n 0, 1) := by decide +kernel
theorem d3_1 : decode prog_50_method_1_code 1 = .ok (.invokespecial 3, 3) := by decide +kernel
theorem d3_10 : decode prog_50_method_1_code 10 = .ok (.putfield 11, 3) := by decide +kernel
theorem d3_13 : decode prog_50_method_1_code 13 = .ok (.aload_n 0, 1) := by decide +kernel
theorem d3_14 : decode prog_50_method_1_code 14 = .ok (.new 15, 3) := by decide +kernel
theorem d3_17 : decode prog_50_method_1_code 17 = .ok (.dup, 1) := by decide +kernel
theorem d3_18 : decode prog_50_method_1_code 18 = .ok (.invokespecial 17, 3) := by decide +kernel
theorem d3_21 : decode prog_50_method_1_code 21 = .ok (.putfield 18, 3) := by decide +kernel
theorem d3_24 : decode prog_50_method_1_code 24 = .ok (.aload_n 0, 1) := by decide +kernel
theorem d3_25 : decode prog_50_method_1_code 25 = .ok (.new 22, 3) := by decide +kernel
theorem d3_28 : decode prog_50_method_1_code 28 = .ok (.dup, 1) := by decide +kernel
theorem d3_29 : decode prog_50_method_1_code 29 = .ok (.aload_n 0, 1) := by decide +kernel
theorem d3_30 : decode prog_50_method_1_code 30 = .ok (.invokedynamic 24, 5) := by decide +kernel
theorem d3_35 : decode prog_50_method_1_code 35 = .ok (.invokespecial 28, 3) := by decide +kernel
theorem d3_38 : decode prog_50_method_1_code 38 = .ok (.putfield 31, 3) := by decide +kernel
theorem d3_4 : decode prog_50_method_1_code 4 = .ok (.aload_n 0, 1) := by decide +kernel
theorem d3_41 : decode prog_50_method_1_code 41 = .ok (.return_, 1) := by decide +kernel
theorem d3_5 : decode prog_50_method_1_code 5 = .ok (.sipush 192, 3) := by decide +kernel
theorem d3_8 : decode prog_50_method_1_code 8 = .ok (.newarray .int, 2) := by decide +kernel
theorem d5_0 : decode prog_41_method_1_code 0 = .ok (.aload_n 0, 1) := by decide +kernel
theorem d5_1 : decode prog_41_method_1_code 1 = .ok (.invokespecial 1, 3) := by decide +kernel
theorem d5_12 : decode prog_41_method_1_code 12 = .ok (.putfield 10, 3) := by decide +kernel
theorem d5_15 : decode prog_41_method_1_code 15 = .ok (.return_, 1) := by decide +kernel
theorem d5_4 : decode prog_41_method_1_code 4 = .ok (.aload_n 0, 1) := by decide +kernel
theorem d5_5 : decode prog_41_method_1_code 5 = .ok (.new 7, 3) := by decide +kernel
theorem d5_8 : decode prog_41_method_1_code 8 = .ok (.dup, 1) := by decide +kernel
theorem d5_9 : decode prog_41_method_1_code 9 = .ok (.invokespecial 9, 3) := by decide +kernel
theorem d6_0 : decode prog_27_method_1_code 0 = .ok (.aload_n 0, 1) := by decide +kernel
theorem d6_1 : decode prog_27_method_1_code 1 = .ok (.invokespecial 1, 3) := by decide +kernel
theorem d6_11 : decode prog_27_method_1_code 11 = .ok (.return_, 1) := by decide +kernel
theorem d6_4 : decode prog_27_method_1_code 4 = .ok (.aload_n 0, 1) := by decide +kernel
theorem d6_5 : decode prog_27_method_1_code 5 = .ok (.iconst 4, 1) := by decide +kernel
theorem d6_6 : decode prog_27_method_1_code 6 = .ok (.newarray .int, 2) := by decide +kernel
theorem d6_8 : decode prog_27_method_1_code 8 = .ok (.putfield 9, 3) := by decide +kernel
theorem d7_0 : decode prog_43_method_1_code 0 = .ok (.aload_n 0, 1) := by decide +kernel
theorem d7_1 : decode prog_43_method_1_code 1 = .ok (.invokespecial 3, 3) := by decide +kernel
theorem d7_12 : decode prog_43_method_1_code 12 = .ok (.putfield 12, 3) := by decide +kernel
theorem d7_15 : decode prog_43_method_1_code 15 = .ok (.aload_n 0, 1) := by decide +kernel
theorem d7_16 : decode prog_43_method_1_code 16 = .ok (.getstatic 16, 3) := by decide +kernel
theorem d7_19 : decode prog_43_method_1_code 19 = .ok (.putfield 20, 3) := by decide +kernel
theorem d7_22 : decode prog_43_method_1_code 22 = .ok (.aload_n 0, 1) := by decide +kernel
theorem d7_23 : decode prog_43_method_1_code 23 = .ok (.aload_n 1, 1) := by decide +kernel
theorem d7_24 : decode prog_43_method_1_code 24 = .ok (.putfield 23, 3) := by decide +kernel
theorem d7_27 : decode prog_43_method_1_code 27 = .ok (.return_, 1) := by decide +kernel
theorem d7_4 : decode prog_43_method_1_code 4 = .ok (.aload_n 0, 1) := by decide +kernel
theorem d7_5 : decode prog_43_method_1_code 5 = .ok (.new 9, 3) := by decide +kernel
theorem d7_8 : decode prog_43_method_1_code 8 = .ok (.dup, 1) := by decide +kernel
theorem d7_9 : decode prog_43_method_1_code 9 = .ok (.invokespecial 11, 3) := by decide +kernel
theorem d8_0 : decode prog_26_method_1_code 0 = .ok (.aload_n 0, 1) := by decide +kernel
theorem d8_1 : decode prog_26_method_1_code 1 = .ok (.iconst 1, 1) := by decide +kernel
theorem d8_2 : decode prog_26_method_1_code 2 = .ok (.invokespecial 1, 3) := by decide +kernel
theorem d8_5 : decode prog_26_method_1_code 5 = .ok (.return_, 1) := by decide +kernel
theorem d9_0 : decode prog_26_method_2_code 0 = .ok (.aload_n 0, 1) := by decide +kernel
theorem d9_1 : decode prog_26_method_2_code 1 = .ok (.invokespecial 7, 3) := by decide +kernel
theorem d9_10 : decode prog_26_method_2_code 10 = .ok (.iload_n 1, 1) := by decide +kernel
theorem d9_11 : decode prog_26_method_2_code 11 = .ok (.iconst 1, 1) := by decide +kernel
theorem d9_12 : decode prog_26_method_2_code 12 = .ok (.iadd, 1) := by decide +kernel
theorem d9_13 : decode prog_26_method_2_code 13 = .ok (.putfield 16, 3) := by decide +kernel
theorem d9_16 : decode prog_26_method_2_code 16 = .ok (.aload_n 0, 1) := by decide +kernel
theorem d9_17 : decode prog_26_method_2_code 17 = .ok (.bipush 8, 2) := by decide +kernel
theorem d9_19 : decode prog_26_method_2_code 19 = .ok (.iconst 0, 1) := by decide +kernel
theorem d9_20 : decode prog_26_method_2_code 20 = .ok (.invokevirtual 19, 3) := by decide +kernel
theorem d9_23 : decode prog_26_method_2_code 23 = .ok (.return_, 1) := by decide +kernel
theorem d9_4 : decode prog_26_method_2_code 4 = .ok (.aload_n 0, 1) := by decide +kernel
theorem d9_5 : decode prog_26_method_2_code 5 = .ok (.iload_n 1, 1) := by decide +kernel
theorem d9_6 : decode prog_26_method_2_code 6 = .ok (.putfield 12, 3) := by decide +kernel
theorem d9_9 : decode prog_26_method_2_code 9 = .ok (.aload_n 0, 1) := by decide +kernel
/-- an object of class com/example/weir/weir/engine/IntList, and what its fields hold -/
def IsIL (Z : State) (h : Heap) (a : Addr) (v_values v_size : Value) : Prop := Exa Z h a "com/example/weir/weir/engine/IntList" ∧ Fld Z h a "com/example/weir/weir/engine/IntList" "values" "[I" v_values ∧ Fld Z h a "com/example/weir/weir/engine/IntList" "size" "I" v_size
theorem IsIL.exa {Z : State} {h : Heap} {a : Addr} {v_values v_size : Value} (O : IsIL Z h a v_values v_size) : Exa Z h a "com/example/weir/weir/engine/IntList" := O.1
theorem IsIL.lt {Z : State} {h : Heap} {a : Addr} {v_values v_size : Value} (O : IsIL Z h a v_values v_size) : a < h.size := (IsIL.exa O).lt
theorem IsIL.f_values {Z : State} {h : Heap} {a : Addr} {v_values v_size : Value} (O : IsIL Z h a v_values v_size) : Fld Z h a "com/example/weir/weir/engine/IntList" "values" "[I" v_values := O.2.1
theorem IsIL.f_size {Z : State} {h : Heap} {a : Addr} {v_values v_size : Value} (O : IsIL Z h a v_values v_size) : Fld Z h a "com/example/weir/weir/engine/IntList" "size" "I" v_size := O.2.2
theorem IsIL.ext {Z : State} {h h' : Heap} {a : Addr} {v_values v_size : Value} (E : Ext h h') (O : IsIL Z h a v_values v_size) : IsIL Z h' a v_values v_size := ⟨(O.1).ext E, (O.2.1).ext E, (O.2.2).ext E⟩
theorem IsIL.keep {Z : State} {h h' : Heap} {a : Addr} {v_values v_size : Value} {ws : List Addr} (K : Keep h h' ws) (O : IsIL Z h a v_values v_size) (q : a ∉ ws) : IsIL Z h' a v_values v_size := ⟨(O.1).keep K, (O.2.1).keep K q, (O.2.2).keep K q⟩
theorem IsIL.other {Z : State} {h h' : Heap} {a b : Addr} {v_values v_size : Value} {sl : Nat} {v : Value} (W : Wr h h' b sl v) (O : IsIL Z h a v_values v_size) (q : a ≠ b) : IsIL Z h' a v_values v_size := ⟨(O.1).wr W, (O.2.1).other W (Or.inl q), (O.2.2).other W (Or.inl q)⟩
theorem IsIL.s_values {Z : State} {h h' : Heap} {a : Addr} {v_values v_size : Value} {v : Value} {a0 : Array Value} (hw : ∀ d ∈ tables_1, d.before a0 Z = true) (W : Wr h h' a (RoadKit.slotOf Z "com/example/weir/weir/engine/IntList" "values" "[I") v) (O : IsIL Z h a v_values v_size) : IsIL Z h' a v v_size := ⟨(O.1).wr W, (O.2.1).same W, (O.2.2).other W (Or.inr (slot_ne (a0 := a0) (C := "com/example/weir/weir/engine/IntList") (Or.inl (w_104 hw)) (Or.inl (w_36 hw)) (by decide) (t := .int) (t' := (.array .int)) (by decide) (by decide)))⟩
theorem IsIL.s_size {Z : State} {h h' : Heap} {a : Addr} {v_values v_size : Value} {v : Value} {a0 : Array Value} (hw : ∀ d ∈ tables_1, d.before a0 Z = true) (W : Wr h h' a (RoadKit.slotOf Z "com/example/weir/weir/engine/IntList" "size" "I") v) (O : IsIL Z h a v_values v_size) : IsIL Z h' a v_values v := ⟨(O.1).wr W, (O.2.1).other W (Or.inr (slot_ne (a0 := a0) (C := "com/example/weir/weir/engine/IntList") (Or.inl (w_36 hw)) (Or.inl (w_104 hw)) (by decide) (t := (.array .int)) (t' := .int) (by decide) (by decide))), (O.2.2).same W⟩
/-- an object of class com/example/weir/weir/engine/Numbers, and what its fields hold -/
def IsNu (Z : State) (h : Heap) (a : Addr) (v_free v_limit : Value) : Prop := Exa Z h a "com/example/weir/weir/engine/Numbers" ∧ Fld Z h a "com/example/weir/weir/engine/Numbers" "free" "Lcom/example/weir/weir/engine/IntList;" v_free ∧ Fld Z h a "com/example/weir/weir/engine/Numbers" "limit" "I" v_limit
theorem IsNu.exa {Z : State} {h : Heap} {a : Addr} {v_free v_limit : Value} (O : IsNu Z h a v_free v_limit) : Exa Z h a "com/example/weir/weir/engine/Numbers" := O.1
theorem IsNu.lt {Z : State} {h : Heap} {a : Addr} {v_free v_limit : Value} (O : IsNu Z h a v_free v_limit) : a < h.size := (IsNu.exa O).lt
theorem IsNu.f_free {Z : State} {h : Heap} {a : Addr} {v_free v_limit : Value} (O : IsNu Z h a v_free v_limit) : Fld Z h a "com/example/weir/weir/engine/Numbers" "free" "Lcom/example/weir/weir/engine/IntList;" v_free := O.2.1
theorem IsNu.f_limit {Z : State} {h : Heap} {a : Addr} {v_free v_limit : Value} (O : IsNu Z h a v_free v_limit) : Fld Z h a "com/example/weir/weir/engine/Numbers" "limit" "I" v_limit := O.2.2
theorem IsNu.ext {Z : State} {h h' : Heap} {a : Addr} {v_free v_limit : Value} (E : Ext h h') (O : IsNu Z h a v_free v_limit) : IsNu Z h' a v_free v_limit := ⟨(O.1).ext E, (O.2.1).ext E, (O.2.2).ext E⟩
theorem IsNu.keep {Z : State} {h h' : Heap} {a : Addr} {v_free v_limit : Value} {ws : List Addr} (K : Keep h h' ws) (O : IsNu Z h a v_free v_limit) (q : a ∉ ws) : IsNu Z h' a v_free v_limit := ⟨(O.1).keep K, (O.2.1).keep K q, (O.2.2).keep K q⟩
theorem IsNu.other {Z : State} {h h' : Heap} {a b : Addr} {v_free v_limit : Value} {sl : Nat} {v : Value} (W : Wr h h' b sl v) (O : IsNu Z h a v_free v_limit) (q : a ≠ b) : IsNu Z h' a v_free v_limit := ⟨(O.1).wr W, (O.2.1).other W (Or.inl q), (O.2.2).other W (Or.inl q)⟩
theorem IsNu.s_free {Z : State} {h h' : Heap} {a : Addr} {v_free v_limit : Value} {v : Value} {a0 : Array Value} (hw : ∀ d ∈ tables_1, d.before a0 Z = true) (W : Wr h h' a (RoadKit.slotOf Z "com/example/weir/weir/engine/Numbers" "free" "Lcom/example/weir/weir/engine/IntList;") v) (O : IsNu Z h a v_free v_limit) : IsNu Z h' a v v_limit := ⟨(O.1).wr W, (O.2.1).same W, (O.2.2).other W (Or.inr (slot_ne (a0 := a0) (C := "com/example/weir/weir/engine/Numbers") (Or.inl (w_106 hw)) (Or.inl (w_38 hw)) (by decide) (t := .int) (t' := (.object "com/example/weir/weir/engine/IntList")) (by decide) (by decide)))⟩
theorem IsNu.s_limit {Z : State} {h h' : Heap} {a : Addr} {v_free v_limit : Value} {v : Value} {a0 : Array Value} (hw : ∀ d ∈ tables_1, d.before a0 Z = true) (W : Wr h h' a (RoadKit.slotOf Z "com/example/weir/weir/engine/Numbers" "limit" "I") v) (O : IsNu Z h a v_free v_limit) : IsNu Z h' a v_free v := ⟨(O.1).wr W, (O.2.1).other W (Or.inr (slot_ne (a0 := a0) (C := "com/example/weir/weir/engine/Numbers") (Or.inl (w_38 hw)) (Or.inl (w_106 hw)) (by decide) (t := (.object "com/example/weir/weir/engine/IntList")) (t' := .int) (by decide) (by decide))), (O.2.2).same W⟩
/-- an object of class com/example/weir/weir/engine/IntIntMap, and what its fields hold -/
def IsMap (Z : State) (h : Heap) (a : Addr) (v_width v_stride v_entries v_slots v_objects v_greatestKey v_values v_size v_keys : Value) : Prop := Exa Z h a "com/example/weir/weir/engine/IntIntMap" ∧ Fld Z h a "com/example/weir/weir/engine/IntIntMap" "width" "I" v_width ∧ Fld Z h a "com/example/weir/weir/engine/IntIntMap" "stride" "I" v_stride ∧ Fld Z h a "com/example/weir/weir/engine/IntIntMap" "entries" "[I" v_entries ∧ Fld Z h a "com/example/weir/weir/engine/IntIntMap" "slots" "I" v_slots ∧ Fld Z h a "com/example/weir/weir/engine/IntIntMap" "objects" "[Ljava/lang/Object;" v_objects ∧ Fld Z h a "com/example/weir/weir/engine/IntIntMap" "greatestKey" "I" v_greatestKey ∧ Fld Z h a "com/example/weir/weir/engine/IntIntMap" "values" "[I" v_values ∧ Fld Z h a "com/example/weir/weir/engine/IntIntMap" "size" "I" v_size ∧ Fld Z h a "com/example/weir/weir/engine/IntIntMap" "keys" "I" v_keys
theorem IsMap.exa {Z : State} {h : Heap} {a : Addr} {v_width v_stride v_entries v_slots v_objects v_greatestKey v_values v_size v_keys : Value} (O : IsMap Z h a v_width v_stride v_entries v_slots v_objects v_greatestKey v_values v_size v_keys) : Exa Z h a "com/example/weir/weir/engine/IntIntMap" := O.1
theorem IsMap.lt {Z : State} {h : Heap} {a : Addr} {v_width v_stride v_entries v_slots v_objects v_greatestKey v_values v_size v_keys : Value} (O : IsMap Z h a v_width v_stride v_entries v_slots v_objects v_greatestKey v_values v_size v_keys) : a < h.size := (IsMap.exa O).lt
theorem IsMap.f_width {Z : State} {h : Heap} {a : Addr} {v_width v_stride v_entries v_slots v_objects v_greatestKey v_values v_size v_keys : Value} (O : IsMap Z h a v_width v_stride v_entries v_slots v_objects v_greatestKey v_values v_size v_keys) : Fld Z h a "com/example/weir/weir/engine/IntIntMap" "width" "I" v_width := O.2.1
theorem IsMap.f_stride {Z : State} {h : Heap} {a : Addr} {v_width v_stride v_entries v_slots v_objects v_greatestKey v_values v_size v_keys : Value} (O : IsMap Z h a v_width v_stride v_entries v_slots v_objects v_greatestKey v_values v_size v_keys) : Fld Z h a "com/example/weir/weir/engine/IntIntMap" "stride" "I" v_stride := O.2.2.1
theorem IsMap.f_entries {Z : State} {h : Heap} {a : Addr} {v_width v_stride v_entries v_slots v_objects v_greatestKey v_values v_size v_keys : Value} (O : IsMap Z h a v_width v_stride v_entries v_slots v_objects v_greatestKey v_values v_size v_keys) : Fld Z h a "com/example/weir/weir/engine/IntIntMap" "entries" "[I" v_entries := O.2.2.2.1
theorem IsMap.f_slots {Z : State} {h : Heap} {a : Addr} {v_width v_stride v_entries v_slots v_objects v_greatestKey v_values v_size v_keys : Value} (O : IsMap Z h a v_width v_stride v_entries v_slots v_objects v_greatestKey v_values v_size v_keys) : Fld Z h a "com/example/weir/weir/engine/IntIntMap" "slots" "I" v_slots := O.2.2.2.2.1
theorem IsMap.f_objects {Z : State} {h : Heap} {a : Addr} {v_width v_stride v_entries v_slots v_objects v_greatestKey v_values v_size v_keys : Value} (O : IsMap Z h a v_width v_stride v_entries v_slots v_objects v_greatestKey v_values v_size v_keys) : Fld Z h a "com/example/weir/weir/engine/IntIntMap" "objects" "[Ljava/lang/Object;" v_objects := O.2.2.2.2.2.1
theorem IsMap.f_greatestKey {Z : State} {h : Heap} {a : Addr} {v_width v_stride v_entries v_slots v_objects v_greatestKey v_values v_size v_keys : Value} (O : IsMap Z h a v_width v_stride v_entries v_slots v_objects v_greatestKey v_values v_size v_keys) : Fld Z h a "com/example/weir/weir/engine/IntIntMap" "greatestKey" "I" v_greatestKey := O.2.2.2.2.2.2.1
theorem IsMap.f_values {Z : State} {h : Heap} {a : Addr} {v_width v_stride v_entries v_slots v_objects v_greatestKey v_values v_size v_keys : Value} (O : IsMap Z h a v_width v_stride v_entries v_slots v_objects v_greatestKey v_values v_size v_keys) : Fld Z h a "com/example/weir/weir/engine/IntIntMap" "values" "[I" v_values := O.2.2.2.2.2.2.2.1
theorem IsMap.f_size {Z : State} {h : Heap} {a : Addr} {v_width v_stride v_entries v_slots v_objects v_greatestKey v_values v_size v_keys : Value} (O : IsMap Z h a v_width v_stride v_entries v_slots v_objects v_greatestKey v_values v_size v_keys) : Fld Z h a "com/example/weir/weir/engine/IntIntMap" "size" "I" v_size := O.2.2.2.2.2.2.2.2.1
theorem IsMap.f_keys {Z : State} {h : Heap} {a : Addr} {v_width v_stride v_entries v_slots v_objects v_greatestKey v_values v_size v_keys : Value} (O : IsMap Z h a v_width v_stride v_entries v_slots v_objects v_greatestKey v_values v_size v_keys) : Fld Z h a "com/example/weir/weir/engine/IntIntMap" "keys" "I" v_keys := O.2.2.2.2.2.2.2.2.2
theorem IsMap.ext {Z : State} {h h' : Heap} {a : Addr} {v_width v_stride v_entries v_slots v_objects v_greatestKey v_values v_size v_keys : Value} (E : Ext h h') (O : IsMap Z h a v_width v_stride v_entries v_slots v_objects v_greatestKey v_values v_size v_keys) : IsMap Z h' a v_width v_stride v_entries v_slots v_objects v_greatestKey v_values v_size v_keys := ⟨(O.1).ext E, (O.2.1).ext E, (O.2.2.1).ext E, (O.2.2.2.1).ext E, (O.2.2.2.2.1).ext E, (O.2.2.2.2.2.1).ext E, (O.2.2.2.2.2.2.1).ext E, (O.2.2.2.2.2.2.2.1).ext E, (O.2.2.2.2.2.2.2.2.1).ext E, (O.2.2.2.2.2.2.2.2.2).ext E⟩
theorem IsMap.keep {Z : State} {h h' : Heap} {a : Addr} {v_width v_stride v_entries v_slots v_objects v_greatestKey v_values v_size v_keys : Value} {ws : List Addr} (K : Keep h h' ws) (O : IsMap Z h a v_width v_stride v_entries v_slots v_objects v_greatestKey v_values v_size v_keys) (q : a ∉ ws) : IsMap Z h' a v_width v_stride v_entries v_slots v_objects v_greatestKey v_values v_size v_keys := ⟨(O.1).keep K, (O.2.1).keep K q, (O.2.2.1).keep K q, (O.2.2.2.1).keep K q, (O.2.2.2.2.1).keep K q, (O.2.2.2.2.2.1).keep K q, (O.2.2.2.2.2.2.1).keep K q, (O.2.2.2.2.2.2.2.1).keep K q, (O.2.2.2.2.2.2.2.2.1).keep K q, (O.2.2.2.2.2.2.2.2.2).keep K q⟩
theorem IsMap.other {Z : State} {h h' : Heap} {a b : Addr} {v_width v_stride v_entries v_slots v_objects v_greatestKey v_values v_size v_keys : Value} {sl : Nat} {v : Value} (W : Wr h h' b sl v) (O : IsMap Z h a v_width v_stride v_entries v_slots v_objects v_greatestKey v_values v_size v_keys) (q : a ≠ b) : IsMap Z h' a v_width v_stride v_entries v_slots v_objects v_greatestKey v_values v_size v_keys := ⟨(O.1).wr W, (O.2.1).other W (Or.inl q), (O.2.2.1).other W (Or.inl q), (O.2.2.2.1).other W (Or.inl q), (O.2.2.2.2.1).other W (Or.inl q), (O.2.2.2.2.2.1).other W (Or.inl q), (O.2.2.2.2.2.2.1).other W (Or.inl q), (O.2.2.2.2.2.2.2.1).other W (Or.inl q), (O.2.2.2.2.2.2.2.2.1).other W (Or.inl q), (O.2.2.2.2.2.2.2.2.2).other W (Or.inl q)⟩
theorem IsMap.s_width {Z : State} {h h' : Heap} {a : Addr} {v_width v_stride v_entries v_slots v_objects v_greatestKey v_values v_size v_keys : Value} {v : Value} {a0 : Array Value} (hw : ∀ d ∈ tables_1, d.before a0 Z = true) (W : Wr h h' a (RoadKit.slotOf Z "com/example/weir/weir/engine/IntIntMap" "width" "I") v) (O : IsMap Z h a v_width v_stride v_entries v_slots v_objects v_greatestKey v_values v_size v_keys) : IsMap Z h' a v v_stride v_entries v_slots v_objects v_greatestKey v_values v_size v_keys := ⟨(O.1).wr W, (O.2.1).same W, (O.2.2.1).other W (Or.inr (slot_ne (a0 := a0) (C := "com/example/weir/weir/engine/IntIntMap") (Or.inr (w_65 hw)) (Or.inr (w_63 hw)) (by decide) (t := .int) (t' := .int) (by decide) (by decide))), (O.2.2.2.1).other W (Or.inr (slot_ne (a0 := a0) (C := "com/example/weir/weir/engine/IntIntMap") (Or.inl (w_71 hw)) (Or.inr (w_63 hw)) (by decide) (t := (.array .int)) (t' := .int) (by decide) (by decide))), (O.2.2.2.2.1).other W (Or.inr (slot_ne (a0 := a0) (C := "com/example/weir/weir/engine/IntIntMap") (Or.inl (w_73 hw)) (Or.inr (w_63 hw)) (by decide) (t := .int) (t' := .int) (by decide) (by decide))), (O.2.2.2.2.2.1).other W (Or.inr (slot_ne (a0 := a0) (C := "com/example/weir/weir/engine/IntIntMap") (Or.inl (w_75 hw)) (Or.inr (w_63 hw)) (by decide) (t := (.array (.object "java/lang/Object"))) (t' := .int) (by decide) (by decide))), (O.2.2.2.2.2.2.1).other W (Or.inr (slot_ne (a0 := a0) (C := "com/example/weir/weir/engine/IntIntMap") (Or.inl (w_77 hw)) (Or.inr (w_63 hw)) (by decide) (t := .int) (t' := .int) (by decide) (by decide))), (O.2.2.2.2.2.2.2.1).other W (Or.inr (slot_ne (a0 := a0) (C := "com/example/weir/weir/engine/IntIntMap") (Or.inl (w_150 hw)) (Or.inr (w_63 hw)) (by decide) (t := (.array .int)) (t' := .int) (by decide) (by decide))), (O.2.2.2.2.2.2.2.2.1).other W (Or.inr (slot_ne (a0 := a0) (C := "com/example/weir/weir/engine/IntIntMap") (Or.inl (w_166 hw)) (Or.inr (w_63 hw)) (by decide) (t := .int) (t' := .int) (by decide) (by decide))), (O.2.2.2.2.2.2.2.2.2).other W (Or.inr (slot_ne (a0 := a0) (C := "com/example/weir/weir/engine/IntIntMap") (Or.inl (w_173 hw)) (Or.inr (w_63 hw)) (by decide) (t := .int) (t' := .int) (by decide) (by decide)))⟩
theorem IsMap.s_stride {Z : State} {h h' : Heap} {a : Addr} {v_width v_stride v_entries v_slots v_objects v_greatestKey v_values v_size v_keys : Value} {v : Value} {a0 : Array Value} (hw : ∀ d ∈ tables_1, d.before a0 Z = true) (W : Wr h h' a (RoadKit.slotOf Z "com/example/weir/weir/engine/IntIntMap" "stride" "I") v) (O : IsMap Z h a v_width v_stride v_entries v_slots v_objects v_greatestKey v_values v_size v_keys) : IsMap Z h' a v_width v v_entries v_slots v_objects v_greatestKey v_values v_size v_keys := ⟨(O.1).wr W, (O.2.1).other W (Or.inr (slot_ne (a0 := a0) (C := "com/example/weir/weir/engine/IntIntMap") (Or.inr (w_63 hw)) (Or.inr (w_65 hw)) (by decide) (t := .int) (t' := .int) (by decide) (by decide))), (O.2.2.1).same W, (O.2.2.2.1).other W (Or.inr (slot_ne (a0 := a0) (C := "com/example/weir/weir/engine/IntIntMap") (Or.inl (w_71 hw)) (Or.inr (w_65 hw)) (by decide) (t := (.array .int)) (t' := .int) (by decide) (by decide))), (O.2.2.2.2.1).other W (Or.inr (slot_ne (a0 := a0) (C := "com/example/weir/weir/engine/IntIntMap") (Or.inl (w_73 hw)) (Or.inr (w_65 hw)) (by decide) (t := .int) (t' := .int) (by decide) (by decide))), (O.2.2.2.2.2.1).other W (Or.inr (slot_ne (a0 := a0) (C := "com/example/weir/weir/engine/IntIntMap") (Or.inl (w_75 hw)) (Or.inr (w_65 hw)) (by decide) (t := (.array (.object "java/lang/Object"))) (t' := .int) (by decide) (by decide))), (O.2.2.2.2.2.2.1).other W (Or.inr (slot_ne (a0 := a0) (C := "com/example/weir/weir/engine/IntIntMap") (Or.inl (w_77 hw)) (Or.inr (w_65 hw)) (by decide) (t := .int) (t' := .int) (by decide) (by decide))), (O.2.2.2.2.2.2.2.1).other W (Or.inr (slot_ne (a0 := a0) (C := "com/example/weir/weir/engine/IntIntMap") (Or.inl (w_150 hw)) (Or.inr (w_65 hw)) (by decide) (t := (.array .int)) (t' := .int) (by decide) (by decide))), (O.2.2.2.2.2.2.2.2.1).other W (Or.inr (slot_ne (a0 := a0) (C := "com/example/weir/weir/engine/IntIntMap") (Or.inl (w_166 hw)) (Or.inr (w_65 hw)) (by decide) (t := .int) (t' := .int) (by decide) (by decide))), (O.2.2.2.2.2.2.2.2.2).other W (Or.inr (slot_ne (a0 := a0) (C := "com/example/weir/weir/engine/IntIntMap") (Or.inl (w_173 hw)) (Or.inr (w_65 hw)) (by decide) (t := .int) (t' := .int) (by decide) (by decide)))⟩
theorem IsMap.s_entries {Z : State} {h h' : Heap} {a : Addr} {v_width v_stride v_entries v_slots v_objects v_greatestKey v_values v_size v_keys : Value} {v : Value} {a0 : Array Value} (hw : ∀ d ∈ tables_1, d.before a0 Z = true) (W : Wr h h' a (RoadKit.slotOf Z "com/example/weir/weir/engine/IntIntMap" "entries" "[I") v) (O : IsMap Z h a v_width v_stride v_entries v_slots v_objects v_greatestKey v_values v_size v_keys) : IsMap Z h' a v_width v_stride v v_slots v_objects v_greatestKey v_values v_size v_keys := ⟨(O.1).wr W, (O.2.1).other W (Or.inr (slot_ne (a0 := a0) (C := "com/example/weir/weir/engine/IntIntMap") (Or.inr (w_63 hw)) (Or.inl (w_71 hw)) (by decide) (t := .int) (t' := (.array .int)) (by decide) (by decide))), (O.2.2.1).other W (Or.inr (slot_ne (a0 := a0) (C := "com/example/weir/weir/engine/IntIntMap") (Or.inr (w_65 hw)) (Or.inl (w_71 hw)) (by decide) (t := .int) (t' := (.array .int)) (by decide) (by decide))), (O.2.2.2.1).same W, (O.2.2.2.2.1).other W (Or.inr (slot_ne (a0 := a0) (C := "com/example/weir/weir/engine/IntIntMap") (Or.inl (w_73 hw)) (Or.inl (w_71 hw)) (by decide) (t := .int) (t' := (.array .int)) (by decide) (by decide))), (O.2.2.2.2.2.1).other W (Or.inr (slot_ne (a0 := a0) (C := "com/example/weir/weir/engine/IntIntMap") (Or.inl (w_75 hw)) (Or.inl (w_71 hw)) (by decide) (t := (.array (.object "java/lang/Object"))) (t' := (.array .int)) (by decide) (by decide))), (O.2.2.2.2.2.2.1).other W (Or.inr (slot_ne (a0 := a0) (C := "com/example/weir/weir/engine/IntIntMap") (Or.inl (w_77 hw)) (Or.inl (w_71 hw)) (by decide) (t := .int) (t' := (.array .int)) (by decide) (by decide))), (O.2.2.2.2.2.2.2.1).other W (Or.inr (slot_ne (a0 := a0) (C := "com/example/weir/weir/engine/IntIntMap") (Or.inl (w_150 hw)) (Or.inl (w_71 hw)) (by decide) (t := (.array .int)) (t' := (.array .int)) (by decide) (by decide))), (O.2.2.2.2.2.2.2.2.1).other W (Or.inr (slot_ne (a0 := a0) (C := "com/example/weir/weir/engine/IntIntMap") (Or.inl (w_166 hw)) (Or.inl (w_71 hw)) (by decide) (t := .int) (t' := (.array .int)) (by decide) (by decide))), (O.2.2.2.2.2.2.2.2.2).other W (Or.inr (slot_ne (a0 := a0) (C := "com/example/weir/weir/engine/IntIntMap") (Or.inl (w_173 hw)) (Or.inl (w_71 hw)) (by decide) (t := .int) (t' := (.array .int)) (by decide) (by decide)))⟩
theorem IsMap.s_slots {Z : State} {h h' : Heap} {a : Addr} {v_width v_stride v_entries v_slots v_objects v_greatestKey v_values v_size v_keys : Value} {v : Value} {a0 : Array Value} (hw : ∀ d ∈ tables_1, d.before a0 Z = true) (W : Wr h h' a (RoadKit.slotOf Z "com/example/weir/weir/engine/IntIntMap" "slots" "I") v) (O : IsMap Z h a v_width v_stride v_entries v_slots v_objects v_greatestKey v_values v_size v_keys) : IsMap Z h' a v_width v_stride v_entries v v_objects v_greatestKey v_values v_size v_keys := ⟨(O.1).wr W, (O.2.1).other W (Or.inr (slot_ne (a0 := a0) (C := "com/example/weir/weir/engine/IntIntMap") (Or.inr (w_63 hw)) (Or.inl (w_73 hw)) (by decide) (t := .int) (t' := .int) (by decide) (by decide))), (O.2.2.1).other W (Or.inr (slot_ne (a0 := a0) (C := "com/example/weir/weir/engine/IntIntMap") (Or.inr (w_65 hw)) (Or.inl (w_73 hw)) (by decide) (t := .int) (t' := .int) (by decide) (by decide))), (O.2.2.2.1).other W (Or.inr (slot_ne (a0 := a0) (C := "com/example/weir/weir/engine/IntIntMap") (Or.inl (w_71 hw)) (Or.inl (w_73 hw)) (by decide) (t := (.array .int)) (t' := .int) (by decide) (by decide))), (O.2.2.2.2.1).same W, (O.2.2.2.2.2.1).other W (Or.inr (slot_ne (a0 := a0) (C := "com/example/weir/weir/engine/IntIntMap") (Or.inl (w_75 hw)) (Or.inl (w_73 hw)) (by decide) (t := (.array (.object "java/lang/Object"))) (t' := .int) (by decide) (by decide))), (O.2.2.2.2.2.2.1).other W (Or.inr (slot_ne (a0 := a0) (C := "com/example/weir/weir/engine/IntIntMap") (Or.inl (w_77 hw)) (Or.inl (w_73 hw)) (by decide) (t := .int) (t' := .int) (by decide) (by decide))), (O.2.2.2.2.2.2.2.1).other W (Or.inr (slot_ne (a0 := a0) (C := "com/example/weir/weir/engine/IntIntMap") (Or.inl (w_150 hw)) (Or.inl (w_73 hw)) (by decide) (t := (.array .int)) (t' := .int) (by decide) (by decide))), (O.2.2.2.2.2.2.2.2.1).other W (Or.inr (slot_ne (a0 := a0) (C := "com/example/weir/weir/engine/IntIntMap") (Or.inl (w_166 hw)) (Or.inl (w_73 hw)) (by decide) (t := .int) (t' := .int) (by decide) (by decide))), (O.2.2.2.2.2.2.2.2.2).other W (Or.inr (slot_ne (a0 := a0) (C := "com/example/weir/weir/engine/IntIntMap") (Or.inl (w_173 hw)) (Or.inl (w_73 hw)) (by decide) (t := .int) (t' := .int) (by decide) (by decide)))⟩
theorem IsMap.s_objects {Z : State} {h h' : Heap} {a : Addr} {v_width v_stride v_entries v_slots v_objects v_greatestKey v_values v_size v_keys : Value} {v : Value} {a0 : Array Value} (hw : ∀ d ∈ tables_1, d.before a0 Z = true) (W : Wr h h' a (RoadKit.slotOf Z "com/example/weir/weir/engine/IntIntMap" "objects" "[Ljava/lang/Object;") v) (O : IsMap Z h a v_width v_stride v_entries v_slots v_objects v_greatestKey v_values v_size v_keys) : IsMap Z h' a v_width v_stride v_entries v_slots v v_greatestKey v_values v_size v_keys := ⟨(O.1).wr W, (O.2.1).other W (Or.inr (slot_ne (a0 := a0) (C := "com/example/weir/weir/engine/IntIntMap") (Or.inr (w_63 hw)) (Or.inl (w_75 hw)) (by decide) (t := .int) (t' := (.array (.object "java/lang/Object"))) (by decide) (by decide))), (O.2.2.1).other W (Or.inr (slot_ne (a0 := a0) (C := "com/example/weir/weir/engine/IntIntMap") (Or.inr (w_65 hw)) (Or.inl (w_75 hw)) (by decide) (t := .int) (t' := (.array (.object "java/lang/Object"))) (by decide) (by decide))), (O.2.2.2.1).other W (Or.inr (slot_ne (a0 := a0) (C := "com/example/weir/weir/engine/IntIntMap") (Or.inl (w_71 hw)) (Or.inl (w_75 hw)) (by decide) (t := (.array .int)) (t' := (.array (.object "java/lang/Object"))) (by decide) (by decide))), (O.2.2.2.2.1).other W (Or.inr (slot_ne (a0 := a0) (C := "com/example/weir/weir/engine/IntIntMap") (Or.inl (w_73 hw)) (Or.inl (w_75 hw)) (by decide) (t := .int) (t' := (.array (.object "java/lang/Object"))) (by decide) (by decide))), (O.2.2.2.2.2.1).same W, (O.2.2.2.2.2.2.1).other W (Or.inr (slot_ne (a0 := a0) (C := "com/example/weir/weir/engine/IntIntMap") (Or.inl (w_77 hw)) (Or.inl (w_75 hw)) (by decide) (t := .int) (t' := (.array (.object "java/lang/Object"))) (by decide) (by decide))), (O.2.2.2.2.2.2.2.1).other W (Or.inr (slot_ne (a0 := a0) (C := "com/example/weir/weir/engine/IntIntMap") (Or.inl (w_150 hw)) (Or.inl (w_75 hw)) (by decide) (t := (.array .int)) (t' := (.array (.object "java/lang/Object"))) (by decide) (by decide))), (O.2.2.2.2.2.2.2.2.1).other W (Or.inr (slot_ne (a0 := a0) (C := "com/example/weir/weir/engine/IntIntMap") (Or.inl (w_166 hw)) (Or.inl (w_75 hw)) (by decide) (t := .int) (t' := (.array (.object "java/lang/Object"))) (by decide) (by decide))), (O.2.2.2.2.2.2.2.2.2).other W (Or.inr (slot_ne (a0 := a0) (C := "com/example/weir/weir/engine/IntIntMap") (Or.inl (w_173 hw)) (Or.inl (w_75 hw)) (by decide) (t := .int) (t' := (.array (.object "java/lang/Object"))) (by decide) (by decide)))⟩
theorem IsMap.s_greatestKey {Z : State} {h h' : Heap} {a : Addr} {v_width v_stride v_entries v_slots v_objects v_greatestKey v_values v_size v_keys : Value} {v : Value} {a0 : Array Value} (hw : ∀ d ∈ tables_1, d.before a0 Z = true) (W : Wr h h' a (RoadKit.slotOf Z "com/example/weir/weir/engine/IntIntMap" "greatestKey" "I") v) (O : IsMap Z h a v_width v_stride v_entries v_slots v_objects v_greatestKey v_values v_size v_keys) : IsMap Z h' a v_width v_stride v_entries v_slots v_objects v v_values v_size v_keys := ⟨(O.1).wr W, (O.2.1).other W (Or.inr (slot_ne (a0 := a0) (C := "com/example/weir/weir/engine/IntIntMap") (Or.inr (w_63 hw)) (Or.inl (w_77 hw)) (by decide) (t := .int) (t' := .int) (by decide) (by decide))), (O.2.2.1).other W (Or.inr (slot_ne (a0 := a0) (C := "com/example/weir/weir/engine/IntIntMap") (Or.inr (w_65 hw)) (Or.inl (w_77 hw)) (by decide) (t := .int) (t' := .int) (by decide) (by decide))), (O.2.2.2.1).other W (Or.inr (slot_ne (a0 := a0) (C := "com/example/weir/weir/engine/IntIntMap") (Or.inl (w_71 hw)) (Or.inl (w_77 hw)) (by decide) (t := (.array .int)) (t' := .int) (by decide) (by decide))), (O.2.2.2.2.1).other W (Or.inr (slot_ne (a0 := a0) (C := "com/example/weir/weir/engine/IntIntMap") (Or.inl (w_73 hw)) (Or.inl (w_77 hw)) (by decide) (t := .int) (t' := .int) (by decide) (by decide))), (O.2.2.2.2.2.1).other W (Or.inr (slot_ne (a0 := a0) (C := "com/example/weir/weir/engine/IntIntMap") (Or.inl (w_75 hw)) (Or.inl (w_77 hw)) (by decide) (t := (.array (.object "java/lang/Object"))) (t' := .int) (by decide) (by decide))), (O.2.2.2.2.2.2.1).same W, (O.2.2.2.2.2.2.2.1).other W (Or.inr (slot_ne (a0 := a0) (C := "com/example/weir/weir/engine/IntIntMap") (Or.inl (w_150 hw)) (Or.inl (w_77 hw)) (by decide) (t := (.array .int)) (t' := .int) (by decide) (by decide))), (O.2.2.2.2.2.2.2.2.1).other W (Or.inr (slot_ne (a0 := a0) (C := "com/example/weir/weir/engine/IntIntMap") (Or.inl (w_166 hw)) (Or.inl (w_77 hw)) (by decide) (t := .int) (t' := .int) (by decide) (by decide))), (O.2.2.2.2.2.2.2.2.2).other W (Or.inr (slot_ne (a0 := a0) (C := "com/example/weir/weir/engine/IntIntMap") (Or.inl (w_173 hw)) (Or.inl (w_77 hw)) (by decide) (t := .int) (t' := .int) (by decide) (by decide)))⟩
theorem IsMap.s_values {Z : State} {h h' : Heap} {a : Addr} {v_width v_stride v_entries v_slots v_objects v_greatestKey v_values v_size v_keys : Value} {v : Value} {a0 : Array Value} (hw : ∀ d ∈ tables_1, d.before a0 Z = true) (W : Wr h h' a (RoadKit.slotOf Z "com/example/weir/weir/engine/IntIntMap" "values" "[I") v) (O : IsMap Z h a v_width v_stride v_entries v_slots v_objects v_greatestKey v_values v_size v_keys) : IsMap Z h' a v_width v_stride v_entries v_slots v_objects v_greatestKey v v_size v_keys := ⟨(O.1).wr W, (O.2.1).other W (Or.inr (slot_ne (a0 := a0) (C := "com/example/weir/weir/engine/IntIntMap") (Or.inr (w_63 hw)) (Or.inl (w_150 hw)) (by decide) (t := .int) (t' := (.array .int)) (by decide) (by decide))), (O.2.2.1).other W (Or.inr (slot_ne (a0 := a0) (C := "com/example/weir/weir/engine/IntIntMap") (Or.inr (w_65 hw)) (Or.inl (w_150 hw)) (by decide) (t := .int) (t' := (.array .int)) (by decide) (by decide))), (O.2.2.2.1).other W (Or.inr (slot_ne (a0 := a0) (C := "com/example/weir/weir/engine/IntIntMap") (Or.inl (w_71 hw)) (Or.inl (w_150 hw)) (by decide) (t := (.array .int)) (t' := (.array .int)) (by decide) (by decide))), (O.2.2.2.2.1).other W (Or.inr (slot_ne (a0 := a0) (C := "com/example/weir/weir/engine/IntIntMap") (Or.inl (w_73 hw)) (Or.inl (w_150 hw)) (by decide) (t := .int) (t' := (.array .int)) (by decide) (by decide))), (O.2.2.2.2.2.1).other W (Or.inr (slot_ne (a0 := a0) (C := "com/example/weir/weir/engine/IntIntMap") (Or.inl (w_75 hw)) (Or.inl (w_150 hw)) (by decide) (t := (.array (.object "java/lang/Object"))) (t' := (.array .int)) (by decide) (by decide))), (O.2.2.2.2.2.2.1).other W (Or.inr (slot_ne (a0 := a0) (C := "com/example/weir/weir/engine/IntIntMap") (Or.inl (w_77 hw)) (Or.inl (w_150 hw)) (by decide) (t := .int) (t' := (.array .int)) (by decide) (by decide))), (O.2.2.2.2.2.2.2.1).same W, (O.2.2.2.2.2.2.2.2.1).other W (Or.inr (slot_ne (a0 := a0) (C := "com/example/weir/weir/engine/IntIntMap") (Or.inl (w_166 hw)) (Or.inl (w_150 hw)) (by decide) (t := .int) (t' := (.array .int)) (by decide) (by decide))), (O.2.2.2.2.2.2.2.2.2).other W (Or.inr (slot_ne (a0 := a0) (C := "com/example/weir/weir/engine/IntIntMap") (Or.inl (w_173 hw)) (Or.inl (w_150 hw)) (by decide) (t := .int) (t' := (.array .int)) (by decide) (by decide)))⟩
theorem IsMap.s_size {Z : State} {h h' : Heap} {a : Addr} {v_width v_stride v_entries v_slots v_objects v_greatestKey v_values v_size v_keys : Value} {v : Value} {a0 : Array Value} (hw : ∀ d ∈ tables_1, d.before a0 Z = true) (W : Wr h h' a (RoadKit.slotOf Z "com/example/weir/weir/engine/IntIntMap" "size" "I") v) (O : IsMap Z h a v_width v_stride v_entries v_slots v_objects v_greatestKey v_values v_size v_keys) : IsMap Z h' a v_width v_stride v_entries v_slots v_objects v_greatestKey v_values v v_keys := ⟨(O.1).wr W, (O.2.1).other W (Or.inr (slot_ne (a0 := a0) (C := "com/example/weir/weir/engine/IntIntMap") (Or.inr (w_63 hw)) (Or.inl (w_166 hw)) (by decide) (t := .int) (t' := .int) (by decide) (by decide))), (O.2.2.1).other W (Or.inr (slot_ne (a0 := a0) (C := "com/example/weir/weir/engine/IntIntMap") (Or.inr (w_65 hw)) (Or.inl (w_166 hw)) (by decide) (t := .int) (t' := .int) (by decide) (by decide))), (O.2.2.2.1).other W (Or.inr (slot_ne (a0 := a0) (C := "com/example/weir/weir/engine/IntIntMap") (Or.inl (w_71 hw)) (Or.inl (w_166 hw)) (by decide) (t := (.array .int)) (t' := .int) (by decide) (by decide))), (O.2.2.2.2.1).other W (Or.inr (slot_ne (a0 := a0) (C := "com/example/weir/weir/engine/IntIntMap") (Or.inl (w_73 hw)) (Or.inl (w_166 hw)) (by decide) (t := .int) (t' := .int) (by decide) (by decide))), (O.2.2.2.2.2.1).other W (Or.inr (slot_ne (a0 := a0) (C := "com/example/weir/weir/engine/IntIntMap") (Or.inl (w_75 hw)) (Or.inl (w_166 hw)) (by decide) (t := (.array (.object "java/lang/Object"))) (t' := .int) (by decide) (by decide))), (O.2.2.2.2.2.2.1).other W (Or.inr (slot_ne (a0 := a0) (C := "com/example/weir/weir/engine/IntIntMap") (Or.inl (w_77 hw)) (Or.inl (w_166 hw)) (by decide) (t := .int) (t' := .int) (by decide) (by decide))), (O.2.2.2.2.2.2.2.1).other W (Or.inr (slot_ne (a0 := a0) (C := "com/example/weir/weir/engine/IntIntMap") (Or.inl (w_150 hw)) (Or.inl (w_166 hw)) (by decide) (t := (.array .int)) (t' := .int) (by decide) (by decide))), (O.2.2.2.2.2.2.2.2.1).same W, (O.2.2.2.2.2.2.2.2.2).other W (Or.inr (slot_ne (a0 := a0) (C := "com/example/weir/weir/engine/IntIntMap") (Or.inl (w_173 hw)) (Or.inl (w_166 hw)) (by decide) (t := .int) (t' := .int) (by decide) (by decide)))⟩
theorem IsMap.s_keys {Z : State} {h h' : Heap} {a : Addr} {v_width v_stride v_entries v_slots v_objects v_greatestKey v_values v_size v_keys : Value} {v : Value} {a0 : Array Value} (hw : ∀ d ∈ tables_1, d.before a0 Z = true) (W : Wr h h' a (RoadKit.slotOf Z "com/example/weir/weir/engine/IntIntMap" "keys" "I") v) (O : IsMap Z h a v_width v_stride v_entries v_slots v_objects v_greatestKey v_values v_size v_keys) : IsMap Z h' a v_width v_stride v_entries v_slots v_objects v_greatestKey v_values v_size v := ⟨(O.1).wr W, (O.2.1).other W (Or.inr (slot_ne (a0 := a0) (C := "com/example/weir/weir/engine/IntIntMap") (Or.inr (w_63 hw)) (Or.inl (w_173 hw)) (by decide) (t := .int) (t' := .int) (by decide) (by decide))), (O.2.2.1).other W (Or.inr (slot_ne (a0 := a0) (C := "com/example/weir/weir/engine/IntIntMap") (Or.inr (w_65 hw)) (Or.inl (w_173 hw)) (by decide) (t := .int) (t' := .int) (by decide) (by decide))), (O.2.2.2.1).other W (Or.inr (slot_ne (a0 := a0) (C := "com/example/weir/weir/engine/IntIntMap") (Or.inl (w_71 hw)) (Or.inl (w_173 hw)) (by decide) (t := (.array .int)) (t' := .int) (by decide) (by decide))), (O.2.2.2.2.1).other W (Or.inr (slot_ne (a0 := a0) (C := "com/example/weir/weir/engine/IntIntMap") (Or.inl (w_73 hw)) (Or.inl (w_173 hw)) (by decide) (t := .int) (t' := .int) (by decide) (by decide))), (O.2.2.2.2.2.1).other W (Or.inr (slot_ne (a0 := a0) (C := "com/example/weir/weir/engine/IntIntMap") (Or.inl (w_75 hw)) (Or.inl (w_173 hw)) (by decide) (t := (.array (.object "java/lang/Object"))) (t' := .int) (by decide) (by decide))), (O.2.2.2.2.2.2.1).other W (Or.inr (slot_ne (a0 := a0) (C := "com/example/weir/weir/engine/IntIntMap") (Or.inl (w_77 hw)) (Or.inl (w_173 hw)) (by decide) (t := .int) (t' := .int) (by decide) (by decide))), (O.2.2.2.2.2.2.2.1).other W (Or.inr (slot_ne (a0 := a0) (C := "com/example/weir/weir/engine/IntIntMap") (Or.inl (w_150 hw)) (Or.inl (w_173 hw)) (by decide) (t := (.array .int)) (t' := .int) (by decide) (by decide))), (O.2.2.2.2.2.2.2.2.1).other W (Or.inr (slot_ne (a0 := a0) (C := "com/example/weir/weir/engine/IntIntMap") (Or.inl (w_166 hw)) (Or.inl (w_173 hw)) (by decide) (t := .int) (t' := .int) (by decide) (by decide))), (O.2.2.2.2.2.2.2.2.2).same W⟩
/-- an object of class com/example/weir/weir/engine/SubjectIndex, and what its fields hold -/
def IsSI (Z : State) (h : Heap) (a : Addr) (v_subjects v_next v_terms : Value) : Prop := Exa Z h a "com/example/weir/weir/engine/SubjectIndex" ∧ Fld Z h a "com/example/weir/weir/engine/SubjectIndex" "subjects" "Lcom/example/weir/weir/engine/IntIntMap;" v_subjects ∧ Fld Z h a "com/example/weir/weir/engine/SubjectIndex" "next" "[I" v_next ∧ Fld Z h a "com/example/weir/weir/engine/SubjectIndex" "terms" "Lcom/example/weir/weir/engine/SubjectIndex$Terms;" v_terms
theorem IsSI.exa {Z : State} {h : Heap} {a : Addr} {v_subjects v_next v_terms : Value} (O : IsSI Z h a v_subjects v_next v_terms) : Exa Z h a "com/example/weir/weir/engine/SubjectIndex" := O.1
theorem IsSI.lt {Z : State} {h : Heap} {a : Addr} {v_subjects v_next v_terms : Value} (O : IsSI Z h a v_subjects v_next v_terms) : a < h.size := (IsSI.exa O).lt
theorem IsSI.f_subjects {Z : State} {h : Heap} {a : Addr} {v_subjects v_next v_terms : Value} (O : IsSI Z h a v_subjects v_next v_terms) : Fld Z h a "com/example/weir/weir/engine/SubjectIndex" "subjects" "Lcom/example/weir/weir/engine/IntIntMap;" v_subjects := O.2.1
theorem IsSI.f_next {Z : State} {h : Heap} {a : Addr} {v_subjects v_next v_terms : Value} (O : IsSI Z h a v_subjects v_next v_terms) : Fld Z h a "com/example/weir/weir/engine/SubjectIndex" "next" "[I" v_next := O.2.2.1
theorem IsSI.f_terms {Z : State} {h : Heap} {a : Addr} {v_subjects v_next v_terms : Value} (O : IsSI Z h a v_subjects v_next v_terms) : Fld Z h a "com/example/weir/weir/engine/SubjectIndex" "terms" "Lcom/example/weir/weir/engine/SubjectIndex$Terms;" v_terms := O.2.2.2
theorem IsSI.ext {Z : State} {h h' : Heap} {a : Addr} {v_subjects v_next v_terms : Value} (E : Ext h h') (O : IsSI Z h a v_subjects v_next v_terms) : IsSI Z h' a v_subjects v_next v_terms := ⟨(O.1).ext E, (O.2.1).ext E, (O.2.2.1).ext E, (O.2.2.2).ext E⟩
theorem IsSI.keep {Z : State} {h h' : Heap} {a : Addr} {v_subjects v_next v_terms : Value} {ws : List Addr} (K : Keep h h' ws) (O : IsSI Z h a v_subjects v_next v_terms) (q : a ∉ ws) : IsSI Z h' a v_subjects v_next v_terms := ⟨(O.1).keep K, (O.2.1).keep K q, (O.2.2.1).keep K q, (O.2.2.2).keep K q⟩
theorem IsSI.other {Z : State} {h h' : Heap} {a b : Addr} {v_subjects v_next v_terms : Value} {sl : Nat} {v : Value} (W : Wr h h' b sl v) (O : IsSI Z h a v_subjects v_next v_terms) (q : a ≠ b) : IsSI Z h' a v_subjects v_next v_terms := ⟨(O.1).wr W, (O.2.1).other W (Or.inl q), (O.2.2.1).other W (Or.inl q), (O.2.2.2).other W (Or.inl q)⟩
theorem IsSI.s_subjects {Z : State} {h h' : Heap} {a : Addr} {v_subjects v_next v_terms : Value} {v : Value} {a0 : Array Value} (hw : ∀ d ∈ tables_1, d.before a0 Z = true) (W : Wr h h' a (RoadKit.slotOf Z "com/example/weir/weir/engine/SubjectIndex" "subjects" "Lcom/example/weir/weir/engine/IntIntMap;") v) (O : IsSI Z h a v_subjects v_next v_terms) : IsSI Z h' a v v_next v_terms := ⟨(O.1).wr W, (O.2.1).same W, (O.2.2.1).other W (Or.inr (slot_ne (a0 := a0) (C := "com/example/weir/weir/engine/SubjectIndex") (Or.inl (w_83 hw)) (Or.inr (w_79 hw)) (by decide) (t := (.array .int)) (t' := (.object "com/example/weir/weir/engine/IntIntMap")) (by decide) (by decide))), (O.2.2.2).other W (Or.inr (slot_ne (a0 := a0) (C := "com/example/weir/weir/engine/SubjectIndex") (Or.inr (w_85 hw)) (Or.inr (w_79 hw)) (by decide) (t := (.object "com/example/weir/weir/engine/SubjectIndex$Terms")) (t' := (.object "com/example/weir/weir/engine/IntIntMap")) (by decide) (by decide)))⟩
theorem IsSI.s_next {Z : State} {h h' : Heap} {a : Addr} {v_subjects v_next v_terms : Value} {v : Value} {a0 : Array Value} (hw : ∀ d ∈ tables_1, d.before a0 Z = true) (W : Wr h h' a (RoadKit.slotOf Z "com/example/weir/weir/engine/SubjectIndex" "next" "[I") v) (O : IsSI Z h a v_subjects v_next v_terms) : IsSI Z h' a v_subjects v v_terms := ⟨(O.1).wr W, (O.2.1).other W (Or.inr (slot_ne (a0 := a0) (C := "com/example/weir/weir/engine/SubjectIndex") (Or.inr (w_79 hw)) (Or.inl (w_83 hw)) (by decide) (t := (.object "com/example/weir/weir/engine/IntIntMap")) (t' := (.array .int)) (by decide) (by decide))), (O.2.2.1).same W, (O.2.2.2).other W (Or.inr (slot_ne (a0 := a0) (C := "com/example/weir/weir/engine/SubjectIndex") (Or.inr (w_85 hw)) (Or.inl (w_83 hw)) (by decide) (t := (.object "com/example/weir/weir/engine/SubjectIndex$Terms")) (t' := (.array .int)) (by decide) (by decide)))⟩
theorem IsSI.s_terms {Z : State} {h h' : Heap} {a : Addr} {v_subjects v_next v_terms : Value} {v : Value} {a0 : Array Value} (hw : ∀ d ∈ tables_1, d.before a0 Z = true) (W : Wr h h' a (RoadKit.slotOf Z "com/example/weir/weir/engine/SubjectIndex" "terms" "Lcom/example/weir/weir/engine/SubjectIndex$Terms;") v) (O : IsSI Z h a v_subjects v_next v_terms) : IsSI Z h' a v_subjects v_next v := ⟨(O.1).wr W, (O.2.1).other W (Or.inr (slot_ne (a0 := a0) (C := "com/example/weir/weir/engine/SubjectIndex") (Or.inr (w_79 hw)) (Or.inr (w_85 hw)) (by decide) (t := (.object "com/example/weir/weir/engine/IntIntMap")) (t' := (.object "com/example/weir/weir/engine/SubjectIndex$Terms")) (by decide) (by decide))), (O.2.2.1).other W (Or.inr (slot_ne (a0 := a0) (C := "com/example/weir/weir/engine/SubjectIndex") (Or.inl (w_83 hw)) (Or.inr (w_85 hw)) (by decide) (t := (.array .int)) (t' := (.object "com/example/weir/weir/engine/SubjectIndex$Terms")) (by decide) (by decide))), (O.2.2.2).same W⟩
/-- an object of class com/example/weir/weir/engine/TripleTable, and what its fields hold -/
def IsTb (Z : State) (h : Heap) (a : Addr) (v_terms v_numbers v_index v_ends v_size v_moves v_strata v_ending v_earliest : Value) : Prop := Exa Z h a "com/example/weir/weir/engine/TripleTable" ∧ Fld Z h a "com/example/weir/weir/engine/TripleTable" "terms" "[I" v_terms ∧ Fld Z h a "com/example/weir/weir/engine/TripleTable" "numbers" "Lcom/example/weir/weir/engine/Numbers;" v_numbers ∧ Fld Z h a "com/example/weir/weir/engine/TripleTable" "index" "Lcom/example/weir/weir/engine/SubjectIndex;" v_index ∧ Fld Z h a "com/example/weir/weir/engine/TripleTable" "ends" "[J" v_ends ∧ Fld Z h a "com/example/weir/weir/engine/TripleTable" "size" "I" v_size ∧ Fld Z h a "com/example/weir/weir/engine/TripleTable" "moves" "[I" v_moves ∧ Fld Z h a "com/example/weir/weir/engine/TripleTable" "strata" "[I" v_strata ∧ Fld Z h a "com/example/weir/weir/engine/TripleTable" "ending" "I" v_ending ∧ Fld Z h a "com/example/weir/weir/engine/TripleTable" "earliest" "I" v_earliest
theorem IsTb.exa {Z : State} {h : Heap} {a : Addr} {v_terms v_numbers v_index v_ends v_size v_moves v_strata v_ending v_earliest : Value} (O : IsTb Z h a v_terms v_numbers v_index v_ends v_size v_moves v_strata v_ending v_earliest) : Exa Z h a "com/example/weir/weir/engine/TripleTable" := O.1
theorem IsTb.lt {Z : State} {h : Heap} {a : Addr} {v_terms v_numbers v_index v_ends v_size v_moves v_strata v_ending v_earliest : Value} (O : IsTb Z h a v_terms v_numbers v_index v_ends v_size v_moves v_strata v_ending v_earliest) : a < h.size := (IsTb.exa O).lt
theorem IsTb.f_terms {Z : State} {h : Heap} {a : Addr} {v_terms v_numbers v_index v_ends v_size v_moves v_strata v_ending v_earliest : Value} (O : IsTb Z h a v_terms v_numbers v_index v_ends v_size v_moves v_strata v_ending v_earliest) : Fld Z h a "com/example/weir/weir/engine/TripleTable" "terms" "[I" v_terms := O.2.1
theorem IsTb.f_numbers {Z : State} {h : Heap} {a : Addr} {v_terms v_numbers v_index v_ends v_size v_moves v_strata v_ending v_earliest : Value} (O : IsTb Z h a v_terms v_numbers v_index v_ends v_size v_moves v_strata v_ending v_earliest) : Fld Z h a "com/example/weir/weir/engine/TripleTable" "numbers" "Lcom/example/weir/weir/engine/Numbers;" v_numbers := O.2.2.1
theorem IsTb.f_index {Z : State} {h : Heap} {a : Addr} {v_terms v_numbers v_index v_ends v_size v_moves v_strata v_ending v_earliest : Value} (O : IsTb Z h a v_terms v_numbers v_index v_ends v_size v_moves v_strata v_ending v_earliest) : Fld Z h a "com/example/weir/weir/engine/TripleTable" "index" "Lcom/example/weir/weir/engine/SubjectIndex;" v_index := O.2.2.2.1
theorem IsTb.f_ends {Z : State} {h : Heap} {a : Addr} {v_terms v_numbers v_index v_ends v_size v_moves v_strata v_ending v_earliest : Value} (O : IsTb Z h a v_terms v_numbers v_index v_ends v_size v_moves v_strata v_ending v_earliest) : Fld Z h a "com/example/weir/weir/engine/TripleTable" "ends" "[J" v_ends := O.2.2.2.2.1
theorem IsTb.f_size {Z : State} {h : Heap} {a : Addr} {v_terms v_numbers v_index v_ends v_size v_moves v_strata v_ending v_earliest : Value} (O : IsTb Z h a v_terms v_numbers v_index v_ends v_size v_moves v_strata v_ending v_earliest) : Fld Z h a "com/example/weir/weir/engine/TripleTable" "size" "I" v_size := O.2.2.2.2.2.1
theorem IsTb.f_moves {Z : State} {h : Heap} {a : Addr} {v_terms v_numbers v_index v_ends v_size v_moves v_strata v_ending v_earliest : Value} (O : IsTb Z h a v_terms v_numbers v_index v_ends v_size v_moves v_strata v_ending v_earliest) : Fld Z h a "com/example/weir/weir/engine/TripleTable" "moves" "[I" v_moves := O.2.2.2.2.2.2.1
theorem IsTb.f_strata {Z : State} {h : Heap} {a : Addr} {v_terms v_numbers v_index v_ends v_size v_moves v_strata v_ending v_earliest : Value} (O : IsTb Z h a v_terms v_numbers v_index v_ends v_size v_moves v_strata v_ending v_earliest) : Fld Z h a "com/example/weir/weir/engine/TripleTable" "strata" "[I" v_strata := O.2.2.2.2.2.2.2.1
theorem IsTb.f_ending {Z : State} {h : Heap} {a : Addr} {v_terms v_numbers v_index v_ends v_size v_moves v_strata v_ending v_earliest : Value} (O : IsTb Z h a v_terms v_numbers v_index v_ends v_size v_moves v_strata v_ending v_earliest) : Fld Z h a "com/example/weir/weir/engine/TripleTable" "ending" "I" v_ending := O.2.2.2.2.2.2.2.2.1
theorem IsTb.f_earliest {Z : State} {h : Heap} {a : Addr} {v_terms v_numbers v_index v_ends v_size v_moves v_strata v_ending v_earliest : Value} (O : IsTb Z h a v_terms v_numbers v_index v_ends v_size v_moves v_strata v_ending v_earliest) : Fld Z h a "com/example/weir/weir/engine/TripleTable" "earliest" "I" v_earliest := O.2.2.2.2.2.2.2.2.2
theorem IsTb.ext {Z : State} {h h' : Heap} {a : Addr} {v_terms v_numbers v_index v_ends v_size v_moves v_strata v_ending v_earliest : Value} (E : Ext h h') (O : IsTb Z h a v_terms v_numbers v_index v_ends v_size v_moves v_strata v_ending v_earliest) : IsTb Z h' a v_terms v_numbers v_index v_ends v_size v_moves v_strata v_ending v_earliest := ⟨(O.1).ext E, (O.2.1).ext E, (O.2.2.1).ext E, (O.2.2.2.1).ext E, (O.2.2.2.2.1).ext E, (O.2.2.2.2.2.1).ext E, (O.2.2.2.2.2.2.1).ext E, (O.2.2.2.2.2.2.2.1).ext E, (O.2.2.2.2.2.2.2.2.1).ext E, (O.2.2.2.2.2.2.2.2.2).ext E⟩
theorem IsTb.keep {Z : State} {h h' : Heap} {a : Addr} {v_terms v_numbers v_index v_ends v_size v_moves v_strata v_ending v_earliest : Value} {ws : List Addr} (K : Keep h h' ws) (O : IsTb Z h a v_terms v_numbers v_index v_ends v_size v_moves v_strata v_ending v_earliest) (q : a ∉ ws) : IsTb Z h' a v_terms v_numbers v_index v_ends v_size v_moves v_strata v_ending v_earliest := ⟨(O.1).keep K, (O.2.1).keep K q, (O.2.2.1).keep K q, (O.2.2.2.1).keep K q, (O.2.2.2.2.1).keep K q, (O.2.2.2.2.2.1).keep K q, (O.2.2.2.2.2.2.1).keep K q, (O.2.2.2.2.2.2.2.1).keep K q, (O.2.2.2.2.2.2.2.2.1).keep K q, (O.2.2.2.2.2.2.2.2.2).keep K q⟩
theorem IsTb.other {Z : State} {h h' : Heap} {a b : Addr} {v_terms v_numbers v_index v_ends v_size v_moves v_strata v_ending v_earliest : Value} {sl : Nat} {v : Value} (W : Wr h h' b sl v) (O : IsTb Z h a v_terms v_numbers v_index v_ends v_size v_moves v_strata v_ending v_earliest) (q : a ≠ b) : IsTb Z h' a v_terms v_numbers v_index v_ends v_size v_moves v_strata v_ending v_earliest := ⟨(O.1).wr W, (O.2.1).other W (Or.inl q), (O.2.2.1).other W (Or.inl q), (O.2.2.2.1).other W (Or.inl q), (O.2.2.2.2.1).other W (Or.inl q), (O.2.2.2.2.2.1).other W (Or.inl q), (O.2.2.2.2.2.2.1).other W (Or.inl q), (O.2.2.2.2.2.2.2.1).other W (Or.inl q), (O.2.2.2.2.2.2.2.2.1).other W (Or.inl q), (O.2.2.2.2.2.2.2.2.2).other W (Or.inl q)⟩
theorem IsTb.s_terms {Z : State} {h h' : Heap} {a : Addr} {v_terms v_numbers v_index v_ends v_size v_moves v_strata v_ending v_earliest : Value} {v : Value} {a0 : Array Value} (hw : ∀ d ∈ tables_1, d.before a0 Z = true) (W : Wr h h' a (RoadKit.slotOf Z "com/example/weir/weir/engine/TripleTable" "terms" "[I") v) (O : IsTb Z h a v_terms v_numbers v_index v_ends v_size v_moves v_strata v_ending v_earliest) : IsTb Z h' a v v_numbers v_index v_ends v_size v_moves v_strata v_ending v_earliest := ⟨(O.1).wr W, (O.2.1).same W, (O.2.2.1).other W (Or.inr (slot_ne (a0 := a0) (C := "com/example/weir/weir/engine/TripleTable") (Or.inr (w_40 hw)) (Or.inl (w_20 hw)) (by decide) (t := (.object "com/example/weir/weir/engine/Numbers")) (t' := (.array .int)) (by decide) (by decide))), (O.2.2.2.1).other W (Or.inr (slot_ne (a0 := a0) (C := "com/example/weir/weir/engine/TripleTable") (Or.inl (w_87 hw)) (Or.inl (w_20 hw)) (by decide) (t := (.object "com/example/weir/weir/engine/SubjectIndex")) (t' := (.array .int)) (by decide) (by decide))), (O.2.2.2.2.1).other W (Or.inr (slot_ne (a0 := a0) (C := "com/example/weir/weir/engine/TripleTable") (Or.inl (w_113 hw)) (Or.inl (w_20 hw)) (by decide) (t := (.array .long)) (t' := (.array .int)) (by decide) (by decide))), (O.2.2.2.2.2.1).other W (Or.inr (slot_ne (a0 := a0) (C := "com/example/weir/weir/engine/TripleTable") (Or.inl (w_115 hw)) (Or.inl (w_20 hw)) (by decide) (t := .int) (t' := (.array .int)) (by decide) (by decide))), (O.2.2.2.2.2.2.1).other W (Or.inr (slot_ne (a0 := a0) (C := "com/example/weir/weir/engine/TripleTable") (Or.inl (w_183 hw)) (Or.inl (w_20 hw)) (by decide) (t := (.array .int)) (t' := (.array .int)) (by decide) (by decide))), (O.2.2.2.2.2.2.2.1).other W (Or.inr (slot_ne (a0 := a0) (C := "com/example/weir/weir/engine/TripleTable") (Or.inl (w_185 hw)) (Or.inl (w_20 hw)) (by decide) (t := (.array .int)) (t' := (.array .int)) (by decide) (by decide))), (O.2.2.2.2.2.2.2.2.1).other W (Or.inr (slot_ne (a0 := a0) (C := "com/example/weir/weir/engine/TripleTable") (Or.inl (w_193 hw)) (Or.inl (w_20 hw)) (by decide) (t := .int) (t' := (.array .int)) (by decide) (by decide))), (O.2.2.2.2.2.2.2.2.2).other W (Or.inr (slot_ne (a0 := a0) (C := "com/example/weir/weir/engine/TripleTable") (Or.inl (w_197 hw)) (Or.inl (w_20 hw)) (by decide) (t := .int) (t' := (.array .int)) (by decide) (by decide)))⟩
theorem IsTb.s_numbers {Z : State} {h h' : Heap} {a : Addr} {v_terms v_numbers v_index v_ends v_size v_moves v_strata v_ending v_earliest : Value} {v : Value} {a0 : Array Value} (hw : ∀ d ∈ tables_1, d.before a0 Z = true) (W : Wr h h' a (RoadKit.slotOf Z "com/example/weir/weir/engine/TripleTable" "numbers" "Lcom/example/weir/weir/engine/Numbers;") v) (O : IsTb Z h a v_terms v_numbers v_index v_ends v_size v_moves v_strata v_ending v_earliest) : IsTb Z h' a v_terms v v_index v_ends v_size v_moves v_strata v_ending v_earliest := ⟨(O.1).wr W, (O.2.1).other W (Or.inr (slot_ne (a0 := a0) (C := "com/example/weir/weir/engine/TripleTable") (Or.inl (w_20 hw)) (Or.inr (w_40 hw)) (by decide) (t := (.array .int)) (t' := (.object "com/example/weir/weir/engine/Numbers")) (by decide) (by decide))), (O.2.2.1).same W, (O.2.2.2.1).other W (Or.inr (slot_ne (a0 := a0) (C := "com/example/weir/weir/engine/TripleTable") (Or.inl (w_87 hw)) (Or.inr (w_40 hw)) (by decide) (t := (.object "com/example/weir/weir/engine/SubjectIndex")) (t' := (.object "com/example/weir/weir/engine/Numbers")) (by decide) (by decide))), (O.2.2.2.2.1).other W (Or.inr (slot_ne (a0 := a0) (C := "com/example/weir/weir/engine/TripleTable") (Or.inl (w_113 hw)) (Or.inr (w_40 hw)) (by decide) (t := (.array .long)) (t' := (.object "com/example/weir/weir/engine/Numbers")) (by decide) (by decide))), (O.2.2.2.2.2.1).other W (Or.inr (slot_ne (a0 := a0) (C := "com/example/weir/weir/engine/TripleTable") (Or.inl (w_115 hw)) (Or.inr (w_40 hw)) (by decide) (t := .int) (t' := (.object "com/example/weir/weir/engine/Numbers")) (by decide) (by decide))), (O.2.2.2.2.2.2.1).other W (Or.inr (slot_ne (a0 := a0) (C := "com/example/weir/weir/engine/TripleTable") (Or.inl (w_183 hw)) (Or.inr (w_40 hw)) (by decide) (t := (.array .int)) (t' := (.object "com/example/weir/weir/engine/Numbers")) (by decide) (by decide))), (O.2.2.2.2.2.2.2.1).other W (Or.inr (slot_ne (a0 := a0) (C := "com/example/weir/weir/engine/TripleTable") (Or.inl (w_185 hw)) (Or.inr (w_40 hw)) (by decide) (t := (.array .int)) (t' := (.object "com/example/weir/weir/engine/Numbers")) (by decide) (by decide))), (O.2.2.2.2.2.2.2.2.1).other W (Or.inr (slot_ne (a0 := a0) (C := "com/example/weir/weir/engine/TripleTable") (Or.inl (w_193 hw)) (Or.inr (w_40 hw)) (by decide) (t := .int) (t' := (.object "com/example/weir/weir/engine/Numbers")) (by decide) (by decide))), (O.2.2.2.2.2.2.2.2.2).other W (Or.inr (slot_ne (a0 := a0) (C := "com/example/weir/weir/engine/TripleTable") (Or.inl (w_197 hw)) (Or.inr (w_40 hw)) (by decide) (t := .int) (t' := (.object "com/example/weir/weir/engine/Numbers")) (by decide) (by decide)))⟩
theorem IsTb.s_index {Z : State} {h h' : Heap} {a : Addr} {v_terms v_numbers v_index v_ends v_size v_moves v_strata v_ending v_earliest : Value} {v : Value} {a0 : Array Value} (hw : ∀ d ∈ tables_1, d.before a0 Z = true) (W : Wr h h' a (RoadKit.slotOf Z "com/example/weir/weir/engine/TripleTable" "index" "Lcom/example/weir/weir/engine/SubjectIndex;") v) (O : IsTb Z h a v_terms v_numbers v_index v_ends v_size v_moves v_strata v_ending v_earliest) : IsTb Z h' a v_terms v_numbers v v_ends v_size v_moves v_strata v_ending v_earliest := ⟨(O.1).wr W, (O.2.1).other W (Or.inr (slot_ne (a0 := a0) (C := "com/example/weir/weir/engine/TripleTable") (Or.inl (w_20 hw)) (Or.inl (w_87 hw)) (by decide) (t := (.array .int)) (t' := (.object "com/example/weir/weir/engine/SubjectIndex")) (by decide) (by decide))), (O.2.2.1).other W (Or.inr (slot_ne (a0 := a0) (C := "com/example/weir/weir/engine/TripleTable") (Or.inr (w_40 hw)) (Or.inl (w_87 hw)) (by decide) (t := (.object "com/example/weir/weir/engine/Numbers")) (t' := (.object "com/example/weir/weir/engine/SubjectIndex")) (by decide) (by decide))), (O.2.2.2.1).same W, (O.2.2.2.2.1).other W (Or.inr (slot_ne (a0 := a0) (C := "com/example/weir/weir/engine/TripleTable") (Or.inl (w_113 hw)) (Or.inl (w_87 hw)) (by decide) (t := (.array .long)) (t' := (.object "com/example/weir/weir/engine/SubjectIndex")) (by decide) (by decide))), (O.2.2.2.2.2.1).other W (Or.inr (slot_ne (a0 := a0) (C := "com/example/weir/weir/engine/TripleTable") (Or.inl (w_115 hw)) (Or.inl (w_87 hw)) (by decide) (t := .int) (t' := (.object "com/example/weir/weir/engine/SubjectIndex")) (by decide) (by decide))), (O.2.2.2.2.2.2.1).other W (Or.inr (slot_ne (a0 := a0) (C := "com/example/weir/weir/engine/TripleTable") (Or.inl (w_183 hw)) (Or.inl (w_87 hw)) (by decide) (t := (.array .int)) (t' := (.object "com/example/weir/weir/engine/SubjectIndex")) (by decide) (by decide))), (O.2.2.2.2.2.2.2.1).other W (Or.inr (slot_ne (a0 := a0) (C := "com/example/weir/weir/engine/TripleTable") (Or.inl (w_185 hw)) (Or.inl (w_87 hw)) (by decide) (t := (.array .int)) (t' := (.object "com/example/weir/weir/engine/SubjectIndex")) (by decide) (by decide))), (O.2.2.2.2.2.2.2.2.1).other W (Or.inr (slot_ne (a0 := a0) (C := "com/example/weir/weir/engine/TripleTable") (Or.inl (w_193 hw)) (Or.inl (w_87 hw)) (by decide) (t := .int) (t' := (.object "com/example/weir/weir/engine/SubjectIndex")) (by decide) (by decide))), (O.2.2.2.2.2.2.2.2.2).other W (Or.inr (slot_ne (a0 := a0) (C := "com/example/weir/weir/engine/TripleTable") (Or.inl (w_197 hw)) (Or.inl (w_87 hw)) (by decide) (t := .int) (t' := (.object "com/example/weir/weir/engine/SubjectIndex")) (by decide) (by decide)))⟩
theorem IsTb.s_ends {Z : State} {h h' : Heap} {a : Addr} {v_terms v_numbers v_index v_ends v_size v_moves v_strata v_ending v_earliest : Value} {v : Value} {a0 : Array Value} (hw : ∀ d ∈ tables_1, d.before a0 Z = true) (W : Wr h h' a (RoadKit.slotOf Z "com/example/weir/weir/engine/TripleTable" "ends" "[J") v) (O : IsTb Z h a v_terms v_numbers v_index v_ends v_size v_moves v_strata v_ending v_earliest) : IsTb Z h' a v_terms v_numbers v_index v v_size v_moves v_strata v_ending v_earliest := ⟨(O.1).wr W, (O.2.1).other W (Or.inr (slot_ne (a0 := a0) (C := "com/example/weir/weir/engine/TripleTable") (Or.inl (w_20 hw)) (Or.inl (w_113 hw)) (by decide) (t := (.array .int)) (t' := (.array .long)) (by decide) (by decide))), (O.2.2.1).other W (Or.inr (slot_ne (a0 := a0) (C := "com/example/weir/weir/engine/TripleTable") (Or.inr (w_40 hw)) (Or.inl (w_113 hw)) (by decide) (t := (.object "com/example/weir/weir/engine/Numbers")) (t' := (.array .long)) (by decide) (by decide))), (O.2.2.2.1).other W (Or.inr (slot_ne (a0 := a0) (C := "com/example/weir/weir/engine/TripleTable") (Or.inl (w_87 hw)) (Or.inl (w_113 hw)) (by decide) (t := (.object "com/example/weir/weir/engine/SubjectIndex")) (t' := (.array .long)) (by decide) (by decide))), (O.2.2.2.2.1).same W, (O.2.2.2.2.2.1).other W (Or.inr (slot_ne (a0 := a0) (C := "com/example/weir/weir/engine/TripleTable") (Or.inl (w_115 hw)) (Or.inl (w_113 hw)) (by decide) (t := .int) (t' := (.array .long)) (by decide) (by decide))), (O.2.2.2.2.2.2.1).other W (Or.inr (slot_ne (a0 := a0) (C := "com/example/weir/weir/engine/TripleTable") (Or.inl (w_183 hw)) (Or.inl (w_113 hw)) (by decide) (t := (.array .int)) (t' := (.array .long)) (by decide) (by decide))), (O.2.2.2.2.2.2.2.1).other W (Or.inr (slot_ne (a0 := a0) (C := "com/example/weir/weir/engine/TripleTable") (Or.inl (w_185 hw)) (Or.inl (w_113 hw)) (by decide) (t := (.array .int)) (t' := (.array .long)) (by decide) (by decide))), (O.2.2.2.2.2.2.2.2.1).other W (Or.inr (slot_ne (a0 := a0) (C := "com/example/weir/weir/engine/TripleTable") (Or.inl (w_193 hw)) (Or.inl (w_113 hw)) (by decide) (t := .int) (t' := (.array .long)) (by decide) (by decide))), (O.2.2.2.2.2.2.2.2.2).other W (Or.inr (slot_ne (a0 := a0) (C := "com/example/weir/weir/engine/TripleTable") (Or.inl (w_197 hw)) (Or.inl (w_113 hw)) (by decide) (t := .int) (t' := (.array .long)) (by decide) (by decide)))⟩
theorem IsTb.s_size {Z : State} {h h' : Heap} {a : Addr} {v_terms v_numbers v_index v_ends v_size v_moves v_strata v_ending v_earliest : Value} {v : Value} {a0 : Array Value} (hw : ∀ d ∈ tables_1, d.before a0 Z = true) (W : Wr h h' a (RoadKit.slotOf Z "com/example/weir/weir/engine/TripleTable" "size" "I") v) (O : IsTb Z h a v_terms v_numbers v_index v_ends v_size v_moves v_strata v_ending v_earliest) : IsTb Z h' a v_terms v_numbers v_index v_ends v v_moves v_strata v_ending v_earliest := ⟨(O.1).wr W, (O.2.1).other W (Or.inr (slot_ne (a0 := a0) (C := "com/example/weir/weir/engine/TripleTable") (Or.inl (w_20 hw)) (Or.inl (w_115 hw)) (by decide) (t := (.array .int)) (t' := .int) (by decide) (by decide))), (O.2.2.1).other W (Or.inr (slot_ne (a0 := a0) (C := "com/example/weir/weir/engine/TripleTable") (Or.inr (w_40 hw)) (Or.inl (w_115 hw)) (by decide) (t := (.object "com/example/weir/weir/engine/Numbers")) (t' := .int) (by decide) (by decide))), (O.2.2.2.1).other W (Or.inr (slot_ne (a0 := a0) (C := "com/example/weir/weir/engine/TripleTable") (Or.inl (w_87 hw)) (Or.inl (w_115 hw)) (by decide) (t := (.object "com/example/weir/weir/engine/SubjectIndex")) (t' := .int) (by decide) (by decide))), (O.2.2.2.2.1).other W (Or.inr (slot_ne (a0 := a0) (C := "com/example/weir/weir/engine/TripleTable") (Or.inl (w_113 hw)) (Or.inl (w_115 hw)) (by decide) (t := (.array .long)) (t' := .int) (by decide) (by decide))), (O.2.2.2.2.2.1).same W, (O.2.2.2.2.2.2.1).other W (Or.inr (slot_ne (a0 := a0) (C := "com/example/weir/weir/engine/TripleTable") (Or.inl (w_183 hw)) (Or.inl (w_115 hw)) (by decide) (t := (.array .int)) (t' := .int) (by decide) (by decide))), (O.2.2.2.2.2.2.2.1).other W (Or.inr (slot_ne (a0 := a0) (C := "com/example/weir/weir/engine/TripleTable") (Or.inl (w_185 hw)) (Or.inl (w_115 hw)) (by decide) (t := (.array .int)) (t' := .int) (by decide) (by decide))), (O.2.2.2.2.2.2.2.2.1).other W (Or.inr (slot_ne (a0 := a0) (C := "com/example/weir/weir/engine/TripleTable") (Or.inl (w_193 hw)) (Or.inl (w_115 hw)) (by decide) (t := .int) (t' := .int) (by decide) (by decide))), (O.2.2.2.2.2.2.2.2.2).other W (Or.inr (slot_ne (a0 := a0) (C := "com/example/weir/weir/engine/TripleTable") (Or.inl (w_197 hw)) (Or.inl (w_115 hw)) (by decide) (t := .int) (t' := .int) (by decide) (by decide)))⟩
theorem IsTb.s_moves {Z : State} {h h' : Heap} {a : Addr} {v_terms v_numbers v_index v_ends v_size v_moves v_strata v_ending v_earliest : Value} {v : Value} {a0 : Array Value} (hw : ∀ d ∈ tables_1, d.before a0 Z = true) (W : Wr h h' a (RoadKit.slotOf Z "com/example/weir/weir/engine/TripleTable" "moves" "[I") v) (O : IsTb Z h a v_terms v_numbers v_index v_ends v_size v_moves v_strata v_ending v_earliest) : IsTb Z h' a v_terms v_numbers v_index v_ends v_size v v_strata v_ending v_earliest := ⟨(O.1).wr W, (O.2.1).other W (Or.inr (slot_ne (a0 := a0) (C := "com/example/weir/weir/engine/TripleTable") (Or.inl (w_20 hw)) (Or.inl (w_183 hw)) (by decide) (t := (.array .int)) (t' := (.array .int)) (by decide) (by decide))), (O.2.2.1).other W (Or.inr (slot_ne (a0 := a0) (C := "com/example/weir/weir/engine/TripleTable") (Or.inr (w_40 hw)) (Or.inl (w_183 hw)) (by decide) (t := (.object "com/example/weir/weir/engine/Numbers")) (t' := (.array .int)) (by decide) (by decide))), (O.2.2.2.1).other W (Or.inr (slot_ne (a0 := a0) (C := "com/example/weir/weir/engine/TripleTable") (Or.inl (w_87 hw)) (Or.inl (w_183 hw)) (by decide) (t := (.object "com/example/weir/weir/engine/SubjectIndex")) (t' := (.array .int)) (by decide) (by decide))), (O.2.2.2.2.1).other W (Or.inr (slot_ne (a0 := a0) (C := "com/example/weir/weir/engine/TripleTable") (Or.inl (w_113 hw)) (Or.inl (w_183 hw)) (by decide) (t := (.array .long)) (t' := (.array .int)) (by decide) (by decide))), (O.2.2.2.2.2.1).other W (Or.inr (slot_ne (a0 := a0) (C := "com/example/weir/weir/engine/TripleTable") (Or.inl (w_115 hw)) (Or.inl (w_183 hw)) (by decide) (t := .int) (t' := (.array .int)) (by decide) (by decide))), (O.2.2.2.2.2.2.1).same W, (O.2.2.2.2.2.2.2.1).other W (Or.inr (slot_ne (a0 := a0) (C := "com/example/weir/weir/engine/TripleTable") (Or.inl (w_185 hw)) (Or.inl (w_183 hw)) (by decide) (t := (.array .int)) (t' := (.array .int)) (by decide) (by decide))), (O.2.2.2.2.2.2.2.2.1).other W (Or.inr (slot_ne (a0 := a0) (C := "com/example/weir/weir/engine/TripleTable") (Or.inl (w_193 hw)) (Or.inl (w_183 hw)) (by decide) (t := .int) (t' := (.array .int)) (by decide) (by decide))), (O.2.2.2.2.2.2.2.2.2).other W (Or.inr (slot_ne (a0 := a0) (C := "com/example/weir/weir/engine/TripleTable") (Or.inl (w_197 hw)) (Or.inl (w_183 hw)) (by decide) (t := .int) (t' := (.array .int)) (by decide) (by decide)))⟩
theorem IsTb.s_strata {Z : State} {h h' : Heap} {a : Addr} {v_terms v_numbers v_index v_ends v_size v_moves v_strata v_ending v_earliest : Value} {v : Value} {a0 : Array Value} (hw : ∀ d ∈ tables_1, d.before a0 Z = true) (W : Wr h h' a (RoadKit.slotOf Z "com/example/weir/weir/engine/TripleTable" "strata" "[I") v) (O : IsTb Z h a v_terms v_numbers v_index v_ends v_size v_moves v_strata v_ending v_earliest) : IsTb Z h' a v_terms v_numbers v_index v_ends v_size v_moves v v_ending v_earliest := ⟨(O.1).wr W, (O.2.1).other W (Or.inr (slot_ne (a0 := a0) (C := "com/example/weir/weir/engine/TripleTable") (Or.inl (w_20 hw)) (Or.inl (w_185 hw)) (by decide) (t := (.array .int)) (t' := (.array .int)) (by decide) (by decide))), (O.2.2.1).other W (Or.inr (slot_ne (a0 := a0) (C := "com/example/weir/weir/engine/TripleTable") (Or.inr (w_40 hw)) (Or.inl (w_185 hw)) (by decide) (t := (.object "com/example/weir/weir/engine/Numbers")) (t' := (.array .int)) (by decide) (by decide))), (O.2.2.2.1).other W (Or.inr (slot_ne (a0 := a0) (C := "com/example/weir/weir/engine/TripleTable") (Or.inl (w_87 hw)) (Or.inl (w_185 hw)) (by decide) (t := (.object "com/example/weir/weir/engine/SubjectIndex")) (t' := (.array .int)) (by decide) (by decide))), (O.2.2.2.2.1).other W (Or.inr (slot_ne (a0 := a0) (C := "com/example/weir/weir/engine/TripleTable") (Or.inl (w_113 hw)) (Or.inl (w_185 hw)) (by decide) (t := (.array .long)) (t' := (.array .int)) (by decide) (by decide))), (O.2.2.2.2.2.1).other W (Or.inr (slot_ne (a0 := a0) (C := "com/example/weir/weir/engine/TripleTable") (Or.inl (w_115 hw)) (Or.inl (w_185 hw)) (by decide) (t := .int) (t' := (.array .int)) (by decide) (by decide))), (O.2.2.2.2.2.2.1).other W (Or.inr (slot_ne (a0 := a0) (C := "com/example/weir/weir/engine/TripleTable") (Or.inl (w_183 hw)) (Or.inl (w_185 hw)) (by decide) (t := (.array .int)) (t' := (.array .int)) (by decide) (by decide))), (O.2.2.2.2.2.2.2.1).same W, (O.2.2.2.2.2.2.2.2.1).other W (Or.inr (slot_ne (a0 := a0) (C := "com/example/weir/weir/engine/TripleTable") (Or.inl (w_193 hw)) (Or.inl (w_185 hw)) (by decide) (t := .int) (t' := (.array .int)) (by decide) (by decide))), (O.2.2.2.2.2.2.2.2.2).other W (Or.inr (slot_ne (a0 := a0) (C := "com/example/weir/weir/engine/TripleTable") (Or.inl (w_197 hw)) (Or.inl (w_185 hw)) (by decide) (t := .int) (t' := (.array .int)) (by decide) (by decide)))⟩
theorem IsTb.s_ending {Z : State} {h h' : Heap} {a : Addr} {v_terms v_numbers v_index v_ends v_size v_moves v_strata v_ending v_earliest : Value} {v : Value} {a0 : Array Value} (hw : ∀ d ∈ tables_1, d.before a0 Z = true) (W : Wr h h' a (RoadKit.slotOf Z "com/example/weir/weir/engine/TripleTable" "ending" "I") v) (O : IsTb Z h a v_terms v_numbers v_index v_ends v_size v_moves v_strata v_ending v_earliest) : IsTb Z h' a v_terms v_numbers v_index v_ends v_size v_moves v_strata v v_earliest := ⟨(O.1).wr W, (O.2.1).other W (Or.inr (slot_ne (a0 := a0) (C := "com/example/weir/weir/engine/TripleTable") (Or.inl (w_20 hw)) (Or.inl (w_193 hw)) (by decide) (t := (.array .int)) (t' := .int) (by decide) (by decide))), (O.2.2.1).other W (Or.inr (slot_ne (a0 := a0) (C := "com/example/weir/weir/engine/TripleTable") (Or.inr (w_40 hw)) (Or.inl (w_193 hw)) (by decide) (t := (.object "com/example/weir/weir/engine/Numbers")) (t' := .int) (by decide) (by decide))), (O.2.2.2.1).other W (Or.inr (slot_ne (a0 := a0) (C := "com/example/weir/weir/engine/TripleTable") (Or.inl (w_87 hw)) (Or.inl (w_193 hw)) (by decide) (t := (.object "com/example/weir/weir/engine/SubjectIndex")) (t' := .int) (by decide) (by decide))), (O.2.2.2.2.1).other W (Or.inr (slot_ne (a0 := a0) (C := "com/example/weir/weir/engine/TripleTable") (Or.inl (w_113 hw)) (Or.inl (w_193 hw)) (by decide) (t := (.array .long)) (t' := .int) (by decide) (by decide))), (O.2.2.2.2.2.1).other W (Or.inr (slot_ne (a0 := a0) (C := "com/example/weir/weir/engine/TripleTable") (Or.inl (w_115 hw)) (Or.inl (w_193 hw)) (by decide) (t := .int) (t' := .int) (by decide) (by decide))), (O.2.2.2.2.2.2.1).other W (Or.inr (slot_ne (a0 := a0) (C := "com/example/weir/weir/engine/TripleTable") (Or.inl (w_183 hw)) (Or.inl (w_193 hw)) (by decide) (t := (.array .int)) (t' := .int) (by decide) (by decide))), (O.2.2.2.2.2.2.2.1).other W (Or.inr (slot_ne (a0 := a0) (C := "com/example/weir/weir/engine/TripleTable") (Or.inl (w_185 hw)) (Or.inl (w_193 hw)) (by decide) (t := (.array .int)) (t' := .int) (by decide) (by decide))), (O.2.2.2.2.2.2.2.2.1).same W, (O.2.2.2.2.2.2.2.2.2).other W (Or.inr (slot_ne (a0 := a0) (C := "com/example/weir/weir/engine/TripleTable") (Or.inl (w_197 hw)) (Or.inl (w_193 hw)) (by decide) (t := .int) (t' := .int) (by decide) (by decide)))⟩
theorem IsTb.s_earliest {Z : State} {h h' : Heap} {a : Addr} {v_terms v_numbers v_index v_ends v_size v_moves v_strata v_ending v_earliest : Value} {v : Value} {a0 : Array Value} (hw : ∀ d ∈ tables_1, d.before a0 Z = true) (W : Wr h h' a (RoadKit.slotOf Z "com/example/weir/weir/engine/TripleTable" "earliest" "I") v) (O : IsTb Z h a v_terms v_numbers v_index v_ends v_size v_moves v_strata v_ending v_earliest) : IsTb Z h' a v_terms v_numbers v_index v_ends v_size v_moves v_strata v_ending v := ⟨(O.1).wr W, (O.2.1).other W (Or.inr (slot_ne (a0 := a0) (C := "com/example/weir/weir/engine/TripleTable") (Or.inl (w_20 hw)) (Or.inl (w_197 hw)) (by decide) (t := (.array .int)) (t' := .int) (by decide) (by decide))), (O.2.2.1).other W (Or.inr (slot_ne (a0 := a0) (C := "com/example/weir/weir/engine/TripleTable") (Or.inr (w_40 hw)) (Or.inl (w_197 hw)) (by decide) (t := (.object "com/example/weir/weir/engine/Numbers")) (t' := .int) (by decide) (by decide))), (O.2.2.2.1).other W (Or.inr (slot_ne (a0 := a0) (C := "com/example/weir/weir/engine/TripleTable") (Or.inl (w_87 hw)) (Or.inl (w_197 hw)) (by decide) (t := (.object "com/example/weir/weir/engine/SubjectIndex")) (t' := .int) (by decide) (by decide))), (O.2.2.2.2.1).other W (Or.inr (slot_ne (a0 := a0) (C := "com/example/weir/weir/engine/TripleTable") (Or.inl (w_113 hw)) (Or.inl (w_197 hw)) (by decide) (t := (.array .long)) (t' := .int) (by decide) (by decide))), (O.2.2.2.2.2.1).other W (Or.inr (slot_ne (a0 := a0) (C := "com/example/weir/weir/engine/TripleTable") (Or.inl (w_115 hw)) (Or.inl (w_197 hw)) (by decide) (t := .int) (t' := .int) (by decide) (by decide))), (O.2.2.2.2.2.2.1).other W (Or.inr (slot_ne (a0 := a0) (C := "com/example/weir/weir/engine/TripleTable") (Or.inl (w_183 hw)) (Or.inl (w_197 hw)) (by decide) (t := (.array .int)) (t' := .int) (by decide) (by decide))), (O.2.2.2.2.2.2.2.1).other W (Or.inr (slot_ne (a0 := a0) (C := "com/example/weir/weir/engine/TripleTable") (Or.inl (w_185 hw)) (Or.inl (w_197 hw)) (by decide) (t := (.array .int)) (t' := .int) (by decide) (by decide))), (O.2.2.2.2.2.2.2.2.1).other W (Or.inr (slot_ne (a0 := a0) (C := "com/example/weir/weir/engine/TripleTable") (Or.inl (w_193 hw)) (Or.inl (w_197 hw)) (by decide) (t := .int) (t' := .int) (by decide) (by decide))), (O.2.2.2.2.2.2.2.2.2).same W⟩
def own_shape : Lambda.Shape := (Jvm.Lambda.Shape.mk "com/example/weir/weir/engine/SubjectIndex$Terms" "term" (Jvm.ClassFile.MethodDescriptor.mk ([Jvm.ClassFile.FieldType.int, Jvm.ClassFile.FieldType.int] : List Jvm.ClassFile.FieldType) (Option.some Jvm.ClassFile.FieldType.int)) ([(Jvm.ClassFile.FieldType.object "com/example/weir/weir/engine/TripleTable")] : List Jvm.ClassFile.FieldType) (5 : Nat) "com/example/weir/weir/engine/TripleTable" "term" (Jvm.ClassFile.MethodDescriptor.mk ([Jvm.ClassFile.FieldType.int, Jvm.ClassFile.FieldType.int] : List Jvm.ClassFile.FieldType) (Option.some Jvm.ClassFile.FieldType.int)) false (Jvm.ClassFile.MethodDescriptor.mk ([Jvm.ClassFile.FieldType.int, Jvm.ClassFile.FieldType.int] : List Jvm.ClassFile.FieldType) (Option.some Jvm.ClassFile.FieldType.int)))
theorem own_shape_lays : ((own_shape.file "com/example/weir/weir/engine/TripleTable").bind (layoutFields · 0)).map (·.2.1) = some #[.object "com/example/weir/weir/engine/TripleTable"] := by decide +kernel

def own_D : ClassFile := (own_shape.file "com/example/weir/weir/engine/TripleTable").getD { minorVersion := 0, majorVersion := 0, constantPool := #[], accessFlags := 0, thisClass := 0, superClass := 0, interfaces := #[], fields := #[], methods := #[], attributes := #[] }
def own_fw : Method := ((layoutMethods own_D).bind (·[1]?)).getD default
def own_laid : Array Field × Array FieldType × Array FieldType := (layoutFields own_D 0).getD (#[], #[], #[])
def own_fwB : ByteArray := ⟨#[0x2a, 0xb4, 0x00, 0x0f, 0x1b, 0x1c, 0xb6, 0x00, 0x15, 0xac]⟩
theorem own_fw0 : decode own_fwB 0 = .ok (.aload_n 0, 1) := by decide +kernel
theorem own_fw1 : decode own_fwB 1 = .ok (.getfield 15, 3) := by decide +kernel
theorem own_fw4 : decode own_fwB 4 = .ok (.iload_n 1, 1) := by decide +kernel
theorem own_fw5 : decode own_fwB 5 = .ok (.iload_n 2, 1) := by decide +kernel
theorem own_fw6 : decode own_fwB 6 = .ok (.invokevirtual 21, 3) := by decide +kernel
theorem own_fw9 : decode own_fwB 9 = .ok (.ireturn, 1) := by decide +kernel
theorem own_file_is : own_shape.file "com/example/weir/weir/engine/TripleTable" = some own_D := by
  have h : (own_shape.file "com/example/weir/weir/engine/TripleTable").isSome = true := by decide +kernel
  obtain ⟨x, hx⟩ := Option.isSome_iff_exists.mp h
  simp [own_D, hx]
theorem own_second_is : ∀ ms, layoutMethods own_D = some ms → ms[1]? = some own_fw := by
  intro ms hms
  have h : ((layoutMethods own_D).bind (·[1]?)).isSome = true := by decide +kernel
  obtain ⟨x, hx⟩ := Option.isSome_iff_exists.mp h
  have hf : own_fw = x := by simp [own_fw, hx]
  rw [hms] at hx
  rw [hf]
  exact hx
theorem own_laid_is : layoutFields own_D 0 = some own_laid := by
  have h : (layoutFields own_D 0).isSome = true := by decide +kernel
  obtain ⟨x, hx⟩ := Option.isSome_iff_exists.mp h
  simp [own_laid, hx]
theorem own_f_code : (own_fw.code.map fun c => (c.code.data, c.maxLocals)) = some (own_fwB.data, 3) := by decide +kernel
theorem own_f_flags : (own_fw.accessFlags, own_fw.name, own_fw.sig.returnType) = (0x0001, "term", some FieldType.int) := by decide +kernel
theorem own_eM : own_D.constantPool[21]? = some (.methodref 19 20) ∧ own_D.constantPool.className? 19 = some "com/example/weir/weir/engine/TripleTable" ∧ own_D.constantPool.nameAndType? 20 = some ("term", "(II)I") := by decide +kernel
theorem own_eC : own_D.constantPool[19]? = some (.class_ 18) ∧ own_D.constantPool.string? 18 = some "com/example/weir/weir/engine/TripleTable" ∧ 19 ≠ own_D.thisClass := by decide +kernel
theorem own_eF : own_D.constantPool[15]? = some (.fieldref 2 14) ∧ own_D.constantPool.nameAndType? 14 = some ("arg$1", "Lcom/example/weir/weir/engine/TripleTable;") ∧ own_laid.1.findIdx? (·.name == "arg$1") = some 0 ∧ (own_laid.1[0]?).map (fun f => (f.isStatic, f.slot)) = some (false, 0) := by decide +kernel
theorem own_made {Z : State} (hO : ∀ o ok, Z.vm.findClass "java/lang/Object" = some o → Z.vm.classes[o]? = some ok → ok.instanceTypes.size = 0) : OwnMade Z own_shape "com/example/weir/weir/engine/TripleTable" "com/example/weir/weir/engine/TripleTable$$Lambda" (⟨"com/example/weir/weir/engine/TripleTable", "term", "(II)I"⟩ : MethodName) own_fwB 15 21 19 20 := by
  intro d c dk hd hname h
  obtain ⟨dk', k, ok, tk, file, cf, object, iface, toy, lay, methods, target, found, hd', hk, hfile, hcf, hobj, -, hok, hlay, hms, ht, htk, hg, -, hrec, -, -, -, hitf, hpool, hmeth, hfields, -, hres, -⟩ := Lambda.isMade_spec h
  cases hd.symm.trans hd'
  rw [hname, own_file_is] at hcf
  cases hcf
  rw [hO object ok hobj hok, own_laid_is] at hlay
  cases hlay
  obtain ⟨b, hb, hsame⟩ := hmeth 1 own_fw (own_second_is methods hms)
  simp only [Lambda.sameMethod, Bool.and_eq_true, decide_eq_true_eq] at hsame
  obtain ⟨⟨hn, -, hsig, hfl⟩, hcode⟩ := hsame
  have fc := own_f_code
  have ff := own_f_flags
  simp only [Prod.mk.injEq] at ff
  obtain ⟨g0, hg0, hp0⟩ := Option.map_eq_some_iff.mp own_eF.2.2.2
  simp only [Prod.mk.injEq] at hp0
  cases hfc : own_fw.code with
  | none => rw [hfc] at fc; cases fc
  | some x =>
    cases hbc : b.code with
    | none => simp [hfc, hbc] at hcode
    | some y =>
      simp only [hfc, hbc, Bool.and_eq_true, decide_eq_true_eq] at hcode
      simp only [hfc, Option.map_some, Option.some.injEq, Prod.mk.injEq] at fc
      refine ⟨k, tk, file, b, y, toy, target, g0, hk, by rw [hrec.1, hname]; rfl, hfile, by rw [hpool.2.1]; exact own_eM.1, by simp [Vm.method?, hk, hb], hbc, ?_, by rw [← hcode.1.1.1.1.2.1]; exact fc.2, ?_, by rw [← hfl]; exact ff.1, by rw [← hsig]; exact ff.2.2, ht, htk, hitf,
        ⟨k, hk, hres 21 _ (Lambda.resolvedOf_method own_eM.1 own_eM.2.1 ht htk own_eM.2.2 hg)⟩, ⟨k, hk, hres 19 _ (Lambda.resolvedOf_class own_eC.1 own_eC.2.2 own_eC.2.1 ht)⟩, ⟨k, 0, k, hk, hres 15 _ (Lambda.resolvedOf_field own_eF.1 own_eF.2.1 own_eF.2.2.1), hk, hfields 0 _ hg0⟩, hp0.1, hp0.2, hg⟩
      · rw [← hcode.1.1.1.1.2.2]
        exact ByteArray.ext fc.1
      · simp [Method.locks, Method.isSynchronized, ← hfl, ff.1, hasFlag, Acc.synchronized]
theorem own_obj0 {Z : State} {a0 : Array Value} (w : (Cond.instantiable "java/lang/Object" 0).before a0 Z = true) : ∀ o ok, Z.vm.findClass "java/lang/Object" = some o → Z.vm.classes[o]? = some ok → ok.instanceTypes.size = 0 := by
  intro o ok ho hok
  obtain ⟨c1, k1, i1, i2, -, -, -, i5⟩ := Cond.instantiable_spec w
  cases i1.symm.trans ho
  cases i2.symm.trans hok
  exact i5

set_option maxRecDepth 65536 in
set_option maxHeartbeats 40000000 in
theorem rm_max (w : Bool) (l : Launch) (Z : State) (a0 : Array Value) (hw : ∀ d ∈ tables_1, d.before a0 Z = true) (x y : Int32) (h0 : Heap) (n0 : Nat) (Z0 : n0 ≤ h0.size)  :
    Met w l Z (⟨"java/lang/Math", "max", "(II)I"⟩ : MethodName) jdk_29_method_65_code 2 (some .int) [] ({ frames := 0, cells := 0, slots := 0, locals := 0 } : Room) #[(.int x), (.int y)] h0 n0 (fun v h => v = some (.int (own_max x y)) ∧ h0 = h) := by
  refine Met.of (Jvm.Free.JP.mathPlain rfl (by decide +kernel)) fun κ K => ?_
  refine WP.frame (g' := (mkF κ.m 0 #[.val (.int x), .val (.int y)] [])) (by first | (simp [entryFrame, mkF, argsToLocals, Value.category]; done) | rfl) ?_
  refine WP.meet (g' := (mkF κ.m 10 #[.val (.int x), .val (.int y)] [(.int (if x < y then y else x))])) (fun HJ => ?_) ?_
  · refine WP.iloadN K d2_0 rfl (pc' := 1) rfl ?_
    refine WP.iloadN K d2_1 rfl (pc' := 2) rfl ?_
    by_cases c1 : x < y
    · try simp only [if_pos c1] at HJ
      refine WP.icmpT K d2_2 (tlt c1).1 (by decide) (pc' := 9) (by decide) ?_
      refine WP.iloadN K d2_9 rfl (pc' := 10) rfl ?_
      first | exact HJ | (simp only [if_pos c1]; exact HJ)
    · try simp only [if_neg c1] at HJ
      refine WP.icmpF K d2_2 (flt c1).1 (pc' := 5) rfl ?_
      refine WP.iloadN K d2_5 rfl (pc' := 6) rfl ?_
      refine WP.goto K d2_6 (by decide) (pc' := 10) (by decide) ?_
      first | exact HJ | (simp only [if_neg c1]; exact HJ)
  · skip
    exact WP.retI K d2_10 (by decide) (by decide) ⟨rfl, rfl⟩
set_option maxRecDepth 65536 in
set_option maxHeartbeats 40000000 in
theorem rm_min (w : Bool) (l : Launch) (Z : State) (a0 : Array Value) (hw : ∀ d ∈ tables_1, d.before a0 Z = true) (x y : Int32) (h0 : Heap) (n0 : Nat) (Z0 : n0 ≤ h0.size)  :
    Met w l Z (⟨"java/lang/Math", "min", "(II)I"⟩ : MethodName) jdk_29_method_69_code 2 (some .int) [] ({ frames := 0, cells := 0, slots := 0, locals := 0 } : Room) #[(.int x), (.int y)] h0 n0 (fun v h => v = some (.int (own_min x y)) ∧ h0 = h) := by
  refine Met.of (Jvm.Free.JP.mathPlain rfl (by decide +kernel)) fun κ K => ?_
  refine WP.frame (g' := (mkF κ.m 0 #[.val (.int x), .val (.int y)] [])) (by first | (simp [entryFrame, mkF, argsToLocals, Value.category]; done) | rfl) ?_
  refine WP.meet (g' := (mkF κ.m 10 #[.val (.int x), .val (.int y)] [(.int (if y < x then y else x))])) (fun HJ => ?_) ?_
  · refine WP.iloadN K d18_0 rfl (pc' := 1) rfl ?_
    refine WP.iloadN K d18_1 rfl (pc' := 2) rfl ?_
    by_cases c2 : y < x
    · try simp only [if_pos c2] at HJ
      refine WP.icmpT K d18_2 (tlt c2).2.2.1 (by decide) (pc' := 9) (by decide) ?_
      refine WP.iloadN K d18_9 rfl (pc' := 10) rfl ?_
      first | exact HJ | (simp only [if_pos c2]; exact HJ)
    · try simp only [if_neg c2] at HJ
      refine WP.icmpF K d18_2 (flt c2).2.2.1 (pc' := 5) rfl ?_
      refine WP.iloadN K d18_5 rfl (pc' := 6) rfl ?_
      refine WP.goto K d18_6 (by decide) (pc' := 10) (by decide) ?_
      first | exact HJ | (simp only [if_neg c2]; exact HJ)
  · skip
    exact WP.retI K d18_10 (by decide) (by decide) ⟨rfl, rfl⟩
set_option maxRecDepth 65536 in
set_option maxHeartbeats 40000000 in
theorem rm_spread (w : Bool) (l : Launch) (Z : State) (a0 : Array Value) (hw : ∀ d ∈ tables_1, d.before a0 Z = true) (x : Int64) (h0 : Heap) (n0 : Nat) (Z0 : n0 ≤ h0.size)  :
    Met w l Z (⟨"com/example/weir/weir/engine/LinearProbing", "spread", "(J)I"⟩ : MethodName) prog_28_method_2_code 2 (some .int) [] ({ frames := 0, cells := 0, slots := 0, locals := 0 } : Room) #[(.long x)] h0 n0 (fun v h => v = some (.int (own_spread x)) ∧ h0 = h) := by
  refine Met.of (plainFor_of_name (by first | (simp [plainName, overriddenIn]; done) | decide +kernel)) fun κ K => ?_
  refine WP.frame (g' := (mkF κ.m 0 #[.val (.long x), .second] [])) (by first | (simp [entryFrame, mkF, argsToLocals, Value.category]; done) | rfl) ?_
  refine WP.lloadN K d22_0 rfl (pc' := 1) rfl ?_
  refine WP.ldc2J K (w_159 hw) d22_1 (pc' := 4) rfl ?_
  refine WP.lmul K d22_4 (pc' := 5) rfl ?_
  refine WP.bipush K d22_5 (v := (32 : Int32)) rfl (pc' := 7) rfl ?_
  refine WP.lushr K d22_7 (pc' := 8) rfl ?_
  refine WP.l2i K d22_8 (pc' := 9) rfl ?_
  exact WP.retI K d22_9 (by decide) (by decide) ⟨rfl, rfl⟩
set_option maxRecDepth 65536 in
set_option maxHeartbeats 40000000 in
theorem rm_fillI (w : Bool) (l : Launch) (Z : State) (a0 : Array Value) (hw : ∀ d ∈ tables_1, d.before a0 Z = true) (a : Addr) (kA : ClassId) (N : Nat) (F : Nat → Int32) (z : Int32) (h0 : Heap) (n0 : Nat) (Z0 : n0 ≤ h0.size) (A_a : Ary Z h0 a kA .int N (fun j => .int (F j))) (old_a : n0 ≤ a) :
    Met w l Z (⟨"java/util/Arrays", "fill", "([II)V"⟩ : MethodName) jdk_65_method_103_code 4 none [] ({ frames := 0, cells := 0, slots := 0, locals := 0 } : Room) #[(.ref a), (.int z)] h0 n0 (fun v h => v = none ∧ Keep h0 h [a] ∧ Ary Z h a kA .int N (fun j => .int (own_ifill F N z j))) := by
  refine Met.of (plainFor_of_name (by first | (simp [plainName, overriddenIn]; done) | decide +kernel)) fun κ K => ?_
  refine WP.frame (g' := (mkF κ.m 0 #[.val (.ref a), .val (.int z), .unset, .unset] [])) (by first | (simp [entryFrame, mkF, argsToLocals, Value.category]; done) | rfl) ?_
  have KP := Keep.refl h0 [a]
  have hN := A_a.len
  have eN : (Int32.ofNat N).toInt = (N : Int) := Int32.toInt_ofNat_small hN
  refine WP.iconst K d25_0 (v := (0 : Int32)) rfl (pc' := 1) rfl ?_
  refine WP.istoreN K d25_1 (L' := #[.val (.ref a), .val (.int z), .val (.int (0 : Int32)), .unset]) rfl (pc' := 2) rfl ?_
  refine WP.aloadN K d25_2 rfl rfl (pc' := 3) rfl ?_
  refine WP.arraylength K A_a d25_3 (pc' := 4) rfl ?_
  refine WP.istoreN K d25_4 (L' := #[.val (.ref a), .val (.int z), .val (.int (0 : Int32)), .val (.int (Int32.ofNat N))]) rfl (pc' := 5) rfl ?_
  have LOOP : ∀ (d k : Nat) (c : Int32) (h : Heap), k + d = N → c.toInt = (k : Int) → Ary Z h a kA .int N (fun j => .int (own_ifill F k z j)) → Keep h0 h [a] → n0 ≤ h.size → WP κ h 0 0 (mkF κ.m 5 #[.val (.ref a), .val (.int z), .val (.int c), .val (.int (Int32.ofNat N))] []) := by
    intro d
    induction d with
    | zero =>
      intro k c h hkd hc A_a KP Z0
      have e : N = k := by omega
      subst e
      refine WP.iloadN K d25_5 rfl (pc' := 6) rfl ?_
      refine WP.iloadN K d25_6 rfl (pc' := 7) rfl ?_
      have q : ¬ (c < (Int32.ofNat N)) := by rw [Int32.lt_iff_toInt_lt]; omega
      refine WP.icmpT K d25_7 (flt q).2.1 (by decide) (pc' := 20) (by decide) ?_
      exact WP.ret0 K d25_20 (by decide) (by decide) ⟨rfl, KP, A_a⟩
    | succ d ih =>
      intro k c h hkd hc A_a KP Z0
      refine WP.iloadN K d25_5 rfl (pc' := 6) rfl ?_
      refine WP.iloadN K d25_6 rfl (pc' := 7) rfl ?_
      have q : c < (Int32.ofNat N) := by rw [Int32.lt_iff_toInt_lt]; omega
      refine WP.icmpF K d25_7 (tlt q).2.1 (pc' := 10) rfl ?_
      refine WP.aloadN K d25_10 rfl rfl (pc' := 11) rfl ?_
      refine WP.iloadN K d25_11 rfl (pc' := 12) rfl ?_
      refine WP.iloadN K d25_12 rfl (pc' := 13) rfl ?_
      refine WP.iastore K (i := k) A_a hc (by omega) old_a d25_13 (pc' := 14) rfl fun h3 W3 A_n => ?_
      have KP := Keep.wr KP W3 (Or.inl (List.mem_of_getElem? (i := 0) rfl))
      have Z0 := Nat.le_trans Z0 (Nat.le_of_eq W3.size.symm)
      have A_a := A_n
      rw [upd_int] at A_a
      refine WP.iinc K d25_14 (v := (1 : Int32)) rfl rfl (L' := #[.val (.ref a), .val (.int z), .val (.int (c + (1 : Int32))), .val (.int (Int32.ofNat N))]) rfl (pc' := 17) rfl ?_
      refine WP.goto K d25_17 (by decide) (pc' := 5) (by decide) ?_
      exact ih (k + 1) _ _ (by omega) (own_add2 hc (y := (1 : Int32)) (k := 1) rfl (by omega)) (by rw [← own_ifill_step]; exact A_a) KP Z0
  exact LOOP N 0 (0 : Int32) h0 (by omega) rfl (by rw [own_ifill_0]; exact A_a) KP Z0
set_option maxRecDepth 65536 in
set_option maxHeartbeats 40000000 in
theorem rm_fillJ (w : Bool) (l : Launch) (Z : State) (a0 : Array Value) (hw : ∀ d ∈ tables_1, d.before a0 Z = true) (a : Addr) (kA : ClassId) (N : Nat) (F : Nat → Int64) (z : Int64) (h0 : Heap) (n0 : Nat) (Z0 : n0 ≤ h0.size) (A_a : Ary Z h0 a kA .long N (fun j => .long (F j))) (old_a : n0 ≤ a) :
    Met w l Z (⟨"java/util/Arrays", "fill", "([JJ)V"⟩ : MethodName) jdk_65_method_101_code 5 none [] ({ frames := 0, cells := 0, slots := 0, locals := 0 } : Room) #[(.ref a), (.long z)] h0 n0 (fun v h => v = none ∧ Keep h0 h [a] ∧ Ary Z h a kA .long N (fun j => .long (own_lfill F N z j))) := by
  refine Met.of (plainFor_of_name (by first | (simp [plainName, overriddenIn]; done) | decide +kernel)) fun κ K => ?_
  refine WP.frame (g' := (mkF κ.m 0 #[.val (.ref a), .val (.long z), .second, .unset, .unset] [])) (by first | (simp [entryFrame, mkF, argsToLocals, Value.category]; done) | rfl) ?_
  have KP := Keep.refl h0 [a]
  have hN := A_a.len
  have eN : (Int32.ofNat N).toInt = (N : Int) := Int32.toInt_ofNat_small hN
  refine WP.iconst K d27_0 (v := (0 : Int32)) rfl (pc' := 1) rfl ?_
  refine WP.istoreN K d27_1 (L' := #[.val (.ref a), .val (.long z), .second, .val (.int (0 : Int32)), .unset]) rfl (pc' := 2) rfl ?_
  refine WP.aloadN K d27_2 rfl rfl (pc' := 3) rfl ?_
  refine WP.arraylength K A_a d27_3 (pc' := 4) rfl ?_
  refine WP.istore K d27_4 (L' := #[.val (.ref a), .val (.long z), .second, .val (.int (0 : Int32)), .val (.int (Int32.ofNat N))]) rfl (pc' := 6) rfl ?_
  have LOOP : ∀ (d k : Nat) (c : Int32) (h : Heap), k + d = N → c.toInt = (k : Int) → Ary Z h a kA .long N (fun j => .long (own_lfill F k z j)) → Keep h0 h [a] → n0 ≤ h.size → WP κ h 0 0 (mkF κ.m 6 #[.val (.ref a), .val (.long z), .second, .val (.int c), .val (.int (Int32.ofNat N))] []) := by
    intro d
    induction d with
    | zero =>
      intro k c h hkd hc A_a KP Z0
      have e : N = k := by omega
      subst e
      refine WP.iloadN K d27_6 rfl (pc' := 7) rfl ?_
      refine WP.iload K d27_7 rfl (pc' := 9) rfl ?_
      have q : ¬ (c < (Int32.ofNat N)) := by rw [Int32.lt_iff_toInt_lt]; omega
      refine WP.icmpT K d27_9 (flt q).2.1 (by decide) (pc' := 22) (by decide) ?_
      exact WP.ret0 K d27_22 (by decide) (by decide) ⟨rfl, KP, A_a⟩
    | succ d ih =>
      intro k c h hkd hc A_a KP Z0
      refine WP.iloadN K d27_6 rfl (pc' := 7) rfl ?_
      refine WP.iload K d27_7 rfl (pc' := 9) rfl ?_
      have q : c < (Int32.ofNat N) := by rw [Int32.lt_iff_toInt_lt]; omega
      refine WP.icmpF K d27_9 (tlt q).2.1 (pc' := 12) rfl ?_
      refine WP.aloadN K d27_12 rfl rfl (pc' := 13) rfl ?_
      refine WP.iloadN K d27_13 rfl (pc' := 14) rfl ?_
      refine WP.lloadN K d27_14 rfl (pc' := 15) rfl ?_
      refine WP.lastore K (i := k) A_a hc (by omega) old_a d27_15 (pc' := 16) rfl fun h4 W4 A_n => ?_
      have KP := Keep.wr KP W4 (Or.inl (List.mem_of_getElem? (i := 0) rfl))
      have Z0 := Nat.le_trans Z0 (Nat.le_of_eq W4.size.symm)
      have A_a := A_n
      rw [upd_long] at A_a
      refine WP.iinc K d27_16 (v := (1 : Int32)) rfl rfl (L' := #[.val (.ref a), .val (.long z), .second, .val (.int (c + (1 : Int32))), .val (.int (Int32.ofNat N))]) rfl (pc' := 19) rfl ?_
      refine WP.goto K d27_19 (by decide) (pc' := 6) (by decide) ?_
      exact ih (k + 1) _ _ (by omega) (own_add2 hc (y := (1 : Int32)) (k := 1) rfl (by omega)) (by rw [← own_lfill_step]; exact A_a) KP Z0
  exact LOOP N 0 (0 : Int32) h0 (by omega) rfl (by rw [own_lfill_0]; exact A_a) KP Z0
set_option maxRecDepth 65536 in
set_option maxHeartbeats 40000000 in
theorem rm_copy0 (w : Bool) (l : Launch) (Z : State) (a0 : Array Value) (hw : ∀ d ∈ tables_1, d.before a0 Z = true) (q : Addr) (kQ : ClassId) (fQ : Nat → Value) (h0 : Heap) (n0 : Nat) (Z0 : n0 ≤ h0.size) (A_q : Ary Z h0 q kQ .int 0 fQ) :
    Met w l Z (⟨"java/util/Arrays", "copyOf", "([II)[I"⟩ : MethodName) jdk_65_method_123_code 3 (some (.array .int)) [] ({ frames := 1, cells := 1, slots := 64, locals := 64 } : Room) #[(.ref q), (.int (64 : Int32))] h0 n0 (fun v h => Keep h0 h [] ∧ ∃ (nw : Addr) (kN : ClassId) (F : Nat → Int32), v = some (.ref nw) ∧ h0.size ≤ nw ∧ Ary Z h nw kN .int 64 (fun j => .int (F j))) := by
  refine Met.of (plainFor_of_name (by first | (simp [plainName, overriddenIn]; done) | decide +kernel)) fun κ K => ?_
  refine WP.frame (g' := (mkF κ.m 0 #[.val (.ref q), .val (.int (64 : Int32)), .unset] [])) (by first | (simp [entryFrame, mkF, argsToLocals, Value.category]; done) | rfl) ?_
  have KP := Keep.refl h0 []
  refine WP.iloadN K d17_0 rfl (pc' := 1) rfl ?_
  refine WP.aloadN K d17_1 rfl rfl (pc' := 2) rfl ?_
  refine WP.arraylength K A_q d17_2 (pc' := 3) rfl ?_
  show WP κ h0 0 0 (mkF κ.m 3 #[.val (.ref q), .val (.int (64 : Int32)), .unset] [(.int (0 : Int32)), (.int (64 : Int32))])
  refine WP.icmpT K d17_3 (by decide) (by decide) (pc' := 14) (by decide) ?_
  refine WP.iloadN K d17_14 rfl (pc' := 15) rfl ?_
  refine WP.newarray (aty := .int) K (w_18 hw) d17_15 (N := 64) (cap := 64) rfl (Nat.le_refl _) (by decide) (k' := 1) (n' := 64) rfl rfl (by decide) (by decide) (pc' := 17) rfl fun h5 nw kA_nw g5 E5 A_nw => ?_
  have ne_q_nw : q ≠ nw := fun z_ => by have q_ : @LT.lt Nat _ q h0.size := (Ary.lt A_q); have r_ : @Eq Nat q nw := z_; omega
  have old_nw : n0 ≤ nw := by have q_ := Z0; omega
  have osz_nw : h0.size ≤ nw := by have q_ := KP.1; omega
  have A_q := Ary.ext E5 A_q
  have KP := Keep.ext KP E5
  have Z0 := Nat.le_trans Z0 E5.1
  refine WP.astoreN K d17_17 rfl (L' := #[.val (.ref q), .val (.int (64 : Int32)), .val (.ref nw)]) rfl (pc' := 18) rfl ?_
  refine WP.aloadN K d17_18 rfl rfl (pc' := 19) rfl ?_
  refine WP.iconst K d17_19 (v := (0 : Int32)) rfl (pc' := 20) rfl ?_
  refine WP.aloadN K d17_20 rfl rfl (pc' := 21) rfl ?_
  refine WP.iconst K d17_21 (v := (0 : Int32)) rfl (pc' := 22) rfl ?_
  refine WP.aloadN K d17_22 rfl rfl (pc' := 23) rfl ?_
  refine WP.arraylength K A_q d17_23 (pc' := 24) rfl ?_
  show WP κ h5 1 64 (mkF κ.m 24 #[.val (.ref q), .val (.int (64 : Int32)), .val (.ref nw)] [(.int (0 : Int32)), (.int (0 : Int32)), (.ref nw), (.int (0 : Int32)), (.ref q)])
  refine WP.iloadN K d17_24 rfl (pc' := 25) rfl ?_
  refine WP.callS K (argsL := [(.int (0 : Int32)), (.int (64 : Int32))]) (S := [(.int (0 : Int32)), (.ref nw), (.int (0 : Int32)), (.ref q)]) (w_130 hw) (w_131 hw) (rm_min w l Z a0 hw (0 : Int32) (64 : Int32) h5 n0 Z0) (w_132 hw) (w_7 hw) (by decide) rfl (lenOf pd_0 rfl) rfl (W := 4) rfl (by decide) (by decide) (k' := 1) (n' := 64) rfl rfl (by decide) (by decide) d17_25 (pc' := 28) rfl fun v h6 hq => ?_
  obtain ⟨rfl, rfl⟩ := hq
  show WP κ h5 1 64 (mkF κ.m 28 #[.val (.ref q), .val (.int (64 : Int32)), .val (.ref nw)] [(.int (own_min (0 : Int32) (64 : Int32))), (.int (0 : Int32)), (.ref nw), (.int (0 : Int32)), (.ref q)])
  rw [show own_min (0 : Int32) (64 : Int32) = 0 from by decide]
  show WP κ h5 1 64 (mkF κ.m 28 #[.val (.ref q), .val (.int (64 : Int32)), .val (.ref nw)] [(.int (0 : Int32)), (.int (0 : Int32)), (.ref nw), (.int (0 : Int32)), (.ref q)])
  refine WP.arraycopy K (i := 0) (j := 0) (m := 0) (w_133 hw) (w_136 hw) (w_134 hw) (w_135 hw) A_q A_nw rfl rfl rfl rfl (by decide) (by decide) old_nw d17_28 rfl (by decide) (W := 0) rfl (by decide) (pc' := 31) rfl fun h7 K7 A_n => ?_
  have A_q := Ary.keep K7 A_q (ninS ne_q_nw nin0)
  have KP := Keep.trans KP K7 (allS (Or.inr osz_nw) all0)
  have Z0 := Nat.le_trans Z0 K7.1
  have A_nw := A_n
  obtain ⟨F, A_F⟩ := Ary.ints A_nw (Or.inl rfl)
  refine WP.aloadN K d17_31 rfl rfl (pc' := 32) rfl ?_
  exact WP.retR K rfl rfl d17_32 (by decide) (by decide) ⟨KP, nw, kA_nw, F, rfl, osz_nw, A_F⟩
set_option maxRecDepth 65536 in
set_option maxHeartbeats 40000000 in
theorem rm_il (w : Bool) (l : Launch) (Z : State) (a0 : Array Value) (hw : ∀ d ∈ tables_1, d.before a0 Z = true) (il : Addr) (u_values u_size : Value) (h0 : Heap) (n0 : Nat) (Z0 : n0 ≤ h0.size) (O_il : IsIL Z h0 il u_values u_size) (old_il : n0 ≤ il) :
    Met w l Z (⟨"com/example/weir/weir/engine/IntList", "<init>", "()V"⟩ : MethodName) prog_27_method_1_code 1 none [] ({ frames := 1, cells := 1, slots := 4, locals := 12 } : Room) #[(.ref il)] h0 n0 (fun v h => v = none ∧ Keep h0 h [il] ∧ ∃ ar : Addr, IsIL Z h il (.ref ar) u_size) := by
  refine Met.of (plainFor_of_name (by first | (simp [plainName, overriddenIn]; done) | decide +kernel)) fun κ K => ?_
  refine WP.frame (g' := (mkF κ.m 0 #[.val (.ref il)] [])) (by first | (simp [entryFrame, mkF, argsToLocals, Value.category]; done) | rfl) ?_
  have KP := Keep.refl h0 [il]
  refine WP.aloadN K d6_0 rfl rfl (pc' := 1) rfl ?_
  refine WP.initO K (w_34 hw) (w_16 hw) (w_17 hw) d6_1 rfl (by decide) (W := 0) rfl (by decide) (pc' := 4) rfl ?_
  refine WP.aloadN K d6_4 rfl rfl (pc' := 5) rfl ?_
  refine WP.iconst K d6_5 (v := (4 : Int32)) rfl (pc' := 6) rfl ?_
  refine WP.newarray (aty := .int) K (w_18 hw) d6_6 (N := 4) (cap := 4) rfl (Nat.le_refl _) (by decide) (k' := 1) (n' := 4) rfl rfl (by decide) (by decide) (pc' := 8) rfl fun h8 ar kA_ar g8 E8 A_ar => ?_
  have ne_il_ar : il ≠ ar := fun z_ => by have q_ : @LT.lt Nat _ il h0.size := (IsIL.lt O_il); have r_ : @Eq Nat il ar := z_; omega
  have old_ar : n0 ≤ ar := by have q_ := Z0; omega
  have osz_ar : h0.size ≤ ar := by have q_ := KP.1; omega
  have O_il := IsIL.ext E8 O_il
  have KP := Keep.ext KP E8
  have Z0 := Nat.le_trans Z0 E8.1
  refine WP.putF K (w_35 hw) Via.refl (IsIL.f_values O_il) (IsIL.exa O_il) (Or.inl (w_36 hw)) (w_29 hw) (ty := (.array .int)) (by decide) rfl rfl old_il d6_8 (pc' := 11) rfl fun h9 W9 => ?_
  have A_ar := Ary.other W9 A_ar (Ne.symm ne_il_ar)
  have KP := Keep.wr KP W9 (Or.inl (List.mem_of_getElem? (i := 0) rfl))
  have Z0 := Nat.le_trans Z0 (Nat.le_of_eq W9.size.symm)
  have O_il := IsIL.s_values hw W9 O_il
  exact WP.ret0 K d6_11 (by decide) (by decide) ⟨rfl, KP, ar, O_il⟩
set_option maxRecDepth 65536 in
set_option maxHeartbeats 40000000 in
theorem rm_nu (w : Bool) (l : Launch) (Z : State) (a0 : Array Value) (hw : ∀ d ∈ tables_1, d.before a0 Z = true) (nu : Addr) (u_free u_limit : Value) (h0 : Heap) (n0 : Nat) (Z0 : n0 ≤ h0.size) (O_nu : IsNu Z h0 nu u_free u_limit) (old_nu : n0 ≤ nu) :
    Met w l Z (⟨"com/example/weir/weir/engine/Numbers", "<init>", "()V"⟩ : MethodName) prog_41_method_1_code 1 none [] ({ frames := 2, cells := 2, slots := 6, locals := 26 } : Room) #[(.ref nu)] h0 n0 (fun v h => v = none ∧ Keep h0 h [nu] ∧ ∃ il ar : Addr, h0.size ≤ il ∧ IsNu Z h nu (.ref il) u_limit ∧ IsIL Z h il (.ref ar) (.int (0 : Int32))) := by
  refine Met.of (plainFor_of_name (by first | (simp [plainName, overriddenIn]; done) | decide +kernel)) fun κ K => ?_
  refine WP.frame (g' := (mkF κ.m 0 #[.val (.ref nu)] [])) (by first | (simp [entryFrame, mkF, argsToLocals, Value.category]; done) | rfl) ?_
  have KP := Keep.refl h0 [nu]
  refine WP.aloadN K d5_0 rfl rfl (pc' := 1) rfl ?_
  refine WP.initO K (w_27 hw) (w_16 hw) (w_17 hw) d5_1 rfl (by decide) (W := 0) rfl (by decide) (pc' := 4) rfl ?_
  refine WP.aloadN K d5_4 rfl rfl (pc' := 5) rfl ?_
  refine WP.new K (w_28 hw) (w_29 hw) (w_30 hw) d5_5 (k' := 1) (n' := 2) rfl rfl (by decide) (by decide) (pc' := 8) rfl fun h10 il g10 E10 X10 D10 => ?_
  have ne_nu_il : nu ≠ il := fun z_ => by have q_ : @LT.lt Nat _ nu h0.size := (IsNu.lt O_nu); have r_ : @Eq Nat nu il := z_; omega
  have old_il : n0 ≤ il := by have q_ := Z0; omega
  have osz_il : h0.size ≤ il := by have q_ := KP.1; omega
  have O_nu := IsNu.ext E10 O_nu
  have KP := Keep.ext KP E10
  have Z0 := Nat.le_trans Z0 E10.1
  have O_il : IsIL Z h10 il .null (.int (0 : Int32)) := ⟨X10, D10 (O := "com/example/weir/weir/engine/IntList") (f := "values") (d := "[I") (Or.inl (w_36 hw)) (ty := (.array .int)) (by decide), D10 (O := "com/example/weir/weir/engine/IntList") (f := "size") (d := "I") (Or.inl (w_104 hw)) (ty := .int) (by decide)⟩
  refine WP.dup K d5_8 rfl (pc' := 9) rfl ?_
  refine WP.callI K (a := il) (argsL := []) (S := [(.ref il), (.ref nu)]) rfl (w_31 hw) (w_32 hw) (rm_il w l Z a0 hw il _ _ h10 n0 Z0 O_il old_il) (w_33 hw) (w_30 hw) (by decide) rfl (lenOf pd_1 rfl) rfl (W := 2) rfl (by decide) (by decide) (k' := 2) (n' := 6) rfl rfl (by decide) (by decide) d5_9 (pc' := 12) rfl fun v h11 hq => ?_
  obtain ⟨rfl, K0, ar, O_il⟩ := hq
  have O_nu := IsNu.keep K0 O_nu (ninS ne_nu_il nin0)
  have KP := Keep.trans KP K0 (allS (Or.inr osz_il) all0)
  have Z0 := Nat.le_trans Z0 K0.1
  show WP κ h11 2 6 (mkF κ.m 12 #[.val (.ref nu)] [(.ref il), (.ref nu)])
  refine WP.putF K (w_37 hw) Via.refl (IsNu.f_free O_nu) (IsNu.exa O_nu) (Or.inl (w_38 hw)) (w_22 hw) (ty := (.object "com/example/weir/weir/engine/IntList")) (by decide) rfl rfl old_nu d5_12 (pc' := 15) rfl fun h12 W12 => ?_
  have O_il := IsIL.other W12 O_il (Ne.symm ne_nu_il)
  have KP := Keep.wr KP W12 (Or.inl (List.mem_of_getElem? (i := 0) rfl))
  have Z0 := Nat.le_trans Z0 (Nat.le_of_eq W12.size.symm)
  have O_nu := IsNu.s_free hw W12 O_nu
  exact WP.ret0 K d5_15 (by decide) (by decide) ⟨rfl, KP, il, ar, osz_il, O_nu, O_il⟩
set_option maxRecDepth 65536 in
set_option maxHeartbeats 40000000 in
theorem rm_empty (w : Bool) (l : Launch) (Z : State) (a0 : Array Value) (hw : ∀ d ∈ tables_1, d.before a0 Z = true) (mp : Addr) (u_width u_entries u_slots u_objects u_greatestKey u_values u_size u_keys : Value) (h0 : Heap) (n0 : Nat) (Z0 : n0 ≤ h0.size) (O_mp : IsMap Z h0 mp u_width (.int (2 : Int32)) u_entries u_slots u_objects u_greatestKey u_values u_size u_keys) (old_mp : n0 ≤ mp) :
    Met w l Z (⟨"com/example/weir/weir/engine/IntIntMap", "emptyTable", "(IZ)V"⟩ : MethodName) prog_26_method_22_code 3 none [] ({ frames := 0, cells := 1, slots := 16, locals := 0 } : Room) #[(.ref mp), (.int (8 : Int32)), (.int (0 : Int32))] h0 n0 (fun v h => v = none ∧ Keep h0 h [mp] ∧ ∃ (en : Addr) (kE : ClassId), h0.size ≤ en ∧ IsMap Z h mp u_width (.int (2 : Int32)) (.ref en) (.int (8 : Int32)) .null (.int (0 : Int32)) u_values u_size u_keys ∧ Ary Z h en kE .int 16 (fun j => .int ((fun _ => (0 : Int32)) j))) := by
  refine Met.of (plainFor_of_name (by first | (simp [plainName, overriddenIn]; done) | decide +kernel)) fun κ K => ?_
  refine WP.frame (g' := (mkF κ.m 0 #[.val (.ref mp), .val (.int (8 : Int32)), .val (.int (0 : Int32))] [])) (by first | (simp [entryFrame, mkF, argsToLocals, Value.category]; done) | rfl) ?_
  have KP := Keep.refl h0 [mp]
  refine WP.aloadN K d10_0 rfl rfl (pc' := 1) rfl ?_
  refine WP.aloadN K d10_1 rfl rfl (pc' := 2) rfl ?_
  refine WP.getF K (w_64 hw) Via.refl (IsMap.f_stride O_mp) d10_2 (pc' := 5) rfl ?_
  refine WP.iloadN K d10_5 rfl (pc' := 6) rfl ?_
  refine WP.imul K d10_6 (pc' := 7) rfl ?_
  show WP κ h0 0 0 (mkF κ.m 7 #[.val (.ref mp), .val (.int (8 : Int32)), .val (.int (0 : Int32))] [(.int (16 : Int32)), (.ref mp)])
  refine WP.newarray (aty := .int) K (w_18 hw) d10_7 (N := 16) (cap := 16) rfl (Nat.le_refl _) (by decide) (k' := 1) (n' := 16) rfl rfl (by decide) (by decide) (pc' := 9) rfl fun h13 en kA_en g13 E13 A_en => ?_
  have ne_mp_en : mp ≠ en := fun z_ => by have q_ : @LT.lt Nat _ mp h0.size := (IsMap.lt O_mp); have r_ : @Eq Nat mp en := z_; omega
  have old_en : n0 ≤ en := by have q_ := Z0; omega
  have osz_en : h0.size ≤ en := by have q_ := KP.1; omega
  have O_mp := IsMap.ext E13 O_mp
  have KP := Keep.ext KP E13
  have Z0 := Nat.le_trans Z0 E13.1
  refine WP.putF K (w_70 hw) Via.refl (IsMap.f_entries O_mp) (IsMap.exa O_mp) (Or.inl (w_71 hw)) (w_53 hw) (ty := (.array .int)) (by decide) rfl rfl old_mp d10_9 (pc' := 12) rfl fun h14 W14 => ?_
  have A_en := Ary.other W14 A_en (Ne.symm ne_mp_en)
  have KP := Keep.wr KP W14 (Or.inl (List.mem_of_getElem? (i := 0) rfl))
  have Z0 := Nat.le_trans Z0 (Nat.le_of_eq W14.size.symm)
  have O_mp := IsMap.s_entries hw W14 O_mp
  refine WP.aloadN K d10_12 rfl rfl (pc' := 13) rfl ?_
  refine WP.iloadN K d10_13 rfl (pc' := 14) rfl ?_
  refine WP.putF K (w_72 hw) Via.refl (IsMap.f_slots O_mp) (IsMap.exa O_mp) (Or.inl (w_73 hw)) (w_53 hw) (ty := .int) (by decide) rfl rfl old_mp d10_14 (pc' := 17) rfl fun h15 W15 => ?_
  have A_en := Ary.other W15 A_en (Ne.symm ne_mp_en)
  have KP := Keep.wr KP W15 (Or.inl (List.mem_of_getElem? (i := 0) rfl))
  have Z0 := Nat.le_trans Z0 (Nat.le_of_eq W15.size.symm)
  have O_mp := IsMap.s_slots hw W15 O_mp
  refine WP.aloadN K d10_17 rfl rfl (pc' := 18) rfl ?_
  refine WP.iloadN K d10_18 rfl (pc' := 19) rfl ?_
  refine WP.if0T K d10_19 (by decide) (by decide) (pc' := 29) (by decide) ?_
  refine WP.aconst_null K d10_29 (pc' := 30) rfl ?_
  refine WP.putF K (w_74 hw) Via.refl (IsMap.f_objects O_mp) (IsMap.exa O_mp) (Or.inl (w_75 hw)) (w_53 hw) (ty := (.array (.object "java/lang/Object"))) (by decide) rfl rfl old_mp d10_30 (pc' := 33) rfl fun h16 W16 => ?_
  have A_en := Ary.other W16 A_en (Ne.symm ne_mp_en)
  have KP := Keep.wr KP W16 (Or.inl (List.mem_of_getElem? (i := 0) rfl))
  have Z0 := Nat.le_trans Z0 (Nat.le_of_eq W16.size.symm)
  have O_mp := IsMap.s_objects hw W16 O_mp
  refine WP.aloadN K d10_33 rfl rfl (pc' := 34) rfl ?_
  refine WP.iconst K d10_34 (v := (0 : Int32)) rfl (pc' := 35) rfl ?_
  refine WP.putF K (w_76 hw) Via.refl (IsMap.f_greatestKey O_mp) (IsMap.exa O_mp) (Or.inl (w_77 hw)) (w_53 hw) (ty := .int) (by decide) rfl rfl old_mp d10_35 (pc' := 38) rfl fun h17 W17 => ?_
  have A_en := Ary.other W17 A_en (Ne.symm ne_mp_en)
  have KP := Keep.wr KP W17 (Or.inl (List.mem_of_getElem? (i := 0) rfl))
  have Z0 := Nat.le_trans Z0 (Nat.le_of_eq W17.size.symm)
  have O_mp := IsMap.s_greatestKey hw W17 O_mp
  exact WP.ret0 K d10_38 (by decide) (by decide) ⟨rfl, KP, en, kA_en, osz_en, O_mp, A_en⟩
set_option maxRecDepth 65536 in
set_option maxHeartbeats 40000000 in
theorem rm_map1 (w : Bool) (l : Launch) (Z : State) (a0 : Array Value) (hw : ∀ d ∈ tables_1, d.before a0 Z = true) (mp : Addr) (u_width u_stride u_entries u_slots u_objects u_greatestKey u_values u_size u_keys : Value) (h0 : Heap) (n0 : Nat) (Z0 : n0 ≤ h0.size) (O_mp : IsMap Z h0 mp u_width u_stride u_entries u_slots u_objects u_greatestKey u_values u_size u_keys) (old_mp : n0 ≤ mp) :
    Met w l Z (⟨"com/example/weir/weir/engine/IntIntMap", "<init>", "(I)V"⟩ : MethodName) prog_26_method_2_code 2 none [] ({ frames := 1, cells := 1, slots := 16, locals := 14 } : Room) #[(.ref mp), (.int (1 : Int32))] h0 n0 (fun v h => v = none ∧ Keep h0 h [mp] ∧ ∃ (en : Addr) (kE : ClassId), h0.size ≤ en ∧ IsMap Z h mp (.int (1 : Int32)) (.int (2 : Int32)) (.ref en) (.int (8 : Int32)) .null (.int (0 : Int32)) u_values u_size u_keys ∧ Ary Z h en kE .int 16 (fun j => .int ((fun _ => (0 : Int32)) j))) := by
  refine Met.of (plainFor_of_name (by first | (simp [plainName, overriddenIn]; done) | decide +kernel)) fun κ K => ?_
  refine WP.frame (g' := (mkF κ.m 0 #[.val (.ref mp), .val (.int (1 : Int32))] [])) (by first | (simp [entryFrame, mkF, argsToLocals, Value.category]; done) | rfl) ?_
  have KP := Keep.refl h0 [mp]
  refine WP.aloadN K d9_0 rfl rfl (pc' := 1) rfl ?_
  refine WP.initO K (w_61 hw) (w_16 hw) (w_17 hw) d9_1 rfl (by decide) (W := 0) rfl (by decide) (pc' := 4) rfl ?_
  refine WP.aloadN K d9_4 rfl rfl (pc' := 5) rfl ?_
  refine WP.iloadN K d9_5 rfl (pc' := 6) rfl ?_
  refine WP.putF K (w_62 hw) Via.refl (IsMap.f_width O_mp) (IsMap.exa O_mp) (Or.inr ⟨(w_63 hw), rfl, rfl⟩) (w_53 hw) (ty := .int) (by decide) rfl rfl old_mp d9_6 (pc' := 9) rfl fun h18 W18 => ?_
  have KP := Keep.wr KP W18 (Or.inl (List.mem_of_getElem? (i := 0) rfl))
  have Z0 := Nat.le_trans Z0 (Nat.le_of_eq W18.size.symm)
  have O_mp := IsMap.s_width hw W18 O_mp
  refine WP.aloadN K d9_9 rfl rfl (pc' := 10) rfl ?_
  refine WP.iloadN K d9_10 rfl (pc' := 11) rfl ?_
  refine WP.iconst K d9_11 (v := (1 : Int32)) rfl (pc' := 12) rfl ?_
  refine WP.iadd K d9_12 (pc' := 13) rfl ?_
  show WP κ h18 0 0 (mkF κ.m 13 #[.val (.ref mp), .val (.int (1 : Int32))] [(.int (2 : Int32)), (.ref mp)])
  refine WP.putF K (w_64 hw) Via.refl (IsMap.f_stride O_mp) (IsMap.exa O_mp) (Or.inr ⟨(w_65 hw), rfl, rfl⟩) (w_53 hw) (ty := .int) (by decide) rfl rfl old_mp d9_13 (pc' := 16) rfl fun h19 W19 => ?_
  have KP := Keep.wr KP W19 (Or.inl (List.mem_of_getElem? (i := 0) rfl))
  have Z0 := Nat.le_trans Z0 (Nat.le_of_eq W19.size.symm)
  have O_mp := IsMap.s_stride hw W19 O_mp
  refine WP.aloadN K d9_16 rfl rfl (pc' := 17) rfl ?_
  refine WP.bipush K d9_17 (v := (8 : Int32)) rfl (pc' := 19) rfl ?_
  refine WP.iconst K d9_19 (v := (0 : Int32)) rfl (pc' := 20) rfl ?_
  have hz0 : h0.size ≤ h19.size := KP.1
  refine WP.callP K (a := mp) (argsL := [(.int (8 : Int32)), (.int (0 : Int32))]) (S := []) (w_66 hw) (w_67 hw) (w_53 hw) (w_68 hw) (IsMap.exa O_mp) (rm_empty w l Z a0 hw mp _ _ _ _ _ _ _ _ h19 n0 Z0 O_mp old_mp) (w_69 hw) (w_54 hw) (by decide) rfl (lenOf pd_2 rfl) rfl (W := 0) rfl (by decide) (by decide) (k' := 1) (n' := 16) rfl rfl (by decide) (by decide) d9_20 (pc' := 23) rfl fun v h20 hq => ?_
  obtain ⟨rfl, K0, en, kE, s_en, O_mp, A_en⟩ := hq
  have KP := Keep.trans KP K0 (allS (Or.inl (List.mem_of_getElem? (i := 0) rfl)) all0)
  have Z0 := Nat.le_trans Z0 K0.1
  show WP κ h20 1 16 (mkF κ.m 23 #[.val (.ref mp), .val (.int (1 : Int32))] [])
  exact WP.ret0 K d9_23 (by decide) (by decide) ⟨rfl, KP, en, kE, Nat.le_trans hz0 s_en, O_mp, A_en⟩
set_option maxRecDepth 65536 in
set_option maxHeartbeats 40000000 in
theorem rm_map0 (w : Bool) (l : Launch) (Z : State) (a0 : Array Value) (hw : ∀ d ∈ tables_1, d.before a0 Z = true) (mp : Addr) (u_width u_stride u_entries u_slots u_objects u_greatestKey u_values u_size u_keys : Value) (h0 : Heap) (n0 : Nat) (Z0 : n0 ≤ h0.size) (O_mp : IsMap Z h0 mp u_width u_stride u_entries u_slots u_objects u_greatestKey u_values u_size u_keys) (old_mp : n0 ≤ mp) :
    Met w l Z (⟨"com/example/weir/weir/engine/IntIntMap", "<init>", "()V"⟩ : MethodName) prog_26_method_1_code 1 none [] ({ frames := 2, cells := 1, slots := 16, locals := 27 } : Room) #[(.ref mp)] h0 n0 (fun v h => v = none ∧ Keep h0 h [mp] ∧ ∃ (en : Addr) (kE : ClassId), h0.size ≤ en ∧ IsMap Z h mp (.int (1 : Int32)) (.int (2 : Int32)) (.ref en) (.int (8 : Int32)) .null (.int (0 : Int32)) u_values u_size u_keys ∧ Ary Z h en kE .int 16 (fun j => .int ((fun _ => (0 : Int32)) j))) := by
  refine Met.of (plainFor_of_name (by first | (simp [plainName, overriddenIn]; done) | decide +kernel)) fun κ K => ?_
  refine WP.frame (g' := (mkF κ.m 0 #[.val (.ref mp)] [])) (by first | (simp [entryFrame, mkF, argsToLocals, Value.category]; done) | rfl) ?_
  have KP := Keep.refl h0 [mp]
  refine WP.aloadN K d8_0 rfl rfl (pc' := 1) rfl ?_
  refine WP.iconst K d8_1 (v := (1 : Int32)) rfl (pc' := 2) rfl ?_
  refine WP.callI K (a := mp) (argsL := [(.int (1 : Int32))]) (S := []) rfl (w_58 hw) (w_59 hw) (rm_map1 w l Z a0 hw mp _ _ _ _ _ _ _ _ _ h0 n0 Z0 O_mp old_mp) (w_60 hw) (w_54 hw) (by decide) rfl (lenOf pd_3 rfl) rfl (W := 0) rfl (by decide) (by decide) (k' := 1) (n' := 16) rfl rfl (by decide) (by decide) d8_2 (pc' := 5) rfl fun v h21 hq => ?_
  obtain ⟨rfl, K0, en, kE, s_en, O_mp, A_en⟩ := hq
  have KP := Keep.trans KP K0 (allS (Or.inl (List.mem_of_getElem? (i := 0) rfl)) all0)
  have Z0 := Nat.le_trans Z0 K0.1
  show WP κ h21 1 16 (mkF κ.m 5 #[.val (.ref mp)] [])
  exact WP.ret0 K d8_5 (by decide) (by decide) ⟨rfl, KP, en, kE, s_en, O_mp, A_en⟩
set_option maxRecDepth 65536 in
set_option maxHeartbeats 40000000 in
theorem rm_si (w : Bool) (l : Launch) (Z : State) (a0 : Array Value) (hw : ∀ d ∈ tables_1, d.before a0 Z = true) (si fn : Addr) (u_subjects u_next u_terms : Value) (nl : Addr) (kL : ClassId) (fL : Nat → Value) (h0 : Heap) (n0 : Nat) (Z0 : n0 ≤ h0.size) (O_si : IsSI Z h0 si u_subjects u_next u_terms) (old_si : n0 ≤ si) (S_nl : Sta Z Z.heap "com/example/weir/weir/engine/SubjectIndex" "NO_LINKS" "[I" (.ref nl)) (A_nl : Ary Z Z.heap nl kL .int 0 fL) (OLD : Old Z n0 h0) :
    Met w l Z (⟨"com/example/weir/weir/engine/SubjectIndex", "<init>", "(Lcom/example/weir/weir/engine/SubjectIndex$Terms;)V"⟩ : MethodName) prog_43_method_1_code 2 none [] ({ frames := 3, cells := 2, slots := 25, locals := 41 } : Room) #[(.ref si), (.ref fn)] h0 n0 (fun v h => v = none ∧ Keep h0 h [si] ∧ ∃ (mp en : Addr) (kE : ClassId), h0.size ≤ mp ∧ h0.size ≤ en ∧ IsSI Z h si (.ref mp) (.ref nl) (.ref fn) ∧ IsMap Z h mp (.int (1 : Int32)) (.int (2 : Int32)) (.ref en) (.int (8 : Int32)) .null (.int (0 : Int32)) .null (.int (0 : Int32)) (.int (0 : Int32)) ∧ Ary Z h en kE .int 16 (fun j => .int ((fun _ => (0 : Int32)) j))) := by
  refine Met.of (plainFor_of_name (by first | (simp [plainName, overriddenIn]; done) | decide +kernel)) fun κ K => ?_
  refine WP.frame (g' := (mkF κ.m 0 #[.val (.ref si), .val (.ref fn)] [])) (by first | (simp [entryFrame, mkF, argsToLocals, Value.category]; done) | rfl) ?_
  have KP := Keep.refl h0 [si]
  refine WP.aloadN K d7_0 rfl rfl (pc' := 1) rfl ?_
  refine WP.initO K (w_51 hw) (w_16 hw) (w_17 hw) d7_1 rfl (by decide) (W := 0) rfl (by decide) (pc' := 4) rfl ?_
  refine WP.aloadN K d7_4 rfl rfl (pc' := 5) rfl ?_
  refine WP.new K (w_52 hw) (w_53 hw) (w_54 hw) d7_5 (k' := 1) (n' := 9) rfl rfl (by decide) (by decide) (pc' := 8) rfl fun h22 mp g22 E22 X22 D22 => ?_
  have ne_nl_mp : nl ≠ mp := fun z_ => by have q_ : @LT.lt Nat _ nl h0.size := (Ary.lt (Ary.ext OLD.2 A_nl)); have r_ : @Eq Nat nl mp := z_; omega
  have ne_si_mp : si ≠ mp := fun z_ => by have q_ : @LT.lt Nat _ si h0.size := (IsSI.lt O_si); have r_ : @Eq Nat si mp := z_; omega
  have old_mp : n0 ≤ mp := by have q_ := Z0; omega
  have osz_mp : h0.size ≤ mp := by have q_ := KP.1; omega
  have O_si := IsSI.ext E22 O_si
  have KP := Keep.ext KP E22
  have OLD := Old.ext OLD E22
  have Z0 := Nat.le_trans Z0 E22.1
  have O_mp : IsMap Z h22 mp (.int (0 : Int32)) (.int (0 : Int32)) .null (.int (0 : Int32)) .null (.int (0 : Int32)) .null (.int (0 : Int32)) (.int (0 : Int32)) := ⟨X22, D22 (O := "com/example/weir/weir/engine/IntIntMap") (f := "width") (d := "I") (Or.inr (w_63 hw)) (ty := .int) (by decide), D22 (O := "com/example/weir/weir/engine/IntIntMap") (f := "stride") (d := "I") (Or.inr (w_65 hw)) (ty := .int) (by decide), D22 (O := "com/example/weir/weir/engine/IntIntMap") (f := "entries") (d := "[I") (Or.inl (w_71 hw)) (ty := (.array .int)) (by decide), D22 (O := "com/example/weir/weir/engine/IntIntMap") (f := "slots") (d := "I") (Or.inl (w_73 hw)) (ty := .int) (by decide), D22 (O := "com/example/weir/weir/engine/IntIntMap") (f := "objects") (d := "[Ljava/lang/Object;") (Or.inl (w_75 hw)) (ty := (.array (.object "java/lang/Object"))) (by decide), D22 (O := "com/example/weir/weir/engine/IntIntMap") (f := "greatestKey") (d := "I") (Or.inl (w_77 hw)) (ty := .int) (by decide), D22 (O := "com/example/weir/weir/engine/IntIntMap") (f := "values") (d := "[I") (Or.inl (w_150 hw)) (ty := (.array .int)) (by decide), D22 (O := "com/example/weir/weir/engine/IntIntMap") (f := "size") (d := "I") (Or.inl (w_166 hw)) (ty := .int) (by decide), D22 (O := "com/example/weir/weir/engine/IntIntMap") (f := "keys") (d := "I") (Or.inl (w_173 hw)) (ty := .int) (by decide)⟩
  refine WP.dup K d7_8 rfl (pc' := 9) rfl ?_
  have hz0 : h0.size ≤ h22.size := KP.1
  refine WP.callI K (a := mp) (argsL := []) (S := [(.ref mp), (.ref si)]) rfl (w_55 hw) (w_56 hw) (rm_map0 w l Z a0 hw mp _ _ _ _ _ _ _ _ _ h22 n0 Z0 O_mp old_mp) (w_57 hw) (w_54 hw) (by decide) rfl (lenOf pd_1 rfl) rfl (W := 2) rfl (by decide) (by decide) (k' := 2) (n' := 25) rfl rfl (by decide) (by decide) d7_9 (pc' := 12) rfl fun v h23 hq => ?_
  obtain ⟨rfl, K0, en, kE, s_en, O_mp, A_en⟩ := hq
  have O_si := IsSI.keep K0 O_si (ninS ne_si_mp nin0)
  have KP := Keep.trans KP K0 (allS (Or.inr osz_mp) all0)
  have OLD := Old.keep OLD K0 (allS old_mp all0)
  have Z0 := Nat.le_trans Z0 K0.1
  show WP κ h23 2 25 (mkF κ.m 12 #[.val (.ref si), .val (.ref fn)] [(.ref mp), (.ref si)])
  refine WP.putF K (w_78 hw) Via.refl (IsSI.f_subjects O_si) (IsSI.exa O_si) (Or.inr ⟨(w_79 hw), rfl, rfl⟩) (w_42 hw) (ty := (.object "com/example/weir/weir/engine/IntIntMap")) (by decide) rfl rfl old_si d7_12 (pc' := 15) rfl fun h24 W24 => ?_
  have O_mp := IsMap.other W24 O_mp (Ne.symm ne_si_mp)
  have A_en := Ary.other W24 A_en (Ne.symm (Ary.ne (IsSI.exa O_si) A_en (w_42 hw)))
  have KP := Keep.wr KP W24 (Or.inl (List.mem_of_getElem? (i := 0) rfl))
  have OLD := Old.wr OLD W24 old_si
  have Z0 := Nat.le_trans Z0 (Nat.le_of_eq W24.size.symm)
  have O_si := IsSI.s_subjects hw W24 O_si
  refine WP.aloadN K d7_15 rfl rfl (pc' := 16) rfl ?_
  refine WP.getS K (w_80 hw) Via.refl (Sta.ext OLD.2 S_nl) d7_16 (pc' := 19) rfl ?_
  refine WP.putF K (w_82 hw) Via.refl (IsSI.f_next O_si) (IsSI.exa O_si) (Or.inl (w_83 hw)) (w_42 hw) (ty := (.array .int)) (by decide) rfl rfl old_si d7_19 (pc' := 22) rfl fun h25 W25 => ?_
  have O_mp := IsMap.other W25 O_mp (Ne.symm ne_si_mp)
  have A_en := Ary.other W25 A_en (Ne.symm (Ary.ne (IsSI.exa O_si) A_en (w_42 hw)))
  have KP := Keep.wr KP W25 (Or.inl (List.mem_of_getElem? (i := 0) rfl))
  have OLD := Old.wr OLD W25 old_si
  have Z0 := Nat.le_trans Z0 (Nat.le_of_eq W25.size.symm)
  have O_si := IsSI.s_next hw W25 O_si
  refine WP.aloadN K d7_22 rfl rfl (pc' := 23) rfl ?_
  refine WP.aloadN K d7_23 rfl rfl (pc' := 24) rfl ?_
  refine WP.putF K (w_84 hw) Via.refl (IsSI.f_terms O_si) (IsSI.exa O_si) (Or.inr ⟨(w_85 hw), rfl, rfl⟩) (w_42 hw) (ty := (.object "com/example/weir/weir/engine/SubjectIndex$Terms")) (by decide) rfl rfl old_si d7_24 (pc' := 27) rfl fun h26 W26 => ?_
  have O_mp := IsMap.other W26 O_mp (Ne.symm ne_si_mp)
  have A_en := Ary.other W26 A_en (Ne.symm (Ary.ne (IsSI.exa O_si) A_en (w_42 hw)))
  have KP := Keep.wr KP W26 (Or.inl (List.mem_of_getElem? (i := 0) rfl))
  have OLD := Old.wr OLD W26 old_si
  have Z0 := Nat.le_trans Z0 (Nat.le_of_eq W26.size.symm)
  have O_si := IsSI.s_terms hw W26 O_si
  exact WP.ret0 K d7_27 (by decide) (by decide) ⟨rfl, KP, mp, en, kE, osz_mp, Nat.le_trans hz0 s_en, O_si, O_mp, A_en⟩
set_option maxRecDepth 65536 in
set_option maxHeartbeats 40000000 in
theorem rm_tt (w : Bool) (l : Launch) (Z : State) (a0 : Array Value) (hw : ∀ d ∈ tables_1, d.before a0 Z = true) (tb : Addr) (u_terms u_numbers u_index u_ends u_size u_moves u_strata u_ending u_earliest : Value) (nl : Addr) (kL : ClassId) (fL : Nat → Value) (h0 : Heap) (n0 : Nat) (Z0 : n0 ≤ h0.size) (O_tb : IsTb Z h0 tb u_terms u_numbers u_index u_ends u_size u_moves u_strata u_ending u_earliest) (old_tb : n0 ≤ tb) (S_nl : Sta Z Z.heap "com/example/weir/weir/engine/SubjectIndex" "NO_LINKS" "[I" (.ref nl)) (A_nl : Ary Z Z.heap nl kL .int 0 fL) (OLD : Old Z n0 h0) :
    Met w l Z (⟨"com/example/weir/weir/engine/TripleTable", "<init>", "()V"⟩ : MethodName) prog_50_method_1_code 1 none [] ({ frames := 4, cells := 8, slots := 229, locals := 3076 } : Room) #[(.ref tb)] h0 n0 (fun v h => v = none ∧ Keep h0 h [tb] ∧ ∃ (te nu il ar si fn mp en : Addr) (kT kE : ClassId), (h0.size ≤ te ∧ h0.size ≤ nu ∧ h0.size ≤ il ∧ h0.size ≤ si ∧ h0.size ≤ mp ∧ h0.size ≤ en) ∧ (te ≠ en ∧ fn ≠ tb ∧ fn ≠ te ∧ fn ≠ nu ∧ fn ≠ si ∧ fn ≠ mp) ∧ IsTb Z h tb (.ref te) (.ref nu) (.ref si) u_ends u_size u_moves u_strata u_ending u_earliest ∧ Ary Z h te kT .int 192 (fun j => .int ((fun _ => (0 : Int32)) j)) ∧ IsNu Z h nu (.ref il) (.int (0 : Int32)) ∧ IsIL Z h il (.ref ar) (.int (0 : Int32)) ∧ IsSI Z h si (.ref mp) (.ref nl) (.ref fn) ∧ Fun1 Z h own_shape "com/example/weir/weir/engine/TripleTable" fn tb ∧ IsMap Z h mp (.int (1 : Int32)) (.int (2 : Int32)) (.ref en) (.int (8 : Int32)) .null (.int (0 : Int32)) .null (.int (0 : Int32)) (.int (0 : Int32)) ∧ Ary Z h en kE .int 16 (fun j => .int ((fun _ => (0 : Int32)) j))) := by
  refine Met.ofN (plainFor_of_name (by first | (simp [plainName, overriddenIn]; done) | decide +kernel)) fun κ K hN => ?_
  refine WP.frame (g' := (mkF κ.m 0 #[.val (.ref tb)] [])) (by first | (simp [entryFrame, mkF, argsToLocals, Value.category]; done) | rfl) ?_
  have KP := Keep.refl h0 [tb]
  have z_tb : @LT.lt Nat _ tb h0.size := IsTb.lt O_tb
  refine WP.aloadN K d3_0 rfl rfl (pc' := 1) rfl ?_
  refine WP.initO K (w_15 hw) (w_16 hw) (w_17 hw) d3_1 rfl (by decide) (W := 0) rfl (by decide) (pc' := 4) rfl ?_
  refine WP.aloadN K d3_4 rfl rfl (pc' := 5) rfl ?_
  refine WP.sipush K d3_5 (v := (192 : Int32)) rfl (pc' := 8) rfl ?_
  refine WP.newarray (aty := .int) K (w_18 hw) d3_8 (N := 192) (cap := 192) rfl (Nat.le_refl _) (by decide) (k' := 1) (n' := 192) rfl rfl (by decide) (by decide) (pc' := 10) rfl fun h27 te kA_te g27 E27 A_te => ?_
  have ne_nl_te : nl ≠ te := fun z_ => by have q_ : @LT.lt Nat _ nl h0.size := (Ary.lt (Ary.ext OLD.2 A_nl)); have r_ : @Eq Nat nl te := z_; omega
  have ne_tb_te : tb ≠ te := fun z_ => by have q_ : @LT.lt Nat _ tb h0.size := (IsTb.lt O_tb); have r_ : @Eq Nat tb te := z_; omega
  have old_te : n0 ≤ te := by have q_ := Z0; omega
  have osz_te : h0.size ≤ te := by have q_ := KP.1; omega
  have O_tb := IsTb.ext E27 O_tb
  have KP := Keep.ext KP E27
  have OLD := Old.ext OLD E27
  have Z0 := Nat.le_trans Z0 E27.1
  have A_te : Ary Z h27 te kA_te .int 192 (fun j => .int ((fun _ => (0 : Int32)) j)) := A_te
  refine WP.putF K (w_19 hw) Via.refl (IsTb.f_terms O_tb) (IsTb.exa O_tb) (Or.inl (w_20 hw)) (w_10 hw) (ty := (.array .int)) (by decide) rfl rfl old_tb d3_10 (pc' := 13) rfl fun h28 W28 => ?_
  have A_te := Ary.other W28 A_te (Ne.symm ne_tb_te)
  have KP := Keep.wr KP W28 (Or.inl (List.mem_of_getElem? (i := 0) rfl))
  have OLD := Old.wr OLD W28 old_tb
  have Z0 := Nat.le_trans Z0 (Nat.le_of_eq W28.size.symm)
  have O_tb := IsTb.s_terms hw W28 O_tb
  refine WP.aloadN K d3_13 rfl rfl (pc' := 14) rfl ?_
  refine WP.new K (w_21 hw) (w_22 hw) (w_23 hw) d3_14 (k' := 2) (n' := 194) rfl rfl (by decide) (by decide) (pc' := 17) rfl fun h29 nu g29 E29 X29 D29 => ?_
  have ne_nl_nu : nl ≠ nu := fun z_ => by have q_ : @LT.lt Nat _ nl h28.size := (Ary.lt (Ary.ext OLD.2 A_nl)); have r_ : @Eq Nat nl nu := z_; omega
  have ne_tb_nu : tb ≠ nu := fun z_ => by have q_ : @LT.lt Nat _ tb h28.size := (IsTb.lt O_tb); have r_ : @Eq Nat tb nu := z_; omega
  have ne_te_nu : te ≠ nu := fun z_ => by have q_ : @LT.lt Nat _ te h28.size := (Ary.lt A_te); have r_ : @Eq Nat te nu := z_; omega
  have old_nu : n0 ≤ nu := by have q_ := Z0; omega
  have osz_nu : h0.size ≤ nu := by have q_ := KP.1; omega
  have O_tb := IsTb.ext E29 O_tb
  have A_te := Ary.ext E29 A_te
  have KP := Keep.ext KP E29
  have OLD := Old.ext OLD E29
  have Z0 := Nat.le_trans Z0 E29.1
  have O_nu : IsNu Z h29 nu .null (.int (0 : Int32)) := ⟨X29, D29 (O := "com/example/weir/weir/engine/Numbers") (f := "free") (d := "Lcom/example/weir/weir/engine/IntList;") (Or.inl (w_38 hw)) (ty := (.object "com/example/weir/weir/engine/IntList")) (by decide), D29 (O := "com/example/weir/weir/engine/Numbers") (f := "limit") (d := "I") (Or.inl (w_106 hw)) (ty := .int) (by decide)⟩
  refine WP.dup K d3_17 rfl (pc' := 18) rfl ?_
  have hz1 : h0.size ≤ h29.size := KP.1
  refine WP.callI K (a := nu) (argsL := []) (S := [(.ref nu), (.ref tb)]) rfl (w_24 hw) (w_25 hw) (rm_nu w l Z a0 hw nu _ _ h29 n0 Z0 O_nu old_nu) (w_26 hw) (w_23 hw) (by decide) rfl (lenOf pd_1 rfl) rfl (W := 2) rfl (by decide) (by decide) (k' := 4) (n' := 200) rfl rfl (by decide) (by decide) d3_18 (pc' := 21) rfl fun v h30 hq => ?_
  obtain ⟨rfl, K0, il, ar, s_il, O_nu, O_il⟩ := hq
  have O_tb := IsTb.keep K0 O_tb (ninS ne_tb_nu nin0)
  have A_te := Ary.keep K0 A_te (ninS ne_te_nu nin0)
  have KP := Keep.trans KP K0 (allS (Or.inr osz_nu) all0)
  have OLD := Old.keep OLD K0 (allS old_nu all0)
  have Z0 := Nat.le_trans Z0 K0.1
  show WP κ h30 4 200 (mkF κ.m 21 #[.val (.ref tb)] [(.ref nu), (.ref tb)])
  refine WP.putF K (w_39 hw) Via.refl (IsTb.f_numbers O_tb) (IsTb.exa O_tb) (Or.inr ⟨(w_40 hw), rfl, rfl⟩) (w_10 hw) (ty := (.object "com/example/weir/weir/engine/Numbers")) (by decide) rfl rfl old_tb d3_21 (pc' := 24) rfl fun h31 W31 => ?_
  have A_te := Ary.other W31 A_te (Ne.symm ne_tb_te)
  have O_nu := IsNu.other W31 O_nu (Ne.symm ne_tb_nu)
  have O_il := IsIL.other W31 O_il (ne_exa (IsIL.exa O_il) (IsTb.exa O_tb) (by decide))
  have KP := Keep.wr KP W31 (Or.inl (List.mem_of_getElem? (i := 0) rfl))
  have OLD := Old.wr OLD W31 old_tb
  have Z0 := Nat.le_trans Z0 (Nat.le_of_eq W31.size.symm)
  have O_tb := IsTb.s_numbers hw W31 O_tb
  refine WP.aloadN K d3_24 rfl rfl (pc' := 25) rfl ?_
  refine WP.new K (w_41 hw) (w_42 hw) (w_43 hw) d3_25 (k' := 5) (n' := 203) rfl rfl (by decide) (by decide) (pc' := 28) rfl fun h32 si g32 E32 X32 D32 => ?_
  have ne_nl_si : nl ≠ si := fun z_ => by have q_ : @LT.lt Nat _ nl h31.size := (Ary.lt (Ary.ext OLD.2 A_nl)); have r_ : @Eq Nat nl si := z_; omega
  have ne_tb_si : tb ≠ si := fun z_ => by have q_ : @LT.lt Nat _ tb h31.size := (IsTb.lt O_tb); have r_ : @Eq Nat tb si := z_; omega
  have ne_te_si : te ≠ si := fun z_ => by have q_ : @LT.lt Nat _ te h31.size := (Ary.lt A_te); have r_ : @Eq Nat te si := z_; omega
  have ne_nu_si : nu ≠ si := fun z_ => by have q_ : @LT.lt Nat _ nu h31.size := (IsNu.lt O_nu); have r_ : @Eq Nat nu si := z_; omega
  have ne_il_si : il ≠ si := fun z_ => by have q_ : @LT.lt Nat _ il h31.size := (IsIL.lt O_il); have r_ : @Eq Nat il si := z_; omega
  have old_si : n0 ≤ si := by have q_ := Z0; omega
  have osz_si : h0.size ≤ si := by have q_ := KP.1; omega
  have O_tb := IsTb.ext E32 O_tb
  have A_te := Ary.ext E32 A_te
  have O_nu := IsNu.ext E32 O_nu
  have O_il := IsIL.ext E32 O_il
  have KP := Keep.ext KP E32
  have OLD := Old.ext OLD E32
  have Z0 := Nat.le_trans Z0 E32.1
  have O_si : IsSI Z h32 si .null .null .null := ⟨X32, D32 (O := "com/example/weir/weir/engine/SubjectIndex") (f := "subjects") (d := "Lcom/example/weir/weir/engine/IntIntMap;") (Or.inr (w_79 hw)) (ty := (.object "com/example/weir/weir/engine/IntIntMap")) (by decide), D32 (O := "com/example/weir/weir/engine/SubjectIndex") (f := "next") (d := "[I") (Or.inl (w_83 hw)) (ty := (.array .int)) (by decide), D32 (O := "com/example/weir/weir/engine/SubjectIndex") (f := "terms") (d := "Lcom/example/weir/weir/engine/SubjectIndex$Terms;") (Or.inr (w_85 hw)) (ty := (.object "com/example/weir/weir/engine/SubjectIndex$Terms")) (by decide)⟩
  refine WP.dup K d3_28 rfl (pc' := 29) rfl ?_
  refine WP.aloadN K d3_29 rfl rfl (pc' := 30) rfl ?_
  refine WP.lambda1 K (σ := own_shape) hN (w_44 hw) (w_47 hw) rfl own_shape_lays d3_30 rfl (W := 3) rfl (by decide) (k' := 6) (n' := 204) rfl rfl (by decide) (by decide) (pc' := 35) rfl fun h33 fn g33 E33 F_fn => ?_
  have ne_nl_fn : nl ≠ fn := fun z_ => by have q_ : @LT.lt Nat _ nl h32.size := (Ary.lt (Ary.ext OLD.2 A_nl)); have r_ : @Eq Nat nl fn := z_; omega
  have ne_tb_fn : tb ≠ fn := fun z_ => by have q_ : @LT.lt Nat _ tb h32.size := (IsTb.lt O_tb); have r_ : @Eq Nat tb fn := z_; omega
  have ne_te_fn : te ≠ fn := fun z_ => by have q_ : @LT.lt Nat _ te h32.size := (Ary.lt A_te); have r_ : @Eq Nat te fn := z_; omega
  have ne_nu_fn : nu ≠ fn := fun z_ => by have q_ : @LT.lt Nat _ nu h32.size := (IsNu.lt O_nu); have r_ : @Eq Nat nu fn := z_; omega
  have ne_il_fn : il ≠ fn := fun z_ => by have q_ : @LT.lt Nat _ il h32.size := (IsIL.lt O_il); have r_ : @Eq Nat il fn := z_; omega
  have ne_si_fn : si ≠ fn := fun z_ => by have q_ : @LT.lt Nat _ si h32.size := (IsSI.lt O_si); have r_ : @Eq Nat si fn := z_; omega
  have old_fn : n0 ≤ fn := by have q_ := Z0; omega
  have osz_fn : h0.size ≤ fn := by have q_ := KP.1; omega
  have O_tb := IsTb.ext E33 O_tb
  have A_te := Ary.ext E33 A_te
  have O_nu := IsNu.ext E33 O_nu
  have O_il := IsIL.ext E33 O_il
  have O_si := IsSI.ext E33 O_si
  have KP := Keep.ext KP E33
  have OLD := Old.ext OLD E33
  have Z0 := Nat.le_trans Z0 E33.1
  have z_fn : @LT.lt Nat _ fn h33.size := Fun1.lt F_fn
  have z_te : @LT.lt Nat _ te h33.size := Ary.lt A_te
  have hz2 : h0.size ≤ h33.size := KP.1
  refine WP.callI K (a := si) (argsL := [(.ref fn)]) (S := [(.ref si), (.ref tb)]) rfl (w_48 hw) (w_49 hw) (rm_si w l Z a0 hw si fn _ _ _ nl kL fL h33 n0 Z0 O_si old_si S_nl A_nl OLD) (w_50 hw) (w_43 hw) (by decide) rfl (lenOf pd_4 rfl) rfl (W := 2) rfl (by decide) (by decide) (k' := 8) (n' := 229) rfl rfl (by decide) (by decide) d3_35 (pc' := 38) rfl fun v h34 hq => ?_
  obtain ⟨rfl, K0, mp, en, kE, s_mp, s_en, O_si, O_mp, A_en⟩ := hq
  have O_tb := IsTb.keep K0 O_tb (ninS ne_tb_si nin0)
  have A_te := Ary.keep K0 A_te (ninS ne_te_si nin0)
  have O_nu := IsNu.keep K0 O_nu (ninS ne_nu_si nin0)
  have O_il := IsIL.keep K0 O_il (ninS ne_il_si nin0)
  have F_fn := Fun1.keep K0 F_fn (ninS (Ne.symm ne_si_fn) nin0)
  have KP := Keep.trans KP K0 (allS (Or.inr osz_si) all0)
  have OLD := Old.keep OLD K0 (allS old_si all0)
  have Z0 := Nat.le_trans Z0 K0.1
  show WP κ h34 8 229 (mkF κ.m 38 #[.val (.ref tb)] [(.ref si), (.ref tb)])
  have ne_fn_mp : fn ≠ mp := fun z_ => by have r_ : @Eq Nat fn mp := z_; omega
  have ne_te_en : te ≠ en := fun z_ => by have r_ : @Eq Nat te en := z_; omega
  have b_mp : h0.size ≤ mp := Nat.le_trans hz2 s_mp
  have b_en : h0.size ≤ en := Nat.le_trans hz2 s_en
  have b_il : h0.size ≤ il := Nat.le_trans hz1 s_il
  refine WP.putF K (w_86 hw) Via.refl (IsTb.f_index O_tb) (IsTb.exa O_tb) (Or.inl (w_87 hw)) (w_10 hw) (ty := (.object "com/example/weir/weir/engine/SubjectIndex")) (by decide) rfl rfl old_tb d3_38 (pc' := 41) rfl fun h35 W35 => ?_
  have A_te := Ary.other W35 A_te (Ne.symm ne_tb_te)
  have O_nu := IsNu.other W35 O_nu (Ne.symm ne_tb_nu)
  have O_il := IsIL.other W35 O_il (ne_exa (IsIL.exa O_il) (IsTb.exa O_tb) (by decide))
  have O_si := IsSI.other W35 O_si (Ne.symm ne_tb_si)
  have F_fn := Fun1.other W35 F_fn (Ne.symm ne_tb_fn)
  have O_mp := IsMap.other W35 O_mp (ne_exa (IsMap.exa O_mp) (IsTb.exa O_tb) (by decide))
  have A_en := Ary.other W35 A_en (Ne.symm (Ary.ne (IsTb.exa O_tb) A_en (w_10 hw)))
  have KP := Keep.wr KP W35 (Or.inl (List.mem_of_getElem? (i := 0) rfl))
  have OLD := Old.wr OLD W35 old_tb
  have Z0 := Nat.le_trans Z0 (Nat.le_of_eq W35.size.symm)
  have O_tb := IsTb.s_index hw W35 O_tb
  exact WP.ret0 K d3_41 (by decide) (by decide) ⟨rfl, KP, te, nu, il, ar, si, fn, mp, en, kA_te, kE, ⟨osz_te, osz_nu, b_il, osz_si, b_mp, b_en⟩, ⟨ne_te_en, Ne.symm ne_tb_fn, Ne.symm ne_te_fn, Ne.symm ne_nu_fn, Ne.symm ne_si_fn, ne_fn_mp⟩, O_tb, A_te, O_nu, O_il, O_si, F_fn, O_mp, A_en⟩
set_option maxRecDepth 65536 in
set_option maxHeartbeats 40000000 in
theorem rm_ilsize (w : Bool) (l : Launch) (Z : State) (a0 : Array Value) (hw : ∀ d ∈ tables_1, d.before a0 Z = true) (il : Addr) (u_values : Value) (h0 : Heap) (n0 : Nat) (Z0 : n0 ≤ h0.size) (O_il : IsIL Z h0 il u_values (.int (0 : Int32))) :
    Met w l Z (⟨"com/example/weir/weir/engine/IntList", "size", "()I"⟩ : MethodName) prog_27_method_6_code 1 (some .int) [] ({ frames := 0, cells := 0, slots := 0, locals := 0 } : Room) #[(.ref il)] h0 n0 (fun v h => v = some (.int (0 : Int32)) ∧ h0 = h) := by
  refine Met.of (plainFor_of_name (by first | (simp [plainName, overriddenIn]; done) | decide +kernel)) fun κ K => ?_
  refine WP.frame (g' := (mkF κ.m 0 #[.val (.ref il)] [])) (by first | (simp [entryFrame, mkF, argsToLocals, Value.category]; done) | rfl) ?_
  refine WP.aloadN K d13_0 rfl rfl (pc' := 1) rfl ?_
  refine WP.getF K (w_103 hw) Via.refl (IsIL.f_size O_il) d13_1 (pc' := 4) rfl ?_
  exact WP.retI K d13_4 (by decide) (by decide) ⟨rfl, rfl⟩
set_option maxRecDepth 65536 in
set_option maxHeartbeats 40000000 in
theorem rm_take (w : Bool) (l : Launch) (Z : State) (a0 : Array Value) (hw : ∀ d ∈ tables_1, d.before a0 Z = true) (nu il : Addr) (u_values : Value) (h0 : Heap) (n0 : Nat) (Z0 : n0 ≤ h0.size) (O_nu : IsNu Z h0 nu (.ref il) (.int (0 : Int32))) (O_il : IsIL Z h0 il u_values (.int (0 : Int32))) (old_nu : n0 ≤ nu) :
    Met w l Z (⟨"com/example/weir/weir/engine/Numbers", "take", "()I"⟩ : MethodName) prog_41_method_2_code 1 (some .int) [] ({ frames := 1, cells := 0, slots := 0, locals := 12 } : Room) #[(.ref nu)] h0 n0 (fun v h => v = some (.int (0 : Int32)) ∧ Keep h0 h [nu]) := by
  refine Met.of (plainFor_of_name (by first | (simp [plainName, overriddenIn]; done) | decide +kernel)) fun κ K => ?_
  refine WP.frame (g' := (mkF κ.m 0 #[.val (.ref nu)] [])) (by first | (simp [entryFrame, mkF, argsToLocals, Value.category]; done) | rfl) ?_
  have KP := Keep.refl h0 [nu]
  refine WP.aloadN K d12_0 rfl rfl (pc' := 1) rfl ?_
  refine WP.getF K (w_37 hw) Via.refl (IsNu.f_free O_nu) d12_1 (pc' := 4) rfl ?_
  refine WP.callV K (a := il) (argsL := []) (S := []) (w_98 hw) (w_99 hw) (fun vm0 hZ => notFace_of_selects (args := #[]) (mvT (s := κ.s.setVm vm0) hZ (w_101 hw))) (w_101 hw) (w_100 hw) (by decide) (IsIL.exa O_il) (rm_ilsize w l Z a0 hw il u_values h0 n0 Z0 O_il) (w_102 hw) (w_30 hw) (by decide) rfl (lenOf pd_5 rfl) rfl (W := 0) rfl (by decide) (by decide) (k' := 0) (n' := 0) rfl rfl (by decide) (by decide) d12_4 (pc' := 7) rfl fun v h36 hq => ?_
  obtain ⟨rfl, rfl⟩ := hq
  show WP κ h0 0 0 (mkF κ.m 7 #[.val (.ref nu)] [(.int (0 : Int32))])
  refine WP.if0T K d12_7 (by decide) (by decide) (pc' := 20) (by decide) ?_
  refine WP.aloadN K d12_20 rfl rfl (pc' := 21) rfl ?_
  refine WP.dup K d12_21 rfl (pc' := 22) rfl ?_
  refine WP.getF K (w_105 hw) Via.refl (IsNu.f_limit O_nu) d12_22 (pc' := 25) rfl ?_
  refine WP.dup_x1 K d12_25 rfl rfl (pc' := 26) rfl ?_
  refine WP.iconst K d12_26 (v := (1 : Int32)) rfl (pc' := 27) rfl ?_
  refine WP.iadd K d12_27 (pc' := 28) rfl ?_
  show WP κ h0 0 0 (mkF κ.m 28 #[.val (.ref nu)] [(.int (1 : Int32)), (.ref nu), (.int (0 : Int32))])
  refine WP.putF K (w_105 hw) Via.refl (IsNu.f_limit O_nu) (IsNu.exa O_nu) (Or.inl (w_106 hw)) (w_22 hw) (ty := .int) (by decide) rfl rfl old_nu d12_28 (pc' := 31) rfl fun h37 W37 => ?_
  have O_il := IsIL.other W37 O_il (ne_exa (IsIL.exa O_il) (IsNu.exa O_nu) (by decide))
  have KP := Keep.wr KP W37 (Or.inl (List.mem_of_getElem? (i := 0) rfl))
  have Z0 := Nat.le_trans Z0 (Nat.le_of_eq W37.size.symm)
  have O_nu := IsNu.s_limit hw W37 O_nu
  exact WP.retI K d12_31 (by decide) (by decide) ⟨rfl, KP⟩
set_option maxRecDepth 65536 in
set_option maxHeartbeats 40000000 in
theorem rm_cap (w : Bool) (l : Launch) (Z : State) (a0 : Array Value) (hw : ∀ d ∈ tables_1, d.before a0 Z = true) (tb te : Addr) (kT : ClassId) (f_te : Nat → Value) (u_numbers u_index u_ends u_size u_moves u_strata u_ending u_earliest : Value) (h0 : Heap) (n0 : Nat) (Z0 : n0 ≤ h0.size) (O_tb : IsTb Z h0 tb (.ref te) u_numbers u_index u_ends u_size u_moves u_strata u_ending u_earliest) (A_te : Ary Z h0 te kT .int 192 f_te) :
    Met w l Z (⟨"com/example/weir/weir/engine/TripleTable", "capacity", "()I"⟩ : MethodName) prog_50_method_4_code 1 (some .int) [] ({ frames := 0, cells := 0, slots := 0, locals := 0 } : Room) #[(.ref tb)] h0 n0 (fun v h => v = some (.int (64 : Int32)) ∧ h0 = h) := by
  refine Met.of (plainFor_of_name (by first | (simp [plainName, overriddenIn]; done) | decide +kernel)) fun κ K => ?_
  refine WP.frame (g' := (mkF κ.m 0 #[.val (.ref tb)] [])) (by first | (simp [entryFrame, mkF, argsToLocals, Value.category]; done) | rfl) ?_
  refine WP.aloadN K d15_0 rfl rfl (pc' := 1) rfl ?_
  refine WP.getF K (w_19 hw) Via.refl (IsTb.f_terms O_tb) d15_1 (pc' := 4) rfl ?_
  refine WP.arraylength K A_te d15_4 (pc' := 5) rfl ?_
  show WP κ h0 0 0 (mkF κ.m 5 #[.val (.ref tb)] [(.int (192 : Int32))])
  refine WP.iconst K d15_5 (v := (3 : Int32)) rfl (pc' := 6) rfl ?_
  refine WP.idiv K d15_6 (by decide) (pc' := 7) rfl ?_
  exact WP.retI K d15_7 (by decide) (by decide) ⟨congrArg (fun z => some (Value.int z)) (by decide : (192 : Int32) / (3 : Int32) = (64 : Int32)), rfl⟩
set_option maxRecDepth 65536 in
set_option maxHeartbeats 40000000 in
theorem rm_term (w : Bool) (l : Launch) (Z : State) (a0 : Array Value) (hw : ∀ d ∈ tables_1, d.before a0 Z = true) (tb te : Addr) (kT : ClassId) (F : Nat → Int32) (u_numbers u_index u_ends u_size u_moves u_strata u_ending u_earliest : Value) (h0 : Heap) (n0 : Nat) (Z0 : n0 ≤ h0.size) (O_tb : IsTb Z h0 tb (.ref te) u_numbers u_index u_ends u_size u_moves u_strata u_ending u_earliest) (A_te : Ary Z h0 te kT .int 192 (fun j => .int (F j))) (hF : F 0 = (1 : Int32)) :
    Met w l Z (⟨"com/example/weir/weir/engine/TripleTable", "term", "(II)I"⟩ : MethodName) prog_50_method_7_code 3 (some .int) [] ({ frames := 0, cells := 0, slots := 0, locals := 0 } : Room) #[(.ref tb), (.int (0 : Int32)), (.int (0 : Int32))] h0 n0 (fun v h => v = some (.int (1 : Int32)) ∧ h0 = h) := by
  refine Met.of (plainFor_of_name (by first | (simp [plainName, overriddenIn]; done) | decide +kernel)) fun κ K => ?_
  refine WP.frame (g' := (mkF κ.m 0 #[.val (.ref tb), .val (.int (0 : Int32)), .val (.int (0 : Int32))] [])) (by first | (simp [entryFrame, mkF, argsToLocals, Value.category]; done) | rfl) ?_
  refine WP.aloadN K d19_0 rfl rfl (pc' := 1) rfl ?_
  refine WP.getF K (w_19 hw) Via.refl (IsTb.f_terms O_tb) d19_1 (pc' := 4) rfl ?_
  refine WP.iconst K d19_4 (v := (3 : Int32)) rfl (pc' := 5) rfl ?_
  refine WP.iloadN K d19_5 rfl (pc' := 6) rfl ?_
  refine WP.imul K d19_6 (pc' := 7) rfl ?_
  show WP κ h0 0 0 (mkF κ.m 7 #[.val (.ref tb), .val (.int (0 : Int32)), .val (.int (0 : Int32))] [(.int (0 : Int32)), (.ref te)])
  refine WP.iloadN K d19_7 rfl (pc' := 8) rfl ?_
  refine WP.iadd K d19_8 (pc' := 9) rfl ?_
  show WP κ h0 0 0 (mkF κ.m 9 #[.val (.ref tb), .val (.int (0 : Int32)), .val (.int (0 : Int32))] [(.int (0 : Int32)), (.ref te)])
  refine WP.iaload K (i := 0) A_te rfl (by decide) (v := (.int (1 : Int32))) (congrArg Value.int hF) d19_9 (pc' := 10) rfl ?_
  exact WP.retI K d19_10 (by decide) (by decide) ⟨rfl, rfl⟩
set_option maxRecDepth 65536 in
set_option maxHeartbeats 40000000 in
theorem rm_find (w : Bool) (l : Launch) (Z : State) (a0 : Array Value) (hw : ∀ d ∈ tables_1, d.before a0 Z = true) (mp en : Addr) (kE : ClassId) (h0 : Heap) (n0 : Nat) (Z0 : n0 ≤ h0.size) (O_mp : IsMap Z h0 mp (.int (1 : Int32)) (.int (2 : Int32)) (.ref en) (.int (8 : Int32)) .null (.int (0 : Int32)) .null (.int (0 : Int32)) (.int (0 : Int32))) (A_en : Ary Z h0 en kE .int 16 (fun j => .int ((fun _ => (0 : Int32)) j))) :
    Met w l Z (⟨"com/example/weir/weir/engine/IntIntMap", "find", "(I)I"⟩ : MethodName) prog_26_method_20_code 4 (some .int) [] ({ frames := 1, cells := 0, slots := 0, locals := 13 } : Room) #[(.ref mp), (.int (1 : Int32))] h0 n0 (fun v h => v = some (.int (1 : Int32)) ∧ h0 = h) := by
  refine Met.of (plainFor_of_name (by first | (simp [plainName, overriddenIn]; done) | decide +kernel)) fun κ K => ?_
  refine WP.frame (g' := (mkF κ.m 0 #[.val (.ref mp), .val (.int (1 : Int32)), .unset, .unset] [])) (by first | (simp [entryFrame, mkF, argsToLocals, Value.category]; done) | rfl) ?_
  refine WP.aloadN K d21_0 rfl rfl (pc' := 1) rfl ?_
  refine WP.getF K (w_72 hw) Via.refl (IsMap.f_slots O_mp) d21_1 (pc' := 4) rfl ?_
  refine WP.iconst K d21_4 (v := (1 : Int32)) rfl (pc' := 5) rfl ?_
  refine WP.isub K d21_5 (pc' := 6) rfl ?_
  show WP κ h0 0 0 (mkF κ.m 6 #[.val (.ref mp), .val (.int (1 : Int32)), .unset, .unset] [(.int (7 : Int32))])
  refine WP.istoreN K d21_6 (L' := #[.val (.ref mp), .val (.int (1 : Int32)), .val (.int (7 : Int32)), .unset]) rfl (pc' := 7) rfl ?_
  refine WP.iloadN K d21_7 rfl (pc' := 8) rfl ?_
  refine WP.i2l K d21_8 (pc' := 9) rfl ?_
  refine WP.callS K (argsL := [(.long (((1 : Int32)).toInt64))]) (S := []) (w_155 hw) (w_156 hw) (rm_spread w l Z a0 hw (((1 : Int32)).toInt64) h0 n0 Z0) (w_158 hw) (w_157 hw) (by decide) rfl (lenOf pd_6 rfl) rfl (W := 0) rfl (by decide) (by decide) (k' := 0) (n' := 0) rfl rfl (by decide) (by decide) d21_9 (pc' := 12) rfl fun v h38 hq => ?_
  obtain ⟨rfl, rfl⟩ := hq
  show WP κ h0 0 0 (mkF κ.m 12 #[.val (.ref mp), .val (.int (1 : Int32)), .val (.int (7 : Int32)), .unset] [(.int (own_spread (((1 : Int32)).toInt64)))])
  refine WP.iloadN K d21_12 rfl (pc' := 13) rfl ?_
  refine WP.iand K d21_13 (pc' := 14) rfl ?_
  rw [show ((own_spread (((1 : Int32)).toInt64)) &&& (7 : Int32)) = (1 : Int32) from by decide]
  show WP κ h0 0 0 (mkF κ.m 14 #[.val (.ref mp), .val (.int (1 : Int32)), .val (.int (7 : Int32)), .unset] [(.int (1 : Int32))])
  refine WP.istoreN K d21_14 (L' := #[.val (.ref mp), .val (.int (1 : Int32)), .val (.int (7 : Int32)), .val (.int (1 : Int32))]) rfl (pc' := 15) rfl ?_
  refine WP.aloadN K d21_15 rfl rfl (pc' := 16) rfl ?_
  refine WP.getF K (w_70 hw) Via.refl (IsMap.f_entries O_mp) d21_16 (pc' := 19) rfl ?_
  refine WP.aloadN K d21_19 rfl rfl (pc' := 20) rfl ?_
  refine WP.getF K (w_64 hw) Via.refl (IsMap.f_stride O_mp) d21_20 (pc' := 23) rfl ?_
  refine WP.iloadN K d21_23 rfl (pc' := 24) rfl ?_
  refine WP.imul K d21_24 (pc' := 25) rfl ?_
  show WP κ h0 0 0 (mkF κ.m 25 #[.val (.ref mp), .val (.int (1 : Int32)), .val (.int (7 : Int32)), .val (.int (1 : Int32))] [(.int (2 : Int32)), (.ref en)])
  refine WP.iaload K (i := 2) A_en rfl (by decide) (v := (.int (0 : Int32))) rfl d21_25 (pc' := 26) rfl ?_
  refine WP.if0T K d21_26 (by decide) (by decide) (pc' := 55) (by decide) ?_
  refine WP.iloadN K d21_55 rfl (pc' := 56) rfl ?_
  exact WP.retI K d21_56 (by decide) (by decide) ⟨rfl, rfl⟩
set_option maxRecDepth 65536 in
set_option maxHeartbeats 40000000 in
theorem rm_mplace (w : Bool) (l : Launch) (Z : State) (a0 : Array Value) (hw : ∀ d ∈ tables_1, d.before a0 Z = true) (mp en : Addr) (kE : ClassId) (h0 : Heap) (n0 : Nat) (Z0 : n0 ≤ h0.size) (O_mp : IsMap Z h0 mp (.int (1 : Int32)) (.int (2 : Int32)) (.ref en) (.int (8 : Int32)) .null (.int (0 : Int32)) .null (.int (0 : Int32)) (.int (0 : Int32))) (A_en : Ary Z h0 en kE .int 16 (fun j => .int ((fun _ => (0 : Int32)) j))) :
    Met w l Z (⟨"com/example/weir/weir/engine/IntIntMap", "place", "(I)I"⟩ : MethodName) prog_26_method_7_code 3 (some .int) [] ({ frames := 2, cells := 0, slots := 0, locals := 28 } : Room) #[(.ref mp), (.int (1 : Int32))] h0 n0 (fun v h => v = some (.int (-1 : Int32)) ∧ h0 = h) := by
  refine Met.of (plainFor_of_name (by first | (simp [plainName, overriddenIn]; done) | decide +kernel)) fun κ K => ?_
  refine WP.frame (g' := (mkF κ.m 0 #[.val (.ref mp), .val (.int (1 : Int32)), .unset] [])) (by first | (simp [entryFrame, mkF, argsToLocals, Value.category]; done) | rfl) ?_
  refine WP.aloadN K d20_0 rfl rfl (pc' := 1) rfl ?_
  refine WP.getF K (w_149 hw) Via.refl (IsMap.f_values O_mp) d20_1 (pc' := 4) rfl ?_
  refine WP.ifnullT K (b := 0) d20_4 (by decide) (pc' := 36) (by decide) ?_
  refine WP.aloadN K d20_36 rfl rfl (pc' := 37) rfl ?_
  refine WP.iloadN K d20_37 rfl (pc' := 38) rfl ?_
  refine WP.callP K (a := mp) (argsL := [(.int (1 : Int32))]) (S := []) (w_151 hw) (w_152 hw) (w_53 hw) (w_153 hw) (IsMap.exa O_mp) (rm_find w l Z a0 hw mp en kE h0 n0 Z0 O_mp A_en) (w_154 hw) (w_54 hw) (by decide) rfl (lenOf pd_7 rfl) rfl (W := 0) rfl (by decide) (by decide) (k' := 0) (n' := 0) rfl rfl (by decide) (by decide) d20_38 (pc' := 41) rfl fun v h39 hq => ?_
  obtain ⟨rfl, rfl⟩ := hq
  show WP κ h0 0 0 (mkF κ.m 41 #[.val (.ref mp), .val (.int (1 : Int32)), .unset] [(.int (1 : Int32))])
  refine WP.istoreN K d20_41 (L' := #[.val (.ref mp), .val (.int (1 : Int32)), .val (.int (1 : Int32))]) rfl (pc' := 42) rfl ?_
  refine WP.aloadN K d20_42 rfl rfl (pc' := 43) rfl ?_
  refine WP.getF K (w_70 hw) Via.refl (IsMap.f_entries O_mp) d20_43 (pc' := 46) rfl ?_
  refine WP.aloadN K d20_46 rfl rfl (pc' := 47) rfl ?_
  refine WP.getF K (w_64 hw) Via.refl (IsMap.f_stride O_mp) d20_47 (pc' := 50) rfl ?_
  refine WP.iloadN K d20_50 rfl (pc' := 51) rfl ?_
  refine WP.imul K d20_51 (pc' := 52) rfl ?_
  show WP κ h0 0 0 (mkF κ.m 52 #[.val (.ref mp), .val (.int (1 : Int32)), .val (.int (1 : Int32))] [(.int (2 : Int32)), (.ref en)])
  refine WP.iaload K (i := 2) A_en rfl (by decide) (v := (.int (0 : Int32))) rfl d20_52 (pc' := 53) rfl ?_
  refine WP.if0F K d20_53 (by decide) (pc' := 56) rfl ?_
  refine WP.iconst K d20_56 (v := (-1 : Int32)) rfl (pc' := 57) rfl ?_
  refine WP.goto K d20_57 (by decide) (pc' := 61) (by decide) ?_
  exact WP.retI K d20_61 (by decide) (by decide) ⟨rfl, rfl⟩
set_option maxRecDepth 65536 in
set_option maxHeartbeats 40000000 in
theorem rm_toarr (w : Bool) (l : Launch) (Z : State) (a0 : Array Value) (hw : ∀ d ∈ tables_1, d.before a0 Z = true) (mp en : Addr) (kE : ClassId) (h0 : Heap) (n0 : Nat) (Z0 : n0 ≤ h0.size) (O_mp : IsMap Z h0 mp (.int (1 : Int32)) (.int (2 : Int32)) (.ref en) (.int (8 : Int32)) .null (.int (0 : Int32)) .null (.int (0 : Int32)) (.int (0 : Int32))) (A_en : Ary Z h0 en kE .int 16 (fun j => .int ((fun _ => (0 : Int32)) j))) (old_mp : n0 ≤ mp) :
    Met w l Z (⟨"com/example/weir/weir/engine/IntIntMap", "toArray", "(I)V"⟩ : MethodName) prog_26_method_24_code 5 none [] ({ frames := 1, cells := 1, slots := 2, locals := 15 } : Room) #[(.ref mp), (.int (2 : Int32))] h0 n0 (fun v h => v = none ∧ Keep h0 h [mp] ∧ ∃ (va : Addr) (kV : ClassId) (F : Nat → Int32), n0 ≤ va ∧ h0.size ≤ va ∧ IsMap Z h mp (.int (1 : Int32)) (.int (2 : Int32)) .null (.int (0 : Int32)) .null (.int (0 : Int32)) (.ref va) (.int (0 : Int32)) (.int (2 : Int32)) ∧ Ary Z h va kV .int 2 (fun j => .int (F j))) := by
  refine Met.of (plainFor_of_name (by first | (simp [plainName, overriddenIn]; done) | decide +kernel)) fun κ K => ?_
  refine WP.frame (g' := (mkF κ.m 0 #[.val (.ref mp), .val (.int (2 : Int32)), .unset, .unset, .unset] [])) (by first | (simp [entryFrame, mkF, argsToLocals, Value.category]; done) | rfl) ?_
  have KP := Keep.refl h0 [mp]
  refine WP.aloadN K d24_0 rfl rfl (pc' := 1) rfl ?_
  refine WP.getF K (w_74 hw) Via.refl (IsMap.f_objects O_mp) d24_1 (pc' := 4) rfl ?_
  refine WP.astoreN K d24_4 rfl (L' := #[.val (.ref mp), .val (.int (2 : Int32)), .val .null, .unset, .unset]) rfl (pc' := 5) rfl ?_
  refine WP.aloadN K d24_5 rfl rfl (pc' := 6) rfl ?_
  refine WP.aloadN K d24_6 rfl rfl (pc' := 7) rfl ?_
  refine WP.getF K (w_62 hw) Via.refl (IsMap.f_width O_mp) d24_7 (pc' := 10) rfl ?_
  refine WP.iloadN K d24_10 rfl (pc' := 11) rfl ?_
  refine WP.imul K d24_11 (pc' := 12) rfl ?_
  show WP κ h0 0 0 (mkF κ.m 12 #[.val (.ref mp), .val (.int (2 : Int32)), .val .null, .unset, .unset] [(.int (2 : Int32)), (.ref mp)])
  refine WP.newarray (aty := .int) K (w_18 hw) d24_12 (N := 2) (cap := 2) rfl (Nat.le_refl _) (by decide) (k' := 1) (n' := 2) rfl rfl (by decide) (by decide) (pc' := 14) rfl fun h40 va kA_va g40 E40 A_va => ?_
  have ne_mp_va : mp ≠ va := fun z_ => by have q_ : @LT.lt Nat _ mp h0.size := (IsMap.lt O_mp); have r_ : @Eq Nat mp va := z_; omega
  have ne_en_va : en ≠ va := fun z_ => by have q_ : @LT.lt Nat _ en h0.size := (Ary.lt A_en); have r_ : @Eq Nat en va := z_; omega
  have old_va : n0 ≤ va := by have q_ := Z0; omega
  have osz_va : h0.size ≤ va := by have q_ := KP.1; omega
  have O_mp := IsMap.ext E40 O_mp
  have A_en := Ary.ext E40 A_en
  have KP := Keep.ext KP E40
  have Z0 := Nat.le_trans Z0 E40.1
  have A_va : Ary Z h40 va kA_va .int 2 (fun j => .int ((fun _ => (0 : Int32)) j)) := A_va
  refine WP.putF K (w_149 hw) Via.refl (IsMap.f_values O_mp) (IsMap.exa O_mp) (Or.inl (w_150 hw)) (w_53 hw) (ty := (.array .int)) (by decide) rfl rfl old_mp d24_14 (pc' := 17) rfl fun h41 W41 => ?_
  have A_en := Ary.other W41 A_en (Ne.symm (Ary.ne (IsMap.exa O_mp) A_en (w_53 hw)))
  have A_va := Ary.other W41 A_va (Ne.symm ne_mp_va)
  have KP := Keep.wr KP W41 (Or.inl (List.mem_of_getElem? (i := 0) rfl))
  have Z0 := Nat.le_trans Z0 (Nat.le_of_eq W41.size.symm)
  have O_mp := IsMap.s_values hw W41 O_mp
  refine WP.aloadN K d24_17 rfl rfl (pc' := 18) rfl ?_
  refine WP.iloadN K d24_18 rfl (pc' := 19) rfl ?_
  refine WP.putF K (w_172 hw) Via.refl (IsMap.f_keys O_mp) (IsMap.exa O_mp) (Or.inl (w_173 hw)) (w_53 hw) (ty := .int) (by decide) rfl rfl old_mp d24_19 (pc' := 22) rfl fun h42 W42 => ?_
  have A_en := Ary.other W42 A_en (Ne.symm (Ary.ne (IsMap.exa O_mp) A_en (w_53 hw)))
  have A_va := Ary.other W42 A_va (Ne.symm ne_mp_va)
  have KP := Keep.wr KP W42 (Or.inl (List.mem_of_getElem? (i := 0) rfl))
  have Z0 := Nat.le_trans Z0 (Nat.le_of_eq W42.size.symm)
  have O_mp := IsMap.s_keys hw W42 O_mp
  refine WP.aloadN K d24_22 rfl rfl (pc' := 23) rfl ?_
  refine WP.getF K (w_149 hw) Via.refl (IsMap.f_values O_mp) d24_23 (pc' := 26) rfl ?_
  refine WP.iconst K d24_26 (v := (-1 : Int32)) rfl (pc' := 27) rfl ?_
  refine WP.callS K (argsL := [(.ref va), (.int (-1 : Int32))]) (S := []) (w_174 hw) (w_175 hw) (rm_fillI w l Z a0 hw va kA_va 2 (fun _ => (0 : Int32)) (-1 : Int32) h42 n0 Z0 A_va old_va) (w_176 hw) (w_128 hw) (by decide) rfl (lenOf pd_8 rfl) rfl (W := 0) rfl (by decide) (by decide) (k' := 1) (n' := 2) rfl rfl (by decide) (by decide) d24_27 (pc' := 30) rfl fun v h43 hq => ?_
  obtain ⟨rfl, K1, A_va⟩ := hq
  have O_mp := IsMap.keep K1 O_mp (ninS ne_mp_va nin0)
  have A_en := Ary.keep K1 A_en (ninS ne_en_va nin0)
  have KP := Keep.trans KP K1 (allS (Or.inr osz_va) all0)
  have Z0 := Nat.le_trans Z0 K1.1
  show WP κ h43 1 2 (mkF κ.m 30 #[.val (.ref mp), .val (.int (2 : Int32)), .val .null, .unset, .unset] [])
  refine WP.aloadN K d24_30 rfl rfl (pc' := 31) rfl ?_
  refine WP.aloadN K d24_31 rfl rfl (pc' := 32) rfl ?_
  refine WP.ifnonnullF K (b := 0) d24_32 (pc' := 35) rfl ?_
  refine WP.aconst_null K d24_35 (pc' := 36) rfl ?_
  refine WP.goto K d24_36 (by decide) (pc' := 43) (by decide) ?_
  refine WP.putF K (w_74 hw) Via.refl (IsMap.f_objects O_mp) (IsMap.exa O_mp) (Or.inl (w_75 hw)) (w_53 hw) (ty := (.array (.object "java/lang/Object"))) (by decide) rfl rfl old_mp d24_43 (pc' := 46) rfl fun h44 W44 => ?_
  have A_en := Ary.other W44 A_en (Ne.symm (Ary.ne (IsMap.exa O_mp) A_en (w_53 hw)))
  have A_va := Ary.other W44 A_va (Ne.symm ne_mp_va)
  have KP := Keep.wr KP W44 (Or.inl (List.mem_of_getElem? (i := 0) rfl))
  have Z0 := Nat.le_trans Z0 (Nat.le_of_eq W44.size.symm)
  have O_mp := IsMap.s_objects hw W44 O_mp
  refine WP.iconst K d24_46 (v := (0 : Int32)) rfl (pc' := 47) rfl ?_
  refine WP.istoreN K d24_47 (L' := #[.val (.ref mp), .val (.int (2 : Int32)), .val .null, .val (.int (0 : Int32)), .unset]) rfl (pc' := 48) rfl ?_
  refine WP.iloadN K d24_48 rfl (pc' := 49) rfl ?_
  refine WP.aloadN K d24_49 rfl rfl (pc' := 50) rfl ?_
  refine WP.getF K (w_72 hw) Via.refl (IsMap.f_slots O_mp) d24_50 (pc' := 53) rfl ?_
  refine WP.icmpF K d24_53 (by decide) (pc' := 56) rfl ?_
  refine WP.aloadN K d24_56 rfl rfl (pc' := 57) rfl ?_
  refine WP.getF K (w_70 hw) Via.refl (IsMap.f_entries O_mp) d24_57 (pc' := 60) rfl ?_
  refine WP.aloadN K d24_60 rfl rfl (pc' := 61) rfl ?_
  refine WP.getF K (w_64 hw) Via.refl (IsMap.f_stride O_mp) d24_61 (pc' := 64) rfl ?_
  refine WP.iloadN K d24_64 rfl (pc' := 65) rfl ?_
  refine WP.imul K d24_65 (pc' := 66) rfl ?_
  show WP κ h44 1 2 (mkF κ.m 66 #[.val (.ref mp), .val (.int (2 : Int32)), .val .null, .val (.int (0 : Int32)), .unset] [(.int (0 : Int32)), (.ref en)])
  refine WP.iaload K (i := 0) A_en rfl (by decide) (v := (.int (0 : Int32))) rfl d24_66 (pc' := 67) rfl ?_
  refine WP.iconst K d24_67 (v := (1 : Int32)) rfl (pc' := 68) rfl ?_
  refine WP.isub K d24_68 (pc' := 69) rfl ?_
  show WP κ h44 1 2 (mkF κ.m 69 #[.val (.ref mp), .val (.int (2 : Int32)), .val .null, .val (.int (0 : Int32)), .unset] [(.int (-1 : Int32))])
  refine WP.istore K d24_69 (L' := #[.val (.ref mp), .val (.int (2 : Int32)), .val .null, .val (.int (0 : Int32)), .val (.int (-1 : Int32))]) rfl (pc' := 71) rfl ?_
  refine WP.iload K d24_71 rfl (pc' := 73) rfl ?_
  refine WP.iconst K d24_73 (v := (-1 : Int32)) rfl (pc' := 74) rfl ?_
  refine WP.icmpT K d24_74 (by decide) (by decide) (pc' := 124) (by decide) ?_
  refine WP.iinc K d24_124 (v := (1 : Int32)) rfl rfl (L' := #[.val (.ref mp), .val (.int (2 : Int32)), .val .null, .val (.int (1 : Int32)), .val (.int (-1 : Int32))]) rfl (pc' := 127) rfl ?_
  refine WP.goto K d24_127 (by decide) (pc' := 48) (by decide) ?_
  refine WP.iloadN K d24_48 rfl (pc' := 49) rfl ?_
  refine WP.aloadN K d24_49 rfl rfl (pc' := 50) rfl ?_
  refine WP.getF K (w_72 hw) Via.refl (IsMap.f_slots O_mp) d24_50 (pc' := 53) rfl ?_
  refine WP.icmpF K d24_53 (by decide) (pc' := 56) rfl ?_
  refine WP.aloadN K d24_56 rfl rfl (pc' := 57) rfl ?_
  refine WP.getF K (w_70 hw) Via.refl (IsMap.f_entries O_mp) d24_57 (pc' := 60) rfl ?_
  refine WP.aloadN K d24_60 rfl rfl (pc' := 61) rfl ?_
  refine WP.getF K (w_64 hw) Via.refl (IsMap.f_stride O_mp) d24_61 (pc' := 64) rfl ?_
  refine WP.iloadN K d24_64 rfl (pc' := 65) rfl ?_
  refine WP.imul K d24_65 (pc' := 66) rfl ?_
  show WP κ h44 1 2 (mkF κ.m 66 #[.val (.ref mp), .val (.int (2 : Int32)), .val .null, .val (.int (1 : Int32)), .val (.int (-1 : Int32))] [(.int (2 : Int32)), (.ref en)])
  refine WP.iaload K (i := 2) A_en rfl (by decide) (v := (.int (0 : Int32))) rfl d24_66 (pc' := 67) rfl ?_
  refine WP.iconst K d24_67 (v := (1 : Int32)) rfl (pc' := 68) rfl ?_
  refine WP.isub K d24_68 (pc' := 69) rfl ?_
  show WP κ h44 1 2 (mkF κ.m 69 #[.val (.ref mp), .val (.int (2 : Int32)), .val .null, .val (.int (1 : Int32)), .val (.int (-1 : Int32))] [(.int (-1 : Int32))])
  refine WP.istore K d24_69 (L' := #[.val (.ref mp), .val (.int (2 : Int32)), .val .null, .val (.int (1 : Int32)), .val (.int (-1 : Int32))]) rfl (pc' := 71) rfl ?_
  refine WP.iload K d24_71 rfl (pc' := 73) rfl ?_
  refine WP.iconst K d24_73 (v := (-1 : Int32)) rfl (pc' := 74) rfl ?_
  refine WP.icmpT K d24_74 (by decide) (by decide) (pc' := 124) (by decide) ?_
  refine WP.iinc K d24_124 (v := (1 : Int32)) rfl rfl (L' := #[.val (.ref mp), .val (.int (2 : Int32)), .val .null, .val (.int (2 : Int32)), .val (.int (-1 : Int32))]) rfl (pc' := 127) rfl ?_
  refine WP.goto K d24_127 (by decide) (pc' := 48) (by decide) ?_
  refine WP.iloadN K d24_48 rfl (pc' := 49) rfl ?_
  refine WP.aloadN K d24_49 rfl rfl (pc' := 50) rfl ?_
  refine WP.getF K (w_72 hw) Via.refl (IsMap.f_slots O_mp) d24_50 (pc' := 53) rfl ?_
  refine WP.icmpF K d24_53 (by decide) (pc' := 56) rfl ?_
  refine WP.aloadN K d24_56 rfl rfl (pc' := 57) rfl ?_
  refine WP.getF K (w_70 hw) Via.refl (IsMap.f_entries O_mp) d24_57 (pc' := 60) rfl ?_
  refine WP.aloadN K d24_60 rfl rfl (pc' := 61) rfl ?_
  refine WP.getF K (w_64 hw) Via.refl (IsMap.f_stride O_mp) d24_61 (pc' := 64) rfl ?_
  refine WP.iloadN K d24_64 rfl (pc' := 65) rfl ?_
  refine WP.imul K d24_65 (pc' := 66) rfl ?_
  show WP κ h44 1 2 (mkF κ.m 66 #[.val (.ref mp), .val (.int (2 : Int32)), .val .null, .val (.int (2 : Int32)), .val (.int (-1 : Int32))] [(.int (4 : Int32)), (.ref en)])
  refine WP.iaload K (i := 4) A_en rfl (by decide) (v := (.int (0 : Int32))) rfl d24_66 (pc' := 67) rfl ?_
  refine WP.iconst K d24_67 (v := (1 : Int32)) rfl (pc' := 68) rfl ?_
  refine WP.isub K d24_68 (pc' := 69) rfl ?_
  show WP κ h44 1 2 (mkF κ.m 69 #[.val (.ref mp), .val (.int (2 : Int32)), .val .null, .val (.int (2 : Int32)), .val (.int (-1 : Int32))] [(.int (-1 : Int32))])
  refine WP.istore K d24_69 (L' := #[.val (.ref mp), .val (.int (2 : Int32)), .val .null, .val (.int (2 : Int32)), .val (.int (-1 : Int32))]) rfl (pc' := 71) rfl ?_
  refine WP.iload K d24_71 rfl (pc' := 73) rfl ?_
  refine WP.iconst K d24_73 (v := (-1 : Int32)) rfl (pc' := 74) rfl ?_
  refine WP.icmpT K d24_74 (by decide) (by decide) (pc' := 124) (by decide) ?_
  refine WP.iinc K d24_124 (v := (1 : Int32)) rfl rfl (L' := #[.val (.ref mp), .val (.int (2 : Int32)), .val .null, .val (.int (3 : Int32)), .val (.int (-1 : Int32))]) rfl (pc' := 127) rfl ?_
  refine WP.goto K d24_127 (by decide) (pc' := 48) (by decide) ?_
  refine WP.iloadN K d24_48 rfl (pc' := 49) rfl ?_
  refine WP.aloadN K d24_49 rfl rfl (pc' := 50) rfl ?_
  refine WP.getF K (w_72 hw) Via.refl (IsMap.f_slots O_mp) d24_50 (pc' := 53) rfl ?_
  refine WP.icmpF K d24_53 (by decide) (pc' := 56) rfl ?_
  refine WP.aloadN K d24_56 rfl rfl (pc' := 57) rfl ?_
  refine WP.getF K (w_70 hw) Via.refl (IsMap.f_entries O_mp) d24_57 (pc' := 60) rfl ?_
  refine WP.aloadN K d24_60 rfl rfl (pc' := 61) rfl ?_
  refine WP.getF K (w_64 hw) Via.refl (IsMap.f_stride O_mp) d24_61 (pc' := 64) rfl ?_
  refine WP.iloadN K d24_64 rfl (pc' := 65) rfl ?_
  refine WP.imul K d24_65 (pc' := 66) rfl ?_
  show WP κ h44 1 2 (mkF κ.m 66 #[.val (.ref mp), .val (.int (2 : Int32)), .val .null, .val (.int (3 : Int32)), .val (.int (-1 : Int32))] [(.int (6 : Int32)), (.ref en)])
  refine WP.iaload K (i := 6) A_en rfl (by decide) (v := (.int (0 : Int32))) rfl d24_66 (pc' := 67) rfl ?_
  refine WP.iconst K d24_67 (v := (1 : Int32)) rfl (pc' := 68) rfl ?_
  refine WP.isub K d24_68 (pc' := 69) rfl ?_
  show WP κ h44 1 2 (mkF κ.m 69 #[.val (.ref mp), .val (.int (2 : Int32)), .val .null, .val (.int (3 : Int32)), .val (.int (-1 : Int32))] [(.int (-1 : Int32))])
  refine WP.istore K d24_69 (L' := #[.val (.ref mp), .val (.int (2 : Int32)), .val .null, .val (.int (3 : Int32)), .val (.int (-1 : Int32))]) rfl (pc' := 71) rfl ?_
  refine WP.iload K d24_71 rfl (pc' := 73) rfl ?_
  refine WP.iconst K d24_73 (v := (-1 : Int32)) rfl (pc' := 74) rfl ?_
  refine WP.icmpT K d24_74 (by decide) (by decide) (pc' := 124) (by decide) ?_
  refine WP.iinc K d24_124 (v := (1 : Int32)) rfl rfl (L' := #[.val (.ref mp), .val (.int (2 : Int32)), .val .null, .val (.int (4 : Int32)), .val (.int (-1 : Int32))]) rfl (pc' := 127) rfl ?_
  refine WP.goto K d24_127 (by decide) (pc' := 48) (by decide) ?_
  refine WP.iloadN K d24_48 rfl (pc' := 49) rfl ?_
  refine WP.aloadN K d24_49 rfl rfl (pc' := 50) rfl ?_
  refine WP.getF K (w_72 hw) Via.refl (IsMap.f_slots O_mp) d24_50 (pc' := 53) rfl ?_
  refine WP.icmpF K d24_53 (by decide) (pc' := 56) rfl ?_
  refine WP.aloadN K d24_56 rfl rfl (pc' := 57) rfl ?_
  refine WP.getF K (w_70 hw) Via.refl (IsMap.f_entries O_mp) d24_57 (pc' := 60) rfl ?_
  refine WP.aloadN K d24_60 rfl rfl (pc' := 61) rfl ?_
  refine WP.getF K (w_64 hw) Via.refl (IsMap.f_stride O_mp) d24_61 (pc' := 64) rfl ?_
  refine WP.iloadN K d24_64 rfl (pc' := 65) rfl ?_
  refine WP.imul K d24_65 (pc' := 66) rfl ?_
  show WP κ h44 1 2 (mkF κ.m 66 #[.val (.ref mp), .val (.int (2 : Int32)), .val .null, .val (.int (4 : Int32)), .val (.int (-1 : Int32))] [(.int (8 : Int32)), (.ref en)])
  refine WP.iaload K (i := 8) A_en rfl (by decide) (v := (.int (0 : Int32))) rfl d24_66 (pc' := 67) rfl ?_
  refine WP.iconst K d24_67 (v := (1 : Int32)) rfl (pc' := 68) rfl ?_
  refine WP.isub K d24_68 (pc' := 69) rfl ?_
  show WP κ h44 1 2 (mkF κ.m 69 #[.val (.ref mp), .val (.int (2 : Int32)), .val .null, .val (.int (4 : Int32)), .val (.int (-1 : Int32))] [(.int (-1 : Int32))])
  refine WP.istore K d24_69 (L' := #[.val (.ref mp), .val (.int (2 : Int32)), .val .null, .val (.int (4 : Int32)), .val (.int (-1 : Int32))]) rfl (pc' := 71) rfl ?_
  refine WP.iload K d24_71 rfl (pc' := 73) rfl ?_
  refine WP.iconst K d24_73 (v := (-1 : Int32)) rfl (pc' := 74) rfl ?_
  refine WP.icmpT K d24_74 (by decide) (by decide) (pc' := 124) (by decide) ?_
  refine WP.iinc K d24_124 (v := (1 : Int32)) rfl rfl (L' := #[.val (.ref mp), .val (.int (2 : Int32)), .val .null, .val (.int (5 : Int32)), .val (.int (-1 : Int32))]) rfl (pc' := 127) rfl ?_
  refine WP.goto K d24_127 (by decide) (pc' := 48) (by decide) ?_
  refine WP.iloadN K d24_48 rfl (pc' := 49) rfl ?_
  refine WP.aloadN K d24_49 rfl rfl (pc' := 50) rfl ?_
  refine WP.getF K (w_72 hw) Via.refl (IsMap.f_slots O_mp) d24_50 (pc' := 53) rfl ?_
  refine WP.icmpF K d24_53 (by decide) (pc' := 56) rfl ?_
  refine WP.aloadN K d24_56 rfl rfl (pc' := 57) rfl ?_
  refine WP.getF K (w_70 hw) Via.refl (IsMap.f_entries O_mp) d24_57 (pc' := 60) rfl ?_
  refine WP.aloadN K d24_60 rfl rfl (pc' := 61) rfl ?_
  refine WP.getF K (w_64 hw) Via.refl (IsMap.f_stride O_mp) d24_61 (pc' := 64) rfl ?_
  refine WP.iloadN K d24_64 rfl (pc' := 65) rfl ?_
  refine WP.imul K d24_65 (pc' := 66) rfl ?_
  show WP κ h44 1 2 (mkF κ.m 66 #[.val (.ref mp), .val (.int (2 : Int32)), .val .null, .val (.int (5 : Int32)), .val (.int (-1 : Int32))] [(.int (10 : Int32)), (.ref en)])
  refine WP.iaload K (i := 10) A_en rfl (by decide) (v := (.int (0 : Int32))) rfl d24_66 (pc' := 67) rfl ?_
  refine WP.iconst K d24_67 (v := (1 : Int32)) rfl (pc' := 68) rfl ?_
  refine WP.isub K d24_68 (pc' := 69) rfl ?_
  show WP κ h44 1 2 (mkF κ.m 69 #[.val (.ref mp), .val (.int (2 : Int32)), .val .null, .val (.int (5 : Int32)), .val (.int (-1 : Int32))] [(.int (-1 : Int32))])
  refine WP.istore K d24_69 (L' := #[.val (.ref mp), .val (.int (2 : Int32)), .val .null, .val (.int (5 : Int32)), .val (.int (-1 : Int32))]) rfl (pc' := 71) rfl ?_
  refine WP.iload K d24_71 rfl (pc' := 73) rfl ?_
  refine WP.iconst K d24_73 (v := (-1 : Int32)) rfl (pc' := 74) rfl ?_
  refine WP.icmpT K d24_74 (by decide) (by decide) (pc' := 124) (by decide) ?_
  refine WP.iinc K d24_124 (v := (1 : Int32)) rfl rfl (L' := #[.val (.ref mp), .val (.int (2 : Int32)), .val .null, .val (.int (6 : Int32)), .val (.int (-1 : Int32))]) rfl (pc' := 127) rfl ?_
  refine WP.goto K d24_127 (by decide) (pc' := 48) (by decide) ?_
  refine WP.iloadN K d24_48 rfl (pc' := 49) rfl ?_
  refine WP.aloadN K d24_49 rfl rfl (pc' := 50) rfl ?_
  refine WP.getF K (w_72 hw) Via.refl (IsMap.f_slots O_mp) d24_50 (pc' := 53) rfl ?_
  refine WP.icmpF K d24_53 (by decide) (pc' := 56) rfl ?_
  refine WP.aloadN K d24_56 rfl rfl (pc' := 57) rfl ?_
  refine WP.getF K (w_70 hw) Via.refl (IsMap.f_entries O_mp) d24_57 (pc' := 60) rfl ?_
  refine WP.aloadN K d24_60 rfl rfl (pc' := 61) rfl ?_
  refine WP.getF K (w_64 hw) Via.refl (IsMap.f_stride O_mp) d24_61 (pc' := 64) rfl ?_
  refine WP.iloadN K d24_64 rfl (pc' := 65) rfl ?_
  refine WP.imul K d24_65 (pc' := 66) rfl ?_
  show WP κ h44 1 2 (mkF κ.m 66 #[.val (.ref mp), .val (.int (2 : Int32)), .val .null, .val (.int (6 : Int32)), .val (.int (-1 : Int32))] [(.int (12 : Int32)), (.ref en)])
  refine WP.iaload K (i := 12) A_en rfl (by decide) (v := (.int (0 : Int32))) rfl d24_66 (pc' := 67) rfl ?_
  refine WP.iconst K d24_67 (v := (1 : Int32)) rfl (pc' := 68) rfl ?_
  refine WP.isub K d24_68 (pc' := 69) rfl ?_
  show WP κ h44 1 2 (mkF κ.m 69 #[.val (.ref mp), .val (.int (2 : Int32)), .val .null, .val (.int (6 : Int32)), .val (.int (-1 : Int32))] [(.int (-1 : Int32))])
  refine WP.istore K d24_69 (L' := #[.val (.ref mp), .val (.int (2 : Int32)), .val .null, .val (.int (6 : Int32)), .val (.int (-1 : Int32))]) rfl (pc' := 71) rfl ?_
  refine WP.iload K d24_71 rfl (pc' := 73) rfl ?_
  refine WP.iconst K d24_73 (v := (-1 : Int32)) rfl (pc' := 74) rfl ?_
  refine WP.icmpT K d24_74 (by decide) (by decide) (pc' := 124) (by decide) ?_
  refine WP.iinc K d24_124 (v := (1 : Int32)) rfl rfl (L' := #[.val (.ref mp), .val (.int (2 : Int32)), .val .null, .val (.int (7 : Int32)), .val (.int (-1 : Int32))]) rfl (pc' := 127) rfl ?_
  refine WP.goto K d24_127 (by decide) (pc' := 48) (by decide) ?_
  refine WP.iloadN K d24_48 rfl (pc' := 49) rfl ?_
  refine WP.aloadN K d24_49 rfl rfl (pc' := 50) rfl ?_
  refine WP.getF K (w_72 hw) Via.refl (IsMap.f_slots O_mp) d24_50 (pc' := 53) rfl ?_
  refine WP.icmpF K d24_53 (by decide) (pc' := 56) rfl ?_
  refine WP.aloadN K d24_56 rfl rfl (pc' := 57) rfl ?_
  refine WP.getF K (w_70 hw) Via.refl (IsMap.f_entries O_mp) d24_57 (pc' := 60) rfl ?_
  refine WP.aloadN K d24_60 rfl rfl (pc' := 61) rfl ?_
  refine WP.getF K (w_64 hw) Via.refl (IsMap.f_stride O_mp) d24_61 (pc' := 64) rfl ?_
  refine WP.iloadN K d24_64 rfl (pc' := 65) rfl ?_
  refine WP.imul K d24_65 (pc' := 66) rfl ?_
  show WP κ h44 1 2 (mkF κ.m 66 #[.val (.ref mp), .val (.int (2 : Int32)), .val .null, .val (.int (7 : Int32)), .val (.int (-1 : Int32))] [(.int (14 : Int32)), (.ref en)])
  refine WP.iaload K (i := 14) A_en rfl (by decide) (v := (.int (0 : Int32))) rfl d24_66 (pc' := 67) rfl ?_
  refine WP.iconst K d24_67 (v := (1 : Int32)) rfl (pc' := 68) rfl ?_
  refine WP.isub K d24_68 (pc' := 69) rfl ?_
  show WP κ h44 1 2 (mkF κ.m 69 #[.val (.ref mp), .val (.int (2 : Int32)), .val .null, .val (.int (7 : Int32)), .val (.int (-1 : Int32))] [(.int (-1 : Int32))])
  refine WP.istore K d24_69 (L' := #[.val (.ref mp), .val (.int (2 : Int32)), .val .null, .val (.int (7 : Int32)), .val (.int (-1 : Int32))]) rfl (pc' := 71) rfl ?_
  refine WP.iload K d24_71 rfl (pc' := 73) rfl ?_
  refine WP.iconst K d24_73 (v := (-1 : Int32)) rfl (pc' := 74) rfl ?_
  refine WP.icmpT K d24_74 (by decide) (by decide) (pc' := 124) (by decide) ?_
  refine WP.iinc K d24_124 (v := (1 : Int32)) rfl rfl (L' := #[.val (.ref mp), .val (.int (2 : Int32)), .val .null, .val (.int (8 : Int32)), .val (.int (-1 : Int32))]) rfl (pc' := 127) rfl ?_
  refine WP.goto K d24_127 (by decide) (pc' := 48) (by decide) ?_
  refine WP.iloadN K d24_48 rfl (pc' := 49) rfl ?_
  refine WP.aloadN K d24_49 rfl rfl (pc' := 50) rfl ?_
  refine WP.getF K (w_72 hw) Via.refl (IsMap.f_slots O_mp) d24_50 (pc' := 53) rfl ?_
  refine WP.icmpT K d24_53 (by decide) (by decide) (pc' := 130) (by decide) ?_
  refine WP.aloadN K d24_130 rfl rfl (pc' := 131) rfl ?_
  refine WP.aconst_null K d24_131 (pc' := 132) rfl ?_
  refine WP.putF K (w_70 hw) Via.refl (IsMap.f_entries O_mp) (IsMap.exa O_mp) (Or.inl (w_71 hw)) (w_53 hw) (ty := (.array .int)) (by decide) rfl rfl old_mp d24_132 (pc' := 135) rfl fun h45 W45 => ?_
  have A_en := Ary.other W45 A_en (Ne.symm (Ary.ne (IsMap.exa O_mp) A_en (w_53 hw)))
  have A_va := Ary.other W45 A_va (Ne.symm ne_mp_va)
  have KP := Keep.wr KP W45 (Or.inl (List.mem_of_getElem? (i := 0) rfl))
  have Z0 := Nat.le_trans Z0 (Nat.le_of_eq W45.size.symm)
  have O_mp := IsMap.s_entries hw W45 O_mp
  refine WP.aloadN K d24_135 rfl rfl (pc' := 136) rfl ?_
  refine WP.iconst K d24_136 (v := (0 : Int32)) rfl (pc' := 137) rfl ?_
  refine WP.putF K (w_72 hw) Via.refl (IsMap.f_slots O_mp) (IsMap.exa O_mp) (Or.inl (w_73 hw)) (w_53 hw) (ty := .int) (by decide) rfl rfl old_mp d24_137 (pc' := 140) rfl fun h46 W46 => ?_
  have A_en := Ary.other W46 A_en (Ne.symm (Ary.ne (IsMap.exa O_mp) A_en (w_53 hw)))
  have A_va := Ary.other W46 A_va (Ne.symm ne_mp_va)
  have KP := Keep.wr KP W46 (Or.inl (List.mem_of_getElem? (i := 0) rfl))
  have Z0 := Nat.le_trans Z0 (Nat.le_of_eq W46.size.symm)
  have O_mp := IsMap.s_slots hw W46 O_mp
  exact WP.ret0 K d24_140 (by decide) (by decide) ⟨rfl, KP, va, kA_va, _, old_va, osz_va, O_mp, A_va⟩
set_option maxRecDepth 65536 in
set_option maxHeartbeats 40000000 in
theorem rm_madd (w : Bool) (l : Launch) (Z : State) (a0 : Array Value) (hw : ∀ d ∈ tables_1, d.before a0 Z = true) (mp en : Addr) (kE : ClassId) (h0 : Heap) (n0 : Nat) (Z0 : n0 ≤ h0.size) (O_mp : IsMap Z h0 mp (.int (1 : Int32)) (.int (2 : Int32)) (.ref en) (.int (8 : Int32)) .null (.int (0 : Int32)) .null (.int (0 : Int32)) (.int (0 : Int32))) (A_en : Ary Z h0 en kE .int 16 (fun j => .int ((fun _ => (0 : Int32)) j))) (old_mp : n0 ≤ mp) :
    Met w l Z (⟨"com/example/weir/weir/engine/IntIntMap", "add", "(II)I"⟩ : MethodName) prog_26_method_8_code 5 (some .int) [] ({ frames := 2, cells := 1, slots := 2, locals := 31 } : Room) #[(.ref mp), (.int (1 : Int32)), (.int (0 : Int32))] h0 n0 (fun v h => v = some (.int (1 : Int32)) ∧ Keep h0 h [mp]) := by
  refine Met.of (plainFor_of_name (by first | (simp [plainName, overriddenIn]; done) | decide +kernel)) fun κ K => ?_
  refine WP.frame (g' := (mkF κ.m 0 #[.val (.ref mp), .val (.int (1 : Int32)), .val (.int (0 : Int32)), .unset, .unset] [])) (by first | (simp [entryFrame, mkF, argsToLocals, Value.category]; done) | rfl) ?_
  have KP := Keep.refl h0 [mp]
  refine WP.aloadN K d23_0 rfl rfl (pc' := 1) rfl ?_
  refine WP.getF K (w_149 hw) Via.refl (IsMap.f_values O_mp) d23_1 (pc' := 4) rfl ?_
  refine WP.ifnullT K (b := 0) d23_4 (by decide) (pc' := 36) (by decide) ?_
  refine WP.aloadN K d23_36 rfl rfl (pc' := 37) rfl ?_
  refine WP.getF K (w_149 hw) Via.refl (IsMap.f_values O_mp) d23_37 (pc' := 40) rfl ?_
  refine WP.ifnonnullF K (b := 0) d23_40 (pc' := 43) rfl ?_
  refine WP.iconst K d23_43 (v := (2 : Int32)) rfl (pc' := 44) rfl ?_
  refine WP.aloadN K d23_44 rfl rfl (pc' := 45) rfl ?_
  refine WP.getF K (w_165 hw) Via.refl (IsMap.f_size O_mp) d23_45 (pc' := 48) rfl ?_
  refine WP.iconst K d23_48 (v := (1 : Int32)) rfl (pc' := 49) rfl ?_
  refine WP.iadd K d23_49 (pc' := 50) rfl ?_
  show WP κ h0 0 0 (mkF κ.m 50 #[.val (.ref mp), .val (.int (1 : Int32)), .val (.int (0 : Int32)), .unset, .unset] [(.int (1 : Int32)), (.int (2 : Int32))])
  refine WP.imul K d23_50 (pc' := 51) rfl ?_
  show WP κ h0 0 0 (mkF κ.m 51 #[.val (.ref mp), .val (.int (1 : Int32)), .val (.int (0 : Int32)), .unset, .unset] [(.int (2 : Int32))])
  refine WP.iloadN K d23_51 rfl (pc' := 52) rfl ?_
  refine WP.aloadN K d23_52 rfl rfl (pc' := 53) rfl ?_
  refine WP.getF K (w_76 hw) Via.refl (IsMap.f_greatestKey O_mp) d23_53 (pc' := 56) rfl ?_
  refine WP.callS K (argsL := [(.int (1 : Int32)), (.int (0 : Int32))]) (S := [(.int (2 : Int32))]) (w_167 hw) (w_6 hw) (rm_max w l Z a0 hw (1 : Int32) (0 : Int32) h0 n0 Z0) (w_8 hw) (w_7 hw) (by decide) rfl (lenOf pd_0 rfl) rfl (W := 1) rfl (by decide) (by decide) (k' := 0) (n' := 0) rfl rfl (by decide) (by decide) d23_56 (pc' := 59) rfl fun v h47 hq => ?_
  obtain ⟨rfl, rfl⟩ := hq
  show WP κ h0 0 0 (mkF κ.m 59 #[.val (.ref mp), .val (.int (1 : Int32)), .val (.int (0 : Int32)), .unset, .unset] [(.int (own_max (1 : Int32) (0 : Int32))), (.int (2 : Int32))])
  rw [show (own_max (1 : Int32) (0 : Int32)) = (1 : Int32) from by decide]
  show WP κ h0 0 0 (mkF κ.m 59 #[.val (.ref mp), .val (.int (1 : Int32)), .val (.int (0 : Int32)), .unset, .unset] [(.int (1 : Int32)), (.int (2 : Int32))])
  refine WP.iconst K d23_59 (v := (1 : Int32)) rfl (pc' := 60) rfl ?_
  refine WP.iadd K d23_60 (pc' := 61) rfl ?_
  show WP κ h0 0 0 (mkF κ.m 61 #[.val (.ref mp), .val (.int (1 : Int32)), .val (.int (0 : Int32)), .unset, .unset] [(.int (2 : Int32)), (.int (2 : Int32))])
  refine WP.icmpF K d23_61 (by decide) (pc' := 64) rfl ?_
  refine WP.aloadN K d23_64 rfl rfl (pc' := 65) rfl ?_
  refine WP.iloadN K d23_65 rfl (pc' := 66) rfl ?_
  refine WP.aloadN K d23_66 rfl rfl (pc' := 67) rfl ?_
  refine WP.getF K (w_76 hw) Via.refl (IsMap.f_greatestKey O_mp) d23_67 (pc' := 70) rfl ?_
  refine WP.callS K (argsL := [(.int (1 : Int32)), (.int (0 : Int32))]) (S := [(.ref mp)]) (w_167 hw) (w_6 hw) (rm_max w l Z a0 hw (1 : Int32) (0 : Int32) h0 n0 Z0) (w_8 hw) (w_7 hw) (by decide) rfl (lenOf pd_0 rfl) rfl (W := 1) rfl (by decide) (by decide) (k' := 0) (n' := 0) rfl rfl (by decide) (by decide) d23_70 (pc' := 73) rfl fun v h48 hq => ?_
  obtain ⟨rfl, rfl⟩ := hq
  show WP κ h0 0 0 (mkF κ.m 73 #[.val (.ref mp), .val (.int (1 : Int32)), .val (.int (0 : Int32)), .unset, .unset] [(.int (own_max (1 : Int32) (0 : Int32))), (.ref mp)])
  rw [show (own_max (1 : Int32) (0 : Int32)) = (1 : Int32) from by decide]
  show WP κ h0 0 0 (mkF κ.m 73 #[.val (.ref mp), .val (.int (1 : Int32)), .val (.int (0 : Int32)), .unset, .unset] [(.int (1 : Int32)), (.ref mp)])
  refine WP.iconst K d23_73 (v := (1 : Int32)) rfl (pc' := 74) rfl ?_
  refine WP.iadd K d23_74 (pc' := 75) rfl ?_
  show WP κ h0 0 0 (mkF κ.m 75 #[.val (.ref mp), .val (.int (1 : Int32)), .val (.int (0 : Int32)), .unset, .unset] [(.int (2 : Int32)), (.ref mp)])
  have nq_en_mp : en ≠ mp := (Ne.symm (Ary.ne (IsMap.exa O_mp) A_en (w_53 hw)))
  refine WP.callP K (a := mp) (argsL := [(.int (2 : Int32))]) (S := []) (w_168 hw) (w_169 hw) (w_53 hw) (w_170 hw) (IsMap.exa O_mp) (rm_toarr w l Z a0 hw mp en kE h0 n0 Z0 O_mp A_en old_mp) (w_171 hw) (w_54 hw) (by decide) rfl (lenOf pd_3 rfl) rfl (W := 0) rfl (by decide) (by decide) (k' := 1) (n' := 2) rfl rfl (by decide) (by decide) d23_75 (pc' := 78) rfl fun v h49 hq => ?_
  obtain ⟨rfl, K1, va, kV, F, old_va, s_va, O_mp, A_va⟩ := hq
  have A_en := Ary.keep K1 A_en (ninS nq_en_mp nin0)
  have KP := Keep.trans KP K1 (allS (Or.inl (List.mem_of_getElem? (i := 0) rfl)) all0)
  have Z0 := Nat.le_trans Z0 K1.1
  show WP κ h49 1 2 (mkF κ.m 78 #[.val (.ref mp), .val (.int (1 : Int32)), .val (.int (0 : Int32)), .unset, .unset] [])
  refine WP.aloadN K d23_78 rfl rfl (pc' := 79) rfl ?_
  refine WP.dup K d23_79 rfl (pc' := 80) rfl ?_
  refine WP.getF K (w_165 hw) Via.refl (IsMap.f_size O_mp) d23_80 (pc' := 83) rfl ?_
  refine WP.iconst K d23_83 (v := (1 : Int32)) rfl (pc' := 84) rfl ?_
  refine WP.iadd K d23_84 (pc' := 85) rfl ?_
  show WP κ h49 1 2 (mkF κ.m 85 #[.val (.ref mp), .val (.int (1 : Int32)), .val (.int (0 : Int32)), .unset, .unset] [(.int (1 : Int32)), (.ref mp)])
  refine WP.putF K (w_165 hw) Via.refl (IsMap.f_size O_mp) (IsMap.exa O_mp) (Or.inl (w_166 hw)) (w_53 hw) (ty := .int) (by decide) rfl rfl old_mp d23_85 (pc' := 88) rfl fun h50 W50 => ?_
  have A_va := Ary.other W50 A_va (Ne.symm (Ary.ne (IsMap.exa O_mp) A_va (w_53 hw)))
  have KP := Keep.wr KP W50 (Or.inl (List.mem_of_getElem? (i := 0) rfl))
  have Z0 := Nat.le_trans Z0 (Nat.le_of_eq W50.size.symm)
  have O_mp := IsMap.s_size hw W50 O_mp
  refine WP.aloadN K d23_88 rfl rfl (pc' := 89) rfl ?_
  refine WP.getF K (w_149 hw) Via.refl (IsMap.f_values O_mp) d23_89 (pc' := 92) rfl ?_
  refine WP.ifnullF K (b := va) d23_92 (pc' := 95) rfl ?_
  refine WP.iloadN K d23_95 rfl (pc' := 96) rfl ?_
  refine WP.aloadN K d23_96 rfl rfl (pc' := 97) rfl ?_
  refine WP.getF K (w_172 hw) Via.refl (IsMap.f_keys O_mp) d23_97 (pc' := 100) rfl ?_
  refine WP.icmpT K d23_100 (by decide) (by decide) (pc' := 124) (by decide) ?_
  refine WP.aloadN K d23_124 rfl rfl (pc' := 125) rfl ?_
  refine WP.getF K (w_149 hw) Via.refl (IsMap.f_values O_mp) d23_125 (pc' := 128) rfl ?_
  refine WP.aloadN K d23_128 rfl rfl (pc' := 129) rfl ?_
  refine WP.getF K (w_62 hw) Via.refl (IsMap.f_width O_mp) d23_129 (pc' := 132) rfl ?_
  refine WP.iloadN K d23_132 rfl (pc' := 133) rfl ?_
  refine WP.imul K d23_133 (pc' := 134) rfl ?_
  show WP κ h50 1 2 (mkF κ.m 134 #[.val (.ref mp), .val (.int (1 : Int32)), .val (.int (0 : Int32)), .unset, .unset] [(.int (1 : Int32)), (.ref va)])
  refine WP.iloadN K d23_134 rfl (pc' := 135) rfl ?_
  refine WP.iastore K (i := 1) A_va rfl (by decide) old_va d23_135 (pc' := 136) rfl fun h51 W51 A_n => ?_
  have O_mp := IsMap.other W51 O_mp (Ary.ne (IsMap.exa O_mp) A_va (w_53 hw))
  have KP := Keep.wr KP W51 (Or.inr s_va)
  have Z0 := Nat.le_trans Z0 (Nat.le_of_eq W51.size.symm)
  have A_va := A_n
  rw [upd_int] at A_va
  refine WP.iloadN K d23_136 rfl (pc' := 137) rfl ?_
  exact WP.retI K d23_137 (by decide) (by decide) ⟨rfl, KP⟩
set_option maxRecDepth 65536 in
set_option maxHeartbeats 40000000 in
theorem rm_siadd (w : Bool) (l : Launch) (Z : State) (a0 : Array Value) (hw : ∀ d ∈ tables_1, d.before a0 Z = true) (si mp en fn tb te : Addr) (kE kT : ClassId) (F : Nat → Int32) (u_numbers u_index u_ends u_size u_moves u_strata u_ending u_earliest : Value) (nl : Addr) (kL : ClassId) (fL : Nat → Value) (h0 : Heap) (n0 : Nat) (Z0 : n0 ≤ h0.size) (O_si : IsSI Z h0 si (.ref mp) (.ref nl) (.ref fn)) (O_mp : IsMap Z h0 mp (.int (1 : Int32)) (.int (2 : Int32)) (.ref en) (.int (8 : Int32)) .null (.int (0 : Int32)) .null (.int (0 : Int32)) (.int (0 : Int32))) (A_en : Ary Z h0 en kE .int 16 (fun j => .int ((fun _ => (0 : Int32)) j))) (F_fn : Fun1 Z h0 own_shape "com/example/weir/weir/engine/TripleTable" fn tb) (O_tb : IsTb Z h0 tb (.ref te) u_numbers u_index u_ends u_size u_moves u_strata u_ending u_earliest) (A_te : Ary Z h0 te kT .int 192 (fun j => .int (F j))) (hF : F 0 = (1 : Int32)) (old_si : n0 ≤ si) (old_mp : n0 ≤ mp) (ne_fn_si : fn ≠ si) (S_nl : Sta Z Z.heap "com/example/weir/weir/engine/SubjectIndex" "NO_LINKS" "[I" (.ref nl)) (A_nl : Ary Z Z.heap nl kL .int 0 fL) (OLD : Old Z n0 h0) :
    Met w l Z (⟨"com/example/weir/weir/engine/SubjectIndex", "add", "(II)V"⟩ : MethodName) prog_43_method_4_code 6 none [] ({ frames := 3, cells := 2, slots := 66, locals := 79 } : Room) #[(.ref si), (.int (0 : Int32)), (.int (64 : Int32))] h0 n0 (fun v h => v = none ∧ Keep h0 h [si, mp]) := by
  refine Met.of (plainFor_of_name (by first | (simp [plainName, overriddenIn]; done) | decide +kernel)) fun κ K => ?_
  refine WP.frame (g' := (mkF κ.m 0 #[.val (.ref si), .val (.int (0 : Int32)), .val (.int (64 : Int32)), .unset, .unset, .unset] [])) (by first | (simp [entryFrame, mkF, argsToLocals, Value.category]; done) | rfl) ?_
  have KP := Keep.refl h0 [si, mp]
  have z_en : @LT.lt Nat _ en h0.size := Ary.lt A_en
  refine WP.iloadN K d16_0 rfl (pc' := 1) rfl ?_
  refine WP.aloadN K d16_1 rfl rfl (pc' := 2) rfl ?_
  refine WP.getF K (w_82 hw) Via.refl (IsSI.f_next O_si) d16_2 (pc' := 5) rfl ?_
  refine WP.arraylength K (Ary.ext OLD.2 A_nl) d16_5 (pc' := 6) rfl ?_
  show WP κ h0 0 0 (mkF κ.m 6 #[.val (.ref si), .val (.int (0 : Int32)), .val (.int (64 : Int32)), .unset, .unset, .unset] [(.int (0 : Int32)), (.int (0 : Int32))])
  refine WP.icmpF K d16_6 (by decide) (pc' := 9) rfl ?_
  refine WP.aloadN K d16_9 rfl rfl (pc' := 10) rfl ?_
  refine WP.aloadN K d16_10 rfl rfl (pc' := 11) rfl ?_
  refine WP.getF K (w_82 hw) Via.refl (IsSI.f_next O_si) d16_11 (pc' := 14) rfl ?_
  refine WP.iloadN K d16_14 rfl (pc' := 15) rfl ?_
  refine WP.callS K (argsL := [(.ref nl), (.int (64 : Int32))]) (S := [(.ref si)]) (w_126 hw) (w_127 hw) (rm_copy0 w l Z a0 hw nl _ _ h0 n0 Z0 (Ary.ext OLD.2 A_nl)) (w_129 hw) (w_128 hw) (by decide) rfl (lenOf pd_9 rfl) rfl (W := 1) rfl (by decide) (by decide) (k' := 1) (n' := 64) rfl rfl (by decide) (by decide) d16_15 (pc' := 18) rfl fun v h52 hq => ?_
  obtain ⟨K1, nw, kN, FN, rfl, s_nw, A_nw⟩ := hq
  have O_si := IsSI.keep K1 O_si nin0
  have O_mp := IsMap.keep K1 O_mp nin0
  have A_en := Ary.keep K1 A_en nin0
  have F_fn := Fun1.keep K1 F_fn nin0
  have O_tb := IsTb.keep K1 O_tb nin0
  have A_te := Ary.keep K1 A_te nin0
  have KP := Keep.trans KP K1 all0
  have OLD := Old.keep OLD K1 all0
  have Z0 := Nat.le_trans Z0 K1.1
  show WP κ h52 1 64 (mkF κ.m 18 #[.val (.ref si), .val (.int (0 : Int32)), .val (.int (64 : Int32)), .unset, .unset, .unset] [(.ref nw), (.ref si)])
  have old_nw : n0 ≤ nw := by omega
  refine WP.putF K (w_82 hw) Via.refl (IsSI.f_next O_si) (IsSI.exa O_si) (Or.inl (w_83 hw)) (w_42 hw) (ty := (.array .int)) (by decide) rfl rfl old_si d16_18 (pc' := 21) rfl fun h53 W53 => ?_
  have O_mp := IsMap.other W53 O_mp (ne_exa (IsMap.exa O_mp) (IsSI.exa O_si) (by decide))
  have A_en := Ary.other W53 A_en (Ne.symm (Ary.ne (IsSI.exa O_si) A_en (w_42 hw)))
  have F_fn := Fun1.other W53 F_fn ne_fn_si
  have O_tb := IsTb.other W53 O_tb (ne_exa (IsTb.exa O_tb) (IsSI.exa O_si) (by decide))
  have A_te := Ary.other W53 A_te (Ne.symm (Ary.ne (IsSI.exa O_si) A_te (w_42 hw)))
  have A_nw := Ary.other W53 A_nw (Ne.symm (Ary.ne (IsSI.exa O_si) A_nw (w_42 hw)))
  have KP := Keep.wr KP W53 (Or.inl (List.mem_of_getElem? (i := 0) rfl))
  have OLD := Old.wr OLD W53 old_si
  have Z0 := Nat.le_trans Z0 (Nat.le_of_eq W53.size.symm)
  have O_si := IsSI.s_next hw W53 O_si
  refine WP.aloadN K d16_21 rfl rfl (pc' := 22) rfl ?_
  refine WP.getF K (w_84 hw) Via.refl (IsSI.f_terms O_si) d16_22 (pc' := 25) rfl ?_
  refine WP.iloadN K d16_25 rfl (pc' := 26) rfl ?_
  refine WP.iconst K d16_26 (v := (0 : Int32)) rfl (pc' := 27) rfl ?_
  refine own_callFun K (y := (⟨"com/example/weir/weir/engine/TripleTable", "term", "(II)I"⟩ : MethodName)) (σ := own_shape) (r := (1 : Int32)) (W := 0) (w_137 hw) (w_138 hw) (fun vm0 hZ => mvT (s := κ.s.setVm vm0) hZ (w_139 hw)) (by decide) rfl rfl rfl pd_0 F_fn (IsTb.exa O_tb) (own_made (own_obj0 (w_47 hw))) (by decide) (w_143 hw) (w_11 hw) (w_142 hw) (w_141 hw) (by decide) pd_0 own_fw0 own_fw1 own_fw4 own_fw5 own_fw6 own_fw9 (rm_term false l Z a0 hw tb te kT F _ _ _ _ _ _ _ _ h53 n0 Z0 O_tb A_te hF) rfl rfl d16_27 rfl rfl (by decide) (by decide) (by decide) (by decide) (pc' := 32) rfl ?_
  show WP κ h53 1 64 (mkF κ.m 32 #[.val (.ref si), .val (.int (0 : Int32)), .val (.int (64 : Int32)), .unset, .unset, .unset] [(.int (1 : Int32))])
  refine WP.istoreN K d16_32 (L' := #[.val (.ref si), .val (.int (0 : Int32)), .val (.int (64 : Int32)), .val (.int (1 : Int32)), .unset, .unset]) rfl (pc' := 33) rfl ?_
  refine WP.aloadN K d16_33 rfl rfl (pc' := 34) rfl ?_
  refine WP.getF K (w_78 hw) Via.refl (IsSI.f_subjects O_si) d16_34 (pc' := 37) rfl ?_
  refine WP.iloadN K d16_37 rfl (pc' := 38) rfl ?_
  refine WP.callV K (a := mp) (argsL := [(.int (1 : Int32))]) (S := []) (w_144 hw) (w_145 hw) (fun vm0 hZ => notFace_of_selects (args := #[]) (mvT (s := κ.s.setVm vm0) hZ (w_147 hw))) (w_147 hw) (w_146 hw) (by decide) (IsMap.exa O_mp) (rm_mplace w l Z a0 hw mp en kE h53 n0 Z0 O_mp A_en) (w_148 hw) (w_54 hw) (by decide) rfl (lenOf pd_7 rfl) rfl (W := 0) rfl (by decide) (by decide) (k' := 1) (n' := 64) rfl rfl (by decide) (by decide) d16_38 (pc' := 41) rfl fun v h54 hq => ?_
  obtain ⟨rfl, rfl⟩ := hq
  show WP κ h53 1 64 (mkF κ.m 41 #[.val (.ref si), .val (.int (0 : Int32)), .val (.int (64 : Int32)), .val (.int (1 : Int32)), .unset, .unset] [(.int (-1 : Int32))])
  refine WP.istore K d16_41 (L' := #[.val (.ref si), .val (.int (0 : Int32)), .val (.int (64 : Int32)), .val (.int (1 : Int32)), .val (.int (-1 : Int32)), .unset]) rfl (pc' := 43) rfl ?_
  refine WP.iload K d16_43 rfl (pc' := 45) rfl ?_
  refine WP.iconst K d16_45 (v := (-1 : Int32)) rfl (pc' := 46) rfl ?_
  refine WP.icmpF K d16_46 (by decide) (pc' := 49) rfl ?_
  refine WP.aloadN K d16_49 rfl rfl (pc' := 50) rfl ?_
  refine WP.getF K (w_82 hw) Via.refl (IsSI.f_next O_si) d16_50 (pc' := 53) rfl ?_
  refine WP.iloadN K d16_53 rfl (pc' := 54) rfl ?_
  refine WP.iconst K d16_54 (v := (-1 : Int32)) rfl (pc' := 55) rfl ?_
  have ne_en_nw : en ≠ nw := fun z_ => by have r_ : @Eq Nat en nw := z_; have q_ : @LT.lt Nat _ en h0.size := z_en; omega
  refine WP.iastore K (i := 0) A_nw rfl (by decide) old_nw d16_55 (pc' := 56) rfl fun h55 W55 A_n => ?_
  have O_si := IsSI.other W55 O_si (Ary.ne (IsSI.exa O_si) A_nw (w_42 hw))
  have O_mp := IsMap.other W55 O_mp (Ary.ne (IsMap.exa O_mp) A_nw (w_53 hw))
  have A_en := Ary.other W55 A_en ne_en_nw
  have KP := Keep.wr KP W55 (Or.inr s_nw)
  have OLD := Old.wr OLD W55 old_nw
  have Z0 := Nat.le_trans Z0 (Nat.le_of_eq W55.size.symm)
  have A_nw := A_n
  rw [upd_int] at A_nw
  refine WP.aloadN K d16_56 rfl rfl (pc' := 57) rfl ?_
  refine WP.getF K (w_78 hw) Via.refl (IsSI.f_subjects O_si) d16_57 (pc' := 60) rfl ?_
  refine WP.iloadN K d16_60 rfl (pc' := 61) rfl ?_
  refine WP.iloadN K d16_61 rfl (pc' := 62) rfl ?_
  have nq_si_mp : si ≠ mp := (ne_exa (IsSI.exa O_si) (IsMap.exa O_mp) (by decide))
  have nq_en_mp : en ≠ mp := (Ne.symm (Ary.ne (IsMap.exa O_mp) A_en (w_53 hw)))
  have nq_nw_mp : nw ≠ mp := (Ne.symm (Ary.ne (IsMap.exa O_mp) A_nw (w_53 hw)))
  refine WP.callV K (a := mp) (argsL := [(.int (1 : Int32)), (.int (0 : Int32))]) (S := []) (w_160 hw) (w_161 hw) (fun vm0 hZ => notFace_of_selects (args := #[]) (mvT (s := κ.s.setVm vm0) hZ (w_163 hw))) (w_163 hw) (w_162 hw) (by decide) (IsMap.exa O_mp) (rm_madd w l Z a0 hw mp en kE h55 n0 Z0 O_mp A_en old_mp) (w_164 hw) (w_54 hw) (by decide) rfl (lenOf pd_0 rfl) rfl (W := 0) rfl (by decide) (by decide) (k' := 2) (n' := 66) rfl rfl (by decide) (by decide) d16_62 (pc' := 65) rfl fun v h56 hq => ?_
  obtain ⟨rfl, K2⟩ := hq
  have O_si := IsSI.keep K2 O_si (ninS nq_si_mp nin0)
  have A_en := Ary.keep K2 A_en (ninS nq_en_mp nin0)
  have A_nw := Ary.keep K2 A_nw (ninS nq_nw_mp nin0)
  have KP := Keep.trans KP K2 (allS (Or.inl (List.mem_of_getElem? (i := 1) rfl)) all0)
  have OLD := Old.keep OLD K2 (allS old_mp all0)
  have Z0 := Nat.le_trans Z0 K2.1
  show WP κ h56 2 66 (mkF κ.m 65 #[.val (.ref si), .val (.int (0 : Int32)), .val (.int (64 : Int32)), .val (.int (1 : Int32)), .val (.int (-1 : Int32)), .unset] [(.int (1 : Int32))])
  refine WP.pop K d16_65 rfl (pc' := 66) rfl ?_
  exact WP.ret0 K d16_66 (by decide) (by decide) ⟨rfl, KP⟩
/-- a TripleTable that holds the triple 0: are there ends, moves, strata; its end -/
def IsTS (Z : State) (h : Heap) (A : Nat) (tb : Addr) (e m s : Bool) (D0 : Int64) : Prop := @LE.le Nat _ A tb ∧ ∃ (te : Addr) (kT : ClassId) (f : Nat → Value) (vE vM vS u_numbers u_index u_size : Value) (ec es : Int32), IsTb Z h tb (.ref te) u_numbers u_index vE u_size vM vS (.int ec) (.int es) ∧ Ary Z h te kT .int 192 f ∧ ec = own_ct D0 ∧ own_pE Z h A vE e D0 ∧ own_pI Z h vM m ∧ own_pI Z h vS s
theorem IsTS.exa {Z : State} {h : Heap} {A : Nat} {tb : Addr} {e m s : Bool} {D0 : Int64} (T : IsTS Z h A tb e m s D0) : Exa Z h tb "com/example/weir/weir/engine/TripleTable" := by
  obtain ⟨_, te, kT, f, vE, vM, vS, u1, u2, u3, ec, es, O, _⟩ := T
  exact IsTb.exa O
theorem IsTS.lt {Z : State} {h : Heap} {A : Nat} {tb : Addr} {e m s : Bool} {D0 : Int64} (T : IsTS Z h A tb e m s D0) : tb < h.size := (IsTS.exa T).lt
set_option maxRecDepth 65536 in
set_option maxHeartbeats 40000000 in
theorem rm_endN (w : Bool) (l : Launch) (Z : State) (a0 : Array Value) (hw : ∀ d ∈ tables_1, d.before a0 Z = true) (tb : Addr) (u_terms u_numbers u_index u_size u_moves u_strata : Value) (ec es : Int32) (h0 : Heap) (n0 : Nat) (Z0 : n0 ≤ h0.size) (O_tb : IsTb Z h0 tb u_terms u_numbers u_index .null u_size u_moves u_strata (.int ec) (.int es)) :
    Met w l Z (⟨"com/example/weir/weir/engine/TripleTable", "end", "(I)J"⟩ : MethodName) prog_50_method_8_code 2 (some .long) [] ({ frames := 0, cells := 0, slots := 0, locals := 0 } : Room) #[(.ref tb), (.int (0 : Int32))] h0 n0 (fun v h => v = some (.long (9223372036854775807 : Int64)) ∧ h0 = h) := by
  refine Met.of (plainFor_of_name (by first | (simp [plainName, overriddenIn]; done) | decide +kernel)) fun κ K => ?_
  refine WP.frame (g' := (mkF κ.m 0 #[.val (.ref tb), .val (.int (0 : Int32))] [])) (by first | (simp [entryFrame, mkF, argsToLocals, Value.category]; done) | rfl) ?_
  refine WP.aloadN K d31_0 rfl rfl (pc' := 1) rfl ?_
  refine WP.getF K (w_112 hw) Via.refl (IsTb.f_ends O_tb) d31_1 (pc' := 4) rfl ?_
  refine WP.ifnonnullF K (b := 0) d31_4 (pc' := 7) rfl ?_
  refine WP.ldc2J K (w_111 hw) d31_7 (pc' := 10) rfl ?_
  refine WP.goto K d31_10 (by decide) (pc' := 19) (by decide) ?_
  exact WP.retJ K d31_19 (by decide) (by decide) ⟨rfl, rfl⟩
set_option maxRecDepth 65536 in
set_option maxHeartbeats 40000000 in
theorem rm_endA (w : Bool) (l : Launch) (Z : State) (a0 : Array Value) (hw : ∀ d ∈ tables_1, d.before a0 Z = true) (tb : Addr) (u_terms u_numbers u_index u_size u_moves u_strata : Value) (ec es : Int32) (ea : Addr) (kD : ClassId) (F : Nat → Int64) (h0 : Heap) (n0 : Nat) (Z0 : n0 ≤ h0.size) (O_tb : IsTb Z h0 tb u_terms u_numbers u_index (.ref ea) u_size u_moves u_strata (.int ec) (.int es)) (A_ea : Ary Z h0 ea kD .long 64 (fun j => .long (F j))) :
    Met w l Z (⟨"com/example/weir/weir/engine/TripleTable", "end", "(I)J"⟩ : MethodName) prog_50_method_8_code 2 (some .long) [] ({ frames := 0, cells := 0, slots := 0, locals := 0 } : Room) #[(.ref tb), (.int (0 : Int32))] h0 n0 (fun v h => v = some (.long (F 0)) ∧ h0 = h) := by
  refine Met.of (plainFor_of_name (by first | (simp [plainName, overriddenIn]; done) | decide +kernel)) fun κ K => ?_
  refine WP.frame (g' := (mkF κ.m 0 #[.val (.ref tb), .val (.int (0 : Int32))] [])) (by first | (simp [entryFrame, mkF, argsToLocals, Value.category]; done) | rfl) ?_
  refine WP.aloadN K d31_0 rfl rfl (pc' := 1) rfl ?_
  refine WP.getF K (w_112 hw) Via.refl (IsTb.f_ends O_tb) d31_1 (pc' := 4) rfl ?_
  refine WP.ifnonnullT K (b := ea) d31_4 (by decide) (pc' := 13) (by decide) ?_
  refine WP.aloadN K d31_13 rfl rfl (pc' := 14) rfl ?_
  refine WP.getF K (w_112 hw) Via.refl (IsTb.f_ends O_tb) d31_14 (pc' := 17) rfl ?_
  refine WP.iloadN K d31_17 rfl (pc' := 18) rfl ?_
  refine WP.laload K (i := 0) A_ea rfl (by decide) (v := (.long (F 0))) rfl d31_18 (pc' := 19) rfl ?_
  exact WP.retJ K d31_19 (by decide) (by decide) ⟨rfl, rfl⟩
set_option maxRecDepth 65536 in
set_option maxHeartbeats 40000000 in
theorem rm_uncN (w : Bool) (l : Launch) (Z : State) (a0 : Array Value) (hw : ∀ d ∈ tables_1, d.before a0 Z = true) (tb : Addr) (u_terms u_numbers u_index u_size u_moves u_strata : Value) (ec es : Int32) (h0 : Heap) (n0 : Nat) (Z0 : n0 ≤ h0.size) (O_tb : IsTb Z h0 tb u_terms u_numbers u_index .null u_size u_moves u_strata (.int ec) (.int es)) :
    Met w l Z (⟨"com/example/weir/weir/engine/TripleTable", "uncountEnd", "(I)V"⟩ : MethodName) prog_50_method_22_code 4 none [] ({ frames := 1, cells := 0, slots := 0, locals := 13 } : Room) #[(.ref tb), (.int (0 : Int32))] h0 n0 (fun v h => v = none ∧ h0 = h) := by
  refine Met.of (plainFor_of_name (by first | (simp [plainName, overriddenIn]; done) | decide +kernel)) fun κ K => ?_
  refine WP.frame (g' := (mkF κ.m 0 #[.val (.ref tb), .val (.int (0 : Int32)), .unset, .unset] [])) (by first | (simp [entryFrame, mkF, argsToLocals, Value.category]; done) | rfl) ?_
  refine WP.aloadN K d30_0 rfl rfl (pc' := 1) rfl ?_
  refine WP.iloadN K d30_1 rfl (pc' := 2) rfl ?_
  refine WP.callV K (a := tb) (argsL := [(.int (0 : Int32))]) (S := []) (w_212 hw) (w_213 hw) (fun vm0 hZ => notFace_of_selects (args := #[]) (mvT (s := κ.s.setVm vm0) hZ (w_215 hw))) (w_215 hw) (w_214 hw) (by decide) (IsTb.exa O_tb) (rm_endN w l Z a0 hw tb _ _ _ _ _ _ ec es h0 n0 Z0 O_tb) (w_216 hw) (w_11 hw) (by decide) rfl (lenOf pd_10 rfl) rfl (W := 0) rfl (by decide) (by decide) (k' := 0) (n' := 0) rfl rfl (by decide) (by decide) d30_2 (pc' := 5) rfl fun v h57 hq => ?_
  obtain ⟨rfl, rfl⟩ := hq
  show WP κ h0 0 0 (mkF κ.m 5 #[.val (.ref tb), .val (.int (0 : Int32)), .unset, .unset] [(.long (9223372036854775807 : Int64))])
  refine WP.lstoreN K d30_5 (L' := #[.val (.ref tb), .val (.int (0 : Int32)), .val (.long (9223372036854775807 : Int64)), .second]) rfl (pc' := 6) rfl ?_
  refine WP.lloadN K d30_6 rfl (pc' := 7) rfl ?_
  refine WP.ldc2J K (w_111 hw) d30_7 (pc' := 10) rfl ?_
  refine WP.lcmp K d30_10 (pc' := 11) rfl ?_
  have hne : ¬ (9223372036854775807 : Int64) = (-9223372036854775807 : Int64) := by decide
  refine WP.if0T K d30_11 ((if0 _ _).trans (teq ((lw_eq _ _).mpr (rfl : (9223372036854775807 : Int64) = (9223372036854775807 : Int64)))).1) (by decide) (pc' := 24) (by decide) ?_
  refine WP.lloadN K d30_24 rfl (pc' := 25) rfl ?_
  refine WP.ldc2J K (w_194 hw) d30_25 (pc' := 28) rfl ?_
  refine WP.lcmp K d30_28 (pc' := 29) rfl ?_
  refine WP.if0T K d30_29 ((if0 _ _).trans (feq (fun q => hne ((lw_eq _ _).mp q))).2) (by decide) (pc' := 42) (by decide) ?_
  exact WP.ret0 K d30_42 (by decide) (by decide) ⟨rfl, rfl⟩
set_option maxRecDepth 65536 in
set_option maxHeartbeats 40000000 in
theorem rm_uncA (w : Bool) (l : Launch) (Z : State) (a0 : Array Value) (hw : ∀ d ∈ tables_1, d.before a0 Z = true) (tb : Addr) (u_terms u_numbers u_index u_size u_moves u_strata : Value) (ec es : Int32) (ea : Addr) (kD : ClassId) (F : Nat → Int64) (h0 : Heap) (n0 : Nat) (Z0 : n0 ≤ h0.size) (O_tb : IsTb Z h0 tb u_terms u_numbers u_index (.ref ea) u_size u_moves u_strata (.int ec) (.int es)) (A_ea : Ary Z h0 ea kD .long 64 (fun j => .long (F j))) (old_tb : n0 ≤ tb) :
    Met w l Z (⟨"com/example/weir/weir/engine/TripleTable", "uncountEnd", "(I)V"⟩ : MethodName) prog_50_method_22_code 4 none [] ({ frames := 1, cells := 0, slots := 0, locals := 13 } : Room) #[(.ref tb), (.int (0 : Int32))] h0 n0 (fun v h => v = none ∧ Keep h0 h [tb] ∧ ∃ es' : Int32, IsTb Z h tb u_terms u_numbers u_index (.ref ea) u_size u_moves u_strata (.int (if F 0 = (9223372036854775807 : Int64) then ec else ec - 1)) (.int es')) := by
  refine Met.of (plainFor_of_name (by first | (simp [plainName, overriddenIn]; done) | decide +kernel)) fun κ K => ?_
  refine WP.frame (g' := (mkF κ.m 0 #[.val (.ref tb), .val (.int (0 : Int32)), .unset, .unset] [])) (by first | (simp [entryFrame, mkF, argsToLocals, Value.category]; done) | rfl) ?_
  have KP := Keep.refl h0 [tb]
  refine WP.aloadN K d30_0 rfl rfl (pc' := 1) rfl ?_
  refine WP.iloadN K d30_1 rfl (pc' := 2) rfl ?_
  refine WP.callV K (a := tb) (argsL := [(.int (0 : Int32))]) (S := []) (w_212 hw) (w_213 hw) (fun vm0 hZ => notFace_of_selects (args := #[]) (mvT (s := κ.s.setVm vm0) hZ (w_215 hw))) (w_215 hw) (w_214 hw) (by decide) (IsTb.exa O_tb) (rm_endA w l Z a0 hw tb _ _ _ _ _ _ ec es ea kD F h0 n0 Z0 O_tb A_ea) (w_216 hw) (w_11 hw) (by decide) rfl (lenOf pd_10 rfl) rfl (W := 0) rfl (by decide) (by decide) (k' := 0) (n' := 0) rfl rfl (by decide) (by decide) d30_2 (pc' := 5) rfl fun v h58 hq => ?_
  obtain ⟨rfl, rfl⟩ := hq
  show WP κ h0 0 0 (mkF κ.m 5 #[.val (.ref tb), .val (.int (0 : Int32)), .unset, .unset] [(.long (F 0))])
  refine WP.lstoreN K d30_5 (L' := #[.val (.ref tb), .val (.int (0 : Int32)), .val (.long (F 0)), .second]) rfl (pc' := 6) rfl ?_
  refine WP.lloadN K d30_6 rfl (pc' := 7) rfl ?_
  refine WP.ldc2J K (w_111 hw) d30_7 (pc' := 10) rfl ?_
  refine WP.lcmp K d30_10 (pc' := 11) rfl ?_
  by_cases c1 : (F 0) = (9223372036854775807 : Int64)
  · refine WP.if0T K d30_11 ((if0 _ _).trans (teq ((lw_eq _ _).mpr c1)).1) (by decide) (pc' := 24) (by decide) ?_
    refine WP.lloadN K d30_24 rfl (pc' := 25) rfl ?_
    refine WP.ldc2J K (w_194 hw) d30_25 (pc' := 28) rfl ?_
    refine WP.lcmp K d30_28 (pc' := 29) rfl ?_
    have hne : ¬ (F 0) = (-9223372036854775807 : Int64) := by rw [c1]; decide
    refine WP.if0T K d30_29 ((if0 _ _).trans (feq (fun q => hne ((lw_eq _ _).mp q))).2) (by decide) (pc' := 42) (by decide) ?_
    exact WP.ret0 K d30_42 (by decide) (by decide) ⟨rfl, KP, es, by rw [if_pos c1]; exact O_tb⟩
  · refine WP.if0F K d30_11 ((if0 _ _).trans (feq (fun q => c1 ((lw_eq _ _).mp q))).1) (pc' := 14) rfl ?_
    refine WP.aloadN K d30_14 rfl rfl (pc' := 15) rfl ?_
    refine WP.dup K d30_15 rfl (pc' := 16) rfl ?_
    refine WP.getF K (w_192 hw) Via.refl (IsTb.f_ending O_tb) d30_16 (pc' := 19) rfl ?_
    refine WP.iconst K d30_19 (v := (1 : Int32)) rfl (pc' := 20) rfl ?_
    refine WP.isub K d30_20 (pc' := 21) rfl ?_
    refine WP.putF K (w_192 hw) Via.refl (IsTb.f_ending O_tb) (IsTb.exa O_tb) (Or.inl (w_193 hw)) (w_10 hw) (ty := .int) (by decide) rfl rfl old_tb d30_21 (pc' := 24) rfl fun h59 W59 => ?_
    have A_ea := Ary.other W59 A_ea (Ne.symm (Ary.ne (IsTb.exa O_tb) A_ea (w_10 hw)))
    have KP := Keep.wr KP W59 (Or.inl (List.mem_of_getElem? (i := 0) rfl))
    have Z0 := Nat.le_trans Z0 (Nat.le_of_eq W59.size.symm)
    have O_tb := IsTb.s_ending hw W59 O_tb
    refine WP.lloadN K d30_24 rfl (pc' := 25) rfl ?_
    refine WP.ldc2J K (w_194 hw) d30_25 (pc' := 28) rfl ?_
    refine WP.lcmp K d30_28 (pc' := 29) rfl ?_
    by_cases c2 : (F 0) = (-9223372036854775807 : Int64)
    · refine WP.if0F K d30_29 ((if0 _ _).trans (teq ((lw_eq _ _).mpr c2)).2) (pc' := 32) rfl ?_
      refine WP.aloadN K d30_32 rfl rfl (pc' := 33) rfl ?_
      refine WP.dup K d30_33 rfl (pc' := 34) rfl ?_
      refine WP.getF K (w_196 hw) Via.refl (IsTb.f_earliest O_tb) d30_34 (pc' := 37) rfl ?_
      refine WP.iconst K d30_37 (v := (1 : Int32)) rfl (pc' := 38) rfl ?_
      refine WP.isub K d30_38 (pc' := 39) rfl ?_
      refine WP.putF K (w_196 hw) Via.refl (IsTb.f_earliest O_tb) (IsTb.exa O_tb) (Or.inl (w_197 hw)) (w_10 hw) (ty := .int) (by decide) rfl rfl old_tb d30_39 (pc' := 42) rfl fun h60 W60 => ?_
      have A_ea := Ary.other W60 A_ea (Ne.symm (Ary.ne (IsTb.exa O_tb) A_ea (w_10 hw)))
      have KP := Keep.wr KP W60 (Or.inl (List.mem_of_getElem? (i := 0) rfl))
      have Z0 := Nat.le_trans Z0 (Nat.le_of_eq W60.size.symm)
      have O_tb := IsTb.s_earliest hw W60 O_tb
      exact WP.ret0 K d30_42 (by decide) (by decide) ⟨rfl, KP, (es - 1), by rw [if_neg c1]; exact O_tb⟩
    · refine WP.if0T K d30_29 ((if0 _ _).trans (feq (fun q => c2 ((lw_eq _ _).mp q))).2) (by decide) (pc' := 42) (by decide) ?_
      exact WP.ret0 K d30_42 (by decide) (by decide) ⟨rfl, KP, es, by rw [if_neg c1]; exact O_tb⟩
set_option maxRecDepth 65536 in
set_option maxHeartbeats 40000000 in
theorem rm_putN (w : Bool) (l : Launch) (Z : State) (a0 : Array Value) (hw : ∀ d ∈ tables_1, d.before a0 Z = true) (tb te : Addr) (kT : ClassId) (f_te : Nat → Value) (u_numbers u_index u_size u_moves u_strata : Value) (ec es : Int32) (vv : Int64) (h0 : Heap) (n0 : Nat) (Z0 : n0 ≤ h0.size) (O_tb : IsTb Z h0 tb (.ref te) u_numbers u_index .null u_size u_moves u_strata (.int ec) (.int es)) (A_te : Ary Z h0 te kT .int 192 f_te) (old_tb : n0 ≤ tb) :
    Met w l Z (⟨"com/example/weir/weir/engine/TripleTable", "putEnd", "(IJ)V"⟩ : MethodName) prog_50_method_23_code 4 none [] ({ frames := 1, cells := 1, slots := 64, locals := 16 } : Room) #[(.ref tb), (.int (0 : Int32)), (.long vv)] h0 n0 (fun v h => v = none ∧ Keep h0 h [tb] ∧ ((vv = (9223372036854775807 : Int64) ∧ IsTb Z h tb (.ref te) u_numbers u_index .null u_size u_moves u_strata (.int ec) (.int es)) ∨ (¬ vv = (9223372036854775807 : Int64) ∧ ∃ (ea : Addr) (kD : ClassId) (F : Nat → Int64) (es' : Int32), h0.size ≤ ea ∧ IsTb Z h tb (.ref te) u_numbers u_index (.ref ea) u_size u_moves u_strata (.int (ec + 1)) (.int es') ∧ Ary Z h ea kD .long 64 (fun j => .long (F j)) ∧ F 0 = vv))) := by
  refine Met.of (plainFor_of_name (by first | (simp [plainName, overriddenIn]; done) | decide +kernel)) fun κ K => ?_
  refine WP.frame (g' := (mkF κ.m 0 #[.val (.ref tb), .val (.int (0 : Int32)), .val (.long vv), .second] [])) (by first | (simp [entryFrame, mkF, argsToLocals, Value.category]; done) | rfl) ?_
  have KP := Keep.refl h0 [tb]
  refine WP.lloadN K d14_0 rfl (pc' := 1) rfl ?_
  refine WP.ldc2J K (w_111 hw) d14_1 (pc' := 4) rfl ?_
  refine WP.lcmp K d14_4 (pc' := 5) rfl ?_
  by_cases c1 : vv = (9223372036854775807 : Int64)
  · refine WP.if0F K d14_5 ((if0 _ _).trans (teq ((lw_eq _ _).mpr c1)).2) (pc' := 8) rfl ?_
    refine WP.aloadN K d14_8 rfl rfl (pc' := 9) rfl ?_
    refine WP.getF K (w_112 hw) Via.refl (IsTb.f_ends O_tb) d14_9 (pc' := 12) rfl ?_
    refine WP.ifnullT K (b := 0) d14_12 (by decide) (pc' := 24) (by decide) ?_
    exact WP.ret0 K d14_24 (by decide) (by decide) ⟨rfl, KP, Or.inl ⟨c1, O_tb⟩⟩
  · refine WP.if0T K d14_5 ((if0 _ _).trans (feq (fun q => c1 ((lw_eq _ _).mp q))).2) (by decide) (pc' := 25) (by decide) ?_
    refine WP.aloadN K d14_25 rfl rfl (pc' := 26) rfl ?_
    refine WP.getF K (w_112 hw) Via.refl (IsTb.f_ends O_tb) d14_26 (pc' := 29) rfl ?_
    refine WP.ifnonnullF K (b := 0) d14_29 (pc' := 32) rfl ?_
    refine WP.aloadN K d14_32 rfl rfl (pc' := 33) rfl ?_
    refine WP.aloadN K d14_33 rfl rfl (pc' := 34) rfl ?_
    refine WP.callV K (a := tb) (argsL := []) (S := [(.ref tb)]) (w_116 hw) (w_117 hw) (fun vm0 hZ => notFace_of_selects (args := #[]) (mvT (s := κ.s.setVm vm0) hZ (w_119 hw))) (w_119 hw) (w_118 hw) (by decide) (IsTb.exa O_tb) (rm_cap w l Z a0 hw tb te kT f_te _ _ _ _ _ _ _ _ h0 n0 Z0 O_tb A_te) (w_120 hw) (w_11 hw) (by decide) rfl (lenOf pd_5 rfl) rfl (W := 1) rfl (by decide) (by decide) (k' := 0) (n' := 0) rfl rfl (by decide) (by decide) d14_34 (pc' := 37) rfl fun v h61 hq => ?_
    obtain ⟨rfl, rfl⟩ := hq
    show WP κ h0 0 0 (mkF κ.m 37 #[.val (.ref tb), .val (.int (0 : Int32)), .val (.long vv), .second] [(.int (64 : Int32)), (.ref tb)])
    refine WP.newarray (aty := .long) K (w_188 hw) d14_37 (N := 64) (cap := 64) rfl (Nat.le_refl _) (by decide) (k' := 1) (n' := 64) rfl rfl (by decide) (by decide) (pc' := 39) rfl fun h62 ea kA_ea g62 E62 A_ea => ?_
    have ne_tb_ea : tb ≠ ea := fun z_ => by have q_ : @LT.lt Nat _ tb h0.size := (IsTb.lt O_tb); have r_ : @Eq Nat tb ea := z_; omega
    have ne_te_ea : te ≠ ea := fun z_ => by have q_ : @LT.lt Nat _ te h0.size := (Ary.lt A_te); have r_ : @Eq Nat te ea := z_; omega
    have old_ea : n0 ≤ ea := by have q_ := Z0; omega
    have osz_ea : h0.size ≤ ea := by have q_ := KP.1; omega
    have O_tb := IsTb.ext E62 O_tb
    have A_te := Ary.ext E62 A_te
    have KP := Keep.ext KP E62
    have Z0 := Nat.le_trans Z0 E62.1
    have A_ea : Ary Z h62 ea kA_ea .long 64 (fun j => .long ((fun _ => (0 : Int64)) j)) := A_ea
    refine WP.putF K (w_112 hw) Via.refl (IsTb.f_ends O_tb) (IsTb.exa O_tb) (Or.inl (w_113 hw)) (w_10 hw) (ty := (.array .long)) (by decide) rfl rfl old_tb d14_39 (pc' := 42) rfl fun h63 W63 => ?_
    have A_te := Ary.other W63 A_te (Ne.symm (Ary.ne (IsTb.exa O_tb) A_te (w_10 hw)))
    have A_ea := Ary.other W63 A_ea (Ne.symm ne_tb_ea)
    have KP := Keep.wr KP W63 (Or.inl (List.mem_of_getElem? (i := 0) rfl))
    have Z0 := Nat.le_trans Z0 (Nat.le_of_eq W63.size.symm)
    have O_tb := IsTb.s_ends hw W63 O_tb
    refine WP.aloadN K d14_42 rfl rfl (pc' := 43) rfl ?_
    refine WP.getF K (w_112 hw) Via.refl (IsTb.f_ends O_tb) d14_43 (pc' := 46) rfl ?_
    refine WP.ldc2J K (w_111 hw) d14_46 (pc' := 49) rfl ?_
    refine WP.callS K (argsL := [(.ref ea), (.long (9223372036854775807 : Int64))]) (S := []) (w_189 hw) (w_190 hw) (rm_fillJ w l Z a0 hw ea kA_ea 64 (fun _ => (0 : Int64)) (9223372036854775807 : Int64) h63 n0 Z0 A_ea old_ea) (w_191 hw) (w_128 hw) (by decide) rfl (lenOf pd_11 rfl) rfl (W := 0) rfl (by decide) (by decide) (k' := 1) (n' := 64) rfl rfl (by decide) (by decide) d14_49 (pc' := 52) rfl fun v h64 hq => ?_
    obtain ⟨rfl, K1, A_ea⟩ := hq
    have O_tb := IsTb.keep K1 O_tb (ninS ne_tb_ea nin0)
    have A_te := Ary.keep K1 A_te (ninS ne_te_ea nin0)
    have KP := Keep.trans KP K1 (allS (Or.inr osz_ea) all0)
    have Z0 := Nat.le_trans Z0 K1.1
    show WP κ h64 1 64 (mkF κ.m 52 #[.val (.ref tb), .val (.int (0 : Int32)), .val (.long vv), .second] [])
    refine WP.aloadN K d14_52 rfl rfl (pc' := 53) rfl ?_
    refine WP.getF K (w_112 hw) Via.refl (IsTb.f_ends O_tb) d14_53 (pc' := 56) rfl ?_
    refine WP.iloadN K d14_56 rfl (pc' := 57) rfl ?_
    refine WP.lloadN K d14_57 rfl (pc' := 58) rfl ?_
    refine WP.lastore K (i := 0) A_ea rfl (by decide) old_ea d14_58 (pc' := 59) rfl fun h65 W65 A_n => ?_
    have O_tb := IsTb.other W65 O_tb ne_tb_ea
    have A_te := Ary.other W65 A_te ne_te_ea
    have KP := Keep.wr KP W65 (Or.inr osz_ea)
    have Z0 := Nat.le_trans Z0 (Nat.le_of_eq W65.size.symm)
    have A_ea := A_n
    rw [upd_long] at A_ea
    refine WP.aloadN K d14_59 rfl rfl (pc' := 60) rfl ?_
    refine WP.dup K d14_60 rfl (pc' := 61) rfl ?_
    refine WP.getF K (w_192 hw) Via.refl (IsTb.f_ending O_tb) d14_61 (pc' := 64) rfl ?_
    refine WP.iconst K d14_64 (v := (1 : Int32)) rfl (pc' := 65) rfl ?_
    refine WP.iadd K d14_65 (pc' := 66) rfl ?_
    refine WP.putF K (w_192 hw) Via.refl (IsTb.f_ending O_tb) (IsTb.exa O_tb) (Or.inl (w_193 hw)) (w_10 hw) (ty := .int) (by decide) rfl rfl old_tb d14_66 (pc' := 69) rfl fun h66 W66 => ?_
    have A_te := Ary.other W66 A_te (Ne.symm (Ary.ne (IsTb.exa O_tb) A_te (w_10 hw)))
    have A_ea := Ary.other W66 A_ea (Ne.symm ne_tb_ea)
    have KP := Keep.wr KP W66 (Or.inl (List.mem_of_getElem? (i := 0) rfl))
    have Z0 := Nat.le_trans Z0 (Nat.le_of_eq W66.size.symm)
    have O_tb := IsTb.s_ending hw W66 O_tb
    refine WP.lloadN K d14_69 rfl (pc' := 70) rfl ?_
    refine WP.ldc2J K (w_194 hw) d14_70 (pc' := 73) rfl ?_
    refine WP.lcmp K d14_73 (pc' := 74) rfl ?_
    by_cases c2 : vv = (-9223372036854775807 : Int64)
    · refine WP.if0F K d14_74 ((if0 _ _).trans (teq ((lw_eq _ _).mpr c2)).2) (pc' := 77) rfl ?_
      refine WP.aloadN K d14_77 rfl rfl (pc' := 78) rfl ?_
      refine WP.dup K d14_78 rfl (pc' := 79) rfl ?_
      refine WP.getF K (w_196 hw) Via.refl (IsTb.f_earliest O_tb) d14_79 (pc' := 82) rfl ?_
      refine WP.iconst K d14_82 (v := (1 : Int32)) rfl (pc' := 83) rfl ?_
      refine WP.iadd K d14_83 (pc' := 84) rfl ?_
      refine WP.putF K (w_196 hw) Via.refl (IsTb.f_earliest O_tb) (IsTb.exa O_tb) (Or.inl (w_197 hw)) (w_10 hw) (ty := .int) (by decide) rfl rfl old_tb d14_84 (pc' := 87) rfl fun h67 W67 => ?_
      have A_te := Ary.other W67 A_te (Ne.symm (Ary.ne (IsTb.exa O_tb) A_te (w_10 hw)))
      have A_ea := Ary.other W67 A_ea (Ne.symm ne_tb_ea)
      have KP := Keep.wr KP W67 (Or.inl (List.mem_of_getElem? (i := 0) rfl))
      have Z0 := Nat.le_trans Z0 (Nat.le_of_eq W67.size.symm)
      have O_tb := IsTb.s_earliest hw W67 O_tb
      exact WP.ret0 K d14_87 (by decide) (by decide) ⟨rfl, KP, Or.inr ⟨c1, ea, kA_ea, _, (es + 1), osz_ea, O_tb, A_ea, fset_same _ _ _⟩⟩
    · refine WP.if0T K d14_74 ((if0 _ _).trans (feq (fun q => c2 ((lw_eq _ _).mp q))).2) (by decide) (pc' := 87) (by decide) ?_
      exact WP.ret0 K d14_87 (by decide) (by decide) ⟨rfl, KP, Or.inr ⟨c1, ea, kA_ea, _, es, osz_ea, O_tb, A_ea, fset_same _ _ _⟩⟩
set_option maxRecDepth 65536 in
set_option maxHeartbeats 40000000 in
theorem rm_putA (w : Bool) (l : Launch) (Z : State) (a0 : Array Value) (hw : ∀ d ∈ tables_1, d.before a0 Z = true) (tb : Addr) (u_terms u_numbers u_index u_size u_moves u_strata : Value) (ec es : Int32) (ea : Addr) (kD : ClassId) (F : Nat → Int64) (vv : Int64) (h0 : Heap) (n0 : Nat) (Z0 : n0 ≤ h0.size) (O_tb : IsTb Z h0 tb u_terms u_numbers u_index (.ref ea) u_size u_moves u_strata (.int ec) (.int es)) (A_ea : Ary Z h0 ea kD .long 64 (fun j => .long (F j))) (old_tb : n0 ≤ tb) (old_ea : n0 ≤ ea) :
    Met w l Z (⟨"com/example/weir/weir/engine/TripleTable", "putEnd", "(IJ)V"⟩ : MethodName) prog_50_method_23_code 4 none [] ({ frames := 0, cells := 0, slots := 0, locals := 0 } : Room) #[(.ref tb), (.int (0 : Int32)), (.long vv)] h0 n0 (fun v h => v = none ∧ Keep h0 h [tb, ea] ∧ ∃ (F' : Nat → Int64) (es' : Int32), IsTb Z h tb u_terms u_numbers u_index (.ref ea) u_size u_moves u_strata (.int (if vv = (9223372036854775807 : Int64) then ec else ec + 1)) (.int es') ∧ Ary Z h ea kD .long 64 (fun j => .long (F' j)) ∧ F' 0 = vv) := by
  refine Met.of (plainFor_of_name (by first | (simp [plainName, overriddenIn]; done) | decide +kernel)) fun κ K => ?_
  refine WP.frame (g' := (mkF κ.m 0 #[.val (.ref tb), .val (.int (0 : Int32)), .val (.long vv), .second] [])) (by first | (simp [entryFrame, mkF, argsToLocals, Value.category]; done) | rfl) ?_
  have KP := Keep.refl h0 [tb, ea]
  refine WP.lloadN K d14_0 rfl (pc' := 1) rfl ?_
  refine WP.ldc2J K (w_111 hw) d14_1 (pc' := 4) rfl ?_
  refine WP.lcmp K d14_4 (pc' := 5) rfl ?_
  by_cases c1 : vv = (9223372036854775807 : Int64)
  · refine WP.if0F K d14_5 ((if0 _ _).trans (teq ((lw_eq _ _).mpr c1)).2) (pc' := 8) rfl ?_
    refine WP.aloadN K d14_8 rfl rfl (pc' := 9) rfl ?_
    refine WP.getF K (w_112 hw) Via.refl (IsTb.f_ends O_tb) d14_9 (pc' := 12) rfl ?_
    refine WP.ifnullF K (b := ea) d14_12 (pc' := 15) rfl ?_
    refine WP.aloadN K d14_15 rfl rfl (pc' := 16) rfl ?_
    refine WP.getF K (w_112 hw) Via.refl (IsTb.f_ends O_tb) d14_16 (pc' := 19) rfl ?_
    refine WP.iloadN K d14_19 rfl (pc' := 20) rfl ?_
    refine WP.ldc2J K (w_111 hw) d14_20 (pc' := 23) rfl ?_
    refine WP.lastore K (i := 0) A_ea rfl (by decide) old_ea d14_23 (pc' := 24) rfl fun h68 W68 A_n => ?_
    have O_tb := IsTb.other W68 O_tb (Ary.ne (IsTb.exa O_tb) A_ea (w_10 hw))
    have KP := Keep.wr KP W68 (Or.inl (List.mem_of_getElem? (i := 1) rfl))
    have Z0 := Nat.le_trans Z0 (Nat.le_of_eq W68.size.symm)
    have A_ea := A_n
    rw [upd_long] at A_ea
    exact WP.ret0 K d14_24 (by decide) (by decide) ⟨rfl, KP, _, es, by rw [if_pos c1]; exact O_tb, A_ea, (fset_same _ _ _).trans c1.symm⟩
  · refine WP.if0T K d14_5 ((if0 _ _).trans (feq (fun q => c1 ((lw_eq _ _).mp q))).2) (by decide) (pc' := 25) (by decide) ?_
    refine WP.aloadN K d14_25 rfl rfl (pc' := 26) rfl ?_
    refine WP.getF K (w_112 hw) Via.refl (IsTb.f_ends O_tb) d14_26 (pc' := 29) rfl ?_
    refine WP.ifnonnullT K (b := ea) d14_29 (by decide) (pc' := 52) (by decide) ?_
    refine WP.aloadN K d14_52 rfl rfl (pc' := 53) rfl ?_
    refine WP.getF K (w_112 hw) Via.refl (IsTb.f_ends O_tb) d14_53 (pc' := 56) rfl ?_
    refine WP.iloadN K d14_56 rfl (pc' := 57) rfl ?_
    refine WP.lloadN K d14_57 rfl (pc' := 58) rfl ?_
    refine WP.lastore K (i := 0) A_ea rfl (by decide) old_ea d14_58 (pc' := 59) rfl fun h69 W69 A_n => ?_
    have O_tb := IsTb.other W69 O_tb (Ary.ne (IsTb.exa O_tb) A_ea (w_10 hw))
    have KP := Keep.wr KP W69 (Or.inl (List.mem_of_getElem? (i := 1) rfl))
    have Z0 := Nat.le_trans Z0 (Nat.le_of_eq W69.size.symm)
    have A_ea := A_n
    rw [upd_long] at A_ea
    refine WP.aloadN K d14_59 rfl rfl (pc' := 60) rfl ?_
    refine WP.dup K d14_60 rfl (pc' := 61) rfl ?_
    refine WP.getF K (w_192 hw) Via.refl (IsTb.f_ending O_tb) d14_61 (pc' := 64) rfl ?_
    refine WP.iconst K d14_64 (v := (1 : Int32)) rfl (pc' := 65) rfl ?_
    refine WP.iadd K d14_65 (pc' := 66) rfl ?_
    refine WP.putF K (w_192 hw) Via.refl (IsTb.f_ending O_tb) (IsTb.exa O_tb) (Or.inl (w_193 hw)) (w_10 hw) (ty := .int) (by decide) rfl rfl old_tb d14_66 (pc' := 69) rfl fun h70 W70 => ?_
    have A_ea := Ary.other W70 A_ea (Ne.symm (Ary.ne (IsTb.exa O_tb) A_ea (w_10 hw)))
    have KP := Keep.wr KP W70 (Or.inl (List.mem_of_getElem? (i := 0) rfl))
    have Z0 := Nat.le_trans Z0 (Nat.le_of_eq W70.size.symm)
    have O_tb := IsTb.s_ending hw W70 O_tb
    refine WP.lloadN K d14_69 rfl (pc' := 70) rfl ?_
    refine WP.ldc2J K (w_194 hw) d14_70 (pc' := 73) rfl ?_
    refine WP.lcmp K d14_73 (pc' := 74) rfl ?_
    by_cases c2 : vv = (-9223372036854775807 : Int64)
    · refine WP.if0F K d14_74 ((if0 _ _).trans (teq ((lw_eq _ _).mpr c2)).2) (pc' := 77) rfl ?_
      refine WP.aloadN K d14_77 rfl rfl (pc' := 78) rfl ?_
      refine WP.dup K d14_78 rfl (pc' := 79) rfl ?_
      refine WP.getF K (w_196 hw) Via.refl (IsTb.f_earliest O_tb) d14_79 (pc' := 82) rfl ?_
      refine WP.iconst K d14_82 (v := (1 : Int32)) rfl (pc' := 83) rfl ?_
      refine WP.iadd K d14_83 (pc' := 84) rfl ?_
      refine WP.putF K (w_196 hw) Via.refl (IsTb.f_earliest O_tb) (IsTb.exa O_tb) (Or.inl (w_197 hw)) (w_10 hw) (ty := .int) (by decide) rfl rfl old_tb d14_84 (pc' := 87) rfl fun h71 W71 => ?_
      have A_ea := Ary.other W71 A_ea (Ne.symm (Ary.ne (IsTb.exa O_tb) A_ea (w_10 hw)))
      have KP := Keep.wr KP W71 (Or.inl (List.mem_of_getElem? (i := 0) rfl))
      have Z0 := Nat.le_trans Z0 (Nat.le_of_eq W71.size.symm)
      have O_tb := IsTb.s_earliest hw W71 O_tb
      exact WP.ret0 K d14_87 (by decide) (by decide) ⟨rfl, KP, _, (es + 1), by rw [if_neg c1]; exact O_tb, A_ea, fset_same _ _ _⟩
    · refine WP.if0T K d14_74 ((if0 _ _).trans (feq (fun q => c2 ((lw_eq _ _).mp q))).2) (by decide) (pc' := 87) (by decide) ?_
      exact WP.ret0 K d14_87 (by decide) (by decide) ⟨rfl, KP, _, es, by rw [if_neg c1]; exact O_tb, A_ea, fset_same _ _ _⟩
set_option maxRecDepth 65536 in
set_option maxHeartbeats 40000000 in
theorem rm_tcap (w : Bool) (l : Launch) (Z : State) (a0 : Array Value) (hw : ∀ d ∈ tables_1, d.before a0 Z = true) (tb : Addr) (A : Nat) (e m s : Bool) (D0 : Int64) (h0 : Heap) (n0 : Nat) (Z0 : n0 ≤ h0.size) (T_ : IsTS Z h0 A tb e m s D0) :
    Met w l Z (⟨"com/example/weir/weir/engine/TripleTable", "capacity", "()I"⟩ : MethodName) prog_50_method_4_code 1 (some .int) [] ({ frames := 0, cells := 0, slots := 0, locals := 0 } : Room) #[(.ref tb)] h0 n0 (fun v h => v = some (.int (64 : Int32)) ∧ h0 = h) := by
  refine Met.of (plainFor_of_name (by first | (simp [plainName, overriddenIn]; done) | decide +kernel)) fun κ K => ?_
  refine WP.frame (g' := (mkF κ.m 0 #[.val (.ref tb)] [])) (by first | (simp [entryFrame, mkF, argsToLocals, Value.category]; done) | rfl) ?_
  obtain ⟨a1, te, kT, f_te, vE, vM, vS, u_numbers, u_index, u_size, ec, es, O_tb, A_te, hec, CE, CM, CS⟩ := T_
  refine WP.aloadN K d15_0 rfl rfl (pc' := 1) rfl ?_
  refine WP.getF K (w_19 hw) Via.refl (IsTb.f_terms O_tb) d15_1 (pc' := 4) rfl ?_
  refine WP.arraylength K A_te d15_4 (pc' := 5) rfl ?_
  show WP κ h0 0 0 (mkF κ.m 5 #[.val (.ref tb)] [(.int (192 : Int32))])
  refine WP.iconst K d15_5 (v := (3 : Int32)) rfl (pc' := 6) rfl ?_
  refine WP.idiv K d15_6 (by decide) (pc' := 7) rfl ?_
  exact WP.retI K d15_7 (by decide) (by decide) ⟨congrArg (fun z => some (Value.int z)) (by decide : (192 : Int32) / (3 : Int32) = (64 : Int32)), rfl⟩
set_option maxRecDepth 65536 in
set_option maxHeartbeats 40000000 in
theorem rm_room (w : Bool) (l : Launch) (Z : State) (a0 : Array Value) (hw : ∀ d ∈ tables_1, d.before a0 Z = true) (tb : Addr) (A : Nat) (e m s : Bool) (D0 : Int64) (h0 : Heap) (n0 : Nat) (Z0 : n0 ≤ h0.size) (T_ : IsTS Z h0 A tb e m s D0) :
    Met w l Z (⟨"com/example/weir/weir/engine/TripleTable", "endRoom", "()I"⟩ : MethodName) prog_50_method_14_code 1 (some .int) [] ({ frames := 0, cells := 0, slots := 0, locals := 0 } : Room) #[(.ref tb)] h0 n0 (fun v h => v = some (.int (own_room e m s)) ∧ h0 = h) := by
  refine Met.of (plainFor_of_name (by first | (simp [plainName, overriddenIn]; done) | decide +kernel)) fun κ K => ?_
  refine WP.frame (g' := (mkF κ.m 0 #[.val (.ref tb)] [])) (by first | (simp [entryFrame, mkF, argsToLocals, Value.category]; done) | rfl) ?_
  obtain ⟨a1, te, kT, f_te, vE, vM, vS, u_numbers, u_index, u_size, ec, es, O_tb, A_te, hec, CE, CM, CS⟩ := T_
  rcases CE with ⟨rfl, rfl, hD⟩ | ⟨rfl, ea, kD, FE, b1, rfl, A_ea, hF0⟩
  · rcases CM with ⟨rfl, rfl⟩ | ⟨rfl, ma, kma, f_ma, rfl, A_ma⟩
    · rcases CS with ⟨rfl, rfl⟩ | ⟨rfl, sa, ksa, f_sa, rfl, A_sa⟩
      · refine WP.aloadN K d26_0 rfl rfl (pc' := 1) rfl ?_
        refine WP.getF K (w_112 hw) Via.refl (IsTb.f_ends O_tb) d26_1 (pc' := 4) rfl ?_
        refine WP.ifnonnullF K (b := 0) d26_4 (pc' := 7) rfl ?_
        refine WP.iconst K d26_7 (v := (0 : Int32)) rfl (pc' := 8) rfl ?_
        refine WP.goto K d26_8 (by decide) (pc' := 19) (by decide) ?_
        refine WP.aloadN K d26_19 rfl rfl (pc' := 20) rfl ?_
        refine WP.getF K (w_182 hw) Via.refl (IsTb.f_moves O_tb) d26_20 (pc' := 23) rfl ?_
        refine WP.ifnonnullF K (b := 0) d26_23 (pc' := 26) rfl ?_
        refine WP.iconst K d26_26 (v := (0 : Int32)) rfl (pc' := 27) rfl ?_
        refine WP.goto K d26_27 (by decide) (pc' := 37) (by decide) ?_
        refine WP.iadd K d26_37 (pc' := 38) rfl ?_
        show WP κ h0 0 0 (mkF κ.m 38 #[.val (.ref tb)] [(.int (0 : Int32))])
        refine WP.aloadN K d26_38 rfl rfl (pc' := 39) rfl ?_
        refine WP.getF K (w_184 hw) Via.refl (IsTb.f_strata O_tb) d26_39 (pc' := 42) rfl ?_
        refine WP.ifnonnullF K (b := 0) d26_42 (pc' := 45) rfl ?_
        refine WP.iconst K d26_45 (v := (0 : Int32)) rfl (pc' := 46) rfl ?_
        refine WP.goto K d26_46 (by decide) (pc' := 56) (by decide) ?_
        refine WP.iadd K d26_56 (pc' := 57) rfl ?_
        show WP κ h0 0 0 (mkF κ.m 57 #[.val (.ref tb)] [(.int (0 : Int32))])
        exact WP.retI K d26_57 (by decide) (by decide) ⟨congrArg (fun z => some (Value.int z)) (by decide : (0 : Int32) = own_room false false false), rfl⟩
      · refine WP.aloadN K d26_0 rfl rfl (pc' := 1) rfl ?_
        refine WP.getF K (w_112 hw) Via.refl (IsTb.f_ends O_tb) d26_1 (pc' := 4) rfl ?_
        refine WP.ifnonnullF K (b := 0) d26_4 (pc' := 7) rfl ?_
        refine WP.iconst K d26_7 (v := (0 : Int32)) rfl (pc' := 8) rfl ?_
        refine WP.goto K d26_8 (by decide) (pc' := 19) (by decide) ?_
        refine WP.aloadN K d26_19 rfl rfl (pc' := 20) rfl ?_
        refine WP.getF K (w_182 hw) Via.refl (IsTb.f_moves O_tb) d26_20 (pc' := 23) rfl ?_
        refine WP.ifnonnullF K (b := 0) d26_23 (pc' := 26) rfl ?_
        refine WP.iconst K d26_26 (v := (0 : Int32)) rfl (pc' := 27) rfl ?_
        refine WP.goto K d26_27 (by decide) (pc' := 37) (by decide) ?_
        refine WP.iadd K d26_37 (pc' := 38) rfl ?_
        show WP κ h0 0 0 (mkF κ.m 38 #[.val (.ref tb)] [(.int (0 : Int32))])
        refine WP.aloadN K d26_38 rfl rfl (pc' := 39) rfl ?_
        refine WP.getF K (w_184 hw) Via.refl (IsTb.f_strata O_tb) d26_39 (pc' := 42) rfl ?_
        refine WP.ifnonnullT K (b := sa) d26_42 (by decide) (pc' := 49) (by decide) ?_
        refine WP.iconst K d26_49 (v := (4 : Int32)) rfl (pc' := 50) rfl ?_
        refine WP.aloadN K d26_50 rfl rfl (pc' := 51) rfl ?_
        refine WP.getF K (w_184 hw) Via.refl (IsTb.f_strata O_tb) d26_51 (pc' := 54) rfl ?_
        refine WP.arraylength K A_sa d26_54 (pc' := 55) rfl ?_
        show WP κ h0 0 0 (mkF κ.m 55 #[.val (.ref tb)] [(.int (64 : Int32)), (.int (4 : Int32)), (.int (0 : Int32))])
        refine WP.imul K d26_55 (pc' := 56) rfl ?_
        show WP κ h0 0 0 (mkF κ.m 56 #[.val (.ref tb)] [(.int (256 : Int32)), (.int (0 : Int32))])
        refine WP.iadd K d26_56 (pc' := 57) rfl ?_
        show WP κ h0 0 0 (mkF κ.m 57 #[.val (.ref tb)] [(.int (256 : Int32))])
        exact WP.retI K d26_57 (by decide) (by decide) ⟨congrArg (fun z => some (Value.int z)) (by decide : (256 : Int32) = own_room false false true), rfl⟩
    · rcases CS with ⟨rfl, rfl⟩ | ⟨rfl, sa, ksa, f_sa, rfl, A_sa⟩
      · refine WP.aloadN K d26_0 rfl rfl (pc' := 1) rfl ?_
        refine WP.getF K (w_112 hw) Via.refl (IsTb.f_ends O_tb) d26_1 (pc' := 4) rfl ?_
        refine WP.ifnonnullF K (b := 0) d26_4 (pc' := 7) rfl ?_
        refine WP.iconst K d26_7 (v := (0 : Int32)) rfl (pc' := 8) rfl ?_
        refine WP.goto K d26_8 (by decide) (pc' := 19) (by decide) ?_
        refine WP.aloadN K d26_19 rfl rfl (pc' := 20) rfl ?_
        refine WP.getF K (w_182 hw) Via.refl (IsTb.f_moves O_tb) d26_20 (pc' := 23) rfl ?_
        refine WP.ifnonnullT K (b := ma) d26_23 (by decide) (pc' := 30) (by decide) ?_
        refine WP.iconst K d26_30 (v := (4 : Int32)) rfl (pc' := 31) rfl ?_
        refine WP.aloadN K d26_31 rfl rfl (pc' := 32) rfl ?_
        refine WP.getF K (w_182 hw) Via.refl (IsTb.f_moves O_tb) d26_32 (pc' := 35) rfl ?_
        refine WP.arraylength K A_ma d26_35 (pc' := 36) rfl ?_
        show WP κ h0 0 0 (mkF κ.m 36 #[.val (.ref tb)] [(.int (64 : Int32)), (.int (4 : Int32)), (.int (0 : Int32))])
        refine WP.imul K d26_36 (pc' := 37) rfl ?_
        show WP κ h0 0 0 (mkF κ.m 37 #[.val (.ref tb)] [(.int (256 : Int32)), (.int (0 : Int32))])
        refine WP.iadd K d26_37 (pc' := 38) rfl ?_
        show WP κ h0 0 0 (mkF κ.m 38 #[.val (.ref tb)] [(.int (256 : Int32))])
        refine WP.aloadN K d26_38 rfl rfl (pc' := 39) rfl ?_
        refine WP.getF K (w_184 hw) Via.refl (IsTb.f_strata O_tb) d26_39 (pc' := 42) rfl ?_
        refine WP.ifnonnullF K (b := 0) d26_42 (pc' := 45) rfl ?_
        refine WP.iconst K d26_45 (v := (0 : Int32)) rfl (pc' := 46) rfl ?_
        refine WP.goto K d26_46 (by decide) (pc' := 56) (by decide) ?_
        refine WP.iadd K d26_56 (pc' := 57) rfl ?_
        show WP κ h0 0 0 (mkF κ.m 57 #[.val (.ref tb)] [(.int (256 : Int32))])
        exact WP.retI K d26_57 (by decide) (by decide) ⟨congrArg (fun z => some (Value.int z)) (by decide : (256 : Int32) = own_room false true false), rfl⟩
      · refine WP.aloadN K d26_0 rfl rfl (pc' := 1) rfl ?_
        refine WP.getF K (w_112 hw) Via.refl (IsTb.f_ends O_tb) d26_1 (pc' := 4) rfl ?_
        refine WP.ifnonnullF K (b := 0) d26_4 (pc' := 7) rfl ?_
        refine WP.iconst K d26_7 (v := (0 : Int32)) rfl (pc' := 8) rfl ?_
        refine WP.goto K d26_8 (by decide) (pc' := 19) (by decide) ?_
        refine WP.aloadN K d26_19 rfl rfl (pc' := 20) rfl ?_
        refine WP.getF K (w_182 hw) Via.refl (IsTb.f_moves O_tb) d26_20 (pc' := 23) rfl ?_
        refine WP.ifnonnullT K (b := ma) d26_23 (by decide) (pc' := 30) (by decide) ?_
        refine WP.iconst K d26_30 (v := (4 : Int32)) rfl (pc' := 31) rfl ?_
        refine WP.aloadN K d26_31 rfl rfl (pc' := 32) rfl ?_
        refine WP.getF K (w_182 hw) Via.refl (IsTb.f_moves O_tb) d26_32 (pc' := 35) rfl ?_
        refine WP.arraylength K A_ma d26_35 (pc' := 36) rfl ?_
        show WP κ h0 0 0 (mkF κ.m 36 #[.val (.ref tb)] [(.int (64 : Int32)), (.int (4 : Int32)), (.int (0 : Int32))])
        refine WP.imul K d26_36 (pc' := 37) rfl ?_
        show WP κ h0 0 0 (mkF κ.m 37 #[.val (.ref tb)] [(.int (256 : Int32)), (.int (0 : Int32))])
        refine WP.iadd K d26_37 (pc' := 38) rfl ?_
        show WP κ h0 0 0 (mkF κ.m 38 #[.val (.ref tb)] [(.int (256 : Int32))])
        refine WP.aloadN K d26_38 rfl rfl (pc' := 39) rfl ?_
        refine WP.getF K (w_184 hw) Via.refl (IsTb.f_strata O_tb) d26_39 (pc' := 42) rfl ?_
        refine WP.ifnonnullT K (b := sa) d26_42 (by decide) (pc' := 49) (by decide) ?_
        refine WP.iconst K d26_49 (v := (4 : Int32)) rfl (pc' := 50) rfl ?_
        refine WP.aloadN K d26_50 rfl rfl (pc' := 51) rfl ?_
        refine WP.getF K (w_184 hw) Via.refl (IsTb.f_strata O_tb) d26_51 (pc' := 54) rfl ?_
        refine WP.arraylength K A_sa d26_54 (pc' := 55) rfl ?_
        show WP κ h0 0 0 (mkF κ.m 55 #[.val (.ref tb)] [(.int (64 : Int32)), (.int (4 : Int32)), (.int (256 : Int32))])
        refine WP.imul K d26_55 (pc' := 56) rfl ?_
        show WP κ h0 0 0 (mkF κ.m 56 #[.val (.ref tb)] [(.int (256 : Int32)), (.int (256 : Int32))])
        refine WP.iadd K d26_56 (pc' := 57) rfl ?_
        show WP κ h0 0 0 (mkF κ.m 57 #[.val (.ref tb)] [(.int (512 : Int32))])
        exact WP.retI K d26_57 (by decide) (by decide) ⟨congrArg (fun z => some (Value.int z)) (by decide : (512 : Int32) = own_room false true true), rfl⟩
  · rcases CM with ⟨rfl, rfl⟩ | ⟨rfl, ma, kma, f_ma, rfl, A_ma⟩
    · rcases CS with ⟨rfl, rfl⟩ | ⟨rfl, sa, ksa, f_sa, rfl, A_sa⟩
      · refine WP.aloadN K d26_0 rfl rfl (pc' := 1) rfl ?_
        refine WP.getF K (w_112 hw) Via.refl (IsTb.f_ends O_tb) d26_1 (pc' := 4) rfl ?_
        refine WP.ifnonnullT K (b := ea) d26_4 (by decide) (pc' := 11) (by decide) ?_
        refine WP.bipush K d26_11 (v := (8 : Int32)) rfl (pc' := 13) rfl ?_
        refine WP.aloadN K d26_13 rfl rfl (pc' := 14) rfl ?_
        refine WP.getF K (w_112 hw) Via.refl (IsTb.f_ends O_tb) d26_14 (pc' := 17) rfl ?_
        refine WP.arraylength K A_ea d26_17 (pc' := 18) rfl ?_
        show WP κ h0 0 0 (mkF κ.m 18 #[.val (.ref tb)] [(.int (64 : Int32)), (.int (8 : Int32))])
        refine WP.imul K d26_18 (pc' := 19) rfl ?_
        show WP κ h0 0 0 (mkF κ.m 19 #[.val (.ref tb)] [(.int (512 : Int32))])
        refine WP.aloadN K d26_19 rfl rfl (pc' := 20) rfl ?_
        refine WP.getF K (w_182 hw) Via.refl (IsTb.f_moves O_tb) d26_20 (pc' := 23) rfl ?_
        refine WP.ifnonnullF K (b := 0) d26_23 (pc' := 26) rfl ?_
        refine WP.iconst K d26_26 (v := (0 : Int32)) rfl (pc' := 27) rfl ?_
        refine WP.goto K d26_27 (by decide) (pc' := 37) (by decide) ?_
        refine WP.iadd K d26_37 (pc' := 38) rfl ?_
        show WP κ h0 0 0 (mkF κ.m 38 #[.val (.ref tb)] [(.int (512 : Int32))])
        refine WP.aloadN K d26_38 rfl rfl (pc' := 39) rfl ?_
        refine WP.getF K (w_184 hw) Via.refl (IsTb.f_strata O_tb) d26_39 (pc' := 42) rfl ?_
        refine WP.ifnonnullF K (b := 0) d26_42 (pc' := 45) rfl ?_
        refine WP.iconst K d26_45 (v := (0 : Int32)) rfl (pc' := 46) rfl ?_
        refine WP.goto K d26_46 (by decide) (pc' := 56) (by decide) ?_
        refine WP.iadd K d26_56 (pc' := 57) rfl ?_
        show WP κ h0 0 0 (mkF κ.m 57 #[.val (.ref tb)] [(.int (512 : Int32))])
        exact WP.retI K d26_57 (by decide) (by decide) ⟨congrArg (fun z => some (Value.int z)) (by decide : (512 : Int32) = own_room true false false), rfl⟩
      · refine WP.aloadN K d26_0 rfl rfl (pc' := 1) rfl ?_
        refine WP.getF K (w_112 hw) Via.refl (IsTb.f_ends O_tb) d26_1 (pc' := 4) rfl ?_
        refine WP.ifnonnullT K (b := ea) d26_4 (by decide) (pc' := 11) (by decide) ?_
        refine WP.bipush K d26_11 (v := (8 : Int32)) rfl (pc' := 13) rfl ?_
        refine WP.aloadN K d26_13 rfl rfl (pc' := 14) rfl ?_
        refine WP.getF K (w_112 hw) Via.refl (IsTb.f_ends O_tb) d26_14 (pc' := 17) rfl ?_
        refine WP.arraylength K A_ea d26_17 (pc' := 18) rfl ?_
        show WP κ h0 0 0 (mkF κ.m 18 #[.val (.ref tb)] [(.int (64 : Int32)), (.int (8 : Int32))])
        refine WP.imul K d26_18 (pc' := 19) rfl ?_
        show WP κ h0 0 0 (mkF κ.m 19 #[.val (.ref tb)] [(.int (512 : Int32))])
        refine WP.aloadN K d26_19 rfl rfl (pc' := 20) rfl ?_
        refine WP.getF K (w_182 hw) Via.refl (IsTb.f_moves O_tb) d26_20 (pc' := 23) rfl ?_
        refine WP.ifnonnullF K (b := 0) d26_23 (pc' := 26) rfl ?_
        refine WP.iconst K d26_26 (v := (0 : Int32)) rfl (pc' := 27) rfl ?_
        refine WP.goto K d26_27 (by decide) (pc' := 37) (by decide) ?_
        refine WP.iadd K d26_37 (pc' := 38) rfl ?_
        show WP κ h0 0 0 (mkF κ.m 38 #[.val (.ref tb)] [(.int (512 : Int32))])
        refine WP.aloadN K d26_38 rfl rfl (pc' := 39) rfl ?_
        refine WP.getF K (w_184 hw) Via.refl (IsTb.f_strata O_tb) d26_39 (pc' := 42) rfl ?_
        refine WP.ifnonnullT K (b := sa) d26_42 (by decide) (pc' := 49) (by decide) ?_
        refine WP.iconst K d26_49 (v := (4 : Int32)) rfl (pc' := 50) rfl ?_
        refine WP.aloadN K d26_50 rfl rfl (pc' := 51) rfl ?_
        refine WP.getF K (w_184 hw) Via.refl (IsTb.f_strata O_tb) d26_51 (pc' := 54) rfl ?_
        refine WP.arraylength K A_sa d26_54 (pc' := 55) rfl ?_
        show WP κ h0 0 0 (mkF κ.m 55 #[.val (.ref tb)] [(.int (64 : Int32)), (.int (4 : Int32)), (.int (512 : Int32))])
        refine WP.imul K d26_55 (pc' := 56) rfl ?_
        show WP κ h0 0 0 (mkF κ.m 56 #[.val (.ref tb)] [(.int (256 : Int32)), (.int (512 : Int32))])
        refine WP.iadd K d26_56 (pc' := 57) rfl ?_
        show WP κ h0 0 0 (mkF κ.m 57 #[.val (.ref tb)] [(.int (768 : Int32))])
        exact WP.retI K d26_57 (by decide) (by decide) ⟨congrArg (fun z => some (Value.int z)) (by decide : (768 : Int32) = own_room true false true), rfl⟩
    · rcases CS with ⟨rfl, rfl⟩ | ⟨rfl, sa, ksa, f_sa, rfl, A_sa⟩
      · refine WP.aloadN K d26_0 rfl rfl (pc' := 1) rfl ?_
        refine WP.getF K (w_112 hw) Via.refl (IsTb.f_ends O_tb) d26_1 (pc' := 4) rfl ?_
        refine WP.ifnonnullT K (b := ea) d26_4 (by decide) (pc' := 11) (by decide) ?_
        refine WP.bipush K d26_11 (v := (8 : Int32)) rfl (pc' := 13) rfl ?_
        refine WP.aloadN K d26_13 rfl rfl (pc' := 14) rfl ?_
        refine WP.getF K (w_112 hw) Via.refl (IsTb.f_ends O_tb) d26_14 (pc' := 17) rfl ?_
        refine WP.arraylength K A_ea d26_17 (pc' := 18) rfl ?_
        show WP κ h0 0 0 (mkF κ.m 18 #[.val (.ref tb)] [(.int (64 : Int32)), (.int (8 : Int32))])
        refine WP.imul K d26_18 (pc' := 19) rfl ?_
        show WP κ h0 0 0 (mkF κ.m 19 #[.val (.ref tb)] [(.int (512 : Int32))])
        refine WP.aloadN K d26_19 rfl rfl (pc' := 20) rfl ?_
        refine WP.getF K (w_182 hw) Via.refl (IsTb.f_moves O_tb) d26_20 (pc' := 23) rfl ?_
        refine WP.ifnonnullT K (b := ma) d26_23 (by decide) (pc' := 30) (by decide) ?_
        refine WP.iconst K d26_30 (v := (4 : Int32)) rfl (pc' := 31) rfl ?_
        refine WP.aloadN K d26_31 rfl rfl (pc' := 32) rfl ?_
        refine WP.getF K (w_182 hw) Via.refl (IsTb.f_moves O_tb) d26_32 (pc' := 35) rfl ?_
        refine WP.arraylength K A_ma d26_35 (pc' := 36) rfl ?_
        show WP κ h0 0 0 (mkF κ.m 36 #[.val (.ref tb)] [(.int (64 : Int32)), (.int (4 : Int32)), (.int (512 : Int32))])
        refine WP.imul K d26_36 (pc' := 37) rfl ?_
        show WP κ h0 0 0 (mkF κ.m 37 #[.val (.ref tb)] [(.int (256 : Int32)), (.int (512 : Int32))])
        refine WP.iadd K d26_37 (pc' := 38) rfl ?_
        show WP κ h0 0 0 (mkF κ.m 38 #[.val (.ref tb)] [(.int (768 : Int32))])
        refine WP.aloadN K d26_38 rfl rfl (pc' := 39) rfl ?_
        refine WP.getF K (w_184 hw) Via.refl (IsTb.f_strata O_tb) d26_39 (pc' := 42) rfl ?_
        refine WP.ifnonnullF K (b := 0) d26_42 (pc' := 45) rfl ?_
        refine WP.iconst K d26_45 (v := (0 : Int32)) rfl (pc' := 46) rfl ?_
        refine WP.goto K d26_46 (by decide) (pc' := 56) (by decide) ?_
        refine WP.iadd K d26_56 (pc' := 57) rfl ?_
        show WP κ h0 0 0 (mkF κ.m 57 #[.val (.ref tb)] [(.int (768 : Int32))])
        exact WP.retI K d26_57 (by decide) (by decide) ⟨congrArg (fun z => some (Value.int z)) (by decide : (768 : Int32) = own_room true true false), rfl⟩
      · refine WP.aloadN K d26_0 rfl rfl (pc' := 1) rfl ?_
        refine WP.getF K (w_112 hw) Via.refl (IsTb.f_ends O_tb) d26_1 (pc' := 4) rfl ?_
        refine WP.ifnonnullT K (b := ea) d26_4 (by decide) (pc' := 11) (by decide) ?_
        refine WP.bipush K d26_11 (v := (8 : Int32)) rfl (pc' := 13) rfl ?_
        refine WP.aloadN K d26_13 rfl rfl (pc' := 14) rfl ?_
        refine WP.getF K (w_112 hw) Via.refl (IsTb.f_ends O_tb) d26_14 (pc' := 17) rfl ?_
        refine WP.arraylength K A_ea d26_17 (pc' := 18) rfl ?_
        show WP κ h0 0 0 (mkF κ.m 18 #[.val (.ref tb)] [(.int (64 : Int32)), (.int (8 : Int32))])
        refine WP.imul K d26_18 (pc' := 19) rfl ?_
        show WP κ h0 0 0 (mkF κ.m 19 #[.val (.ref tb)] [(.int (512 : Int32))])
        refine WP.aloadN K d26_19 rfl rfl (pc' := 20) rfl ?_
        refine WP.getF K (w_182 hw) Via.refl (IsTb.f_moves O_tb) d26_20 (pc' := 23) rfl ?_
        refine WP.ifnonnullT K (b := ma) d26_23 (by decide) (pc' := 30) (by decide) ?_
        refine WP.iconst K d26_30 (v := (4 : Int32)) rfl (pc' := 31) rfl ?_
        refine WP.aloadN K d26_31 rfl rfl (pc' := 32) rfl ?_
        refine WP.getF K (w_182 hw) Via.refl (IsTb.f_moves O_tb) d26_32 (pc' := 35) rfl ?_
        refine WP.arraylength K A_ma d26_35 (pc' := 36) rfl ?_
        show WP κ h0 0 0 (mkF κ.m 36 #[.val (.ref tb)] [(.int (64 : Int32)), (.int (4 : Int32)), (.int (512 : Int32))])
        refine WP.imul K d26_36 (pc' := 37) rfl ?_
        show WP κ h0 0 0 (mkF κ.m 37 #[.val (.ref tb)] [(.int (256 : Int32)), (.int (512 : Int32))])
        refine WP.iadd K d26_37 (pc' := 38) rfl ?_
        show WP κ h0 0 0 (mkF κ.m 38 #[.val (.ref tb)] [(.int (768 : Int32))])
        refine WP.aloadN K d26_38 rfl rfl (pc' := 39) rfl ?_
        refine WP.getF K (w_184 hw) Via.refl (IsTb.f_strata O_tb) d26_39 (pc' := 42) rfl ?_
        refine WP.ifnonnullT K (b := sa) d26_42 (by decide) (pc' := 49) (by decide) ?_
        refine WP.iconst K d26_49 (v := (4 : Int32)) rfl (pc' := 50) rfl ?_
        refine WP.aloadN K d26_50 rfl rfl (pc' := 51) rfl ?_
        refine WP.getF K (w_184 hw) Via.refl (IsTb.f_strata O_tb) d26_51 (pc' := 54) rfl ?_
        refine WP.arraylength K A_sa d26_54 (pc' := 55) rfl ?_
        show WP κ h0 0 0 (mkF κ.m 55 #[.val (.ref tb)] [(.int (64 : Int32)), (.int (4 : Int32)), (.int (768 : Int32))])
        refine WP.imul K d26_55 (pc' := 56) rfl ?_
        show WP κ h0 0 0 (mkF κ.m 56 #[.val (.ref tb)] [(.int (256 : Int32)), (.int (768 : Int32))])
        refine WP.iadd K d26_56 (pc' := 57) rfl ?_
        show WP κ h0 0 0 (mkF κ.m 57 #[.val (.ref tb)] [(.int (1024 : Int32))])
        exact WP.retI K d26_57 (by decide) (by decide) ⟨congrArg (fun z => some (Value.int z)) (by decide : (1024 : Int32) = own_room true true true), rfl⟩
set_option maxRecDepth 65536 in
set_option maxHeartbeats 40000000 in
theorem rm_let (w : Bool) (l : Launch) (Z : State) (a0 : Array Value) (hw : ∀ d ∈ tables_1, d.before a0 Z = true) (tb : Addr) (A : Nat) (e m s : Bool) (D0 : Int64) (h0 : Heap) (n0 : Nat) (Z0 : n0 ≤ h0.size) (T_ : IsTS Z h0 A tb e m s D0) (old_A : n0 ≤ A) :
    Met w l Z (⟨"com/example/weir/weir/engine/TripleTable", "letGoOfEnds", "()V"⟩ : MethodName) prog_50_method_13_code 1 none [] ({ frames := 0, cells := 0, slots := 0, locals := 0 } : Room) #[(.ref tb)] h0 n0 (fun v h => v = none ∧ IsTS Z h A tb (e && decide (¬ D0 = (9223372036854775807 : Int64))) (m && decide (¬ D0 = (9223372036854775807 : Int64))) (s && decide (¬ D0 = (9223372036854775807 : Int64))) D0) := by
  refine Met.of (plainFor_of_name (by first | (simp [plainName, overriddenIn]; done) | decide +kernel)) fun κ K => ?_
  refine WP.frame (g' := (mkF κ.m 0 #[.val (.ref tb)] [])) (by first | (simp [entryFrame, mkF, argsToLocals, Value.category]; done) | rfl) ?_
  obtain ⟨a1, te, kT, f_te, vE, vM, vS, u_numbers, u_index, u_size, ec, es, O_tb, A_te, hec, CE, CM, CS⟩ := id T_
  have old_tb : n0 ≤ tb := Nat.le_trans old_A a1
  refine WP.aloadN K d32_0 rfl rfl (pc' := 1) rfl ?_
  refine WP.getF K (w_192 hw) Via.refl (IsTb.f_ending O_tb) d32_1 (pc' := 4) rfl ?_
  by_cases c1 : ec = (0 : Int32)
  · have hD : D0 = (9223372036854775807 : Int64) := Decidable.byContradiction (fun q => by rw [hec, show own_ct D0 = 1 from if_neg q] at c1; exact absurd c1 (by decide))
    refine WP.if0F K d32_4 ((if0 _ _).trans (teq c1).2) (pc' := 7) rfl ?_
    refine WP.aloadN K d32_7 rfl rfl (pc' := 8) rfl ?_
    refine WP.aconst_null K d32_8 (pc' := 9) rfl ?_
    refine WP.putF K (w_112 hw) Via.refl (IsTb.f_ends O_tb) (IsTb.exa O_tb) (Or.inl (w_113 hw)) (w_10 hw) (ty := (.array .long)) (by decide) rfl rfl old_tb d32_9 (pc' := 12) rfl fun h72 W72 => ?_
    have A_te := Ary.other W72 A_te (Ne.symm (Ary.ne (IsTb.exa O_tb) A_te (w_10 hw)))
    have Z0 := Nat.le_trans Z0 (Nat.le_of_eq W72.size.symm)
    have O_tb := IsTb.s_ends hw W72 O_tb
    refine WP.aloadN K d32_12 rfl rfl (pc' := 13) rfl ?_
    refine WP.aconst_null K d32_13 (pc' := 14) rfl ?_
    refine WP.putF K (w_182 hw) Via.refl (IsTb.f_moves O_tb) (IsTb.exa O_tb) (Or.inl (w_183 hw)) (w_10 hw) (ty := (.array .int)) (by decide) rfl rfl old_tb d32_14 (pc' := 17) rfl fun h73 W73 => ?_
    have A_te := Ary.other W73 A_te (Ne.symm (Ary.ne (IsTb.exa O_tb) A_te (w_10 hw)))
    have Z0 := Nat.le_trans Z0 (Nat.le_of_eq W73.size.symm)
    have O_tb := IsTb.s_moves hw W73 O_tb
    refine WP.aloadN K d32_17 rfl rfl (pc' := 18) rfl ?_
    refine WP.aconst_null K d32_18 (pc' := 19) rfl ?_
    refine WP.putF K (w_184 hw) Via.refl (IsTb.f_strata O_tb) (IsTb.exa O_tb) (Or.inl (w_185 hw)) (w_10 hw) (ty := (.array .int)) (by decide) rfl rfl old_tb d32_19 (pc' := 22) rfl fun h74 W74 => ?_
    have A_te := Ary.other W74 A_te (Ne.symm (Ary.ne (IsTb.exa O_tb) A_te (w_10 hw)))
    have Z0 := Nat.le_trans Z0 (Nat.le_of_eq W74.size.symm)
    have O_tb := IsTb.s_strata hw W74 O_tb
    exact WP.ret0 K d32_22 (by decide) (by decide) ⟨rfl, by simp only [own_dF hD, Bool.and_false]; exact ⟨a1, te, kT, _, _, _, _, _, _, _, _, _, O_tb, A_te, hec, Or.inl ⟨rfl, rfl, hD⟩, Or.inl ⟨rfl, rfl⟩, Or.inl ⟨rfl, rfl⟩⟩⟩
  · have hD : ¬ D0 = (9223372036854775807 : Int64) := fun q => c1 (by rw [hec]; exact if_pos q)
    refine WP.if0T K d32_4 ((if0 _ _).trans (feq c1).2) (by decide) (pc' := 22) (by decide) ?_
    exact WP.ret0 K d32_22 (by decide) (by decide) ⟨rfl, by simp only [own_dT hD, Bool.and_true]; exact T_⟩
set_option maxRecDepth 65536 in
set_option maxHeartbeats 40000000 in
theorem rm_move (w : Bool) (l : Launch) (Z : State) (a0 : Array Value) (hw : ∀ d ∈ tables_1, d.before a0 Z = true) (tb : Addr) (A : Nat) (e s : Bool) (D0 : Int64) (h0 : Heap) (n0 : Nat) (Z0 : n0 ≤ h0.size) (T_ : IsTS Z h0 A tb e false s D0) (old_A : n0 ≤ A) :
    Met w l Z (⟨"com/example/weir/weir/engine/TripleTable", "countMove", "(I)V"⟩ : MethodName) prog_50_method_16_code 2 none [] ({ frames := 1, cells := 1, slots := 64, locals := 13 } : Room) #[(.ref tb), (.int (0 : Int32))] h0 n0 (fun v h => v = none ∧ IsTS Z h A tb e true s D0) := by
  refine Met.of (plainFor_of_name (by first | (simp [plainName, overriddenIn]; done) | decide +kernel)) fun κ K => ?_
  refine WP.frame (g' := (mkF κ.m 0 #[.val (.ref tb), .val (.int (0 : Int32))] [])) (by first | (simp [entryFrame, mkF, argsToLocals, Value.category]; done) | rfl) ?_
  obtain ⟨a1, te, kT, f_te, vE, vM, vS, u_numbers, u_index, u_size, ec, es, O_tb, A_te, hec, CE, CM, CS⟩ := T_
  have old_tb : n0 ≤ tb := Nat.le_trans old_A a1
  obtain rfl : vM = .null := by rcases CM with ⟨-, q⟩ | ⟨q, -⟩; exact q; cases q
  rcases CE with ⟨rfl, rfl, hD⟩ | ⟨rfl, ea, kD, FE, b1, rfl, A_ea, hF0⟩
  · rcases CS with ⟨rfl, rfl⟩ | ⟨rfl, sa, ksa, f_sa, rfl, A_sa⟩
    · refine WP.aloadN K d28_0 rfl rfl (pc' := 1) rfl ?_
      refine WP.getF K (w_182 hw) Via.refl (IsTb.f_moves O_tb) d28_1 (pc' := 4) rfl ?_
      refine WP.ifnonnullF K (b := 0) d28_4 (pc' := 7) rfl ?_
      refine WP.aloadN K d28_7 rfl rfl (pc' := 8) rfl ?_
      refine WP.aloadN K d28_8 rfl rfl (pc' := 9) rfl ?_
      refine WP.callV K (a := tb) (argsL := []) (S := [(.ref tb)]) (w_116 hw) (w_117 hw) (fun vm0 hZ => notFace_of_selects (args := #[]) (mvT (s := κ.s.setVm vm0) hZ (w_119 hw))) (w_119 hw) (w_118 hw) (by decide) (IsTb.exa O_tb) (rm_cap w l Z a0 hw tb te kT f_te _ _ _ _ _ _ _ _ h0 n0 Z0 O_tb A_te) (w_120 hw) (w_11 hw) (by decide) rfl (lenOf pd_5 rfl) rfl (W := 1) rfl (by decide) (by decide) (k' := 0) (n' := 0) rfl rfl (by decide) (by decide) d28_9 (pc' := 12) rfl fun v h75 hq => ?_
      obtain ⟨rfl, rfl⟩ := hq
      show WP κ h0 0 0 (mkF κ.m 12 #[.val (.ref tb), .val (.int (0 : Int32))] [(.int (64 : Int32)), (.ref tb)])
      refine WP.newarray (aty := .int) K (w_18 hw) d28_12 (N := 64) (cap := 64) rfl (Nat.le_refl _) (by decide) (k' := 1) (n' := 64) rfl rfl (by decide) (by decide) (pc' := 14) rfl fun h76 ma kA_ma g76 E76 A_ma => ?_
      have ne_tb_ma : tb ≠ ma := fun z_ => by have q_ : @LT.lt Nat _ tb h0.size := (IsTb.lt O_tb); have r_ : @Eq Nat tb ma := z_; omega
      have ne_te_ma : te ≠ ma := fun z_ => by have q_ : @LT.lt Nat _ te h0.size := (Ary.lt A_te); have r_ : @Eq Nat te ma := z_; omega
      have old_ma : n0 ≤ ma := by have q_ := Z0; omega
      have O_tb := IsTb.ext E76 O_tb
      have A_te := Ary.ext E76 A_te
      have Z0 := Nat.le_trans Z0 E76.1
      have A_ma : Ary Z h76 ma kA_ma .int 64 (fun j => .int ((fun _ => (0 : Int32)) j)) := A_ma
      refine WP.putF K (w_182 hw) Via.refl (IsTb.f_moves O_tb) (IsTb.exa O_tb) (Or.inl (w_183 hw)) (w_10 hw) (ty := (.array .int)) (by decide) rfl rfl old_tb d28_14 (pc' := 17) rfl fun h77 W77 => ?_
      have A_te := Ary.other W77 A_te (Ne.symm (Ary.ne (IsTb.exa O_tb) A_te (w_10 hw)))
      have A_ma := Ary.other W77 A_ma (Ne.symm ne_tb_ma)
      have Z0 := Nat.le_trans Z0 (Nat.le_of_eq W77.size.symm)
      have O_tb := IsTb.s_moves hw W77 O_tb
      refine WP.aloadN K d28_17 rfl rfl (pc' := 18) rfl ?_
      refine WP.getF K (w_182 hw) Via.refl (IsTb.f_moves O_tb) d28_18 (pc' := 21) rfl ?_
      refine WP.iloadN K d28_21 rfl (pc' := 22) rfl ?_
      refine WP.dup2 K d28_22 rfl rfl (pc' := 23) rfl ?_
      refine WP.iaload K (i := 0) A_ma rfl (by decide) (v := (.int (0 : Int32))) rfl d28_23 (pc' := 24) rfl ?_
      refine WP.iconst K d28_24 (v := (1 : Int32)) rfl (pc' := 25) rfl ?_
      refine WP.iadd K d28_25 (pc' := 26) rfl ?_
      show WP κ h77 1 64 (mkF κ.m 26 #[.val (.ref tb), .val (.int (0 : Int32))] [(.int (1 : Int32)), (.int (0 : Int32)), (.ref ma)])
      refine WP.iastore K (i := 0) A_ma rfl (by decide) old_ma d28_26 (pc' := 27) rfl fun h78 W78 A_n => ?_
      have O_tb := IsTb.other W78 O_tb ne_tb_ma
      have A_te := Ary.other W78 A_te ne_te_ma
      have Z0 := Nat.le_trans Z0 (Nat.le_of_eq W78.size.symm)
      have A_ma := A_n
      rw [upd_int] at A_ma
      exact WP.ret0 K d28_27 (by decide) (by decide) ⟨rfl, ⟨a1, te, kT, _, _, _, _, _, _, _, _, _, O_tb, A_te, hec, Or.inl ⟨rfl, rfl, hD⟩, Or.inr ⟨rfl, ma, _, _, rfl, A_ma⟩, Or.inl ⟨rfl, rfl⟩⟩⟩
    · refine WP.aloadN K d28_0 rfl rfl (pc' := 1) rfl ?_
      refine WP.getF K (w_182 hw) Via.refl (IsTb.f_moves O_tb) d28_1 (pc' := 4) rfl ?_
      refine WP.ifnonnullF K (b := 0) d28_4 (pc' := 7) rfl ?_
      refine WP.aloadN K d28_7 rfl rfl (pc' := 8) rfl ?_
      refine WP.aloadN K d28_8 rfl rfl (pc' := 9) rfl ?_
      refine WP.callV K (a := tb) (argsL := []) (S := [(.ref tb)]) (w_116 hw) (w_117 hw) (fun vm0 hZ => notFace_of_selects (args := #[]) (mvT (s := κ.s.setVm vm0) hZ (w_119 hw))) (w_119 hw) (w_118 hw) (by decide) (IsTb.exa O_tb) (rm_cap w l Z a0 hw tb te kT f_te _ _ _ _ _ _ _ _ h0 n0 Z0 O_tb A_te) (w_120 hw) (w_11 hw) (by decide) rfl (lenOf pd_5 rfl) rfl (W := 1) rfl (by decide) (by decide) (k' := 0) (n' := 0) rfl rfl (by decide) (by decide) d28_9 (pc' := 12) rfl fun v h79 hq => ?_
      obtain ⟨rfl, rfl⟩ := hq
      show WP κ h0 0 0 (mkF κ.m 12 #[.val (.ref tb), .val (.int (0 : Int32))] [(.int (64 : Int32)), (.ref tb)])
      refine WP.newarray (aty := .int) K (w_18 hw) d28_12 (N := 64) (cap := 64) rfl (Nat.le_refl _) (by decide) (k' := 1) (n' := 64) rfl rfl (by decide) (by decide) (pc' := 14) rfl fun h80 ma kA_ma g80 E80 A_ma => ?_
      have ne_tb_ma : tb ≠ ma := fun z_ => by have q_ : @LT.lt Nat _ tb h0.size := (IsTb.lt O_tb); have r_ : @Eq Nat tb ma := z_; omega
      have ne_te_ma : te ≠ ma := fun z_ => by have q_ : @LT.lt Nat _ te h0.size := (Ary.lt A_te); have r_ : @Eq Nat te ma := z_; omega
      have ne_sa_ma : sa ≠ ma := fun z_ => by have q_ : @LT.lt Nat _ sa h0.size := (Ary.lt A_sa); have r_ : @Eq Nat sa ma := z_; omega
      have old_ma : n0 ≤ ma := by have q_ := Z0; omega
      have O_tb := IsTb.ext E80 O_tb
      have A_te := Ary.ext E80 A_te
      have A_sa := Ary.ext E80 A_sa
      have Z0 := Nat.le_trans Z0 E80.1
      have A_ma : Ary Z h80 ma kA_ma .int 64 (fun j => .int ((fun _ => (0 : Int32)) j)) := A_ma
      refine WP.putF K (w_182 hw) Via.refl (IsTb.f_moves O_tb) (IsTb.exa O_tb) (Or.inl (w_183 hw)) (w_10 hw) (ty := (.array .int)) (by decide) rfl rfl old_tb d28_14 (pc' := 17) rfl fun h81 W81 => ?_
      have A_te := Ary.other W81 A_te (Ne.symm (Ary.ne (IsTb.exa O_tb) A_te (w_10 hw)))
      have A_sa := Ary.other W81 A_sa (Ne.symm (Ary.ne (IsTb.exa O_tb) A_sa (w_10 hw)))
      have A_ma := Ary.other W81 A_ma (Ne.symm ne_tb_ma)
      have Z0 := Nat.le_trans Z0 (Nat.le_of_eq W81.size.symm)
      have O_tb := IsTb.s_moves hw W81 O_tb
      refine WP.aloadN K d28_17 rfl rfl (pc' := 18) rfl ?_
      refine WP.getF K (w_182 hw) Via.refl (IsTb.f_moves O_tb) d28_18 (pc' := 21) rfl ?_
      refine WP.iloadN K d28_21 rfl (pc' := 22) rfl ?_
      refine WP.dup2 K d28_22 rfl rfl (pc' := 23) rfl ?_
      refine WP.iaload K (i := 0) A_ma rfl (by decide) (v := (.int (0 : Int32))) rfl d28_23 (pc' := 24) rfl ?_
      refine WP.iconst K d28_24 (v := (1 : Int32)) rfl (pc' := 25) rfl ?_
      refine WP.iadd K d28_25 (pc' := 26) rfl ?_
      show WP κ h81 1 64 (mkF κ.m 26 #[.val (.ref tb), .val (.int (0 : Int32))] [(.int (1 : Int32)), (.int (0 : Int32)), (.ref ma)])
      refine WP.iastore K (i := 0) A_ma rfl (by decide) old_ma d28_26 (pc' := 27) rfl fun h82 W82 A_n => ?_
      have O_tb := IsTb.other W82 O_tb ne_tb_ma
      have A_te := Ary.other W82 A_te ne_te_ma
      have A_sa := Ary.other W82 A_sa ne_sa_ma
      have Z0 := Nat.le_trans Z0 (Nat.le_of_eq W82.size.symm)
      have A_ma := A_n
      rw [upd_int] at A_ma
      exact WP.ret0 K d28_27 (by decide) (by decide) ⟨rfl, ⟨a1, te, kT, _, _, _, _, _, _, _, _, _, O_tb, A_te, hec, Or.inl ⟨rfl, rfl, hD⟩, Or.inr ⟨rfl, ma, _, _, rfl, A_ma⟩, Or.inr ⟨rfl, sa, _, _, rfl, A_sa⟩⟩⟩
  · have old_ea : n0 ≤ ea := Nat.le_trans old_A b1
    have ne_te_ea : te ≠ ea := fun z_ => by subst z_; exact own_iJ A_te A_ea
    rcases CS with ⟨rfl, rfl⟩ | ⟨rfl, sa, ksa, f_sa, rfl, A_sa⟩
    · refine WP.aloadN K d28_0 rfl rfl (pc' := 1) rfl ?_
      refine WP.getF K (w_182 hw) Via.refl (IsTb.f_moves O_tb) d28_1 (pc' := 4) rfl ?_
      refine WP.ifnonnullF K (b := 0) d28_4 (pc' := 7) rfl ?_
      refine WP.aloadN K d28_7 rfl rfl (pc' := 8) rfl ?_
      refine WP.aloadN K d28_8 rfl rfl (pc' := 9) rfl ?_
      refine WP.callV K (a := tb) (argsL := []) (S := [(.ref tb)]) (w_116 hw) (w_117 hw) (fun vm0 hZ => notFace_of_selects (args := #[]) (mvT (s := κ.s.setVm vm0) hZ (w_119 hw))) (w_119 hw) (w_118 hw) (by decide) (IsTb.exa O_tb) (rm_cap w l Z a0 hw tb te kT f_te _ _ _ _ _ _ _ _ h0 n0 Z0 O_tb A_te) (w_120 hw) (w_11 hw) (by decide) rfl (lenOf pd_5 rfl) rfl (W := 1) rfl (by decide) (by decide) (k' := 0) (n' := 0) rfl rfl (by decide) (by decide) d28_9 (pc' := 12) rfl fun v h83 hq => ?_
      obtain ⟨rfl, rfl⟩ := hq
      show WP κ h0 0 0 (mkF κ.m 12 #[.val (.ref tb), .val (.int (0 : Int32))] [(.int (64 : Int32)), (.ref tb)])
      refine WP.newarray (aty := .int) K (w_18 hw) d28_12 (N := 64) (cap := 64) rfl (Nat.le_refl _) (by decide) (k' := 1) (n' := 64) rfl rfl (by decide) (by decide) (pc' := 14) rfl fun h84 ma kA_ma g84 E84 A_ma => ?_
      have ne_tb_ma : tb ≠ ma := fun z_ => by have q_ : @LT.lt Nat _ tb h0.size := (IsTb.lt O_tb); have r_ : @Eq Nat tb ma := z_; omega
      have ne_te_ma : te ≠ ma := fun z_ => by have q_ : @LT.lt Nat _ te h0.size := (Ary.lt A_te); have r_ : @Eq Nat te ma := z_; omega
      have ne_ea_ma : ea ≠ ma := fun z_ => by have q_ : @LT.lt Nat _ ea h0.size := (Ary.lt A_ea); have r_ : @Eq Nat ea ma := z_; omega
      have old_ma : n0 ≤ ma := by have q_ := Z0; omega
      have O_tb := IsTb.ext E84 O_tb
      have A_te := Ary.ext E84 A_te
      have A_ea := Ary.ext E84 A_ea
      have Z0 := Nat.le_trans Z0 E84.1
      have A_ma : Ary Z h84 ma kA_ma .int 64 (fun j => .int ((fun _ => (0 : Int32)) j)) := A_ma
      refine WP.putF K (w_182 hw) Via.refl (IsTb.f_moves O_tb) (IsTb.exa O_tb) (Or.inl (w_183 hw)) (w_10 hw) (ty := (.array .int)) (by decide) rfl rfl old_tb d28_14 (pc' := 17) rfl fun h85 W85 => ?_
      have A_te := Ary.other W85 A_te (Ne.symm (Ary.ne (IsTb.exa O_tb) A_te (w_10 hw)))
      have A_ea := Ary.other W85 A_ea (Ne.symm (Ary.ne (IsTb.exa O_tb) A_ea (w_10 hw)))
      have A_ma := Ary.other W85 A_ma (Ne.symm ne_tb_ma)
      have Z0 := Nat.le_trans Z0 (Nat.le_of_eq W85.size.symm)
      have O_tb := IsTb.s_moves hw W85 O_tb
      refine WP.aloadN K d28_17 rfl rfl (pc' := 18) rfl ?_
      refine WP.getF K (w_182 hw) Via.refl (IsTb.f_moves O_tb) d28_18 (pc' := 21) rfl ?_
      refine WP.iloadN K d28_21 rfl (pc' := 22) rfl ?_
      refine WP.dup2 K d28_22 rfl rfl (pc' := 23) rfl ?_
      refine WP.iaload K (i := 0) A_ma rfl (by decide) (v := (.int (0 : Int32))) rfl d28_23 (pc' := 24) rfl ?_
      refine WP.iconst K d28_24 (v := (1 : Int32)) rfl (pc' := 25) rfl ?_
      refine WP.iadd K d28_25 (pc' := 26) rfl ?_
      show WP κ h85 1 64 (mkF κ.m 26 #[.val (.ref tb), .val (.int (0 : Int32))] [(.int (1 : Int32)), (.int (0 : Int32)), (.ref ma)])
      refine WP.iastore K (i := 0) A_ma rfl (by decide) old_ma d28_26 (pc' := 27) rfl fun h86 W86 A_n => ?_
      have O_tb := IsTb.other W86 O_tb ne_tb_ma
      have A_te := Ary.other W86 A_te ne_te_ma
      have A_ea := Ary.other W86 A_ea ne_ea_ma
      have Z0 := Nat.le_trans Z0 (Nat.le_of_eq W86.size.symm)
      have A_ma := A_n
      rw [upd_int] at A_ma
      exact WP.ret0 K d28_27 (by decide) (by decide) ⟨rfl, ⟨a1, te, kT, _, _, _, _, _, _, _, _, _, O_tb, A_te, hec, Or.inr ⟨rfl, ea, kD, _, b1, rfl, A_ea, hF0⟩, Or.inr ⟨rfl, ma, _, _, rfl, A_ma⟩, Or.inl ⟨rfl, rfl⟩⟩⟩
    · have ne_sa_ea : sa ≠ ea := fun z_ => by subst z_; exact own_iJ A_sa A_ea
      refine WP.aloadN K d28_0 rfl rfl (pc' := 1) rfl ?_
      refine WP.getF K (w_182 hw) Via.refl (IsTb.f_moves O_tb) d28_1 (pc' := 4) rfl ?_
      refine WP.ifnonnullF K (b := 0) d28_4 (pc' := 7) rfl ?_
      refine WP.aloadN K d28_7 rfl rfl (pc' := 8) rfl ?_
      refine WP.aloadN K d28_8 rfl rfl (pc' := 9) rfl ?_
      refine WP.callV K (a := tb) (argsL := []) (S := [(.ref tb)]) (w_116 hw) (w_117 hw) (fun vm0 hZ => notFace_of_selects (args := #[]) (mvT (s := κ.s.setVm vm0) hZ (w_119 hw))) (w_119 hw) (w_118 hw) (by decide) (IsTb.exa O_tb) (rm_cap w l Z a0 hw tb te kT f_te _ _ _ _ _ _ _ _ h0 n0 Z0 O_tb A_te) (w_120 hw) (w_11 hw) (by decide) rfl (lenOf pd_5 rfl) rfl (W := 1) rfl (by decide) (by decide) (k' := 0) (n' := 0) rfl rfl (by decide) (by decide) d28_9 (pc' := 12) rfl fun v h87 hq => ?_
      obtain ⟨rfl, rfl⟩ := hq
      show WP κ h0 0 0 (mkF κ.m 12 #[.val (.ref tb), .val (.int (0 : Int32))] [(.int (64 : Int32)), (.ref tb)])
      refine WP.newarray (aty := .int) K (w_18 hw) d28_12 (N := 64) (cap := 64) rfl (Nat.le_refl _) (by decide) (k' := 1) (n' := 64) rfl rfl (by decide) (by decide) (pc' := 14) rfl fun h88 ma kA_ma g88 E88 A_ma => ?_
      have ne_tb_ma : tb ≠ ma := fun z_ => by have q_ : @LT.lt Nat _ tb h0.size := (IsTb.lt O_tb); have r_ : @Eq Nat tb ma := z_; omega
      have ne_te_ma : te ≠ ma := fun z_ => by have q_ : @LT.lt Nat _ te h0.size := (Ary.lt A_te); have r_ : @Eq Nat te ma := z_; omega
      have ne_ea_ma : ea ≠ ma := fun z_ => by have q_ : @LT.lt Nat _ ea h0.size := (Ary.lt A_ea); have r_ : @Eq Nat ea ma := z_; omega
      have ne_sa_ma : sa ≠ ma := fun z_ => by have q_ : @LT.lt Nat _ sa h0.size := (Ary.lt A_sa); have r_ : @Eq Nat sa ma := z_; omega
      have old_ma : n0 ≤ ma := by have q_ := Z0; omega
      have O_tb := IsTb.ext E88 O_tb
      have A_te := Ary.ext E88 A_te
      have A_ea := Ary.ext E88 A_ea
      have A_sa := Ary.ext E88 A_sa
      have Z0 := Nat.le_trans Z0 E88.1
      have A_ma : Ary Z h88 ma kA_ma .int 64 (fun j => .int ((fun _ => (0 : Int32)) j)) := A_ma
      refine WP.putF K (w_182 hw) Via.refl (IsTb.f_moves O_tb) (IsTb.exa O_tb) (Or.inl (w_183 hw)) (w_10 hw) (ty := (.array .int)) (by decide) rfl rfl old_tb d28_14 (pc' := 17) rfl fun h89 W89 => ?_
      have A_te := Ary.other W89 A_te (Ne.symm (Ary.ne (IsTb.exa O_tb) A_te (w_10 hw)))
      have A_ea := Ary.other W89 A_ea (Ne.symm (Ary.ne (IsTb.exa O_tb) A_ea (w_10 hw)))
      have A_sa := Ary.other W89 A_sa (Ne.symm (Ary.ne (IsTb.exa O_tb) A_sa (w_10 hw)))
      have A_ma := Ary.other W89 A_ma (Ne.symm ne_tb_ma)
      have Z0 := Nat.le_trans Z0 (Nat.le_of_eq W89.size.symm)
      have O_tb := IsTb.s_moves hw W89 O_tb
      refine WP.aloadN K d28_17 rfl rfl (pc' := 18) rfl ?_
      refine WP.getF K (w_182 hw) Via.refl (IsTb.f_moves O_tb) d28_18 (pc' := 21) rfl ?_
      refine WP.iloadN K d28_21 rfl (pc' := 22) rfl ?_
      refine WP.dup2 K d28_22 rfl rfl (pc' := 23) rfl ?_
      refine WP.iaload K (i := 0) A_ma rfl (by decide) (v := (.int (0 : Int32))) rfl d28_23 (pc' := 24) rfl ?_
      refine WP.iconst K d28_24 (v := (1 : Int32)) rfl (pc' := 25) rfl ?_
      refine WP.iadd K d28_25 (pc' := 26) rfl ?_
      show WP κ h89 1 64 (mkF κ.m 26 #[.val (.ref tb), .val (.int (0 : Int32))] [(.int (1 : Int32)), (.int (0 : Int32)), (.ref ma)])
      refine WP.iastore K (i := 0) A_ma rfl (by decide) old_ma d28_26 (pc' := 27) rfl fun h90 W90 A_n => ?_
      have O_tb := IsTb.other W90 O_tb ne_tb_ma
      have A_te := Ary.other W90 A_te ne_te_ma
      have A_ea := Ary.other W90 A_ea ne_ea_ma
      have A_sa := Ary.other W90 A_sa ne_sa_ma
      have Z0 := Nat.le_trans Z0 (Nat.le_of_eq W90.size.symm)
      have A_ma := A_n
      rw [upd_int] at A_ma
      exact WP.ret0 K d28_27 (by decide) (by decide) ⟨rfl, ⟨a1, te, kT, _, _, _, _, _, _, _, _, _, O_tb, A_te, hec, Or.inr ⟨rfl, ea, kD, _, b1, rfl, A_ea, hF0⟩, Or.inr ⟨rfl, ma, _, _, rfl, A_ma⟩, Or.inr ⟨rfl, sa, _, _, rfl, A_sa⟩⟩⟩
set_option maxRecDepth 65536 in
set_option maxHeartbeats 40000000 in
theorem rm_strat (w : Bool) (l : Launch) (Z : State) (a0 : Array Value) (hw : ∀ d ∈ tables_1, d.before a0 Z = true) (tb : Addr) (A : Nat) (e : Bool) (D0 : Int64) (st : Int32) (h0 : Heap) (n0 : Nat) (Z0 : n0 ≤ h0.size) (T_ : IsTS Z h0 A tb e false false D0) (old_A : n0 ≤ A) :
    Met w l Z (⟨"com/example/weir/weir/engine/TripleTable", "setStratum", "(II)V"⟩ : MethodName) prog_50_method_12_code 3 none [] ({ frames := 1, cells := 1, slots := 64, locals := 15 } : Room) #[(.ref tb), (.int (0 : Int32)), (.int st)] h0 n0 (fun v h => v = none ∧ IsTS Z h A tb e false (decide (¬ st = (1 : Int32))) D0) := by
  refine Met.of (plainFor_of_name (by first | (simp [plainName, overriddenIn]; done) | decide +kernel)) fun κ K => ?_
  refine WP.frame (g' := (mkF κ.m 0 #[.val (.ref tb), .val (.int (0 : Int32)), .val (.int st)] [])) (by first | (simp [entryFrame, mkF, argsToLocals, Value.category]; done) | rfl) ?_
  obtain ⟨a1, te, kT, f_te, vE, vM, vS, u_numbers, u_index, u_size, ec, es, O_tb, A_te, hec, CE, CM, CS⟩ := id T_
  have old_tb : n0 ≤ tb := Nat.le_trans old_A a1
  obtain rfl : vM = .null := by rcases CM with ⟨-, q⟩ | ⟨q, -⟩; exact q; cases q
  obtain rfl : vS = .null := by rcases CS with ⟨-, q⟩ | ⟨q, -⟩; exact q; cases q
  refine WP.aloadN K d33_0 rfl rfl (pc' := 1) rfl ?_
  refine WP.getF K (w_184 hw) Via.refl (IsTb.f_strata O_tb) d33_1 (pc' := 4) rfl ?_
  refine WP.ifnonnullF K (b := 0) d33_4 (pc' := 7) rfl ?_
  refine WP.iloadN K d33_7 rfl (pc' := 8) rfl ?_
  refine WP.iconst K d33_8 (v := (1 : Int32)) rfl (pc' := 9) rfl ?_
  by_cases c1 : st = (1 : Int32)
  · refine WP.icmpF K d33_9 (teq c1).2 (pc' := 12) rfl ?_
    exact WP.ret0 K d33_12 (by decide) (by decide) ⟨rfl, by rw [own_sF c1]; exact T_⟩
  · refine WP.icmpT K d33_9 (feq c1).2 (by decide) (pc' := 13) (by decide) ?_
    rcases CE with ⟨rfl, rfl, hD⟩ | ⟨rfl, ea, kD, FE, b1, rfl, A_ea, hF0⟩
    · refine WP.aloadN K d33_13 rfl rfl (pc' := 14) rfl ?_
      refine WP.aloadN K d33_14 rfl rfl (pc' := 15) rfl ?_
      refine WP.callV K (a := tb) (argsL := []) (S := [(.ref tb)]) (w_116 hw) (w_117 hw) (fun vm0 hZ => notFace_of_selects (args := #[]) (mvT (s := κ.s.setVm vm0) hZ (w_119 hw))) (w_119 hw) (w_118 hw) (by decide) (IsTb.exa O_tb) (rm_cap w l Z a0 hw tb te kT f_te _ _ _ _ _ _ _ _ h0 n0 Z0 O_tb A_te) (w_120 hw) (w_11 hw) (by decide) rfl (lenOf pd_5 rfl) rfl (W := 1) rfl (by decide) (by decide) (k' := 0) (n' := 0) rfl rfl (by decide) (by decide) d33_15 (pc' := 18) rfl fun v h91 hq => ?_
      obtain ⟨rfl, rfl⟩ := hq
      show WP κ h0 0 0 (mkF κ.m 18 #[.val (.ref tb), .val (.int (0 : Int32)), .val (.int st)] [(.int (64 : Int32)), (.ref tb)])
      refine WP.newarray (aty := .int) K (w_18 hw) d33_18 (N := 64) (cap := 64) rfl (Nat.le_refl _) (by decide) (k' := 1) (n' := 64) rfl rfl (by decide) (by decide) (pc' := 20) rfl fun h92 sa kA_sa g92 E92 A_sa => ?_
      have ne_tb_sa : tb ≠ sa := fun z_ => by have q_ : @LT.lt Nat _ tb h0.size := (IsTb.lt O_tb); have r_ : @Eq Nat tb sa := z_; omega
      have ne_te_sa : te ≠ sa := fun z_ => by have q_ : @LT.lt Nat _ te h0.size := (Ary.lt A_te); have r_ : @Eq Nat te sa := z_; omega
      have old_sa : n0 ≤ sa := by have q_ := Z0; omega
      have O_tb := IsTb.ext E92 O_tb
      have A_te := Ary.ext E92 A_te
      have Z0 := Nat.le_trans Z0 E92.1
      have A_sa : Ary Z h92 sa kA_sa .int 64 (fun j => .int ((fun _ => (0 : Int32)) j)) := A_sa
      refine WP.putF K (w_184 hw) Via.refl (IsTb.f_strata O_tb) (IsTb.exa O_tb) (Or.inl (w_185 hw)) (w_10 hw) (ty := (.array .int)) (by decide) rfl rfl old_tb d33_20 (pc' := 23) rfl fun h93 W93 => ?_
      have A_te := Ary.other W93 A_te (Ne.symm (Ary.ne (IsTb.exa O_tb) A_te (w_10 hw)))
      have A_sa := Ary.other W93 A_sa (Ne.symm ne_tb_sa)
      have Z0 := Nat.le_trans Z0 (Nat.le_of_eq W93.size.symm)
      have O_tb := IsTb.s_strata hw W93 O_tb
      refine WP.aloadN K d33_23 rfl rfl (pc' := 24) rfl ?_
      refine WP.getF K (w_184 hw) Via.refl (IsTb.f_strata O_tb) d33_24 (pc' := 27) rfl ?_
      refine WP.iconst K d33_27 (v := (1 : Int32)) rfl (pc' := 28) rfl ?_
      refine WP.callS K (argsL := [(.ref sa), (.int (1 : Int32))]) (S := []) (w_227 hw) (w_175 hw) (rm_fillI w l Z a0 hw sa kA_sa 64 (fun _ => (0 : Int32)) (1 : Int32) h93 n0 Z0 A_sa old_sa) (w_176 hw) (w_128 hw) (by decide) rfl (lenOf pd_8 rfl) rfl (W := 0) rfl (by decide) (by decide) (k' := 1) (n' := 64) rfl rfl (by decide) (by decide) d33_28 (pc' := 31) rfl fun v h94 hq => ?_
      obtain ⟨rfl, K1, A_sa⟩ := hq
      have O_tb := IsTb.keep K1 O_tb (ninS ne_tb_sa nin0)
      have A_te := Ary.keep K1 A_te (ninS ne_te_sa nin0)
      have Z0 := Nat.le_trans Z0 K1.1
      show WP κ h94 1 64 (mkF κ.m 31 #[.val (.ref tb), .val (.int (0 : Int32)), .val (.int st)] [])
      refine WP.aloadN K d33_31 rfl rfl (pc' := 32) rfl ?_
      refine WP.getF K (w_184 hw) Via.refl (IsTb.f_strata O_tb) d33_32 (pc' := 35) rfl ?_
      refine WP.iloadN K d33_35 rfl (pc' := 36) rfl ?_
      refine WP.iloadN K d33_36 rfl (pc' := 37) rfl ?_
      refine WP.iastore K (i := 0) A_sa rfl (by decide) old_sa d33_37 (pc' := 38) rfl fun h95 W95 A_n => ?_
      have O_tb := IsTb.other W95 O_tb ne_tb_sa
      have A_te := Ary.other W95 A_te ne_te_sa
      have Z0 := Nat.le_trans Z0 (Nat.le_of_eq W95.size.symm)
      have A_sa := A_n
      rw [upd_int] at A_sa
      exact WP.ret0 K d33_38 (by decide) (by decide) ⟨rfl, by rw [own_sT c1]; exact ⟨a1, te, kT, _, _, _, _, _, _, _, _, _, O_tb, A_te, hec, Or.inl ⟨rfl, rfl, hD⟩, Or.inl ⟨rfl, rfl⟩, Or.inr ⟨rfl, sa, _, _, rfl, A_sa⟩⟩⟩
    · have old_ea : n0 ≤ ea := Nat.le_trans old_A b1
      have ne_te_ea : te ≠ ea := fun z_ => by subst z_; exact own_iJ A_te A_ea
      refine WP.aloadN K d33_13 rfl rfl (pc' := 14) rfl ?_
      refine WP.aloadN K d33_14 rfl rfl (pc' := 15) rfl ?_
      refine WP.callV K (a := tb) (argsL := []) (S := [(.ref tb)]) (w_116 hw) (w_117 hw) (fun vm0 hZ => notFace_of_selects (args := #[]) (mvT (s := κ.s.setVm vm0) hZ (w_119 hw))) (w_119 hw) (w_118 hw) (by decide) (IsTb.exa O_tb) (rm_cap w l Z a0 hw tb te kT f_te _ _ _ _ _ _ _ _ h0 n0 Z0 O_tb A_te) (w_120 hw) (w_11 hw) (by decide) rfl (lenOf pd_5 rfl) rfl (W := 1) rfl (by decide) (by decide) (k' := 0) (n' := 0) rfl rfl (by decide) (by decide) d33_15 (pc' := 18) rfl fun v h96 hq => ?_
      obtain ⟨rfl, rfl⟩ := hq
      show WP κ h0 0 0 (mkF κ.m 18 #[.val (.ref tb), .val (.int (0 : Int32)), .val (.int st)] [(.int (64 : Int32)), (.ref tb)])
      refine WP.newarray (aty := .int) K (w_18 hw) d33_18 (N := 64) (cap := 64) rfl (Nat.le_refl _) (by decide) (k' := 1) (n' := 64) rfl rfl (by decide) (by decide) (pc' := 20) rfl fun h97 sa kA_sa g97 E97 A_sa => ?_
      have ne_tb_sa : tb ≠ sa := fun z_ => by have q_ : @LT.lt Nat _ tb h0.size := (IsTb.lt O_tb); have r_ : @Eq Nat tb sa := z_; omega
      have ne_te_sa : te ≠ sa := fun z_ => by have q_ : @LT.lt Nat _ te h0.size := (Ary.lt A_te); have r_ : @Eq Nat te sa := z_; omega
      have ne_ea_sa : ea ≠ sa := fun z_ => by have q_ : @LT.lt Nat _ ea h0.size := (Ary.lt A_ea); have r_ : @Eq Nat ea sa := z_; omega
      have old_sa : n0 ≤ sa := by have q_ := Z0; omega
      have O_tb := IsTb.ext E97 O_tb
      have A_te := Ary.ext E97 A_te
      have A_ea := Ary.ext E97 A_ea
      have Z0 := Nat.le_trans Z0 E97.1
      have A_sa : Ary Z h97 sa kA_sa .int 64 (fun j => .int ((fun _ => (0 : Int32)) j)) := A_sa
      refine WP.putF K (w_184 hw) Via.refl (IsTb.f_strata O_tb) (IsTb.exa O_tb) (Or.inl (w_185 hw)) (w_10 hw) (ty := (.array .int)) (by decide) rfl rfl old_tb d33_20 (pc' := 23) rfl fun h98 W98 => ?_
      have A_te := Ary.other W98 A_te (Ne.symm (Ary.ne (IsTb.exa O_tb) A_te (w_10 hw)))
      have A_ea := Ary.other W98 A_ea (Ne.symm (Ary.ne (IsTb.exa O_tb) A_ea (w_10 hw)))
      have A_sa := Ary.other W98 A_sa (Ne.symm ne_tb_sa)
      have Z0 := Nat.le_trans Z0 (Nat.le_of_eq W98.size.symm)
      have O_tb := IsTb.s_strata hw W98 O_tb
      refine WP.aloadN K d33_23 rfl rfl (pc' := 24) rfl ?_
      refine WP.getF K (w_184 hw) Via.refl (IsTb.f_strata O_tb) d33_24 (pc' := 27) rfl ?_
      refine WP.iconst K d33_27 (v := (1 : Int32)) rfl (pc' := 28) rfl ?_
      refine WP.callS K (argsL := [(.ref sa), (.int (1 : Int32))]) (S := []) (w_227 hw) (w_175 hw) (rm_fillI w l Z a0 hw sa kA_sa 64 (fun _ => (0 : Int32)) (1 : Int32) h98 n0 Z0 A_sa old_sa) (w_176 hw) (w_128 hw) (by decide) rfl (lenOf pd_8 rfl) rfl (W := 0) rfl (by decide) (by decide) (k' := 1) (n' := 64) rfl rfl (by decide) (by decide) d33_28 (pc' := 31) rfl fun v h99 hq => ?_
      obtain ⟨rfl, K1, A_sa⟩ := hq
      have O_tb := IsTb.keep K1 O_tb (ninS ne_tb_sa nin0)
      have A_te := Ary.keep K1 A_te (ninS ne_te_sa nin0)
      have A_ea := Ary.keep K1 A_ea (ninS ne_ea_sa nin0)
      have Z0 := Nat.le_trans Z0 K1.1
      show WP κ h99 1 64 (mkF κ.m 31 #[.val (.ref tb), .val (.int (0 : Int32)), .val (.int st)] [])
      refine WP.aloadN K d33_31 rfl rfl (pc' := 32) rfl ?_
      refine WP.getF K (w_184 hw) Via.refl (IsTb.f_strata O_tb) d33_32 (pc' := 35) rfl ?_
      refine WP.iloadN K d33_35 rfl (pc' := 36) rfl ?_
      refine WP.iloadN K d33_36 rfl (pc' := 37) rfl ?_
      refine WP.iastore K (i := 0) A_sa rfl (by decide) old_sa d33_37 (pc' := 38) rfl fun h100 W100 A_n => ?_
      have O_tb := IsTb.other W100 O_tb ne_tb_sa
      have A_te := Ary.other W100 A_te ne_te_sa
      have A_ea := Ary.other W100 A_ea ne_ea_sa
      have Z0 := Nat.le_trans Z0 (Nat.le_of_eq W100.size.symm)
      have A_sa := A_n
      rw [upd_int] at A_sa
      exact WP.ret0 K d33_38 (by decide) (by decide) ⟨rfl, by rw [own_sT c1]; exact ⟨a1, te, kT, _, _, _, _, _, _, _, _, _, O_tb, A_te, hec, Or.inr ⟨rfl, ea, kD, _, b1, rfl, A_ea, hF0⟩, Or.inl ⟨rfl, rfl⟩, Or.inr ⟨rfl, sa, _, _, rfl, A_sa⟩⟩⟩
set_option maxRecDepth 65536 in
set_option maxHeartbeats 40000000 in
theorem rm_set (w : Bool) (l : Launch) (Z : State) (a0 : Array Value) (hw : ∀ d ∈ tables_1, d.before a0 Z = true) (tb : Addr) (A : Nat) (e m s : Bool) (D0 : Int64) (vv : Int64) (h0 : Heap) (n0 : Nat) (Z0 : n0 ≤ h0.size) (T_ : IsTS Z h0 A tb e m s D0) (old_A : n0 ≤ A) :
    Met w l Z (⟨"com/example/weir/weir/engine/TripleTable", "setEnd", "(IJ)V"⟩ : MethodName) prog_50_method_9_code 4 none [] ({ frames := 2, cells := 1, slots := 64, locals := 31 } : Room) #[(.ref tb), (.int (0 : Int32)), (.long vv)] h0 n0 (fun v h => v = none ∧ IsTS Z h A tb (e || decide (¬ vv = (9223372036854775807 : Int64))) m s vv) := by
  refine Met.of (plainFor_of_name (by first | (simp [plainName, overriddenIn]; done) | decide +kernel)) fun κ K => ?_
  refine WP.frame (g' := (mkF κ.m 0 #[.val (.ref tb), .val (.int (0 : Int32)), .val (.long vv), .second] [])) (by first | (simp [entryFrame, mkF, argsToLocals, Value.category]; done) | rfl) ?_
  obtain ⟨a1, te, kT, f_te, vE, vM, vS, u_numbers, u_index, u_size, ec, es, O_tb, A_te, hec, CE, CM, CS⟩ := T_
  have old_tb : n0 ≤ tb := Nat.le_trans old_A a1
  have z_tb : @LT.lt Nat _ tb h0.size := IsTb.lt O_tb
  rcases CE with ⟨rfl, rfl, hD⟩ | ⟨rfl, ea, kD, FE, b1, rfl, A_ea, hF0⟩
  · rcases CM with ⟨rfl, rfl⟩ | ⟨rfl, ma, kma, f_ma, rfl, A_ma⟩
    · rcases CS with ⟨rfl, rfl⟩ | ⟨rfl, sa, ksa, f_sa, rfl, A_sa⟩
      · refine WP.aloadN K d29_0 rfl rfl (pc' := 1) rfl ?_
        refine WP.iloadN K d29_1 rfl (pc' := 2) rfl ?_
        refine WP.callP K (a := tb) (argsL := [(.int (0 : Int32))]) (S := []) (w_208 hw) (w_209 hw) (w_10 hw) (w_210 hw) (IsTb.exa O_tb) (rm_uncN w l Z a0 hw tb _ _ _ _ _ _ _ _ h0 n0 Z0 O_tb) (w_211 hw) (w_11 hw) (by decide) rfl (lenOf pd_3 rfl) rfl (W := 0) rfl (by decide) (by decide) (k' := 0) (n' := 0) rfl rfl (by decide) (by decide) d29_2 (pc' := 5) rfl fun v h101 hq => ?_
        obtain ⟨rfl, rfl⟩ := hq
        show WP κ h0 0 0 (mkF κ.m 5 #[.val (.ref tb), .val (.int (0 : Int32)), .val (.long vv), .second] [])
        refine WP.aloadN K d29_5 rfl rfl (pc' := 6) rfl ?_
        refine WP.iloadN K d29_6 rfl (pc' := 7) rfl ?_
        refine WP.lloadN K d29_7 rfl (pc' := 8) rfl ?_
        have e0 : ec = 0 := by rw [hec]; exact if_pos hD
        have nq_te_tb : te ≠ tb := (Ne.symm (Ary.ne (IsTb.exa O_tb) A_te (w_10 hw)))
        refine WP.callP K (a := tb) (argsL := [(.int (0 : Int32)), (.long vv)]) (S := []) (w_107 hw) (w_108 hw) (w_10 hw) (w_109 hw) (IsTb.exa O_tb) (rm_putN w l Z a0 hw tb te kT f_te _ _ _ _ _ _ _ vv h0 n0 Z0 O_tb A_te old_tb) (w_110 hw) (w_11 hw) (by decide) rfl (lenOf pd_12 rfl) rfl (W := 0) rfl (by decide) (by decide) (k' := 1) (n' := 64) rfl rfl (by decide) (by decide) d29_8 (pc' := 11) rfl fun v h102 hq => ?_
        obtain ⟨rfl, K1, PP⟩ := hq
        have A_te := Ary.keep K1 A_te (ninS nq_te_tb nin0)
        have Z0 := Nat.le_trans Z0 K1.1
        show WP κ h102 1 64 (mkF κ.m 11 #[.val (.ref tb), .val (.int (0 : Int32)), .val (.long vv), .second] [])
        rcases PP with ⟨c1, O_tb⟩ | ⟨c1, ea, kD, FE, es', s_ea, O_tb, A_ea, hF0⟩
        · exact WP.ret0 K d29_11 (by decide) (by decide) ⟨rfl, by rw [own_dF c1]; exact ⟨a1, te, kT, _, _, _, _, _, _, _, _, _, O_tb, A_te, by rw [e0]; exact own_ctF c1, Or.inl ⟨rfl, rfl, c1⟩, Or.inl ⟨rfl, rfl⟩, Or.inl ⟨rfl, rfl⟩⟩⟩
        · exact WP.ret0 K d29_11 (by decide) (by decide) ⟨rfl, by rw [own_dT c1]; exact ⟨a1, te, kT, _, _, _, _, _, _, _, _, _, O_tb, A_te, by rw [e0]; exact own_ctT c1, Or.inr ⟨rfl, ea, kD, _, by omega, rfl, A_ea, hF0⟩, Or.inl ⟨rfl, rfl⟩, Or.inl ⟨rfl, rfl⟩⟩⟩
      · refine WP.aloadN K d29_0 rfl rfl (pc' := 1) rfl ?_
        refine WP.iloadN K d29_1 rfl (pc' := 2) rfl ?_
        refine WP.callP K (a := tb) (argsL := [(.int (0 : Int32))]) (S := []) (w_208 hw) (w_209 hw) (w_10 hw) (w_210 hw) (IsTb.exa O_tb) (rm_uncN w l Z a0 hw tb _ _ _ _ _ _ _ _ h0 n0 Z0 O_tb) (w_211 hw) (w_11 hw) (by decide) rfl (lenOf pd_3 rfl) rfl (W := 0) rfl (by decide) (by decide) (k' := 0) (n' := 0) rfl rfl (by decide) (by decide) d29_2 (pc' := 5) rfl fun v h103 hq => ?_
        obtain ⟨rfl, rfl⟩ := hq
        show WP κ h0 0 0 (mkF κ.m 5 #[.val (.ref tb), .val (.int (0 : Int32)), .val (.long vv), .second] [])
        refine WP.aloadN K d29_5 rfl rfl (pc' := 6) rfl ?_
        refine WP.iloadN K d29_6 rfl (pc' := 7) rfl ?_
        refine WP.lloadN K d29_7 rfl (pc' := 8) rfl ?_
        have e0 : ec = 0 := by rw [hec]; exact if_pos hD
        have nq_te_tb : te ≠ tb := (Ne.symm (Ary.ne (IsTb.exa O_tb) A_te (w_10 hw)))
        have nq_sa_tb : sa ≠ tb := (Ne.symm (Ary.ne (IsTb.exa O_tb) A_sa (w_10 hw)))
        refine WP.callP K (a := tb) (argsL := [(.int (0 : Int32)), (.long vv)]) (S := []) (w_107 hw) (w_108 hw) (w_10 hw) (w_109 hw) (IsTb.exa O_tb) (rm_putN w l Z a0 hw tb te kT f_te _ _ _ _ _ _ _ vv h0 n0 Z0 O_tb A_te old_tb) (w_110 hw) (w_11 hw) (by decide) rfl (lenOf pd_12 rfl) rfl (W := 0) rfl (by decide) (by decide) (k' := 1) (n' := 64) rfl rfl (by decide) (by decide) d29_8 (pc' := 11) rfl fun v h104 hq => ?_
        obtain ⟨rfl, K1, PP⟩ := hq
        have A_te := Ary.keep K1 A_te (ninS nq_te_tb nin0)
        have A_sa := Ary.keep K1 A_sa (ninS nq_sa_tb nin0)
        have Z0 := Nat.le_trans Z0 K1.1
        show WP κ h104 1 64 (mkF κ.m 11 #[.val (.ref tb), .val (.int (0 : Int32)), .val (.long vv), .second] [])
        rcases PP with ⟨c1, O_tb⟩ | ⟨c1, ea, kD, FE, es', s_ea, O_tb, A_ea, hF0⟩
        · exact WP.ret0 K d29_11 (by decide) (by decide) ⟨rfl, by rw [own_dF c1]; exact ⟨a1, te, kT, _, _, _, _, _, _, _, _, _, O_tb, A_te, by rw [e0]; exact own_ctF c1, Or.inl ⟨rfl, rfl, c1⟩, Or.inl ⟨rfl, rfl⟩, Or.inr ⟨rfl, sa, _, _, rfl, A_sa⟩⟩⟩
        · exact WP.ret0 K d29_11 (by decide) (by decide) ⟨rfl, by rw [own_dT c1]; exact ⟨a1, te, kT, _, _, _, _, _, _, _, _, _, O_tb, A_te, by rw [e0]; exact own_ctT c1, Or.inr ⟨rfl, ea, kD, _, by omega, rfl, A_ea, hF0⟩, Or.inl ⟨rfl, rfl⟩, Or.inr ⟨rfl, sa, _, _, rfl, A_sa⟩⟩⟩
    · rcases CS with ⟨rfl, rfl⟩ | ⟨rfl, sa, ksa, f_sa, rfl, A_sa⟩
      · refine WP.aloadN K d29_0 rfl rfl (pc' := 1) rfl ?_
        refine WP.iloadN K d29_1 rfl (pc' := 2) rfl ?_
        refine WP.callP K (a := tb) (argsL := [(.int (0 : Int32))]) (S := []) (w_208 hw) (w_209 hw) (w_10 hw) (w_210 hw) (IsTb.exa O_tb) (rm_uncN w l Z a0 hw tb _ _ _ _ _ _ _ _ h0 n0 Z0 O_tb) (w_211 hw) (w_11 hw) (by decide) rfl (lenOf pd_3 rfl) rfl (W := 0) rfl (by decide) (by decide) (k' := 0) (n' := 0) rfl rfl (by decide) (by decide) d29_2 (pc' := 5) rfl fun v h105 hq => ?_
        obtain ⟨rfl, rfl⟩ := hq
        show WP κ h0 0 0 (mkF κ.m 5 #[.val (.ref tb), .val (.int (0 : Int32)), .val (.long vv), .second] [])
        refine WP.aloadN K d29_5 rfl rfl (pc' := 6) rfl ?_
        refine WP.iloadN K d29_6 rfl (pc' := 7) rfl ?_
        refine WP.lloadN K d29_7 rfl (pc' := 8) rfl ?_
        have e0 : ec = 0 := by rw [hec]; exact if_pos hD
        have nq_te_tb : te ≠ tb := (Ne.symm (Ary.ne (IsTb.exa O_tb) A_te (w_10 hw)))
        have nq_ma_tb : ma ≠ tb := (Ne.symm (Ary.ne (IsTb.exa O_tb) A_ma (w_10 hw)))
        refine WP.callP K (a := tb) (argsL := [(.int (0 : Int32)), (.long vv)]) (S := []) (w_107 hw) (w_108 hw) (w_10 hw) (w_109 hw) (IsTb.exa O_tb) (rm_putN w l Z a0 hw tb te kT f_te _ _ _ _ _ _ _ vv h0 n0 Z0 O_tb A_te old_tb) (w_110 hw) (w_11 hw) (by decide) rfl (lenOf pd_12 rfl) rfl (W := 0) rfl (by decide) (by decide) (k' := 1) (n' := 64) rfl rfl (by decide) (by decide) d29_8 (pc' := 11) rfl fun v h106 hq => ?_
        obtain ⟨rfl, K1, PP⟩ := hq
        have A_te := Ary.keep K1 A_te (ninS nq_te_tb nin0)
        have A_ma := Ary.keep K1 A_ma (ninS nq_ma_tb nin0)
        have Z0 := Nat.le_trans Z0 K1.1
        show WP κ h106 1 64 (mkF κ.m 11 #[.val (.ref tb), .val (.int (0 : Int32)), .val (.long vv), .second] [])
        rcases PP with ⟨c1, O_tb⟩ | ⟨c1, ea, kD, FE, es', s_ea, O_tb, A_ea, hF0⟩
        · exact WP.ret0 K d29_11 (by decide) (by decide) ⟨rfl, by rw [own_dF c1]; exact ⟨a1, te, kT, _, _, _, _, _, _, _, _, _, O_tb, A_te, by rw [e0]; exact own_ctF c1, Or.inl ⟨rfl, rfl, c1⟩, Or.inr ⟨rfl, ma, _, _, rfl, A_ma⟩, Or.inl ⟨rfl, rfl⟩⟩⟩
        · exact WP.ret0 K d29_11 (by decide) (by decide) ⟨rfl, by rw [own_dT c1]; exact ⟨a1, te, kT, _, _, _, _, _, _, _, _, _, O_tb, A_te, by rw [e0]; exact own_ctT c1, Or.inr ⟨rfl, ea, kD, _, by omega, rfl, A_ea, hF0⟩, Or.inr ⟨rfl, ma, _, _, rfl, A_ma⟩, Or.inl ⟨rfl, rfl⟩⟩⟩
      · refine WP.aloadN K d29_0 rfl rfl (pc' := 1) rfl ?_
        refine WP.iloadN K d29_1 rfl (pc' := 2) rfl ?_
        refine WP.callP K (a := tb) (argsL := [(.int (0 : Int32))]) (S := []) (w_208 hw) (w_209 hw) (w_10 hw) (w_210 hw) (IsTb.exa O_tb) (rm_uncN w l Z a0 hw tb _ _ _ _ _ _ _ _ h0 n0 Z0 O_tb) (w_211 hw) (w_11 hw) (by decide) rfl (lenOf pd_3 rfl) rfl (W := 0) rfl (by decide) (by decide) (k' := 0) (n' := 0) rfl rfl (by decide) (by decide) d29_2 (pc' := 5) rfl fun v h107 hq => ?_
        obtain ⟨rfl, rfl⟩ := hq
        show WP κ h0 0 0 (mkF κ.m 5 #[.val (.ref tb), .val (.int (0 : Int32)), .val (.long vv), .second] [])
        refine WP.aloadN K d29_5 rfl rfl (pc' := 6) rfl ?_
        refine WP.iloadN K d29_6 rfl (pc' := 7) rfl ?_
        refine WP.lloadN K d29_7 rfl (pc' := 8) rfl ?_
        have e0 : ec = 0 := by rw [hec]; exact if_pos hD
        have nq_te_tb : te ≠ tb := (Ne.symm (Ary.ne (IsTb.exa O_tb) A_te (w_10 hw)))
        have nq_ma_tb : ma ≠ tb := (Ne.symm (Ary.ne (IsTb.exa O_tb) A_ma (w_10 hw)))
        have nq_sa_tb : sa ≠ tb := (Ne.symm (Ary.ne (IsTb.exa O_tb) A_sa (w_10 hw)))
        refine WP.callP K (a := tb) (argsL := [(.int (0 : Int32)), (.long vv)]) (S := []) (w_107 hw) (w_108 hw) (w_10 hw) (w_109 hw) (IsTb.exa O_tb) (rm_putN w l Z a0 hw tb te kT f_te _ _ _ _ _ _ _ vv h0 n0 Z0 O_tb A_te old_tb) (w_110 hw) (w_11 hw) (by decide) rfl (lenOf pd_12 rfl) rfl (W := 0) rfl (by decide) (by decide) (k' := 1) (n' := 64) rfl rfl (by decide) (by decide) d29_8 (pc' := 11) rfl fun v h108 hq => ?_
        obtain ⟨rfl, K1, PP⟩ := hq
        have A_te := Ary.keep K1 A_te (ninS nq_te_tb nin0)
        have A_ma := Ary.keep K1 A_ma (ninS nq_ma_tb nin0)
        have A_sa := Ary.keep K1 A_sa (ninS nq_sa_tb nin0)
        have Z0 := Nat.le_trans Z0 K1.1
        show WP κ h108 1 64 (mkF κ.m 11 #[.val (.ref tb), .val (.int (0 : Int32)), .val (.long vv), .second] [])
        rcases PP with ⟨c1, O_tb⟩ | ⟨c1, ea, kD, FE, es', s_ea, O_tb, A_ea, hF0⟩
        · exact WP.ret0 K d29_11 (by decide) (by decide) ⟨rfl, by rw [own_dF c1]; exact ⟨a1, te, kT, _, _, _, _, _, _, _, _, _, O_tb, A_te, by rw [e0]; exact own_ctF c1, Or.inl ⟨rfl, rfl, c1⟩, Or.inr ⟨rfl, ma, _, _, rfl, A_ma⟩, Or.inr ⟨rfl, sa, _, _, rfl, A_sa⟩⟩⟩
        · exact WP.ret0 K d29_11 (by decide) (by decide) ⟨rfl, by rw [own_dT c1]; exact ⟨a1, te, kT, _, _, _, _, _, _, _, _, _, O_tb, A_te, by rw [e0]; exact own_ctT c1, Or.inr ⟨rfl, ea, kD, _, by omega, rfl, A_ea, hF0⟩, Or.inr ⟨rfl, ma, _, _, rfl, A_ma⟩, Or.inr ⟨rfl, sa, _, _, rfl, A_sa⟩⟩⟩
  · have old_ea : n0 ≤ ea := Nat.le_trans old_A b1
    have ne_te_ea : te ≠ ea := fun z_ => by subst z_; exact own_iJ A_te A_ea
    rcases CM with ⟨rfl, rfl⟩ | ⟨rfl, ma, kma, f_ma, rfl, A_ma⟩
    · rcases CS with ⟨rfl, rfl⟩ | ⟨rfl, sa, ksa, f_sa, rfl, A_sa⟩
      · refine WP.aloadN K d29_0 rfl rfl (pc' := 1) rfl ?_
        refine WP.iloadN K d29_1 rfl (pc' := 2) rfl ?_
        have nq_te_tb : te ≠ tb := (Ne.symm (Ary.ne (IsTb.exa O_tb) A_te (w_10 hw)))
        have nq_ea_tb : ea ≠ tb := (Ne.symm (Ary.ne (IsTb.exa O_tb) A_ea (w_10 hw)))
        refine WP.callP K (a := tb) (argsL := [(.int (0 : Int32))]) (S := []) (w_208 hw) (w_209 hw) (w_10 hw) (w_210 hw) (IsTb.exa O_tb) (rm_uncA w l Z a0 hw tb _ _ _ _ _ _ _ _ ea kD FE h0 n0 Z0 O_tb A_ea old_tb) (w_211 hw) (w_11 hw) (by decide) rfl (lenOf pd_3 rfl) rfl (W := 0) rfl (by decide) (by decide) (k' := 0) (n' := 0) rfl rfl (by decide) (by decide) d29_2 (pc' := 5) rfl fun v h109 hq => ?_
        obtain ⟨rfl, K1, es1, O_tb⟩ := hq
        have A_te := Ary.keep K1 A_te (ninS nq_te_tb nin0)
        have A_ea := Ary.keep K1 A_ea (ninS nq_ea_tb nin0)
        have Z0 := Nat.le_trans Z0 K1.1
        show WP κ h109 0 0 (mkF κ.m 5 #[.val (.ref tb), .val (.int (0 : Int32)), .val (.long vv), .second] [])
        have e0 : (if FE 0 = (9223372036854775807 : Int64) then ec else ec - 1) = (0 : Int32) := by rw [hF0]; exact own_ct0 hec
        rw [e0] at O_tb
        refine WP.aloadN K d29_5 rfl rfl (pc' := 6) rfl ?_
        refine WP.iloadN K d29_6 rfl (pc' := 7) rfl ?_
        refine WP.lloadN K d29_7 rfl (pc' := 8) rfl ?_
        refine WP.callP K (a := tb) (argsL := [(.int (0 : Int32)), (.long vv)]) (S := []) (w_107 hw) (w_108 hw) (w_10 hw) (w_109 hw) (IsTb.exa O_tb) (rm_putA w l Z a0 hw tb _ _ _ _ _ _ _ _ ea kD FE vv h109 n0 Z0 O_tb A_ea old_tb old_ea) (w_110 hw) (w_11 hw) (by decide) rfl (lenOf pd_12 rfl) rfl (W := 0) rfl (by decide) (by decide) (k' := 0) (n' := 0) rfl rfl (by decide) (by decide) d29_8 (pc' := 11) rfl fun v h110 hq => ?_
        obtain ⟨rfl, K2, F2, es2, O_tb, A_ea, hF2⟩ := hq
        have A_te := Ary.keep K2 A_te (ninS nq_te_tb (ninS ne_te_ea nin0))
        have Z0 := Nat.le_trans Z0 K2.1
        show WP κ h110 0 0 (mkF κ.m 11 #[.val (.ref tb), .val (.int (0 : Int32)), .val (.long vv), .second] [])
        exact WP.ret0 K d29_11 (by decide) (by decide) ⟨rfl, ⟨a1, te, kT, _, _, _, _, _, _, _, _, _, O_tb, A_te, own_ct1 _, Or.inr ⟨rfl, ea, kD, _, b1, rfl, A_ea, hF2⟩, Or.inl ⟨rfl, rfl⟩, Or.inl ⟨rfl, rfl⟩⟩⟩
      · have ne_sa_ea : sa ≠ ea := fun z_ => by subst z_; exact own_iJ A_sa A_ea
        refine WP.aloadN K d29_0 rfl rfl (pc' := 1) rfl ?_
        refine WP.iloadN K d29_1 rfl (pc' := 2) rfl ?_
        have nq_te_tb : te ≠ tb := (Ne.symm (Ary.ne (IsTb.exa O_tb) A_te (w_10 hw)))
        have nq_ea_tb : ea ≠ tb := (Ne.symm (Ary.ne (IsTb.exa O_tb) A_ea (w_10 hw)))
        have nq_sa_tb : sa ≠ tb := (Ne.symm (Ary.ne (IsTb.exa O_tb) A_sa (w_10 hw)))
        refine WP.callP K (a := tb) (argsL := [(.int (0 : Int32))]) (S := []) (w_208 hw) (w_209 hw) (w_10 hw) (w_210 hw) (IsTb.exa O_tb) (rm_uncA w l Z a0 hw tb _ _ _ _ _ _ _ _ ea kD FE h0 n0 Z0 O_tb A_ea old_tb) (w_211 hw) (w_11 hw) (by decide) rfl (lenOf pd_3 rfl) rfl (W := 0) rfl (by decide) (by decide) (k' := 0) (n' := 0) rfl rfl (by decide) (by decide) d29_2 (pc' := 5) rfl fun v h111 hq => ?_
        obtain ⟨rfl, K1, es1, O_tb⟩ := hq
        have A_te := Ary.keep K1 A_te (ninS nq_te_tb nin0)
        have A_ea := Ary.keep K1 A_ea (ninS nq_ea_tb nin0)
        have A_sa := Ary.keep K1 A_sa (ninS nq_sa_tb nin0)
        have Z0 := Nat.le_trans Z0 K1.1
        show WP κ h111 0 0 (mkF κ.m 5 #[.val (.ref tb), .val (.int (0 : Int32)), .val (.long vv), .second] [])
        have e0 : (if FE 0 = (9223372036854775807 : Int64) then ec else ec - 1) = (0 : Int32) := by rw [hF0]; exact own_ct0 hec
        rw [e0] at O_tb
        refine WP.aloadN K d29_5 rfl rfl (pc' := 6) rfl ?_
        refine WP.iloadN K d29_6 rfl (pc' := 7) rfl ?_
        refine WP.lloadN K d29_7 rfl (pc' := 8) rfl ?_
        refine WP.callP K (a := tb) (argsL := [(.int (0 : Int32)), (.long vv)]) (S := []) (w_107 hw) (w_108 hw) (w_10 hw) (w_109 hw) (IsTb.exa O_tb) (rm_putA w l Z a0 hw tb _ _ _ _ _ _ _ _ ea kD FE vv h111 n0 Z0 O_tb A_ea old_tb old_ea) (w_110 hw) (w_11 hw) (by decide) rfl (lenOf pd_12 rfl) rfl (W := 0) rfl (by decide) (by decide) (k' := 0) (n' := 0) rfl rfl (by decide) (by decide) d29_8 (pc' := 11) rfl fun v h112 hq => ?_
        obtain ⟨rfl, K2, F2, es2, O_tb, A_ea, hF2⟩ := hq
        have A_te := Ary.keep K2 A_te (ninS nq_te_tb (ninS ne_te_ea nin0))
        have A_sa := Ary.keep K2 A_sa (ninS nq_sa_tb (ninS ne_sa_ea nin0))
        have Z0 := Nat.le_trans Z0 K2.1
        show WP κ h112 0 0 (mkF κ.m 11 #[.val (.ref tb), .val (.int (0 : Int32)), .val (.long vv), .second] [])
        exact WP.ret0 K d29_11 (by decide) (by decide) ⟨rfl, ⟨a1, te, kT, _, _, _, _, _, _, _, _, _, O_tb, A_te, own_ct1 _, Or.inr ⟨rfl, ea, kD, _, b1, rfl, A_ea, hF2⟩, Or.inl ⟨rfl, rfl⟩, Or.inr ⟨rfl, sa, _, _, rfl, A_sa⟩⟩⟩
    · have ne_ma_ea : ma ≠ ea := fun z_ => by subst z_; exact own_iJ A_ma A_ea
      rcases CS with ⟨rfl, rfl⟩ | ⟨rfl, sa, ksa, f_sa, rfl, A_sa⟩
      · refine WP.aloadN K d29_0 rfl rfl (pc' := 1) rfl ?_
        refine WP.iloadN K d29_1 rfl (pc' := 2) rfl ?_
        have nq_te_tb : te ≠ tb := (Ne.symm (Ary.ne (IsTb.exa O_tb) A_te (w_10 hw)))
        have nq_ea_tb : ea ≠ tb := (Ne.symm (Ary.ne (IsTb.exa O_tb) A_ea (w_10 hw)))
        have nq_ma_tb : ma ≠ tb := (Ne.symm (Ary.ne (IsTb.exa O_tb) A_ma (w_10 hw)))
        refine WP.callP K (a := tb) (argsL := [(.int (0 : Int32))]) (S := []) (w_208 hw) (w_209 hw) (w_10 hw) (w_210 hw) (IsTb.exa O_tb) (rm_uncA w l Z a0 hw tb _ _ _ _ _ _ _ _ ea kD FE h0 n0 Z0 O_tb A_ea old_tb) (w_211 hw) (w_11 hw) (by decide) rfl (lenOf pd_3 rfl) rfl (W := 0) rfl (by decide) (by decide) (k' := 0) (n' := 0) rfl rfl (by decide) (by decide) d29_2 (pc' := 5) rfl fun v h113 hq => ?_
        obtain ⟨rfl, K1, es1, O_tb⟩ := hq
        have A_te := Ary.keep K1 A_te (ninS nq_te_tb nin0)
        have A_ea := Ary.keep K1 A_ea (ninS nq_ea_tb nin0)
        have A_ma := Ary.keep K1 A_ma (ninS nq_ma_tb nin0)
        have Z0 := Nat.le_trans Z0 K1.1
        show WP κ h113 0 0 (mkF κ.m 5 #[.val (.ref tb), .val (.int (0 : Int32)), .val (.long vv), .second] [])
        have e0 : (if FE 0 = (9223372036854775807 : Int64) then ec else ec - 1) = (0 : Int32) := by rw [hF0]; exact own_ct0 hec
        rw [e0] at O_tb
        refine WP.aloadN K d29_5 rfl rfl (pc' := 6) rfl ?_
        refine WP.iloadN K d29_6 rfl (pc' := 7) rfl ?_
        refine WP.lloadN K d29_7 rfl (pc' := 8) rfl ?_
        refine WP.callP K (a := tb) (argsL := [(.int (0 : Int32)), (.long vv)]) (S := []) (w_107 hw) (w_108 hw) (w_10 hw) (w_109 hw) (IsTb.exa O_tb) (rm_putA w l Z a0 hw tb _ _ _ _ _ _ _ _ ea kD FE vv h113 n0 Z0 O_tb A_ea old_tb old_ea) (w_110 hw) (w_11 hw) (by decide) rfl (lenOf pd_12 rfl) rfl (W := 0) rfl (by decide) (by decide) (k' := 0) (n' := 0) rfl rfl (by decide) (by decide) d29_8 (pc' := 11) rfl fun v h114 hq => ?_
        obtain ⟨rfl, K2, F2, es2, O_tb, A_ea, hF2⟩ := hq
        have A_te := Ary.keep K2 A_te (ninS nq_te_tb (ninS ne_te_ea nin0))
        have A_ma := Ary.keep K2 A_ma (ninS nq_ma_tb (ninS ne_ma_ea nin0))
        have Z0 := Nat.le_trans Z0 K2.1
        show WP κ h114 0 0 (mkF κ.m 11 #[.val (.ref tb), .val (.int (0 : Int32)), .val (.long vv), .second] [])
        exact WP.ret0 K d29_11 (by decide) (by decide) ⟨rfl, ⟨a1, te, kT, _, _, _, _, _, _, _, _, _, O_tb, A_te, own_ct1 _, Or.inr ⟨rfl, ea, kD, _, b1, rfl, A_ea, hF2⟩, Or.inr ⟨rfl, ma, _, _, rfl, A_ma⟩, Or.inl ⟨rfl, rfl⟩⟩⟩
      · have ne_sa_ea : sa ≠ ea := fun z_ => by subst z_; exact own_iJ A_sa A_ea
        refine WP.aloadN K d29_0 rfl rfl (pc' := 1) rfl ?_
        refine WP.iloadN K d29_1 rfl (pc' := 2) rfl ?_
        have nq_te_tb : te ≠ tb := (Ne.symm (Ary.ne (IsTb.exa O_tb) A_te (w_10 hw)))
        have nq_ea_tb : ea ≠ tb := (Ne.symm (Ary.ne (IsTb.exa O_tb) A_ea (w_10 hw)))
        have nq_ma_tb : ma ≠ tb := (Ne.symm (Ary.ne (IsTb.exa O_tb) A_ma (w_10 hw)))
        have nq_sa_tb : sa ≠ tb := (Ne.symm (Ary.ne (IsTb.exa O_tb) A_sa (w_10 hw)))
        refine WP.callP K (a := tb) (argsL := [(.int (0 : Int32))]) (S := []) (w_208 hw) (w_209 hw) (w_10 hw) (w_210 hw) (IsTb.exa O_tb) (rm_uncA w l Z a0 hw tb _ _ _ _ _ _ _ _ ea kD FE h0 n0 Z0 O_tb A_ea old_tb) (w_211 hw) (w_11 hw) (by decide) rfl (lenOf pd_3 rfl) rfl (W := 0) rfl (by decide) (by decide) (k' := 0) (n' := 0) rfl rfl (by decide) (by decide) d29_2 (pc' := 5) rfl fun v h115 hq => ?_
        obtain ⟨rfl, K1, es1, O_tb⟩ := hq
        have A_te := Ary.keep K1 A_te (ninS nq_te_tb nin0)
        have A_ea := Ary.keep K1 A_ea (ninS nq_ea_tb nin0)
        have A_ma := Ary.keep K1 A_ma (ninS nq_ma_tb nin0)
        have A_sa := Ary.keep K1 A_sa (ninS nq_sa_tb nin0)
        have Z0 := Nat.le_trans Z0 K1.1
        show WP κ h115 0 0 (mkF κ.m 5 #[.val (.ref tb), .val (.int (0 : Int32)), .val (.long vv), .second] [])
        have e0 : (if FE 0 = (9223372036854775807 : Int64) then ec else ec - 1) = (0 : Int32) := by rw [hF0]; exact own_ct0 hec
        rw [e0] at O_tb
        refine WP.aloadN K d29_5 rfl rfl (pc' := 6) rfl ?_
        refine WP.iloadN K d29_6 rfl (pc' := 7) rfl ?_
        refine WP.lloadN K d29_7 rfl (pc' := 8) rfl ?_
        refine WP.callP K (a := tb) (argsL := [(.int (0 : Int32)), (.long vv)]) (S := []) (w_107 hw) (w_108 hw) (w_10 hw) (w_109 hw) (IsTb.exa O_tb) (rm_putA w l Z a0 hw tb _ _ _ _ _ _ _ _ ea kD FE vv h115 n0 Z0 O_tb A_ea old_tb old_ea) (w_110 hw) (w_11 hw) (by decide) rfl (lenOf pd_12 rfl) rfl (W := 0) rfl (by decide) (by decide) (k' := 0) (n' := 0) rfl rfl (by decide) (by decide) d29_8 (pc' := 11) rfl fun v h116 hq => ?_
        obtain ⟨rfl, K2, F2, es2, O_tb, A_ea, hF2⟩ := hq
        have A_te := Ary.keep K2 A_te (ninS nq_te_tb (ninS ne_te_ea nin0))
        have A_ma := Ary.keep K2 A_ma (ninS nq_ma_tb (ninS ne_ma_ea nin0))
        have A_sa := Ary.keep K2 A_sa (ninS nq_sa_tb (ninS ne_sa_ea nin0))
        have Z0 := Nat.le_trans Z0 K2.1
        show WP κ h116 0 0 (mkF κ.m 11 #[.val (.ref tb), .val (.int (0 : Int32)), .val (.long vv), .second] [])
        exact WP.ret0 K d29_11 (by decide) (by decide) ⟨rfl, ⟨a1, te, kT, _, _, _, _, _, _, _, _, _, O_tb, A_te, own_ct1 _, Or.inr ⟨rfl, ea, kD, _, b1, rfl, A_ea, hF2⟩, Or.inr ⟨rfl, ma, _, _, rfl, A_ma⟩, Or.inr ⟨rfl, sa, _, _, rfl, A_sa⟩⟩⟩
set_option maxRecDepth 65536 in
set_option maxHeartbeats 40000000 in
theorem rm_add (w : Bool) (l : Launch) (Z : State) (a0 : Array Value) (hw : ∀ d ∈ tables_1, d.before a0 Z = true) (tb te nu il ar si fn mp en : Addr) (kT kE : ClassId) (e1 : Int64) (nl : Addr) (kL : ClassId) (fL : Nat → Value) (h0 : Heap) (n0 : Nat) (Z0 : n0 ≤ h0.size) (O_tb : IsTb Z h0 tb (.ref te) (.ref nu) (.ref si) .null (.int (0 : Int32)) .null .null (.int (0 : Int32)) (.int (0 : Int32))) (A_te : Ary Z h0 te kT .int 192 (fun j => .int ((fun _ => (0 : Int32)) j))) (O_nu : IsNu Z h0 nu (.ref il) (.int (0 : Int32))) (O_il : IsIL Z h0 il (.ref ar) (.int (0 : Int32))) (O_si : IsSI Z h0 si (.ref mp) (.ref nl) (.ref fn)) (F_fn : Fun1 Z h0 own_shape "com/example/weir/weir/engine/TripleTable" fn tb) (O_mp : IsMap Z h0 mp (.int (1 : Int32)) (.int (2 : Int32)) (.ref en) (.int (8 : Int32)) .null (.int (0 : Int32)) .null (.int (0 : Int32)) (.int (0 : Int32))) (A_en : Ary Z h0 en kE .int 16 (fun j => .int ((fun _ => (0 : Int32)) j))) (ne_te_en : te ≠ en) (ne_fn_tb : fn ≠ tb) (ne_fn_te : fn ≠ te) (ne_fn_nu : fn ≠ nu) (ne_fn_si : fn ≠ si) (old_tb : n0 ≤ tb) (old_te : n0 ≤ te) (old_nu : n0 ≤ nu) (old_si : n0 ≤ si) (old_mp : n0 ≤ mp) (S_nl : Sta Z Z.heap "com/example/weir/weir/engine/SubjectIndex" "NO_LINKS" "[I" (.ref nl)) (A_nl : Ary Z Z.heap nl kL .int 0 fL) (OLD : Old Z n0 h0) :
    Met w l Z (⟨"com/example/weir/weir/engine/TripleTable", "add", "(IIIJ)I"⟩ : MethodName) prog_50_method_18_code 7 (some .int) [] ({ frames := 4, cells := 3, slots := 130, locals := 96 } : Room) #[(.ref tb), (.int (1 : Int32)), (.int (2 : Int32)), (.int (3 : Int32)), (.long e1)] h0 n0 (fun v h => v = some (.int (0 : Int32)) ∧ IsTS Z h tb tb (decide (¬ e1 = (9223372036854775807 : Int64))) false false e1) := by
  refine Met.of (plainFor_of_name (by first | (simp [plainName, overriddenIn]; done) | decide +kernel)) fun κ K => ?_
  refine WP.frame (g' := (mkF κ.m 0 #[.val (.ref tb), .val (.int (1 : Int32)), .val (.int (2 : Int32)), .val (.int (3 : Int32)), .val (.long e1), .second, .unset] [])) (by first | (simp [entryFrame, mkF, argsToLocals, Value.category]; done) | rfl) ?_
  have z_tb : @LT.lt Nat _ tb h0.size := IsTb.lt O_tb
  have KP := Keep.refl h0 [tb, te, nu]
  refine WP.aloadN K d11_0 rfl rfl (pc' := 1) rfl ?_
  refine WP.getF K (w_39 hw) Via.refl (IsTb.f_numbers O_tb) d11_1 (pc' := 4) rfl ?_
  have nq_tb_nu : tb ≠ nu := (ne_exa (IsTb.exa O_tb) (IsNu.exa O_nu) (by decide))
  have nq_te_nu : te ≠ nu := (Ne.symm (Ary.ne (IsNu.exa O_nu) A_te (w_22 hw)))
  have nq_il_nu : il ≠ nu := (ne_exa (IsIL.exa O_il) (IsNu.exa O_nu) (by decide))
  have nq_si_nu : si ≠ nu := (ne_exa (IsSI.exa O_si) (IsNu.exa O_nu) (by decide))
  have nq_mp_nu : mp ≠ nu := (ne_exa (IsMap.exa O_mp) (IsNu.exa O_nu) (by decide))
  have nq_en_nu : en ≠ nu := (Ne.symm (Ary.ne (IsNu.exa O_nu) A_en (w_22 hw)))
  refine WP.callV K (a := nu) (argsL := []) (S := []) (w_93 hw) (w_94 hw) (fun vm0 hZ => notFace_of_selects (args := #[]) (mvT (s := κ.s.setVm vm0) hZ (w_96 hw))) (w_96 hw) (w_95 hw) (by decide) (IsNu.exa O_nu) (rm_take w l Z a0 hw nu il _ h0 n0 Z0 O_nu O_il old_nu) (w_97 hw) (w_23 hw) (by decide) rfl (lenOf pd_5 rfl) rfl (W := 0) rfl (by decide) (by decide) (k' := 0) (n' := 0) rfl rfl (by decide) (by decide) d11_4 (pc' := 7) rfl fun v h117 hq => ?_
  obtain ⟨rfl, K1⟩ := hq
  have O_tb := IsTb.keep K1 O_tb (ninS nq_tb_nu nin0)
  have A_te := Ary.keep K1 A_te (ninS nq_te_nu nin0)
  have O_il := IsIL.keep K1 O_il (ninS nq_il_nu nin0)
  have O_si := IsSI.keep K1 O_si (ninS nq_si_nu nin0)
  have F_fn := Fun1.keep K1 F_fn (ninS ne_fn_nu nin0)
  have O_mp := IsMap.keep K1 O_mp (ninS nq_mp_nu nin0)
  have A_en := Ary.keep K1 A_en (ninS nq_en_nu nin0)
  have KP := Keep.trans KP K1 (allS (Or.inl (List.mem_of_getElem? (i := 2) rfl)) all0)
  have OLD := Old.keep OLD K1 (allS old_nu all0)
  have Z0 := Nat.le_trans Z0 K1.1
  show WP κ h117 0 0 (mkF κ.m 7 #[.val (.ref tb), .val (.int (1 : Int32)), .val (.int (2 : Int32)), .val (.int (3 : Int32)), .val (.long e1), .second, .unset] [(.int (0 : Int32))])
  refine WP.istore K d11_7 (L' := #[.val (.ref tb), .val (.int (1 : Int32)), .val (.int (2 : Int32)), .val (.int (3 : Int32)), .val (.long e1), .second, .val (.int (0 : Int32))]) rfl (pc' := 9) rfl ?_
  refine WP.iconst K d11_9 (v := (3 : Int32)) rfl (pc' := 10) rfl ?_
  refine WP.iload K d11_10 rfl (pc' := 12) rfl ?_
  refine WP.imul K d11_12 (pc' := 13) rfl ?_
  show WP κ h117 0 0 (mkF κ.m 13 #[.val (.ref tb), .val (.int (1 : Int32)), .val (.int (2 : Int32)), .val (.int (3 : Int32)), .val (.long e1), .second, .val (.int (0 : Int32))] [(.int (0 : Int32))])
  refine WP.aloadN K d11_13 rfl rfl (pc' := 14) rfl ?_
  refine WP.getF K (w_19 hw) Via.refl (IsTb.f_terms O_tb) d11_14 (pc' := 17) rfl ?_
  refine WP.arraylength K A_te d11_17 (pc' := 18) rfl ?_
  show WP κ h117 0 0 (mkF κ.m 18 #[.val (.ref tb), .val (.int (1 : Int32)), .val (.int (2 : Int32)), .val (.int (3 : Int32)), .val (.long e1), .second, .val (.int (0 : Int32))] [(.int (192 : Int32)), (.int (0 : Int32))])
  refine WP.icmpT K d11_18 (by decide) (by decide) (pc' := 111) (by decide) ?_
  refine WP.aloadN K d11_111 rfl rfl (pc' := 112) rfl ?_
  refine WP.getF K (w_19 hw) Via.refl (IsTb.f_terms O_tb) d11_112 (pc' := 115) rfl ?_
  refine WP.iconst K d11_115 (v := (3 : Int32)) rfl (pc' := 116) rfl ?_
  refine WP.iload K d11_116 rfl (pc' := 118) rfl ?_
  refine WP.imul K d11_118 (pc' := 119) rfl ?_
  show WP κ h117 0 0 (mkF κ.m 119 #[.val (.ref tb), .val (.int (1 : Int32)), .val (.int (2 : Int32)), .val (.int (3 : Int32)), .val (.long e1), .second, .val (.int (0 : Int32))] [(.int (0 : Int32)), (.ref te)])
  refine WP.iloadN K d11_119 rfl (pc' := 120) rfl ?_
  refine WP.iastore K (i := 0) A_te rfl (by decide) old_te d11_120 (pc' := 121) rfl fun h118 W118 A_n => ?_
  have O_tb := IsTb.other W118 O_tb (Ary.ne (IsTb.exa O_tb) A_te (w_10 hw))
  have O_si := IsSI.other W118 O_si (Ary.ne (IsSI.exa O_si) A_te (w_42 hw))
  have F_fn := Fun1.other W118 F_fn ne_fn_te
  have O_mp := IsMap.other W118 O_mp (Ary.ne (IsMap.exa O_mp) A_te (w_53 hw))
  have A_en := Ary.other W118 A_en (Ne.symm ne_te_en)
  have KP := Keep.wr KP W118 (Or.inl (List.mem_of_getElem? (i := 1) rfl))
  have OLD := Old.wr OLD W118 old_te
  have Z0 := Nat.le_trans Z0 (Nat.le_of_eq W118.size.symm)
  have A_te := A_n
  rw [upd_int] at A_te
  refine WP.aloadN K d11_121 rfl rfl (pc' := 122) rfl ?_
  refine WP.getF K (w_19 hw) Via.refl (IsTb.f_terms O_tb) d11_122 (pc' := 125) rfl ?_
  refine WP.iconst K d11_125 (v := (3 : Int32)) rfl (pc' := 126) rfl ?_
  refine WP.iload K d11_126 rfl (pc' := 128) rfl ?_
  refine WP.imul K d11_128 (pc' := 129) rfl ?_
  show WP κ h118 0 0 (mkF κ.m 129 #[.val (.ref tb), .val (.int (1 : Int32)), .val (.int (2 : Int32)), .val (.int (3 : Int32)), .val (.long e1), .second, .val (.int (0 : Int32))] [(.int (0 : Int32)), (.ref te)])
  refine WP.iconst K d11_129 (v := (1 : Int32)) rfl (pc' := 130) rfl ?_
  refine WP.iadd K d11_130 (pc' := 131) rfl ?_
  show WP κ h118 0 0 (mkF κ.m 131 #[.val (.ref tb), .val (.int (1 : Int32)), .val (.int (2 : Int32)), .val (.int (3 : Int32)), .val (.long e1), .second, .val (.int (0 : Int32))] [(.int (1 : Int32)), (.ref te)])
  refine WP.iloadN K d11_131 rfl (pc' := 132) rfl ?_
  refine WP.iastore K (i := 1) A_te rfl (by decide) old_te d11_132 (pc' := 133) rfl fun h119 W119 A_n => ?_
  have O_tb := IsTb.other W119 O_tb (Ary.ne (IsTb.exa O_tb) A_te (w_10 hw))
  have O_si := IsSI.other W119 O_si (Ary.ne (IsSI.exa O_si) A_te (w_42 hw))
  have F_fn := Fun1.other W119 F_fn ne_fn_te
  have O_mp := IsMap.other W119 O_mp (Ary.ne (IsMap.exa O_mp) A_te (w_53 hw))
  have A_en := Ary.other W119 A_en (Ne.symm ne_te_en)
  have KP := Keep.wr KP W119 (Or.inl (List.mem_of_getElem? (i := 1) rfl))
  have OLD := Old.wr OLD W119 old_te
  have Z0 := Nat.le_trans Z0 (Nat.le_of_eq W119.size.symm)
  have A_te := A_n
  rw [upd_int] at A_te
  refine WP.aloadN K d11_133 rfl rfl (pc' := 134) rfl ?_
  refine WP.getF K (w_19 hw) Via.refl (IsTb.f_terms O_tb) d11_134 (pc' := 137) rfl ?_
  refine WP.iconst K d11_137 (v := (3 : Int32)) rfl (pc' := 138) rfl ?_
  refine WP.iload K d11_138 rfl (pc' := 140) rfl ?_
  refine WP.imul K d11_140 (pc' := 141) rfl ?_
  show WP κ h119 0 0 (mkF κ.m 141 #[.val (.ref tb), .val (.int (1 : Int32)), .val (.int (2 : Int32)), .val (.int (3 : Int32)), .val (.long e1), .second, .val (.int (0 : Int32))] [(.int (0 : Int32)), (.ref te)])
  refine WP.iconst K d11_141 (v := (2 : Int32)) rfl (pc' := 142) rfl ?_
  refine WP.iadd K d11_142 (pc' := 143) rfl ?_
  show WP κ h119 0 0 (mkF κ.m 143 #[.val (.ref tb), .val (.int (1 : Int32)), .val (.int (2 : Int32)), .val (.int (3 : Int32)), .val (.long e1), .second, .val (.int (0 : Int32))] [(.int (2 : Int32)), (.ref te)])
  refine WP.iloadN K d11_143 rfl (pc' := 144) rfl ?_
  refine WP.iastore K (i := 2) A_te rfl (by decide) old_te d11_144 (pc' := 145) rfl fun h120 W120 A_n => ?_
  have O_tb := IsTb.other W120 O_tb (Ary.ne (IsTb.exa O_tb) A_te (w_10 hw))
  have O_si := IsSI.other W120 O_si (Ary.ne (IsSI.exa O_si) A_te (w_42 hw))
  have F_fn := Fun1.other W120 F_fn ne_fn_te
  have O_mp := IsMap.other W120 O_mp (Ary.ne (IsMap.exa O_mp) A_te (w_53 hw))
  have A_en := Ary.other W120 A_en (Ne.symm ne_te_en)
  have KP := Keep.wr KP W120 (Or.inl (List.mem_of_getElem? (i := 1) rfl))
  have OLD := Old.wr OLD W120 old_te
  have Z0 := Nat.le_trans Z0 (Nat.le_of_eq W120.size.symm)
  have A_te := A_n
  rw [upd_int] at A_te
  refine WP.aloadN K d11_145 rfl rfl (pc' := 146) rfl ?_
  refine WP.iload K d11_146 rfl (pc' := 148) rfl ?_
  refine WP.lload K d11_148 rfl (pc' := 150) rfl ?_
  have hz : h0.size ≤ h120.size := KP.1
  have nq_te_tb : te ≠ tb := (Ne.symm (Ary.ne (IsTb.exa O_tb) A_te (w_10 hw)))
  have nq_si_tb : si ≠ tb := (ne_exa (IsSI.exa O_si) (IsTb.exa O_tb) (by decide))
  have nq_mp_tb : mp ≠ tb := (ne_exa (IsMap.exa O_mp) (IsTb.exa O_tb) (by decide))
  have nq_en_tb : en ≠ tb := (Ne.symm (Ary.ne (IsTb.exa O_tb) A_en (w_10 hw)))
  refine WP.callP K (a := tb) (argsL := [(.int (0 : Int32)), (.long e1)]) (S := []) (w_107 hw) (w_108 hw) (w_10 hw) (w_109 hw) (IsTb.exa O_tb) (rm_putN w l Z a0 hw tb te kT _ _ _ _ _ _ _ _ e1 h120 n0 Z0 O_tb A_te old_tb) (w_110 hw) (w_11 hw) (by decide) rfl (lenOf pd_12 rfl) rfl (W := 0) rfl (by decide) (by decide) (k' := 1) (n' := 64) rfl rfl (by decide) (by decide) d11_150 (pc' := 153) rfl fun v h121 hq => ?_
  obtain ⟨rfl, K2, PP⟩ := hq
  have A_te := Ary.keep K2 A_te (ninS nq_te_tb nin0)
  have O_si := IsSI.keep K2 O_si (ninS nq_si_tb nin0)
  have F_fn := Fun1.keep K2 F_fn (ninS ne_fn_tb nin0)
  have O_mp := IsMap.keep K2 O_mp (ninS nq_mp_tb nin0)
  have A_en := Ary.keep K2 A_en (ninS nq_en_tb nin0)
  have KP := Keep.trans KP K2 (allS (Or.inl (List.mem_of_getElem? (i := 0) rfl)) all0)
  have OLD := Old.keep OLD K2 (allS old_tb all0)
  have Z0 := Nat.le_trans Z0 K2.1
  show WP κ h121 1 64 (mkF κ.m 153 #[.val (.ref tb), .val (.int (1 : Int32)), .val (.int (2 : Int32)), .val (.int (3 : Int32)), .val (.long e1), .second, .val (.int (0 : Int32))] [])
  rcases PP with ⟨c1, O_tb⟩ | ⟨c1, ea, kD, FE, es', s_ea, O_tb, A_ea, hF0⟩
  · refine WP.aloadN K d11_153 rfl rfl (pc' := 154) rfl ?_
    refine WP.dup K d11_154 rfl (pc' := 155) rfl ?_
    refine WP.getF K (w_114 hw) Via.refl (IsTb.f_size O_tb) d11_155 (pc' := 158) rfl ?_
    refine WP.iconst K d11_158 (v := (1 : Int32)) rfl (pc' := 159) rfl ?_
    refine WP.iadd K d11_159 (pc' := 160) rfl ?_
    show WP κ h121 1 64 (mkF κ.m 160 #[.val (.ref tb), .val (.int (1 : Int32)), .val (.int (2 : Int32)), .val (.int (3 : Int32)), .val (.long e1), .second, .val (.int (0 : Int32))] [(.int (1 : Int32)), (.ref tb)])
    refine WP.putF K (w_114 hw) Via.refl (IsTb.f_size O_tb) (IsTb.exa O_tb) (Or.inl (w_115 hw)) (w_10 hw) (ty := .int) (by decide) rfl rfl old_tb d11_160 (pc' := 163) rfl fun h122 W122 => ?_
    have A_te := Ary.other W122 A_te nq_te_tb
    have O_si := IsSI.other W122 O_si nq_si_tb
    have F_fn := Fun1.other W122 F_fn ne_fn_tb
    have O_mp := IsMap.other W122 O_mp nq_mp_tb
    have A_en := Ary.other W122 A_en nq_en_tb
    have KP := Keep.wr KP W122 (Or.inl (List.mem_of_getElem? (i := 0) rfl))
    have OLD := Old.wr OLD W122 old_tb
    have Z0 := Nat.le_trans Z0 (Nat.le_of_eq W122.size.symm)
    have O_tb := IsTb.s_size hw W122 O_tb
    refine WP.aloadN K d11_163 rfl rfl (pc' := 164) rfl ?_
    refine WP.getF K (w_86 hw) Via.refl (IsTb.f_index O_tb) d11_164 (pc' := 167) rfl ?_
    refine WP.iload K d11_167 rfl (pc' := 169) rfl ?_
    refine WP.aloadN K d11_169 rfl rfl (pc' := 170) rfl ?_
    refine WP.callV K (a := tb) (argsL := []) (S := [(.int (0 : Int32)), (.ref si)]) (w_116 hw) (w_117 hw) (fun vm0 hZ => notFace_of_selects (args := #[]) (mvT (s := κ.s.setVm vm0) hZ (w_119 hw))) (w_119 hw) (w_118 hw) (by decide) (IsTb.exa O_tb) (rm_cap w l Z a0 hw tb te kT _ _ _ _ _ _ _ _ _ h122 n0 Z0 O_tb A_te) (w_120 hw) (w_11 hw) (by decide) rfl (lenOf pd_5 rfl) rfl (W := 2) rfl (by decide) (by decide) (k' := 1) (n' := 64) rfl rfl (by decide) (by decide) d11_170 (pc' := 173) rfl fun v h123 hq => ?_
    obtain ⟨rfl, rfl⟩ := hq
    show WP κ h122 1 64 (mkF κ.m 173 #[.val (.ref tb), .val (.int (1 : Int32)), .val (.int (2 : Int32)), .val (.int (3 : Int32)), .val (.long e1), .second, .val (.int (0 : Int32))] [(.int (64 : Int32)), (.int (0 : Int32)), (.ref si)])
    have nq_te_si : te ≠ si := (Ne.symm (Ary.ne (IsSI.exa O_si) A_te (w_42 hw)))
    have nq_te_mp : te ≠ mp := (Ne.symm (Ary.ne (IsMap.exa O_mp) A_te (w_53 hw)))
    refine WP.callV K (a := si) (argsL := [(.int (0 : Int32)), (.int (64 : Int32))]) (S := []) (w_121 hw) (w_122 hw) (fun vm0 hZ => notFace_of_selects (args := #[]) (mvT (s := κ.s.setVm vm0) hZ (w_124 hw))) (w_124 hw) (w_123 hw) (by decide) (IsSI.exa O_si) (rm_siadd w l Z a0 hw si mp en fn tb te kE kT (fset (fset (fset (fun _ => (0 : Int32)) 0 (1 : Int32)) 1 (2 : Int32)) 2 (3 : Int32)) _ _ _ _ _ _ _ _ nl kL fL h122 n0 Z0 O_si O_mp A_en F_fn O_tb A_te rfl old_si old_mp ne_fn_si S_nl A_nl OLD) (w_125 hw) (w_43 hw) (by decide) rfl (lenOf pd_13 rfl) rfl (W := 0) rfl (by decide) (by decide) (k' := 3) (n' := 130) rfl rfl (by decide) (by decide) d11_173 (pc' := 176) rfl fun v h124 hq => ?_
    obtain ⟨rfl, K3⟩ := hq
    have O_tb := IsTb.keep K3 O_tb (ninS (Ne.symm nq_si_tb) (ninS (Ne.symm nq_mp_tb) nin0))
    have A_te := Ary.keep K3 A_te (ninS nq_te_si (ninS nq_te_mp nin0))
    have OLD := Old.keep OLD K3 (allS old_si (allS old_mp all0))
    have Z0 := Nat.le_trans Z0 K3.1
    show WP κ h124 3 130 (mkF κ.m 176 #[.val (.ref tb), .val (.int (1 : Int32)), .val (.int (2 : Int32)), .val (.int (3 : Int32)), .val (.long e1), .second, .val (.int (0 : Int32))] [])
    refine WP.iload K d11_176 rfl (pc' := 178) rfl ?_
    exact WP.retI K d11_178 (by decide) (by decide) ⟨rfl, by rw [own_dF c1]; exact ⟨Nat.le_refl _, te, kT, _, _, _, _, _, _, _, _, _, O_tb, A_te, own_ctF c1, Or.inl ⟨rfl, rfl, c1⟩, Or.inl ⟨rfl, rfl⟩, Or.inl ⟨rfl, rfl⟩⟩⟩
  · have ne_te_ea : te ≠ ea := fun z_ => by subst z_; exact own_iJ A_te A_ea
    have ne_en_ea : en ≠ ea := fun z_ => by subst z_; exact own_iJ A_en A_ea
    refine WP.aloadN K d11_153 rfl rfl (pc' := 154) rfl ?_
    refine WP.dup K d11_154 rfl (pc' := 155) rfl ?_
    refine WP.getF K (w_114 hw) Via.refl (IsTb.f_size O_tb) d11_155 (pc' := 158) rfl ?_
    refine WP.iconst K d11_158 (v := (1 : Int32)) rfl (pc' := 159) rfl ?_
    refine WP.iadd K d11_159 (pc' := 160) rfl ?_
    show WP κ h121 1 64 (mkF κ.m 160 #[.val (.ref tb), .val (.int (1 : Int32)), .val (.int (2 : Int32)), .val (.int (3 : Int32)), .val (.long e1), .second, .val (.int (0 : Int32))] [(.int (1 : Int32)), (.ref tb)])
    refine WP.putF K (w_114 hw) Via.refl (IsTb.f_size O_tb) (IsTb.exa O_tb) (Or.inl (w_115 hw)) (w_10 hw) (ty := .int) (by decide) rfl rfl old_tb d11_160 (pc' := 163) rfl fun h125 W125 => ?_
    have A_te := Ary.other W125 A_te nq_te_tb
    have O_si := IsSI.other W125 O_si nq_si_tb
    have F_fn := Fun1.other W125 F_fn ne_fn_tb
    have O_mp := IsMap.other W125 O_mp nq_mp_tb
    have A_en := Ary.other W125 A_en nq_en_tb
    have A_ea := Ary.other W125 A_ea (Ne.symm (Ary.ne (IsTb.exa O_tb) A_ea (w_10 hw)))
    have KP := Keep.wr KP W125 (Or.inl (List.mem_of_getElem? (i := 0) rfl))
    have OLD := Old.wr OLD W125 old_tb
    have Z0 := Nat.le_trans Z0 (Nat.le_of_eq W125.size.symm)
    have O_tb := IsTb.s_size hw W125 O_tb
    refine WP.aloadN K d11_163 rfl rfl (pc' := 164) rfl ?_
    refine WP.getF K (w_86 hw) Via.refl (IsTb.f_index O_tb) d11_164 (pc' := 167) rfl ?_
    refine WP.iload K d11_167 rfl (pc' := 169) rfl ?_
    refine WP.aloadN K d11_169 rfl rfl (pc' := 170) rfl ?_
    refine WP.callV K (a := tb) (argsL := []) (S := [(.int (0 : Int32)), (.ref si)]) (w_116 hw) (w_117 hw) (fun vm0 hZ => notFace_of_selects (args := #[]) (mvT (s := κ.s.setVm vm0) hZ (w_119 hw))) (w_119 hw) (w_118 hw) (by decide) (IsTb.exa O_tb) (rm_cap w l Z a0 hw tb te kT _ _ _ _ _ _ _ _ _ h125 n0 Z0 O_tb A_te) (w_120 hw) (w_11 hw) (by decide) rfl (lenOf pd_5 rfl) rfl (W := 2) rfl (by decide) (by decide) (k' := 1) (n' := 64) rfl rfl (by decide) (by decide) d11_170 (pc' := 173) rfl fun v h126 hq => ?_
    obtain ⟨rfl, rfl⟩ := hq
    show WP κ h125 1 64 (mkF κ.m 173 #[.val (.ref tb), .val (.int (1 : Int32)), .val (.int (2 : Int32)), .val (.int (3 : Int32)), .val (.long e1), .second, .val (.int (0 : Int32))] [(.int (64 : Int32)), (.int (0 : Int32)), (.ref si)])
    have nq_te_si : te ≠ si := (Ne.symm (Ary.ne (IsSI.exa O_si) A_te (w_42 hw)))
    have nq_te_mp : te ≠ mp := (Ne.symm (Ary.ne (IsMap.exa O_mp) A_te (w_53 hw)))
    have nq_ea_si : ea ≠ si := (Ne.symm (Ary.ne (IsSI.exa O_si) A_ea (w_42 hw)))
    have nq_ea_mp : ea ≠ mp := (Ne.symm (Ary.ne (IsMap.exa O_mp) A_ea (w_53 hw)))
    refine WP.callV K (a := si) (argsL := [(.int (0 : Int32)), (.int (64 : Int32))]) (S := []) (w_121 hw) (w_122 hw) (fun vm0 hZ => notFace_of_selects (args := #[]) (mvT (s := κ.s.setVm vm0) hZ (w_124 hw))) (w_124 hw) (w_123 hw) (by decide) (IsSI.exa O_si) (rm_siadd w l Z a0 hw si mp en fn tb te kE kT (fset (fset (fset (fun _ => (0 : Int32)) 0 (1 : Int32)) 1 (2 : Int32)) 2 (3 : Int32)) _ _ _ _ _ _ _ _ nl kL fL h125 n0 Z0 O_si O_mp A_en F_fn O_tb A_te rfl old_si old_mp ne_fn_si S_nl A_nl OLD) (w_125 hw) (w_43 hw) (by decide) rfl (lenOf pd_13 rfl) rfl (W := 0) rfl (by decide) (by decide) (k' := 3) (n' := 130) rfl rfl (by decide) (by decide) d11_173 (pc' := 176) rfl fun v h127 hq => ?_
    obtain ⟨rfl, K3⟩ := hq
    have O_tb := IsTb.keep K3 O_tb (ninS (Ne.symm nq_si_tb) (ninS (Ne.symm nq_mp_tb) nin0))
    have A_te := Ary.keep K3 A_te (ninS nq_te_si (ninS nq_te_mp nin0))
    have A_ea := Ary.keep K3 A_ea (ninS nq_ea_si (ninS nq_ea_mp nin0))
    have OLD := Old.keep OLD K3 (allS old_si (allS old_mp all0))
    have Z0 := Nat.le_trans Z0 K3.1
    show WP κ h127 3 130 (mkF κ.m 176 #[.val (.ref tb), .val (.int (1 : Int32)), .val (.int (2 : Int32)), .val (.int (3 : Int32)), .val (.long e1), .second, .val (.int (0 : Int32))] [])
    refine WP.iload K d11_176 rfl (pc' := 178) rfl ?_
    exact WP.retI K d11_178 (by decide) (by decide) ⟨rfl, by rw [own_dT c1]; exact ⟨Nat.le_refl _, te, kT, _, _, _, _, _, _, _, _, _, O_tb, A_te, own_ctT c1, Or.inr ⟨rfl, ea, kD, _, by omega, rfl, A_ea, hF0⟩, Or.inl ⟨rfl, rfl⟩, Or.inl ⟨rfl, rfl⟩⟩⟩
set_option maxRecDepth 65536 in
set_option maxHeartbeats 40000000 in
theorem rm_pick (w : Bool) (l : Launch) (Z : State) (a0 : Array Value) (hw : ∀ d ∈ tables_1, d.before a0 Z = true) (sel : Int32) (x : Int64) (h0 : Heap) (n0 : Nat) (Z0 : n0 ≤ h0.size)  :
    Met w l Z (⟨"com/example/weir/weir/engine/TripleTableEndRoomPinLaw", "pick", "(IJ)J"⟩ : MethodName) method_2_code 3 (some .long) [] ({ frames := 0, cells := 0, slots := 0, locals := 0 } : Room) #[(.int sel), (.long x)] h0 n0 (fun v h => v = some (.long (own_pick sel x)) ∧ h0 = h) := by
  refine Met.of (plainFor_of_name (by first | (simp [plainName, overriddenIn]; done) | decide +kernel)) fun κ K => ?_
  refine WP.frame (g' := (mkF κ.m 0 #[.val (.int sel), .val (.long x), .second] [])) (by first | (simp [entryFrame, mkF, argsToLocals, Value.category]; done) | rfl) ?_
  refine WP.iloadN K d1_0 rfl (pc' := 1) rfl ?_
  by_cases c1 : sel = (0 : Int32)
  · refine WP.if0F K d1_1 ((if0 _ _).trans (teq c1).2) (pc' := 4) rfl ?_
    refine WP.ldc2J K (w_4 hw) d1_4 (pc' := 7) rfl ?_
    exact WP.retJ K d1_7 (by decide) (by decide) ⟨by unfold own_pick; rw [if_pos c1], rfl⟩
  · refine WP.if0T K d1_1 ((if0 _ _).trans (feq c1).2) (by decide) (pc' := 8) (by decide) ?_
    refine WP.iloadN K d1_8 rfl (pc' := 9) rfl ?_
    refine WP.iconst K d1_9 (v := (1 : Int32)) rfl (pc' := 10) rfl ?_
    by_cases c2 : sel = (1 : Int32)
    · refine WP.icmpF K d1_10 (teq c2).2 (pc' := 13) rfl ?_
      refine WP.ldc2J K (w_195 hw) d1_13 (pc' := 16) rfl ?_
      exact WP.retJ K d1_16 (by decide) (by decide) ⟨by unfold own_pick; rw [if_neg c1, if_pos c2], rfl⟩
    · refine WP.icmpT K d1_10 (feq c2).2 (by decide) (pc' := 17) (by decide) ?_
      refine WP.lloadN K d1_17 rfl (pc' := 18) rfl ?_
      refine WP.ldc2J K (w_187 hw) d1_18 (pc' := 21) rfl ?_
      refine WP.lcmp K d1_21 (pc' := 22) rfl ?_
      by_cases c3 : x = (-9223372036854775808 : Int64)
      · refine WP.if0F K d1_22 ((if0 _ _).trans (teq ((lw_eq _ _).mpr c3)).2) (pc' := 25) rfl ?_
        refine WP.ldc2J K (w_195 hw) d1_25 (pc' := 28) rfl ?_
        refine WP.goto K d1_28 (by decide) (pc' := 32) (by decide) ?_
        exact WP.retJ K d1_32 (by decide) (by decide) ⟨by unfold own_pick; rw [if_neg c1, if_neg c2, if_pos c3], rfl⟩
      · refine WP.if0T K d1_22 ((if0 _ _).trans (feq (fun q => c3 ((lw_eq _ _).mp q))).2) (by decide) (pc' := 31) (by decide) ?_
        refine WP.lloadN K d1_31 rfl (pc' := 32) rfl ?_
        exact WP.retJ K d1_32 (by decide) (by decide) ⟨by unfold own_pick; rw [if_neg c1, if_neg c2, if_neg c3], rfl⟩
set_option maxRecDepth 65536 in
set_option maxHeartbeats 40000000 in
theorem rm_law (w : Bool) (l : Launch) (Z : State) (a0 : Array Value) (hw : ∀ d ∈ tables_1, d.before a0 Z = true) (p0 : Int32) (p1 p2 : Int64) (p3 : Int32) (h0 : Heap) (n0 : Nat) (Z0 : n0 ≤ h0.size) (nl : Addr) (kL : ClassId) (fL : Nat → Value) (S_nl : Sta Z Z.heap "com/example/weir/weir/engine/SubjectIndex" "NO_LINKS" "[I" (.ref nl)) (A_nl : Ary Z Z.heap nl kL .int 0 fL) (OLD : Old Z n0 h0) :
    Met w l Z x code maxLocals ret tables_1 room_1 #[(.int p0), (.long p1), (.long p2), (.int p3)] h0 n0 (fun v h => v = some (.int 1)) := by
  refine Met.of (plainFor_of_name (by first | (simp [plainName, overriddenIn]; done) | decide +kernel)) fun κ K => ?_
  have K : Cx κ w l Z "com/example/weir/weir/engine/TripleTableEndRoomPinLaw" n0 room_1 code 26 (some .boolean) "law" _ := K
  refine WP.frame (g' := (mkF κ.m 0 #[.val (.int p0), .val (.long p1), .second, .val (.long p2), .second, .val (.int p3), .unset, .unset, .unset, .unset, .unset, .unset, .unset, .unset, .unset, .unset, .unset, .unset, .unset, .unset, .unset, .unset, .unset, .unset, .unset, .unset] [])) (by first | (simp [entryFrame, mkF, argsToLocals, Value.category, maxLocals]; done) | rfl) ?_
  refine WP.iloadN K at_0 rfl (pc' := 1) rfl ?_
  refine WP.iconst K at_1 (v := (3 : Int32)) rfl (pc' := 2) rfl ?_
  refine WP.iand K at_2 (pc' := 3) rfl ?_
  refine WP.lloadN K at_3 rfl (pc' := 4) rfl ?_
  refine WP.callS K (argsL := [(.int (p0 &&& (3 : Int32))), (.long p1)]) (S := []) (w_0 hw) (w_1 hw) (rm_pick w l Z a0 hw (p0 &&& (3 : Int32)) p1 h0 n0 Z0) (w_3 hw) (w_2 hw) (by decide) rfl (lenOf pd_14 rfl) rfl (W := 0) rfl (by decide) (by decide) (k' := 0) (n' := 0) rfl rfl (by decide) (by decide) at_4 (pc' := 7) rfl fun v h128 hq => ?_
  obtain ⟨rfl, rfl⟩ := hq
  show WP κ h0 0 0 (mkF κ.m 7 #[.val (.int p0), .val (.long p1), .second, .val (.long p2), .second, .val (.int p3), .unset, .unset, .unset, .unset, .unset, .unset, .unset, .unset, .unset, .unset, .unset, .unset, .unset, .unset, .unset, .unset, .unset, .unset, .unset, .unset] [(.long (own_pick (p0 &&& (3 : Int32)) p1))])
  refine WP.lstore K at_7 (L' := #[.val (.int p0), .val (.long p1), .second, .val (.long p2), .second, .val (.int p3), .val (.long (own_pick (p0 &&& (3 : Int32)) p1)), .second, .unset, .unset, .unset, .unset, .unset, .unset, .unset, .unset, .unset, .unset, .unset, .unset, .unset, .unset, .unset, .unset, .unset, .unset]) rfl (pc' := 9) rfl ?_
  generalize e_e1 : (own_pick (p0 &&& (3 : Int32)) p1) = e1 at ⊢
  refine WP.iloadN K at_9 rfl (pc' := 10) rfl ?_
  refine WP.iconst K at_10 (v := (2 : Int32)) rfl (pc' := 11) rfl ?_
  refine WP.iushr K at_11 (pc' := 12) rfl ?_
  refine WP.iconst K at_12 (v := (3 : Int32)) rfl (pc' := 13) rfl ?_
  refine WP.iand K at_13 (pc' := 14) rfl ?_
  refine WP.lloadN K at_14 rfl (pc' := 15) rfl ?_
  refine WP.callS K (argsL := [(.int ((((p0).toUInt32 >>> ((2 : Int32) &&& 31).toUInt32).toInt32) &&& (3 : Int32))), (.long p2)]) (S := []) (w_0 hw) (w_1 hw) (rm_pick w l Z a0 hw ((((p0).toUInt32 >>> ((2 : Int32) &&& 31).toUInt32).toInt32) &&& (3 : Int32)) p2 h0 n0 Z0) (w_3 hw) (w_2 hw) (by decide) rfl (lenOf pd_14 rfl) rfl (W := 0) rfl (by decide) (by decide) (k' := 0) (n' := 0) rfl rfl (by decide) (by decide) at_15 (pc' := 18) rfl fun v h129 hq => ?_
  obtain ⟨rfl, rfl⟩ := hq
  show WP κ h0 0 0 (mkF κ.m 18 #[.val (.int p0), .val (.long p1), .second, .val (.long p2), .second, .val (.int p3), .val (.long e1), .second, .unset, .unset, .unset, .unset, .unset, .unset, .unset, .unset, .unset, .unset, .unset, .unset, .unset, .unset, .unset, .unset, .unset, .unset] [(.long (own_pick ((((p0).toUInt32 >>> ((2 : Int32) &&& 31).toUInt32).toInt32) &&& (3 : Int32)) p2))])
  refine WP.lstore K at_18 (L' := #[.val (.int p0), .val (.long p1), .second, .val (.long p2), .second, .val (.int p3), .val (.long e1), .second, .val (.long (own_pick ((((p0).toUInt32 >>> ((2 : Int32) &&& 31).toUInt32).toInt32) &&& (3 : Int32)) p2)), .second, .unset, .unset, .unset, .unset, .unset, .unset, .unset, .unset, .unset, .unset, .unset, .unset, .unset, .unset, .unset, .unset]) rfl (pc' := 20) rfl ?_
  generalize e_e2 : (own_pick ((((p0).toUInt32 >>> ((2 : Int32) &&& 31).toUInt32).toInt32) &&& (3 : Int32)) p2) = e2 at ⊢
  refine WP.iloadN K at_20 rfl (pc' := 21) rfl ?_
  refine WP.bipush K at_21 (v := (16 : Int32)) rfl (pc' := 23) rfl ?_
  refine WP.iand K at_23 (pc' := 24) rfl ?_
  refine WP.meet (g' := (mkF κ.m 32 #[.val (.int p0), .val (.long p1), .second, .val (.long p2), .second, .val (.int p3), .val (.long e1), .second, .val (.long e2), .second, .unset, .unset, .unset, .unset, .unset, .unset, .unset, .unset, .unset, .unset, .unset, .unset, .unset, .unset, .unset, .unset] [(.int (if (p0 &&& (16 : Int32)) = (0 : Int32) then (0 : Int32) else (1 : Int32)))])) (fun HJ => ?_) ?_
  · by_cases c130 : (p0 &&& (16 : Int32)) = (0 : Int32)
    · try simp only [if_pos c130] at HJ
      refine WP.if0T K at_24 ((if0 _ _).trans (teq c130).1) (by decide) (pc' := 31) (by decide) ?_
      refine WP.iconst K at_31 (v := (0 : Int32)) rfl (pc' := 32) rfl ?_
      first | exact HJ | (simp only [if_pos c130]; exact HJ)
    · try simp only [if_neg c130] at HJ
      refine WP.if0F K at_24 ((if0 _ _).trans (feq c130).1) (pc' := 27) rfl ?_
      refine WP.iconst K at_27 (v := (1 : Int32)) rfl (pc' := 28) rfl ?_
      refine WP.goto K at_28 (by decide) (pc' := 32) (by decide) ?_
      first | exact HJ | (simp only [if_neg c130]; exact HJ)
  · skip
    refine WP.istore K at_32 (L' := #[.val (.int p0), .val (.long p1), .second, .val (.long p2), .second, .val (.int p3), .val (.long e1), .second, .val (.long e2), .second, .val (.int (if (p0 &&& (16 : Int32)) = (0 : Int32) then (0 : Int32) else (1 : Int32))), .unset, .unset, .unset, .unset, .unset, .unset, .unset, .unset, .unset, .unset, .unset, .unset, .unset, .unset, .unset]) rfl (pc' := 34) rfl ?_
    refine WP.iloadN K at_34 rfl (pc' := 35) rfl ?_
    refine WP.bipush K at_35 (v := (32 : Int32)) rfl (pc' := 37) rfl ?_
    refine WP.iand K at_37 (pc' := 38) rfl ?_
    refine WP.meet (g' := (mkF κ.m 46 #[.val (.int p0), .val (.long p1), .second, .val (.long p2), .second, .val (.int p3), .val (.long e1), .second, .val (.long e2), .second, .val (.int (if (p0 &&& (16 : Int32)) = (0 : Int32) then (0 : Int32) else (1 : Int32))), .unset, .unset, .unset, .unset, .unset, .unset, .unset, .unset, .unset, .unset, .unset, .unset, .unset, .unset, .unset] [(.int (if (p0 &&& (32 : Int32)) = (0 : Int32) then (0 : Int32) else (1 : Int32)))])) (fun HJ => ?_) ?_
    · by_cases c131 : (p0 &&& (32 : Int32)) = (0 : Int32)
      · try simp only [if_pos c131] at HJ
        refine WP.if0T K at_38 ((if0 _ _).trans (teq c131).1) (by decide) (pc' := 45) (by decide) ?_
        refine WP.iconst K at_45 (v := (0 : Int32)) rfl (pc' := 46) rfl ?_
        first | exact HJ | (simp only [if_pos c131]; exact HJ)
      · try simp only [if_neg c131] at HJ
        refine WP.if0F K at_38 ((if0 _ _).trans (feq c131).1) (pc' := 41) rfl ?_
        refine WP.iconst K at_41 (v := (1 : Int32)) rfl (pc' := 42) rfl ?_
        refine WP.goto K at_42 (by decide) (pc' := 46) (by decide) ?_
        first | exact HJ | (simp only [if_neg c131]; exact HJ)
    · skip
      refine WP.istore K at_46 (L' := #[.val (.int p0), .val (.long p1), .second, .val (.long p2), .second, .val (.int p3), .val (.long e1), .second, .val (.long e2), .second, .val (.int (if (p0 &&& (16 : Int32)) = (0 : Int32) then (0 : Int32) else (1 : Int32))), .val (.int (if (p0 &&& (32 : Int32)) = (0 : Int32) then (0 : Int32) else (1 : Int32))), .unset, .unset, .unset, .unset, .unset, .unset, .unset, .unset, .unset, .unset, .unset, .unset, .unset, .unset]) rfl (pc' := 48) rfl ?_
      refine WP.iloadN K at_48 rfl (pc' := 49) rfl ?_
      refine WP.bipush K at_49 (v := (64 : Int32)) rfl (pc' := 51) rfl ?_
      refine WP.iand K at_51 (pc' := 52) rfl ?_
      refine WP.meet (g' := (mkF κ.m 60 #[.val (.int p0), .val (.long p1), .second, .val (.long p2), .second, .val (.int p3), .val (.long e1), .second, .val (.long e2), .second, .val (.int (if (p0 &&& (16 : Int32)) = (0 : Int32) then (0 : Int32) else (1 : Int32))), .val (.int (if (p0 &&& (32 : Int32)) = (0 : Int32) then (0 : Int32) else (1 : Int32))), .unset, .unset, .unset, .unset, .unset, .unset, .unset, .unset, .unset, .unset, .unset, .unset, .unset, .unset] [(.int (if (p0 &&& (64 : Int32)) = (0 : Int32) then (0 : Int32) else (1 : Int32)))])) (fun HJ => ?_) ?_
      · by_cases c132 : (p0 &&& (64 : Int32)) = (0 : Int32)
        · try simp only [if_pos c132] at HJ
          refine WP.if0T K at_52 ((if0 _ _).trans (teq c132).1) (by decide) (pc' := 59) (by decide) ?_
          refine WP.iconst K at_59 (v := (0 : Int32)) rfl (pc' := 60) rfl ?_
          first | exact HJ | (simp only [if_pos c132]; exact HJ)
        · try simp only [if_neg c132] at HJ
          refine WP.if0F K at_52 ((if0 _ _).trans (feq c132).1) (pc' := 55) rfl ?_
          refine WP.iconst K at_55 (v := (1 : Int32)) rfl (pc' := 56) rfl ?_
          refine WP.goto K at_56 (by decide) (pc' := 60) (by decide) ?_
          first | exact HJ | (simp only [if_neg c132]; exact HJ)
      · skip
        refine WP.istore K at_60 (L' := #[.val (.int p0), .val (.long p1), .second, .val (.long p2), .second, .val (.int p3), .val (.long e1), .second, .val (.long e2), .second, .val (.int (if (p0 &&& (16 : Int32)) = (0 : Int32) then (0 : Int32) else (1 : Int32))), .val (.int (if (p0 &&& (32 : Int32)) = (0 : Int32) then (0 : Int32) else (1 : Int32))), .val (.int (if (p0 &&& (64 : Int32)) = (0 : Int32) then (0 : Int32) else (1 : Int32))), .unset, .unset, .unset, .unset, .unset, .unset, .unset, .unset, .unset, .unset, .unset, .unset, .unset]) rfl (pc' := 62) rfl ?_
        refine WP.iloadN K at_62 rfl (pc' := 63) rfl ?_
        refine WP.sipush K at_63 (v := (128 : Int32)) rfl (pc' := 66) rfl ?_
        refine WP.iand K at_66 (pc' := 67) rfl ?_
        have J80 : ∀ st : Int32, WP κ h0 0 0 (mkF κ.m 80 #[.val (.int p0), .val (.long p1), .second, .val (.long p2), .second, .val (.int p3), .val (.long e1), .second, .val (.long e2), .second, .val (.int (if (p0 &&& (16 : Int32)) = (0 : Int32) then (0 : Int32) else (1 : Int32))), .val (.int (if (p0 &&& (32 : Int32)) = (0 : Int32) then (0 : Int32) else (1 : Int32))), .val (.int (if (p0 &&& (64 : Int32)) = (0 : Int32) then (0 : Int32) else (1 : Int32))), .unset, .unset, .unset, .unset, .unset, .unset, .unset, .unset, .unset, .unset, .unset, .unset, .unset] [(.int st)]) := by
          intro st
          refine WP.istore K at_80 (L' := #[.val (.int p0), .val (.long p1), .second, .val (.long p2), .second, .val (.int p3), .val (.long e1), .second, .val (.long e2), .second, .val (.int (if (p0 &&& (16 : Int32)) = (0 : Int32) then (0 : Int32) else (1 : Int32))), .val (.int (if (p0 &&& (32 : Int32)) = (0 : Int32) then (0 : Int32) else (1 : Int32))), .val (.int (if (p0 &&& (64 : Int32)) = (0 : Int32) then (0 : Int32) else (1 : Int32))), .val (.int st), .unset, .unset, .unset, .unset, .unset, .unset, .unset, .unset, .unset, .unset, .unset, .unset]) rfl (pc' := 82) rfl ?_
          refine WP.iloadN K at_82 rfl (pc' := 83) rfl ?_
          refine WP.sipush K at_83 (v := (256 : Int32)) rfl (pc' := 86) rfl ?_
          refine WP.iand K at_86 (pc' := 87) rfl ?_
          refine WP.meet (g' := (mkF κ.m 95 #[.val (.int p0), .val (.long p1), .second, .val (.long p2), .second, .val (.int p3), .val (.long e1), .second, .val (.long e2), .second, .val (.int (if (p0 &&& (16 : Int32)) = (0 : Int32) then (0 : Int32) else (1 : Int32))), .val (.int (if (p0 &&& (32 : Int32)) = (0 : Int32) then (0 : Int32) else (1 : Int32))), .val (.int (if (p0 &&& (64 : Int32)) = (0 : Int32) then (0 : Int32) else (1 : Int32))), .val (.int st), .unset, .unset, .unset, .unset, .unset, .unset, .unset, .unset, .unset, .unset, .unset, .unset] [(.int (if (p0 &&& (256 : Int32)) = (0 : Int32) then (0 : Int32) else (1 : Int32)))])) (fun HJ => ?_) ?_
          · by_cases c133 : (p0 &&& (256 : Int32)) = (0 : Int32)
            · try simp only [if_pos c133] at HJ
              refine WP.if0T K at_87 ((if0 _ _).trans (teq c133).1) (by decide) (pc' := 94) (by decide) ?_
              refine WP.iconst K at_94 (v := (0 : Int32)) rfl (pc' := 95) rfl ?_
              first | exact HJ | (simp only [if_pos c133]; exact HJ)
            · try simp only [if_neg c133] at HJ
              refine WP.if0F K at_87 ((if0 _ _).trans (feq c133).1) (pc' := 90) rfl ?_
              refine WP.iconst K at_90 (v := (1 : Int32)) rfl (pc' := 91) rfl ?_
              refine WP.goto K at_91 (by decide) (pc' := 95) (by decide) ?_
              first | exact HJ | (simp only [if_neg c133]; exact HJ)
          · skip
            refine WP.istore K at_95 (L' := #[.val (.int p0), .val (.long p1), .second, .val (.long p2), .second, .val (.int p3), .val (.long e1), .second, .val (.long e2), .second, .val (.int (if (p0 &&& (16 : Int32)) = (0 : Int32) then (0 : Int32) else (1 : Int32))), .val (.int (if (p0 &&& (32 : Int32)) = (0 : Int32) then (0 : Int32) else (1 : Int32))), .val (.int (if (p0 &&& (64 : Int32)) = (0 : Int32) then (0 : Int32) else (1 : Int32))), .val (.int st), .val (.int (if (p0 &&& (256 : Int32)) = (0 : Int32) then (0 : Int32) else (1 : Int32))), .unset, .unset, .unset, .unset, .unset, .unset, .unset, .unset, .unset, .unset, .unset]) rfl (pc' := 97) rfl ?_
            refine WP.new K (w_9 hw) (w_10 hw) (w_11 hw) at_97 (k' := 1) (n' := 9) rfl rfl (by decide) (by decide) (pc' := 100) rfl fun h134 tb g134 E134 X134 D134 => ?_
            have ne_nl_tb : nl ≠ tb := fun z_ => by have q_ : @LT.lt Nat _ nl h0.size := (Ary.lt (Ary.ext OLD.2 A_nl)); have r_ : @Eq Nat nl tb := z_; omega
            have old_tb : n0 ≤ tb := by have q_ := Z0; omega
            have OLD := Old.ext OLD E134
            have Z0 := Nat.le_trans Z0 E134.1
            have O_tb : IsTb Z h134 tb .null .null .null .null (.int (0 : Int32)) .null .null (.int (0 : Int32)) (.int (0 : Int32)) := ⟨X134, D134 (O := "com/example/weir/weir/engine/TripleTable") (f := "terms") (d := "[I") (Or.inl (w_20 hw)) (ty := (.array .int)) (by decide), D134 (O := "com/example/weir/weir/engine/TripleTable") (f := "numbers") (d := "Lcom/example/weir/weir/engine/Numbers;") (Or.inr (w_40 hw)) (ty := (.object "com/example/weir/weir/engine/Numbers")) (by decide), D134 (O := "com/example/weir/weir/engine/TripleTable") (f := "index") (d := "Lcom/example/weir/weir/engine/SubjectIndex;") (Or.inl (w_87 hw)) (ty := (.object "com/example/weir/weir/engine/SubjectIndex")) (by decide), D134 (O := "com/example/weir/weir/engine/TripleTable") (f := "ends") (d := "[J") (Or.inl (w_113 hw)) (ty := (.array .long)) (by decide), D134 (O := "com/example/weir/weir/engine/TripleTable") (f := "size") (d := "I") (Or.inl (w_115 hw)) (ty := .int) (by decide), D134 (O := "com/example/weir/weir/engine/TripleTable") (f := "moves") (d := "[I") (Or.inl (w_183 hw)) (ty := (.array .int)) (by decide), D134 (O := "com/example/weir/weir/engine/TripleTable") (f := "strata") (d := "[I") (Or.inl (w_185 hw)) (ty := (.array .int)) (by decide), D134 (O := "com/example/weir/weir/engine/TripleTable") (f := "ending") (d := "I") (Or.inl (w_193 hw)) (ty := .int) (by decide), D134 (O := "com/example/weir/weir/engine/TripleTable") (f := "earliest") (d := "I") (Or.inl (w_197 hw)) (ty := .int) (by decide)⟩
            refine WP.dup K at_100 rfl (pc' := 101) rfl ?_
            have z_tb : @LT.lt Nat _ tb h134.size := IsTb.lt O_tb
            refine WP.callI K (a := tb) (argsL := []) (S := [(.ref tb)]) rfl (w_12 hw) (w_13 hw) (rm_tt w l Z a0 hw tb _ _ _ _ _ _ _ _ _ nl kL fL h134 n0 Z0 O_tb old_tb S_nl A_nl OLD) (w_14 hw) (w_11 hw) (by decide) rfl (lenOf pd_1 rfl) rfl (W := 1) rfl (by decide) (by decide) (k' := 9) (n' := 238) rfl rfl (by decide) (by decide) at_101 (pc' := 104) rfl fun v h135 hq => ?_
            obtain ⟨rfl, K0, te, nu, il, ar, si, fn, mp, en, kT, kE, ⟨s_te, s_nu, s_il, s_si, s_mp, s_en⟩, ⟨n1, n2, n3, n4, n5, n6⟩, O_tb, A_te, O_nu, O_il, O_si, F_fn, O_mp, A_en⟩ := hq
            have OLD := Old.keep OLD K0 (allS old_tb all0)
            have Z0 := Nat.le_trans Z0 K0.1
            show WP κ h135 9 238 (mkF κ.m 104 #[.val (.int p0), .val (.long p1), .second, .val (.long p2), .second, .val (.int p3), .val (.long e1), .second, .val (.long e2), .second, .val (.int (if (p0 &&& (16 : Int32)) = (0 : Int32) then (0 : Int32) else (1 : Int32))), .val (.int (if (p0 &&& (32 : Int32)) = (0 : Int32) then (0 : Int32) else (1 : Int32))), .val (.int (if (p0 &&& (64 : Int32)) = (0 : Int32) then (0 : Int32) else (1 : Int32))), .val (.int st), .val (.int (if (p0 &&& (256 : Int32)) = (0 : Int32) then (0 : Int32) else (1 : Int32))), .unset, .unset, .unset, .unset, .unset, .unset, .unset, .unset, .unset, .unset, .unset] [(.ref tb)])
            refine WP.astore K at_104 rfl (L' := #[.val (.int p0), .val (.long p1), .second, .val (.long p2), .second, .val (.int p3), .val (.long e1), .second, .val (.long e2), .second, .val (.int (if (p0 &&& (16 : Int32)) = (0 : Int32) then (0 : Int32) else (1 : Int32))), .val (.int (if (p0 &&& (32 : Int32)) = (0 : Int32) then (0 : Int32) else (1 : Int32))), .val (.int (if (p0 &&& (64 : Int32)) = (0 : Int32) then (0 : Int32) else (1 : Int32))), .val (.int st), .val (.int (if (p0 &&& (256 : Int32)) = (0 : Int32) then (0 : Int32) else (1 : Int32))), .val (.ref tb), .unset, .unset, .unset, .unset, .unset, .unset, .unset, .unset, .unset, .unset]) rfl (pc' := 106) rfl ?_
            refine WP.aload K at_106 rfl rfl (pc' := 108) rfl ?_
            refine WP.iconst K at_108 (v := (1 : Int32)) rfl (pc' := 109) rfl ?_
            refine WP.iconst K at_109 (v := (2 : Int32)) rfl (pc' := 110) rfl ?_
            refine WP.iconst K at_110 (v := (3 : Int32)) rfl (pc' := 111) rfl ?_
            refine WP.lload K at_111 rfl (pc' := 113) rfl ?_
            refine WP.callV K (a := tb) (argsL := [(.int (1 : Int32)), (.int (2 : Int32)), (.int (3 : Int32)), (.long e1)]) (S := []) (w_88 hw) (w_89 hw) (fun vm0 hZ => notFace_of_selects (args := #[]) (mvT (s := κ.s.setVm vm0) hZ (w_91 hw))) (w_91 hw) (w_90 hw) (by decide) (IsTb.exa O_tb) (rm_add w l Z a0 hw tb te nu il ar si fn mp en kT kE e1 nl kL fL h135 n0 Z0 O_tb A_te O_nu O_il O_si F_fn O_mp A_en n1 n2 n3 n4 n5 old_tb (by omega) (by omega) (by omega) (by omega) S_nl A_nl OLD) (w_92 hw) (w_11 hw) (by decide) rfl (lenOf pd_15 rfl) rfl (W := 0) rfl (by decide) (by decide) (k' := 12) (n' := 368) rfl rfl (by decide) (by decide) at_113 (pc' := 116) rfl fun v h136 hq => ?_
            obtain ⟨rfl, T_⟩ := hq
            show WP κ h136 12 368 (mkF κ.m 116 #[.val (.int p0), .val (.long p1), .second, .val (.long p2), .second, .val (.int p3), .val (.long e1), .second, .val (.long e2), .second, .val (.int (if (p0 &&& (16 : Int32)) = (0 : Int32) then (0 : Int32) else (1 : Int32))), .val (.int (if (p0 &&& (32 : Int32)) = (0 : Int32) then (0 : Int32) else (1 : Int32))), .val (.int (if (p0 &&& (64 : Int32)) = (0 : Int32) then (0 : Int32) else (1 : Int32))), .val (.int st), .val (.int (if (p0 &&& (256 : Int32)) = (0 : Int32) then (0 : Int32) else (1 : Int32))), .val (.ref tb), .unset, .unset, .unset, .unset, .unset, .unset, .unset, .unset, .unset, .unset] [(.int (0 : Int32))])
            have Z0 : n0 ≤ h136.size := Nat.le_of_lt (Nat.lt_of_le_of_lt old_tb (IsTS.lt T_))
            refine WP.istore K at_116 (L' := #[.val (.int p0), .val (.long p1), .second, .val (.long p2), .second, .val (.int p3), .val (.long e1), .second, .val (.long e2), .second, .val (.int (if (p0 &&& (16 : Int32)) = (0 : Int32) then (0 : Int32) else (1 : Int32))), .val (.int (if (p0 &&& (32 : Int32)) = (0 : Int32) then (0 : Int32) else (1 : Int32))), .val (.int (if (p0 &&& (64 : Int32)) = (0 : Int32) then (0 : Int32) else (1 : Int32))), .val (.int st), .val (.int (if (p0 &&& (256 : Int32)) = (0 : Int32) then (0 : Int32) else (1 : Int32))), .val (.ref tb), .val (.int (0 : Int32)), .unset, .unset, .unset, .unset, .unset, .unset, .unset, .unset, .unset]) rfl (pc' := 118) rfl ?_
            have C153 : ∀ (sv : Int32) (s : Bool) (h : Heap), ((sv = (0 : Int32) ∧ s = false) ∨ (sv = (1 : Int32) ∧ s = decide (¬ st = (1 : Int32)))) → IsTS Z h tb tb (decide (¬ e1 = (9223372036854775807 : Int64))) false s e1 → n0 ≤ h.size → WP κ h 13 432 (mkF κ.m 153 #[.val (.int p0), .val (.long p1), .second, .val (.long p2), .second, .val (.int p3), .val (.long e1), .second, .val (.long e2), .second, .val (.int (if (p0 &&& (16 : Int32)) = (0 : Int32) then (0 : Int32) else (1 : Int32))), .val (.int (if (p0 &&& (32 : Int32)) = (0 : Int32) then (0 : Int32) else (1 : Int32))), .val (.int (if (p0 &&& (64 : Int32)) = (0 : Int32) then (0 : Int32) else (1 : Int32))), .val (.int st), .val (.int (if (p0 &&& (256 : Int32)) = (0 : Int32) then (0 : Int32) else (1 : Int32))), .val (.ref tb), .val (.int (0 : Int32)), .val (.int sv), .unset, .unset, .unset, .unset, .unset, .unset, .unset, .unset] []) := by
              intro sv s h hs T_ Z0
              have C189 : ∀ h : Heap, IsTS Z h tb tb (((decide (¬ e1 = (9223372036854775807 : Int64))) || (!decide ((p0 &&& (16 : Int32)) = (0 : Int32)) && (decide (¬ e2 = (9223372036854775807 : Int64))))) && (decide ((p0 &&& (256 : Int32)) = (0 : Int32)) || (decide (¬ (if (p0 &&& (16 : Int32)) = (0 : Int32) then e1 else e2) = (9223372036854775807 : Int64))))) ((!decide ((p0 &&& (32 : Int32)) = (0 : Int32))) && (decide ((p0 &&& (256 : Int32)) = (0 : Int32)) || (decide (¬ (if (p0 &&& (16 : Int32)) = (0 : Int32) then e1 else e2) = (9223372036854775807 : Int64))))) (s && (decide ((p0 &&& (256 : Int32)) = (0 : Int32)) || (decide (¬ (if (p0 &&& (16 : Int32)) = (0 : Int32) then e1 else e2) = (9223372036854775807 : Int64))))) (if (p0 &&& (16 : Int32)) = (0 : Int32) then e1 else e2) → n0 ≤ h.size → WP κ h 15 560 (mkF κ.m 189 #[.val (.int p0), .val (.long p1), .second, .val (.long p2), .second, .val (.int p3), .val (.long e1), .second, .val (.long e2), .second, .val (.int (if (p0 &&& (16 : Int32)) = (0 : Int32) then (0 : Int32) else (1 : Int32))), .val (.int (if (p0 &&& (32 : Int32)) = (0 : Int32) then (0 : Int32) else (1 : Int32))), .val (.int (if (p0 &&& (64 : Int32)) = (0 : Int32) then (0 : Int32) else (1 : Int32))), .val (.int st), .val (.int (if (p0 &&& (256 : Int32)) = (0 : Int32) then (0 : Int32) else (1 : Int32))), .val (.ref tb), .val (.int (0 : Int32)), .val (.int sv), .unset, .unset, .unset, .unset, .unset, .unset, .unset, .unset] []) := by
                intro h T_ Z0
                refine WP.aload K at_189 rfl rfl (pc' := 191) rfl ?_
                refine WP.callV K (a := tb) (argsL := []) (S := []) (w_177 hw) (w_178 hw) (fun vm0 hZ => notFace_of_selects (args := #[]) (mvT (s := κ.s.setVm vm0) hZ (w_180 hw))) (w_180 hw) (w_179 hw) (by decide) (IsTS.exa T_) (rm_room w l Z a0 hw tb tb _ _ _ _ h n0 Z0 T_) (w_181 hw) (w_11 hw) (by decide) rfl (lenOf pd_5 rfl) rfl (W := 0) rfl (by decide) (by decide) (k' := 15) (n' := 560) rfl rfl (by decide) (by decide) at_191 (pc' := 194) rfl fun v h137 hq => ?_
                obtain ⟨rfl, rfl⟩ := hq
                show WP κ h 15 560 (mkF κ.m 194 #[.val (.int p0), .val (.long p1), .second, .val (.long p2), .second, .val (.int p3), .val (.long e1), .second, .val (.long e2), .second, .val (.int (if (p0 &&& (16 : Int32)) = (0 : Int32) then (0 : Int32) else (1 : Int32))), .val (.int (if (p0 &&& (32 : Int32)) = (0 : Int32) then (0 : Int32) else (1 : Int32))), .val (.int (if (p0 &&& (64 : Int32)) = (0 : Int32) then (0 : Int32) else (1 : Int32))), .val (.int st), .val (.int (if (p0 &&& (256 : Int32)) = (0 : Int32) then (0 : Int32) else (1 : Int32))), .val (.ref tb), .val (.int (0 : Int32)), .val (.int sv), .unset, .unset, .unset, .unset, .unset, .unset, .unset, .unset] [(.int (own_room (((decide (¬ e1 = (9223372036854775807 : Int64))) || (!decide ((p0 &&& (16 : Int32)) = (0 : Int32)) && (decide (¬ e2 = (9223372036854775807 : Int64))))) && (decide ((p0 &&& (256 : Int32)) = (0 : Int32)) || (decide (¬ (if (p0 &&& (16 : Int32)) = (0 : Int32) then e1 else e2) = (9223372036854775807 : Int64))))) ((!decide ((p0 &&& (32 : Int32)) = (0 : Int32))) && (decide ((p0 &&& (256 : Int32)) = (0 : Int32)) || (decide (¬ (if (p0 &&& (16 : Int32)) = (0 : Int32) then e1 else e2) = (9223372036854775807 : Int64))))) (s && (decide ((p0 &&& (256 : Int32)) = (0 : Int32)) || (decide (¬ (if (p0 &&& (16 : Int32)) = (0 : Int32) then e1 else e2) = (9223372036854775807 : Int64)))))))])
                have HL := own_law2 ((p0 &&& (16 : Int32)) = (0 : Int32)) ((p0 &&& (32 : Int32)) = (0 : Int32)) ((p0 &&& (256 : Int32)) = (0 : Int32)) e1 e2 sv st s hs
                refine WP.istore K at_194 (L' := #[.val (.int p0), .val (.long p1), .second, .val (.long p2), .second, .val (.int p3), .val (.long e1), .second, .val (.long e2), .second, .val (.int (if (p0 &&& (16 : Int32)) = (0 : Int32) then (0 : Int32) else (1 : Int32))), .val (.int (if (p0 &&& (32 : Int32)) = (0 : Int32) then (0 : Int32) else (1 : Int32))), .val (.int (if (p0 &&& (64 : Int32)) = (0 : Int32) then (0 : Int32) else (1 : Int32))), .val (.int st), .val (.int (if (p0 &&& (256 : Int32)) = (0 : Int32) then (0 : Int32) else (1 : Int32))), .val (.ref tb), .val (.int (0 : Int32)), .val (.int sv), .val (.int (own_room (((decide (¬ e1 = (9223372036854775807 : Int64))) || (!decide ((p0 &&& (16 : Int32)) = (0 : Int32)) && (decide (¬ e2 = (9223372036854775807 : Int64))))) && (decide ((p0 &&& (256 : Int32)) = (0 : Int32)) || (decide (¬ (if (p0 &&& (16 : Int32)) = (0 : Int32) then e1 else e2) = (9223372036854775807 : Int64))))) ((!decide ((p0 &&& (32 : Int32)) = (0 : Int32))) && (decide ((p0 &&& (256 : Int32)) = (0 : Int32)) || (decide (¬ (if (p0 &&& (16 : Int32)) = (0 : Int32) then e1 else e2) = (9223372036854775807 : Int64))))) (s && (decide ((p0 &&& (256 : Int32)) = (0 : Int32)) || (decide (¬ (if (p0 &&& (16 : Int32)) = (0 : Int32) then e1 else e2) = (9223372036854775807 : Int64))))))), .unset, .unset, .unset, .unset, .unset, .unset, .unset]) rfl (pc' := 196) rfl ?_
                generalize e_got : (own_room (((decide (¬ e1 = (9223372036854775807 : Int64))) || (!decide ((p0 &&& (16 : Int32)) = (0 : Int32)) && (decide (¬ e2 = (9223372036854775807 : Int64))))) && (decide ((p0 &&& (256 : Int32)) = (0 : Int32)) || (decide (¬ (if (p0 &&& (16 : Int32)) = (0 : Int32) then e1 else e2) = (9223372036854775807 : Int64))))) ((!decide ((p0 &&& (32 : Int32)) = (0 : Int32))) && (decide ((p0 &&& (256 : Int32)) = (0 : Int32)) || (decide (¬ (if (p0 &&& (16 : Int32)) = (0 : Int32) then e1 else e2) = (9223372036854775807 : Int64))))) (s && (decide ((p0 &&& (256 : Int32)) = (0 : Int32)) || (decide (¬ (if (p0 &&& (16 : Int32)) = (0 : Int32) then e1 else e2) = (9223372036854775807 : Int64)))))) = got at HL ⊢
                refine WP.aload K at_196 rfl rfl (pc' := 198) rfl ?_
                refine WP.callV K (a := tb) (argsL := []) (S := []) (w_186 hw) (w_117 hw) (fun vm0 hZ => notFace_of_selects (args := #[]) (mvT (s := κ.s.setVm vm0) hZ (w_119 hw))) (w_119 hw) (w_118 hw) (by decide) (IsTS.exa T_) (rm_tcap w l Z a0 hw tb tb _ _ _ _ h n0 Z0 T_) (w_120 hw) (w_11 hw) (by decide) rfl (lenOf pd_5 rfl) rfl (W := 0) rfl (by decide) (by decide) (k' := 15) (n' := 560) rfl rfl (by decide) (by decide) at_198 (pc' := 201) rfl fun v h138 hq => ?_
                obtain ⟨rfl, rfl⟩ := hq
                show WP κ h 15 560 (mkF κ.m 201 #[.val (.int p0), .val (.long p1), .second, .val (.long p2), .second, .val (.int p3), .val (.long e1), .second, .val (.long e2), .second, .val (.int (if (p0 &&& (16 : Int32)) = (0 : Int32) then (0 : Int32) else (1 : Int32))), .val (.int (if (p0 &&& (32 : Int32)) = (0 : Int32) then (0 : Int32) else (1 : Int32))), .val (.int (if (p0 &&& (64 : Int32)) = (0 : Int32) then (0 : Int32) else (1 : Int32))), .val (.int st), .val (.int (if (p0 &&& (256 : Int32)) = (0 : Int32) then (0 : Int32) else (1 : Int32))), .val (.ref tb), .val (.int (0 : Int32)), .val (.int sv), .val (.int got), .unset, .unset, .unset, .unset, .unset, .unset, .unset] [(.int (64 : Int32))])
                refine WP.istore K at_201 (L' := #[.val (.int p0), .val (.long p1), .second, .val (.long p2), .second, .val (.int p3), .val (.long e1), .second, .val (.long e2), .second, .val (.int (if (p0 &&& (16 : Int32)) = (0 : Int32) then (0 : Int32) else (1 : Int32))), .val (.int (if (p0 &&& (32 : Int32)) = (0 : Int32) then (0 : Int32) else (1 : Int32))), .val (.int (if (p0 &&& (64 : Int32)) = (0 : Int32) then (0 : Int32) else (1 : Int32))), .val (.int st), .val (.int (if (p0 &&& (256 : Int32)) = (0 : Int32) then (0 : Int32) else (1 : Int32))), .val (.ref tb), .val (.int (0 : Int32)), .val (.int sv), .val (.int got), .val (.int (64 : Int32)), .unset, .unset, .unset, .unset, .unset, .unset]) rfl (pc' := 203) rfl ?_
                refine WP.iload K at_203 rfl (pc' := 205) rfl ?_
                refine WP.meet (g' := (mkF κ.m 215 #[.val (.int p0), .val (.long p1), .second, .val (.long p2), .second, .val (.int p3), .val (.long e1), .second, .val (.long e2), .second, .val (.int (if (p0 &&& (16 : Int32)) = (0 : Int32) then (0 : Int32) else (1 : Int32))), .val (.int (if (p0 &&& (32 : Int32)) = (0 : Int32) then (0 : Int32) else (1 : Int32))), .val (.int (if (p0 &&& (64 : Int32)) = (0 : Int32) then (0 : Int32) else (1 : Int32))), .val (.int st), .val (.int (if (p0 &&& (256 : Int32)) = (0 : Int32) then (0 : Int32) else (1 : Int32))), .val (.ref tb), .val (.int (0 : Int32)), .val (.int sv), .val (.int got), .val (.int (64 : Int32)), .unset, .unset, .unset, .unset, .unset, .unset] [(.long (if (p0 &&& (16 : Int32)) = (0 : Int32) then e1 else e2))])) (fun HJ => ?_) ?_
                · by_cases c139 : (p0 &&& (16 : Int32)) = (0 : Int32)
                  · try simp only [if_pos c139] at HJ
                    refine WP.if0T K at_205 (by rw [if_pos c139]; decide) (by decide) (pc' := 213) (by decide) ?_
                    refine WP.lload K at_213 rfl (pc' := 215) rfl ?_
                    first | exact HJ | (simp only [if_pos c139]; exact HJ)
                  · try simp only [if_neg c139] at HJ
                    refine WP.if0F K at_205 (by rw [if_neg c139]; decide) (pc' := 208) rfl ?_
                    refine WP.lload K at_208 rfl (pc' := 210) rfl ?_
                    refine WP.goto K at_210 (by decide) (pc' := 215) (by decide) ?_
                    first | exact HJ | (simp only [if_neg c139]; exact HJ)
                · skip
                  refine WP.lstore K at_215 (L' := #[.val (.int p0), .val (.long p1), .second, .val (.long p2), .second, .val (.int p3), .val (.long e1), .second, .val (.long e2), .second, .val (.int (if (p0 &&& (16 : Int32)) = (0 : Int32) then (0 : Int32) else (1 : Int32))), .val (.int (if (p0 &&& (32 : Int32)) = (0 : Int32) then (0 : Int32) else (1 : Int32))), .val (.int (if (p0 &&& (64 : Int32)) = (0 : Int32) then (0 : Int32) else (1 : Int32))), .val (.int st), .val (.int (if (p0 &&& (256 : Int32)) = (0 : Int32) then (0 : Int32) else (1 : Int32))), .val (.ref tb), .val (.int (0 : Int32)), .val (.int sv), .val (.int got), .val (.int (64 : Int32)), .val (.long (if (p0 &&& (16 : Int32)) = (0 : Int32) then e1 else e2)), .second, .unset, .unset, .unset, .unset]) rfl (pc' := 217) rfl ?_
                  generalize e_fin : (if (p0 &&& (16 : Int32)) = (0 : Int32) then e1 else e2) = fin at HL ⊢
                  refine WP.lload K at_217 rfl (pc' := 219) rfl ?_
                  refine WP.ldc2J K (w_4 hw) at_219 (pc' := 222) rfl ?_
                  refine WP.lcmp K at_222 (pc' := 223) rfl ?_
                  refine WP.meet (g' := (mkF κ.m 245 #[.val (.int p0), .val (.long p1), .second, .val (.long p2), .second, .val (.int p3), .val (.long e1), .second, .val (.long e2), .second, .val (.int (if (p0 &&& (16 : Int32)) = (0 : Int32) then (0 : Int32) else (1 : Int32))), .val (.int (if (p0 &&& (32 : Int32)) = (0 : Int32) then (0 : Int32) else (1 : Int32))), .val (.int (if (p0 &&& (64 : Int32)) = (0 : Int32) then (0 : Int32) else (1 : Int32))), .val (.int st), .val (.int (if (p0 &&& (256 : Int32)) = (0 : Int32) then (0 : Int32) else (1 : Int32))), .val (.ref tb), .val (.int (0 : Int32)), .val (.int sv), .val (.int got), .val (.int (64 : Int32)), .val (.long fin), .second, .unset, .unset, .unset, .unset] [(.int (if e1 = (9223372036854775807 : Int64) then (if (p0 &&& (16 : Int32)) = (0 : Int32) then (0 : Int32) else (if e2 = (9223372036854775807 : Int64) then (0 : Int32) else (1 : Int32))) else (1 : Int32)))])) (fun HJ => ?_) ?_
                  · by_cases c140 : e1 = (9223372036854775807 : Int64)
                    · try simp only [if_pos c140] at HJ
                      refine WP.if0F K at_223 ((if0 _ _).trans (teq ((lw_eq _ _).mpr c140)).2) (pc' := 226) rfl ?_
                      refine WP.iload K at_226 rfl (pc' := 228) rfl ?_
                      by_cases c141 : (p0 &&& (16 : Int32)) = (0 : Int32)
                      · try simp only [if_pos c141] at HJ
                        refine WP.if0T K at_228 (by rw [if_pos c141]; decide) (by decide) (pc' := 244) (by decide) ?_
                        refine WP.iconst K at_244 (v := (0 : Int32)) rfl (pc' := 245) rfl ?_
                        first | exact HJ | (simp only [if_pos c140, if_pos c141]; exact HJ)
                      · try simp only [if_neg c141] at HJ
                        refine WP.if0F K at_228 (by rw [if_neg c141]; decide) (pc' := 231) rfl ?_
                        refine WP.lload K at_231 rfl (pc' := 233) rfl ?_
                        refine WP.ldc2J K (w_4 hw) at_233 (pc' := 236) rfl ?_
                        refine WP.lcmp K at_236 (pc' := 237) rfl ?_
                        by_cases c142 : e2 = (9223372036854775807 : Int64)
                        · try simp only [if_pos c142] at HJ
                          refine WP.if0T K at_237 ((if0 _ _).trans (teq ((lw_eq _ _).mpr c142)).1) (by decide) (pc' := 244) (by decide) ?_
                          refine WP.iconst K at_244 (v := (0 : Int32)) rfl (pc' := 245) rfl ?_
                          first | exact HJ | (simp only [if_pos c140, if_neg c141, if_pos c142]; exact HJ)
                        · try simp only [if_neg c142] at HJ
                          refine WP.if0F K at_237 ((if0 _ _).trans (feq (fun q => c142 ((lw_eq _ _).mp q))).1) (pc' := 240) rfl ?_
                          refine WP.iconst K at_240 (v := (1 : Int32)) rfl (pc' := 241) rfl ?_
                          refine WP.goto K at_241 (by decide) (pc' := 245) (by decide) ?_
                          first | exact HJ | (simp only [if_pos c140, if_neg c141, if_neg c142]; exact HJ)
                    · try simp only [if_neg c140] at HJ
                      refine WP.if0T K at_223 ((if0 _ _).trans (feq (fun q => c140 ((lw_eq _ _).mp q))).2) (by decide) (pc' := 240) (by decide) ?_
                      refine WP.iconst K at_240 (v := (1 : Int32)) rfl (pc' := 241) rfl ?_
                      refine WP.goto K at_241 (by decide) (pc' := 245) (by decide) ?_
                      first | exact HJ | (simp only [if_neg c140]; exact HJ)
                  · skip
                    refine WP.istore K at_245 (L' := #[.val (.int p0), .val (.long p1), .second, .val (.long p2), .second, .val (.int p3), .val (.long e1), .second, .val (.long e2), .second, .val (.int (if (p0 &&& (16 : Int32)) = (0 : Int32) then (0 : Int32) else (1 : Int32))), .val (.int (if (p0 &&& (32 : Int32)) = (0 : Int32) then (0 : Int32) else (1 : Int32))), .val (.int (if (p0 &&& (64 : Int32)) = (0 : Int32) then (0 : Int32) else (1 : Int32))), .val (.int st), .val (.int (if (p0 &&& (256 : Int32)) = (0 : Int32) then (0 : Int32) else (1 : Int32))), .val (.ref tb), .val (.int (0 : Int32)), .val (.int sv), .val (.int got), .val (.int (64 : Int32)), .val (.long fin), .second, .val (.int (if e1 = (9223372036854775807 : Int64) then (if (p0 &&& (16 : Int32)) = (0 : Int32) then (0 : Int32) else (if e2 = (9223372036854775807 : Int64) then (0 : Int32) else (1 : Int32))) else (1 : Int32))), .unset, .unset, .unset]) rfl (pc' := 247) rfl ?_
                    generalize e_v22 : (if e1 = (9223372036854775807 : Int64) then (if (p0 &&& (16 : Int32)) = (0 : Int32) then (0 : Int32) else (if e2 = (9223372036854775807 : Int64) then (0 : Int32) else (1 : Int32))) else (1 : Int32)) = v22 at HL ⊢
                    refine WP.iload K at_247 rfl (pc' := 249) rfl ?_
                    refine WP.meet (g' := (mkF κ.m 263 #[.val (.int p0), .val (.long p1), .second, .val (.long p2), .second, .val (.int p3), .val (.long e1), .second, .val (.long e2), .second, .val (.int (if (p0 &&& (16 : Int32)) = (0 : Int32) then (0 : Int32) else (1 : Int32))), .val (.int (if (p0 &&& (32 : Int32)) = (0 : Int32) then (0 : Int32) else (1 : Int32))), .val (.int (if (p0 &&& (64 : Int32)) = (0 : Int32) then (0 : Int32) else (1 : Int32))), .val (.int st), .val (.int (if (p0 &&& (256 : Int32)) = (0 : Int32) then (0 : Int32) else (1 : Int32))), .val (.ref tb), .val (.int (0 : Int32)), .val (.int sv), .val (.int got), .val (.int (64 : Int32)), .val (.long fin), .second, .val (.int v22), .unset, .unset, .unset] [(.int (if sv = (0 : Int32) then (0 : Int32) else (if st = (1 : Int32) then (0 : Int32) else (1 : Int32))))])) (fun HJ => ?_) ?_
                    · by_cases c143 : sv = (0 : Int32)
                      · try simp only [if_pos c143] at HJ
                        refine WP.if0T K at_249 ((if0 _ _).trans (teq c143).1) (by decide) (pc' := 262) (by decide) ?_
                        refine WP.iconst K at_262 (v := (0 : Int32)) rfl (pc' := 263) rfl ?_
                        first | exact HJ | (simp only [if_pos c143]; exact HJ)
                      · try simp only [if_neg c143] at HJ
                        refine WP.if0F K at_249 ((if0 _ _).trans (feq c143).1) (pc' := 252) rfl ?_
                        refine WP.iload K at_252 rfl (pc' := 254) rfl ?_
                        refine WP.iconst K at_254 (v := (1 : Int32)) rfl (pc' := 255) rfl ?_
                        by_cases c144 : st = (1 : Int32)
                        · try simp only [if_pos c144] at HJ
                          refine WP.icmpT K at_255 (teq c144).1 (by decide) (pc' := 262) (by decide) ?_
                          refine WP.iconst K at_262 (v := (0 : Int32)) rfl (pc' := 263) rfl ?_
                          first | exact HJ | (simp only [if_neg c143, if_pos c144]; exact HJ)
                        · try simp only [if_neg c144] at HJ
                          refine WP.icmpF K at_255 (feq c144).1 (pc' := 258) rfl ?_
                          refine WP.iconst K at_258 (v := (1 : Int32)) rfl (pc' := 259) rfl ?_
                          refine WP.goto K at_259 (by decide) (pc' := 263) (by decide) ?_
                          first | exact HJ | (simp only [if_neg c143, if_neg c144]; exact HJ)
                    · skip
                      refine WP.istore K at_263 (L' := #[.val (.int p0), .val (.long p1), .second, .val (.long p2), .second, .val (.int p3), .val (.long e1), .second, .val (.long e2), .second, .val (.int (if (p0 &&& (16 : Int32)) = (0 : Int32) then (0 : Int32) else (1 : Int32))), .val (.int (if (p0 &&& (32 : Int32)) = (0 : Int32) then (0 : Int32) else (1 : Int32))), .val (.int (if (p0 &&& (64 : Int32)) = (0 : Int32) then (0 : Int32) else (1 : Int32))), .val (.int st), .val (.int (if (p0 &&& (256 : Int32)) = (0 : Int32) then (0 : Int32) else (1 : Int32))), .val (.ref tb), .val (.int (0 : Int32)), .val (.int sv), .val (.int got), .val (.int (64 : Int32)), .val (.long fin), .second, .val (.int v22), .val (.int (if sv = (0 : Int32) then (0 : Int32) else (if st = (1 : Int32) then (0 : Int32) else (1 : Int32)))), .unset, .unset]) rfl (pc' := 265) rfl ?_
                      generalize e_v23 : (if sv = (0 : Int32) then (0 : Int32) else (if st = (1 : Int32) then (0 : Int32) else (1 : Int32))) = v23 at HL ⊢
                      refine WP.iload K at_265 rfl (pc' := 267) rfl ?_
                      refine WP.meet (g' := (mkF κ.m 284 #[.val (.int p0), .val (.long p1), .second, .val (.long p2), .second, .val (.int p3), .val (.long e1), .second, .val (.long e2), .second, .val (.int (if (p0 &&& (16 : Int32)) = (0 : Int32) then (0 : Int32) else (1 : Int32))), .val (.int (if (p0 &&& (32 : Int32)) = (0 : Int32) then (0 : Int32) else (1 : Int32))), .val (.int (if (p0 &&& (64 : Int32)) = (0 : Int32) then (0 : Int32) else (1 : Int32))), .val (.int st), .val (.int (if (p0 &&& (256 : Int32)) = (0 : Int32) then (0 : Int32) else (1 : Int32))), .val (.ref tb), .val (.int (0 : Int32)), .val (.int sv), .val (.int got), .val (.int (64 : Int32)), .val (.long fin), .second, .val (.int v22), .val (.int v23), .unset, .unset] [(.int (if (p0 &&& (256 : Int32)) = (0 : Int32) then (0 : Int32) else (if fin = (9223372036854775807 : Int64) then (1 : Int32) else (0 : Int32))))])) (fun HJ => ?_) ?_
                      · by_cases c145 : (p0 &&& (256 : Int32)) = (0 : Int32)
                        · try simp only [if_pos c145] at HJ
                          refine WP.if0T K at_267 (by rw [if_pos c145]; decide) (by decide) (pc' := 283) (by decide) ?_
                          refine WP.iconst K at_283 (v := (0 : Int32)) rfl (pc' := 284) rfl ?_
                          first | exact HJ | (simp only [if_pos c145]; exact HJ)
                        · try simp only [if_neg c145] at HJ
                          refine WP.if0F K at_267 (by rw [if_neg c145]; decide) (pc' := 270) rfl ?_
                          refine WP.lload K at_270 rfl (pc' := 272) rfl ?_
                          refine WP.ldc2J K (w_4 hw) at_272 (pc' := 275) rfl ?_
                          refine WP.lcmp K at_275 (pc' := 276) rfl ?_
                          by_cases c146 : fin = (9223372036854775807 : Int64)
                          · try simp only [if_pos c146] at HJ
                            refine WP.if0F K at_276 ((if0 _ _).trans (teq ((lw_eq _ _).mpr c146)).2) (pc' := 279) rfl ?_
                            refine WP.iconst K at_279 (v := (1 : Int32)) rfl (pc' := 280) rfl ?_
                            refine WP.goto K at_280 (by decide) (pc' := 284) (by decide) ?_
                            first | exact HJ | (simp only [if_neg c145, if_pos c146]; exact HJ)
                          · try simp only [if_neg c146] at HJ
                            refine WP.if0T K at_276 ((if0 _ _).trans (feq (fun q => c146 ((lw_eq _ _).mp q))).2) (by decide) (pc' := 283) (by decide) ?_
                            refine WP.iconst K at_283 (v := (0 : Int32)) rfl (pc' := 284) rfl ?_
                            first | exact HJ | (simp only [if_neg c145, if_neg c146]; exact HJ)
                      · skip
                        refine WP.istore K at_284 (L' := #[.val (.int p0), .val (.long p1), .second, .val (.long p2), .second, .val (.int p3), .val (.long e1), .second, .val (.long e2), .second, .val (.int (if (p0 &&& (16 : Int32)) = (0 : Int32) then (0 : Int32) else (1 : Int32))), .val (.int (if (p0 &&& (32 : Int32)) = (0 : Int32) then (0 : Int32) else (1 : Int32))), .val (.int (if (p0 &&& (64 : Int32)) = (0 : Int32) then (0 : Int32) else (1 : Int32))), .val (.int st), .val (.int (if (p0 &&& (256 : Int32)) = (0 : Int32) then (0 : Int32) else (1 : Int32))), .val (.ref tb), .val (.int (0 : Int32)), .val (.int sv), .val (.int got), .val (.int (64 : Int32)), .val (.long fin), .second, .val (.int v22), .val (.int v23), .val (.int (if (p0 &&& (256 : Int32)) = (0 : Int32) then (0 : Int32) else (if fin = (9223372036854775807 : Int64) then (1 : Int32) else (0 : Int32)))), .unset]) rfl (pc' := 286) rfl ?_
                        generalize e_v24 : (if (p0 &&& (256 : Int32)) = (0 : Int32) then (0 : Int32) else (if fin = (9223372036854775807 : Int64) then (1 : Int32) else (0 : Int32))) = v24 at HL ⊢
                        refine WP.iconst K at_286 (v := (0 : Int32)) rfl (pc' := 287) rfl ?_
                        refine WP.istore K at_287 (L' := #[.val (.int p0), .val (.long p1), .second, .val (.long p2), .second, .val (.int p3), .val (.long e1), .second, .val (.long e2), .second, .val (.int (if (p0 &&& (16 : Int32)) = (0 : Int32) then (0 : Int32) else (1 : Int32))), .val (.int (if (p0 &&& (32 : Int32)) = (0 : Int32) then (0 : Int32) else (1 : Int32))), .val (.int (if (p0 &&& (64 : Int32)) = (0 : Int32) then (0 : Int32) else (1 : Int32))), .val (.int st), .val (.int (if (p0 &&& (256 : Int32)) = (0 : Int32) then (0 : Int32) else (1 : Int32))), .val (.ref tb), .val (.int (0 : Int32)), .val (.int sv), .val (.int got), .val (.int (64 : Int32)), .val (.long fin), .second, .val (.int v22), .val (.int v23), .val (.int v24), .val (.int (0 : Int32))]) rfl (pc' := 289) rfl ?_
                        refine WP.iload K at_289 rfl (pc' := 291) rfl ?_
                        by_cases c24 : v24 = (0 : Int32)
                        · refine WP.if0F K at_291 ((if0 _ _).trans (teq c24).2) (pc' := 294) rfl ?_
                          refine WP.iload K at_294 rfl (pc' := 296) rfl ?_
                          by_cases c22 : v22 = (0 : Int32)
                          · refine WP.if0T K at_296 ((if0 _ _).trans (teq c22).1) (by decide) (pc' := 309) (by decide) ?_
                            refine WP.iload K at_309 rfl (pc' := 311) rfl ?_
                            by_cases c32 : (p0 &&& (32 : Int32)) = (0 : Int32)
                            · refine WP.if0T K at_311 (by rw [if_pos c32]; decide) (by decide) (pc' := 323) (by decide) ?_
                              refine WP.iload K at_323 rfl (pc' := 325) rfl ?_
                              by_cases c23 : v23 = (0 : Int32)
                              · refine WP.if0T K at_325 ((if0 _ _).trans (teq c23).1) (by decide) (pc' := 337) (by decide) ?_
                                refine WP.iload K at_337 rfl (pc' := 339) rfl ?_
                                refine WP.bipush K at_339 (v := (64 : Int32)) rfl (pc' := 341) rfl ?_
                                refine WP.icmpF K at_341 (by decide) (pc' := 344) rfl ?_
                                refine WP.iload K at_344 rfl (pc' := 346) rfl ?_
                                refine WP.iload K at_346 rfl (pc' := 348) rfl ?_
                                have cg : got = (0 : Int32) := (HL.2 c24).trans (by rw [if_pos c22, if_pos c32, if_pos c23]; decide)
                                refine WP.icmpF K at_348 (teq cg).2 (pc' := 351) rfl ?_
                                refine WP.iconst K at_351 (v := (1 : Int32)) rfl (pc' := 352) rfl ?_
                                refine WP.goto K at_352 (by decide) (pc' := 356) (by decide) ?_
                                exact WP.retN K (ty := .boolean) (by decide) at_356 (by decide) (by decide) rfl
                              · refine WP.if0F K at_325 ((if0 _ _).trans (feq c23).1) (pc' := 328) rfl ?_
                                refine WP.iload K at_328 rfl (pc' := 330) rfl ?_
                                refine WP.iconst K at_330 (v := (4 : Int32)) rfl (pc' := 331) rfl ?_
                                refine WP.iload K at_331 rfl (pc' := 333) rfl ?_
                                refine WP.imul K at_333 (pc' := 334) rfl ?_
                                show WP κ h 15 560 (mkF κ.m 334 #[.val (.int p0), .val (.long p1), .second, .val (.long p2), .second, .val (.int p3), .val (.long e1), .second, .val (.long e2), .second, .val (.int (if (p0 &&& (16 : Int32)) = (0 : Int32) then (0 : Int32) else (1 : Int32))), .val (.int (if (p0 &&& (32 : Int32)) = (0 : Int32) then (0 : Int32) else (1 : Int32))), .val (.int (if (p0 &&& (64 : Int32)) = (0 : Int32) then (0 : Int32) else (1 : Int32))), .val (.int st), .val (.int (if (p0 &&& (256 : Int32)) = (0 : Int32) then (0 : Int32) else (1 : Int32))), .val (.ref tb), .val (.int (0 : Int32)), .val (.int sv), .val (.int got), .val (.int (64 : Int32)), .val (.long fin), .second, .val (.int v22), .val (.int v23), .val (.int v24), .val (.int (0 : Int32))] [(.int (256 : Int32)), (.int (0 : Int32))])
                                refine WP.iadd K at_334 (pc' := 335) rfl ?_
                                show WP κ h 15 560 (mkF κ.m 335 #[.val (.int p0), .val (.long p1), .second, .val (.long p2), .second, .val (.int p3), .val (.long e1), .second, .val (.long e2), .second, .val (.int (if (p0 &&& (16 : Int32)) = (0 : Int32) then (0 : Int32) else (1 : Int32))), .val (.int (if (p0 &&& (32 : Int32)) = (0 : Int32) then (0 : Int32) else (1 : Int32))), .val (.int (if (p0 &&& (64 : Int32)) = (0 : Int32) then (0 : Int32) else (1 : Int32))), .val (.int st), .val (.int (if (p0 &&& (256 : Int32)) = (0 : Int32) then (0 : Int32) else (1 : Int32))), .val (.ref tb), .val (.int (0 : Int32)), .val (.int sv), .val (.int got), .val (.int (64 : Int32)), .val (.long fin), .second, .val (.int v22), .val (.int v23), .val (.int v24), .val (.int (0 : Int32))] [(.int (256 : Int32))])
                                refine WP.istore K at_335 (L' := #[.val (.int p0), .val (.long p1), .second, .val (.long p2), .second, .val (.int p3), .val (.long e1), .second, .val (.long e2), .second, .val (.int (if (p0 &&& (16 : Int32)) = (0 : Int32) then (0 : Int32) else (1 : Int32))), .val (.int (if (p0 &&& (32 : Int32)) = (0 : Int32) then (0 : Int32) else (1 : Int32))), .val (.int (if (p0 &&& (64 : Int32)) = (0 : Int32) then (0 : Int32) else (1 : Int32))), .val (.int st), .val (.int (if (p0 &&& (256 : Int32)) = (0 : Int32) then (0 : Int32) else (1 : Int32))), .val (.ref tb), .val (.int (0 : Int32)), .val (.int sv), .val (.int got), .val (.int (64 : Int32)), .val (.long fin), .second, .val (.int v22), .val (.int v23), .val (.int v24), .val (.int (256 : Int32))]) rfl (pc' := 337) rfl ?_
                                refine WP.iload K at_337 rfl (pc' := 339) rfl ?_
                                refine WP.bipush K at_339 (v := (64 : Int32)) rfl (pc' := 341) rfl ?_
                                refine WP.icmpF K at_341 (by decide) (pc' := 344) rfl ?_
                                refine WP.iload K at_344 rfl (pc' := 346) rfl ?_
                                refine WP.iload K at_346 rfl (pc' := 348) rfl ?_
                                have cg : got = (256 : Int32) := (HL.2 c24).trans (by rw [if_pos c22, if_pos c32, if_neg c23]; decide)
                                refine WP.icmpF K at_348 (teq cg).2 (pc' := 351) rfl ?_
                                refine WP.iconst K at_351 (v := (1 : Int32)) rfl (pc' := 352) rfl ?_
                                refine WP.goto K at_352 (by decide) (pc' := 356) (by decide) ?_
                                exact WP.retN K (ty := .boolean) (by decide) at_356 (by decide) (by decide) rfl
                            · refine WP.if0F K at_311 (by rw [if_neg c32]; decide) (pc' := 314) rfl ?_
                              refine WP.iload K at_314 rfl (pc' := 316) rfl ?_
                              refine WP.iconst K at_316 (v := (4 : Int32)) rfl (pc' := 317) rfl ?_
                              refine WP.iload K at_317 rfl (pc' := 319) rfl ?_
                              refine WP.imul K at_319 (pc' := 320) rfl ?_
                              show WP κ h 15 560 (mkF κ.m 320 #[.val (.int p0), .val (.long p1), .second, .val (.long p2), .second, .val (.int p3), .val (.long e1), .second, .val (.long e2), .second, .val (.int (if (p0 &&& (16 : Int32)) = (0 : Int32) then (0 : Int32) else (1 : Int32))), .val (.int (if (p0 &&& (32 : Int32)) = (0 : Int32) then (0 : Int32) else (1 : Int32))), .val (.int (if (p0 &&& (64 : Int32)) = (0 : Int32) then (0 : Int32) else (1 : Int32))), .val (.int st), .val (.int (if (p0 &&& (256 : Int32)) = (0 : Int32) then (0 : Int32) else (1 : Int32))), .val (.ref tb), .val (.int (0 : Int32)), .val (.int sv), .val (.int got), .val (.int (64 : Int32)), .val (.long fin), .second, .val (.int v22), .val (.int v23), .val (.int v24), .val (.int (0 : Int32))] [(.int (256 : Int32)), (.int (0 : Int32))])
                              refine WP.iadd K at_320 (pc' := 321) rfl ?_
                              show WP κ h 15 560 (mkF κ.m 321 #[.val (.int p0), .val (.long p1), .second, .val (.long p2), .second, .val (.int p3), .val (.long e1), .second, .val (.long e2), .second, .val (.int (if (p0 &&& (16 : Int32)) = (0 : Int32) then (0 : Int32) else (1 : Int32))), .val (.int (if (p0 &&& (32 : Int32)) = (0 : Int32) then (0 : Int32) else (1 : Int32))), .val (.int (if (p0 &&& (64 : Int32)) = (0 : Int32) then (0 : Int32) else (1 : Int32))), .val (.int st), .val (.int (if (p0 &&& (256 : Int32)) = (0 : Int32) then (0 : Int32) else (1 : Int32))), .val (.ref tb), .val (.int (0 : Int32)), .val (.int sv), .val (.int got), .val (.int (64 : Int32)), .val (.long fin), .second, .val (.int v22), .val (.int v23), .val (.int v24), .val (.int (0 : Int32))] [(.int (256 : Int32))])
                              refine WP.istore K at_321 (L' := #[.val (.int p0), .val (.long p1), .second, .val (.long p2), .second, .val (.int p3), .val (.long e1), .second, .val (.long e2), .second, .val (.int (if (p0 &&& (16 : Int32)) = (0 : Int32) then (0 : Int32) else (1 : Int32))), .val (.int (if (p0 &&& (32 : Int32)) = (0 : Int32) then (0 : Int32) else (1 : Int32))), .val (.int (if (p0 &&& (64 : Int32)) = (0 : Int32) then (0 : Int32) else (1 : Int32))), .val (.int st), .val (.int (if (p0 &&& (256 : Int32)) = (0 : Int32) then (0 : Int32) else (1 : Int32))), .val (.ref tb), .val (.int (0 : Int32)), .val (.int sv), .val (.int got), .val (.int (64 : Int32)), .val (.long fin), .second, .val (.int v22), .val (.int v23), .val (.int v24), .val (.int (256 : Int32))]) rfl (pc' := 323) rfl ?_
                              refine WP.iload K at_323 rfl (pc' := 325) rfl ?_
                              by_cases c23 : v23 = (0 : Int32)
                              · refine WP.if0T K at_325 ((if0 _ _).trans (teq c23).1) (by decide) (pc' := 337) (by decide) ?_
                                refine WP.iload K at_337 rfl (pc' := 339) rfl ?_
                                refine WP.bipush K at_339 (v := (64 : Int32)) rfl (pc' := 341) rfl ?_
                                refine WP.icmpF K at_341 (by decide) (pc' := 344) rfl ?_
                                refine WP.iload K at_344 rfl (pc' := 346) rfl ?_
                                refine WP.iload K at_346 rfl (pc' := 348) rfl ?_
                                have cg : got = (256 : Int32) := (HL.2 c24).trans (by rw [if_pos c22, if_neg c32, if_pos c23]; decide)
                                refine WP.icmpF K at_348 (teq cg).2 (pc' := 351) rfl ?_
                                refine WP.iconst K at_351 (v := (1 : Int32)) rfl (pc' := 352) rfl ?_
                                refine WP.goto K at_352 (by decide) (pc' := 356) (by decide) ?_
                                exact WP.retN K (ty := .boolean) (by decide) at_356 (by decide) (by decide) rfl
                              · refine WP.if0F K at_325 ((if0 _ _).trans (feq c23).1) (pc' := 328) rfl ?_
                                refine WP.iload K at_328 rfl (pc' := 330) rfl ?_
                                refine WP.iconst K at_330 (v := (4 : Int32)) rfl (pc' := 331) rfl ?_
                                refine WP.iload K at_331 rfl (pc' := 333) rfl ?_
                                refine WP.imul K at_333 (pc' := 334) rfl ?_
                                show WP κ h 15 560 (mkF κ.m 334 #[.val (.int p0), .val (.long p1), .second, .val (.long p2), .second, .val (.int p3), .val (.long e1), .second, .val (.long e2), .second, .val (.int (if (p0 &&& (16 : Int32)) = (0 : Int32) then (0 : Int32) else (1 : Int32))), .val (.int (if (p0 &&& (32 : Int32)) = (0 : Int32) then (0 : Int32) else (1 : Int32))), .val (.int (if (p0 &&& (64 : Int32)) = (0 : Int32) then (0 : Int32) else (1 : Int32))), .val (.int st), .val (.int (if (p0 &&& (256 : Int32)) = (0 : Int32) then (0 : Int32) else (1 : Int32))), .val (.ref tb), .val (.int (0 : Int32)), .val (.int sv), .val (.int got), .val (.int (64 : Int32)), .val (.long fin), .second, .val (.int v22), .val (.int v23), .val (.int v24), .val (.int (256 : Int32))] [(.int (256 : Int32)), (.int (256 : Int32))])
                                refine WP.iadd K at_334 (pc' := 335) rfl ?_
                                show WP κ h 15 560 (mkF κ.m 335 #[.val (.int p0), .val (.long p1), .second, .val (.long p2), .second, .val (.int p3), .val (.long e1), .second, .val (.long e2), .second, .val (.int (if (p0 &&& (16 : Int32)) = (0 : Int32) then (0 : Int32) else (1 : Int32))), .val (.int (if (p0 &&& (32 : Int32)) = (0 : Int32) then (0 : Int32) else (1 : Int32))), .val (.int (if (p0 &&& (64 : Int32)) = (0 : Int32) then (0 : Int32) else (1 : Int32))), .val (.int st), .val (.int (if (p0 &&& (256 : Int32)) = (0 : Int32) then (0 : Int32) else (1 : Int32))), .val (.ref tb), .val (.int (0 : Int32)), .val (.int sv), .val (.int got), .val (.int (64 : Int32)), .val (.long fin), .second, .val (.int v22), .val (.int v23), .val (.int v24), .val (.int (256 : Int32))] [(.int (512 : Int32))])
                                refine WP.istore K at_335 (L' := #[.val (.int p0), .val (.long p1), .second, .val (.long p2), .second, .val (.int p3), .val (.long e1), .second, .val (.long e2), .second, .val (.int (if (p0 &&& (16 : Int32)) = (0 : Int32) then (0 : Int32) else (1 : Int32))), .val (.int (if (p0 &&& (32 : Int32)) = (0 : Int32) then (0 : Int32) else (1 : Int32))), .val (.int (if (p0 &&& (64 : Int32)) = (0 : Int32) then (0 : Int32) else (1 : Int32))), .val (.int st), .val (.int (if (p0 &&& (256 : Int32)) = (0 : Int32) then (0 : Int32) else (1 : Int32))), .val (.ref tb), .val (.int (0 : Int32)), .val (.int sv), .val (.int got), .val (.int (64 : Int32)), .val (.long fin), .second, .val (.int v22), .val (.int v23), .val (.int v24), .val (.int (512 : Int32))]) rfl (pc' := 337) rfl ?_
                                refine WP.iload K at_337 rfl (pc' := 339) rfl ?_
                                refine WP.bipush K at_339 (v := (64 : Int32)) rfl (pc' := 341) rfl ?_
                                refine WP.icmpF K at_341 (by decide) (pc' := 344) rfl ?_
                                refine WP.iload K at_344 rfl (pc' := 346) rfl ?_
                                refine WP.iload K at_346 rfl (pc' := 348) rfl ?_
                                have cg : got = (512 : Int32) := (HL.2 c24).trans (by rw [if_pos c22, if_neg c32, if_neg c23]; decide)
                                refine WP.icmpF K at_348 (teq cg).2 (pc' := 351) rfl ?_
                                refine WP.iconst K at_351 (v := (1 : Int32)) rfl (pc' := 352) rfl ?_
                                refine WP.goto K at_352 (by decide) (pc' := 356) (by decide) ?_
                                exact WP.retN K (ty := .boolean) (by decide) at_356 (by decide) (by decide) rfl
                          · refine WP.if0F K at_296 ((if0 _ _).trans (feq c22).1) (pc' := 299) rfl ?_
                            refine WP.iload K at_299 rfl (pc' := 301) rfl ?_
                            refine WP.bipush K at_301 (v := (8 : Int32)) rfl (pc' := 303) rfl ?_
                            refine WP.iload K at_303 rfl (pc' := 305) rfl ?_
                            refine WP.imul K at_305 (pc' := 306) rfl ?_
                            show WP κ h 15 560 (mkF κ.m 306 #[.val (.int p0), .val (.long p1), .second, .val (.long p2), .second, .val (.int p3), .val (.long e1), .second, .val (.long e2), .second, .val (.int (if (p0 &&& (16 : Int32)) = (0 : Int32) then (0 : Int32) else (1 : Int32))), .val (.int (if (p0 &&& (32 : Int32)) = (0 : Int32) then (0 : Int32) else (1 : Int32))), .val (.int (if (p0 &&& (64 : Int32)) = (0 : Int32) then (0 : Int32) else (1 : Int32))), .val (.int st), .val (.int (if (p0 &&& (256 : Int32)) = (0 : Int32) then (0 : Int32) else (1 : Int32))), .val (.ref tb), .val (.int (0 : Int32)), .val (.int sv), .val (.int got), .val (.int (64 : Int32)), .val (.long fin), .second, .val (.int v22), .val (.int v23), .val (.int v24), .val (.int (0 : Int32))] [(.int (512 : Int32)), (.int (0 : Int32))])
                            refine WP.iadd K at_306 (pc' := 307) rfl ?_
                            show WP κ h 15 560 (mkF κ.m 307 #[.val (.int p0), .val (.long p1), .second, .val (.long p2), .second, .val (.int p3), .val (.long e1), .second, .val (.long e2), .second, .val (.int (if (p0 &&& (16 : Int32)) = (0 : Int32) then (0 : Int32) else (1 : Int32))), .val (.int (if (p0 &&& (32 : Int32)) = (0 : Int32) then (0 : Int32) else (1 : Int32))), .val (.int (if (p0 &&& (64 : Int32)) = (0 : Int32) then (0 : Int32) else (1 : Int32))), .val (.int st), .val (.int (if (p0 &&& (256 : Int32)) = (0 : Int32) then (0 : Int32) else (1 : Int32))), .val (.ref tb), .val (.int (0 : Int32)), .val (.int sv), .val (.int got), .val (.int (64 : Int32)), .val (.long fin), .second, .val (.int v22), .val (.int v23), .val (.int v24), .val (.int (0 : Int32))] [(.int (512 : Int32))])
                            refine WP.istore K at_307 (L' := #[.val (.int p0), .val (.long p1), .second, .val (.long p2), .second, .val (.int p3), .val (.long e1), .second, .val (.long e2), .second, .val (.int (if (p0 &&& (16 : Int32)) = (0 : Int32) then (0 : Int32) else (1 : Int32))), .val (.int (if (p0 &&& (32 : Int32)) = (0 : Int32) then (0 : Int32) else (1 : Int32))), .val (.int (if (p0 &&& (64 : Int32)) = (0 : Int32) then (0 : Int32) else (1 : Int32))), .val (.int st), .val (.int (if (p0 &&& (256 : Int32)) = (0 : Int32) then (0 : Int32) else (1 : Int32))), .val (.ref tb), .val (.int (0 : Int32)), .val (.int sv), .val (.int got), .val (.int (64 : Int32)), .val (.long fin), .second, .val (.int v22), .val (.int v23), .val (.int v24), .val (.int (512 : Int32))]) rfl (pc' := 309) rfl ?_
                            refine WP.iload K at_309 rfl (pc' := 311) rfl ?_
                            by_cases c32 : (p0 &&& (32 : Int32)) = (0 : Int32)
                            · refine WP.if0T K at_311 (by rw [if_pos c32]; decide) (by decide) (pc' := 323) (by decide) ?_
                              refine WP.iload K at_323 rfl (pc' := 325) rfl ?_
                              by_cases c23 : v23 = (0 : Int32)
                              · refine WP.if0T K at_325 ((if0 _ _).trans (teq c23).1) (by decide) (pc' := 337) (by decide) ?_
                                refine WP.iload K at_337 rfl (pc' := 339) rfl ?_
                                refine WP.bipush K at_339 (v := (64 : Int32)) rfl (pc' := 341) rfl ?_
                                refine WP.icmpF K at_341 (by decide) (pc' := 344) rfl ?_
                                refine WP.iload K at_344 rfl (pc' := 346) rfl ?_
                                refine WP.iload K at_346 rfl (pc' := 348) rfl ?_
                                have cg : got = (512 : Int32) := (HL.2 c24).trans (by rw [if_neg c22, if_pos c32, if_pos c23]; decide)
                                refine WP.icmpF K at_348 (teq cg).2 (pc' := 351) rfl ?_
                                refine WP.iconst K at_351 (v := (1 : Int32)) rfl (pc' := 352) rfl ?_
                                refine WP.goto K at_352 (by decide) (pc' := 356) (by decide) ?_
                                exact WP.retN K (ty := .boolean) (by decide) at_356 (by decide) (by decide) rfl
                              · refine WP.if0F K at_325 ((if0 _ _).trans (feq c23).1) (pc' := 328) rfl ?_
                                refine WP.iload K at_328 rfl (pc' := 330) rfl ?_
                                refine WP.iconst K at_330 (v := (4 : Int32)) rfl (pc' := 331) rfl ?_
                                refine WP.iload K at_331 rfl (pc' := 333) rfl ?_
                                refine WP.imul K at_333 (pc' := 334) rfl ?_
                                show WP κ h 15 560 (mkF κ.m 334 #[.val (.int p0), .val (.long p1), .second, .val (.long p2), .second, .val (.int p3), .val (.long e1), .second, .val (.long e2), .second, .val (.int (if (p0 &&& (16 : Int32)) = (0 : Int32) then (0 : Int32) else (1 : Int32))), .val (.int (if (p0 &&& (32 : Int32)) = (0 : Int32) then (0 : Int32) else (1 : Int32))), .val (.int (if (p0 &&& (64 : Int32)) = (0 : Int32) then (0 : Int32) else (1 : Int32))), .val (.int st), .val (.int (if (p0 &&& (256 : Int32)) = (0 : Int32) then (0 : Int32) else (1 : Int32))), .val (.ref tb), .val (.int (0 : Int32)), .val (.int sv), .val (.int got), .val (.int (64 : Int32)), .val (.long fin), .second, .val (.int v22), .val (.int v23), .val (.int v24), .val (.int (512 : Int32))] [(.int (256 : Int32)), (.int (512 : Int32))])
                                refine WP.iadd K at_334 (pc' := 335) rfl ?_
                                show WP κ h 15 560 (mkF κ.m 335 #[.val (.int p0), .val (.long p1), .second, .val (.long p2), .second, .val (.int p3), .val (.long e1), .second, .val (.long e2), .second, .val (.int (if (p0 &&& (16 : Int32)) = (0 : Int32) then (0 : Int32) else (1 : Int32))), .val (.int (if (p0 &&& (32 : Int32)) = (0 : Int32) then (0 : Int32) else (1 : Int32))), .val (.int (if (p0 &&& (64 : Int32)) = (0 : Int32) then (0 : Int32) else (1 : Int32))), .val (.int st), .val (.int (if (p0 &&& (256 : Int32)) = (0 : Int32) then (0 : Int32) else (1 : Int32))), .val (.ref tb), .val (.int (0 : Int32)), .val (.int sv), .val (.int got), .val (.int (64 : Int32)), .val (.long fin), .second, .val (.int v22), .val (.int v23), .val (.int v24), .val (.int (512 : Int32))] [(.int (768 : Int32))])
                                refine WP.istore K at_335 (L' := #[.val (.int p0), .val (.long p1), .second, .val (.long p2), .second, .val (.int p3), .val (.long e1), .second, .val (.long e2), .second, .val (.int (if (p0 &&& (16 : Int32)) = (0 : Int32) then (0 : Int32) else (1 : Int32))), .val (.int (if (p0 &&& (32 : Int32)) = (0 : Int32) then (0 : Int32) else (1 : Int32))), .val (.int (if (p0 &&& (64 : Int32)) = (0 : Int32) then (0 : Int32) else (1 : Int32))), .val (.int st), .val (.int (if (p0 &&& (256 : Int32)) = (0 : Int32) then (0 : Int32) else (1 : Int32))), .val (.ref tb), .val (.int (0 : Int32)), .val (.int sv), .val (.int got), .val (.int (64 : Int32)), .val (.long fin), .second, .val (.int v22), .val (.int v23), .val (.int v24), .val (.int (768 : Int32))]) rfl (pc' := 337) rfl ?_
                                refine WP.iload K at_337 rfl (pc' := 339) rfl ?_
                                refine WP.bipush K at_339 (v := (64 : Int32)) rfl (pc' := 341) rfl ?_
                                refine WP.icmpF K at_341 (by decide) (pc' := 344) rfl ?_
                                refine WP.iload K at_344 rfl (pc' := 346) rfl ?_
                                refine WP.iload K at_346 rfl (pc' := 348) rfl ?_
                                have cg : got = (768 : Int32) := (HL.2 c24).trans (by rw [if_neg c22, if_pos c32, if_neg c23]; decide)
                                refine WP.icmpF K at_348 (teq cg).2 (pc' := 351) rfl ?_
                                refine WP.iconst K at_351 (v := (1 : Int32)) rfl (pc' := 352) rfl ?_
                                refine WP.goto K at_352 (by decide) (pc' := 356) (by decide) ?_
                                exact WP.retN K (ty := .boolean) (by decide) at_356 (by decide) (by decide) rfl
                            · refine WP.if0F K at_311 (by rw [if_neg c32]; decide) (pc' := 314) rfl ?_
                              refine WP.iload K at_314 rfl (pc' := 316) rfl ?_
                              refine WP.iconst K at_316 (v := (4 : Int32)) rfl (pc' := 317) rfl ?_
                              refine WP.iload K at_317 rfl (pc' := 319) rfl ?_
                              refine WP.imul K at_319 (pc' := 320) rfl ?_
                              show WP κ h 15 560 (mkF κ.m 320 #[.val (.int p0), .val (.long p1), .second, .val (.long p2), .second, .val (.int p3), .val (.long e1), .second, .val (.long e2), .second, .val (.int (if (p0 &&& (16 : Int32)) = (0 : Int32) then (0 : Int32) else (1 : Int32))), .val (.int (if (p0 &&& (32 : Int32)) = (0 : Int32) then (0 : Int32) else (1 : Int32))), .val (.int (if (p0 &&& (64 : Int32)) = (0 : Int32) then (0 : Int32) else (1 : Int32))), .val (.int st), .val (.int (if (p0 &&& (256 : Int32)) = (0 : Int32) then (0 : Int32) else (1 : Int32))), .val (.ref tb), .val (.int (0 : Int32)), .val (.int sv), .val (.int got), .val (.int (64 : Int32)), .val (.long fin), .second, .val (.int v22), .val (.int v23), .val (.int v24), .val (.int (512 : Int32))] [(.int (256 : Int32)), (.int (512 : Int32))])
                              refine WP.iadd K at_320 (pc' := 321) rfl ?_
                              show WP κ h 15 560 (mkF κ.m 321 #[.val (.int p0), .val (.long p1), .second, .val (.long p2), .second, .val (.int p3), .val (.long e1), .second, .val (.long e2), .second, .val (.int (if (p0 &&& (16 : Int32)) = (0 : Int32) then (0 : Int32) else (1 : Int32))), .val (.int (if (p0 &&& (32 : Int32)) = (0 : Int32) then (0 : Int32) else (1 : Int32))), .val (.int (if (p0 &&& (64 : Int32)) = (0 : Int32) then (0 : Int32) else (1 : Int32))), .val (.int st), .val (.int (if (p0 &&& (256 : Int32)) = (0 : Int32) then (0 : Int32) else (1 : Int32))), .val (.ref tb), .val (.int (0 : Int32)), .val (.int sv), .val (.int got), .val (.int (64 : Int32)), .val (.long fin), .second, .val (.int v22), .val (.int v23), .val (.int v24), .val (.int (512 : Int32))] [(.int (768 : Int32))])
                              refine WP.istore K at_321 (L' := #[.val (.int p0), .val (.long p1), .second, .val (.long p2), .second, .val (.int p3), .val (.long e1), .second, .val (.long e2), .second, .val (.int (if (p0 &&& (16 : Int32)) = (0 : Int32) then (0 : Int32) else (1 : Int32))), .val (.int (if (p0 &&& (32 : Int32)) = (0 : Int32) then (0 : Int32) else (1 : Int32))), .val (.int (if (p0 &&& (64 : Int32)) = (0 : Int32) then (0 : Int32) else (1 : Int32))), .val (.int st), .val (.int (if (p0 &&& (256 : Int32)) = (0 : Int32) then (0 : Int32) else (1 : Int32))), .val (.ref tb), .val (.int (0 : Int32)), .val (.int sv), .val (.int got), .val (.int (64 : Int32)), .val (.long fin), .second, .val (.int v22), .val (.int v23), .val (.int v24), .val (.int (768 : Int32))]) rfl (pc' := 323) rfl ?_
                              refine WP.iload K at_323 rfl (pc' := 325) rfl ?_
                              by_cases c23 : v23 = (0 : Int32)
                              · refine WP.if0T K at_325 ((if0 _ _).trans (teq c23).1) (by decide) (pc' := 337) (by decide) ?_
                                refine WP.iload K at_337 rfl (pc' := 339) rfl ?_
                                refine WP.bipush K at_339 (v := (64 : Int32)) rfl (pc' := 341) rfl ?_
                                refine WP.icmpF K at_341 (by decide) (pc' := 344) rfl ?_
                                refine WP.iload K at_344 rfl (pc' := 346) rfl ?_
                                refine WP.iload K at_346 rfl (pc' := 348) rfl ?_
                                have cg : got = (768 : Int32) := (HL.2 c24).trans (by rw [if_neg c22, if_neg c32, if_pos c23]; decide)
                                refine WP.icmpF K at_348 (teq cg).2 (pc' := 351) rfl ?_
                                refine WP.iconst K at_351 (v := (1 : Int32)) rfl (pc' := 352) rfl ?_
                                refine WP.goto K at_352 (by decide) (pc' := 356) (by decide) ?_
                                exact WP.retN K (ty := .boolean) (by decide) at_356 (by decide) (by decide) rfl
                              · refine WP.if0F K at_325 ((if0 _ _).trans (feq c23).1) (pc' := 328) rfl ?_
                                refine WP.iload K at_328 rfl (pc' := 330) rfl ?_
                                refine WP.iconst K at_330 (v := (4 : Int32)) rfl (pc' := 331) rfl ?_
                                refine WP.iload K at_331 rfl (pc' := 333) rfl ?_
                                refine WP.imul K at_333 (pc' := 334) rfl ?_
                                show WP κ h 15 560 (mkF κ.m 334 #[.val (.int p0), .val (.long p1), .second, .val (.long p2), .second, .val (.int p3), .val (.long e1), .second, .val (.long e2), .second, .val (.int (if (p0 &&& (16 : Int32)) = (0 : Int32) then (0 : Int32) else (1 : Int32))), .val (.int (if (p0 &&& (32 : Int32)) = (0 : Int32) then (0 : Int32) else (1 : Int32))), .val (.int (if (p0 &&& (64 : Int32)) = (0 : Int32) then (0 : Int32) else (1 : Int32))), .val (.int st), .val (.int (if (p0 &&& (256 : Int32)) = (0 : Int32) then (0 : Int32) else (1 : Int32))), .val (.ref tb), .val (.int (0 : Int32)), .val (.int sv), .val (.int got), .val (.int (64 : Int32)), .val (.long fin), .second, .val (.int v22), .val (.int v23), .val (.int v24), .val (.int (768 : Int32))] [(.int (256 : Int32)), (.int (768 : Int32))])
                                refine WP.iadd K at_334 (pc' := 335) rfl ?_
                                show WP κ h 15 560 (mkF κ.m 335 #[.val (.int p0), .val (.long p1), .second, .val (.long p2), .second, .val (.int p3), .val (.long e1), .second, .val (.long e2), .second, .val (.int (if (p0 &&& (16 : Int32)) = (0 : Int32) then (0 : Int32) else (1 : Int32))), .val (.int (if (p0 &&& (32 : Int32)) = (0 : Int32) then (0 : Int32) else (1 : Int32))), .val (.int (if (p0 &&& (64 : Int32)) = (0 : Int32) then (0 : Int32) else (1 : Int32))), .val (.int st), .val (.int (if (p0 &&& (256 : Int32)) = (0 : Int32) then (0 : Int32) else (1 : Int32))), .val (.ref tb), .val (.int (0 : Int32)), .val (.int sv), .val (.int got), .val (.int (64 : Int32)), .val (.long fin), .second, .val (.int v22), .val (.int v23), .val (.int v24), .val (.int (768 : Int32))] [(.int (1024 : Int32))])
                                refine WP.istore K at_335 (L' := #[.val (.int p0), .val (.long p1), .second, .val (.long p2), .second, .val (.int p3), .val (.long e1), .second, .val (.long e2), .second, .val (.int (if (p0 &&& (16 : Int32)) = (0 : Int32) then (0 : Int32) else (1 : Int32))), .val (.int (if (p0 &&& (32 : Int32)) = (0 : Int32) then (0 : Int32) else (1 : Int32))), .val (.int (if (p0 &&& (64 : Int32)) = (0 : Int32) then (0 : Int32) else (1 : Int32))), .val (.int st), .val (.int (if (p0 &&& (256 : Int32)) = (0 : Int32) then (0 : Int32) else (1 : Int32))), .val (.ref tb), .val (.int (0 : Int32)), .val (.int sv), .val (.int got), .val (.int (64 : Int32)), .val (.long fin), .second, .val (.int v22), .val (.int v23), .val (.int v24), .val (.int (1024 : Int32))]) rfl (pc' := 337) rfl ?_
                                refine WP.iload K at_337 rfl (pc' := 339) rfl ?_
                                refine WP.bipush K at_339 (v := (64 : Int32)) rfl (pc' := 341) rfl ?_
                                refine WP.icmpF K at_341 (by decide) (pc' := 344) rfl ?_
                                refine WP.iload K at_344 rfl (pc' := 346) rfl ?_
                                refine WP.iload K at_346 rfl (pc' := 348) rfl ?_
                                have cg : got = (1024 : Int32) := (HL.2 c24).trans (by rw [if_neg c22, if_neg c32, if_neg c23]; decide)
                                refine WP.icmpF K at_348 (teq cg).2 (pc' := 351) rfl ?_
                                refine WP.iconst K at_351 (v := (1 : Int32)) rfl (pc' := 352) rfl ?_
                                refine WP.goto K at_352 (by decide) (pc' := 356) (by decide) ?_
                                exact WP.retN K (ty := .boolean) (by decide) at_356 (by decide) (by decide) rfl
                        · refine WP.if0T K at_291 ((if0 _ _).trans (feq c24).2) (by decide) (pc' := 337) (by decide) ?_
                          refine WP.iload K at_337 rfl (pc' := 339) rfl ?_
                          refine WP.bipush K at_339 (v := (64 : Int32)) rfl (pc' := 341) rfl ?_
                          refine WP.icmpF K at_341 (by decide) (pc' := 344) rfl ?_
                          refine WP.iload K at_344 rfl (pc' := 346) rfl ?_
                          refine WP.iload K at_346 rfl (pc' := 348) rfl ?_
                          have cg : got = (0 : Int32) := HL.1 c24
                          refine WP.icmpF K at_348 (teq cg).2 (pc' := 351) rfl ?_
                          refine WP.iconst K at_351 (v := (1 : Int32)) rfl (pc' := 352) rfl ?_
                          refine WP.goto K at_352 (by decide) (pc' := 356) (by decide) ?_
                          exact WP.retN K (ty := .boolean) (by decide) at_356 (by decide) (by decide) rfl
              have C179 : ∀ h : Heap, IsTS Z h tb tb ((decide (¬ e1 = (9223372036854775807 : Int64))) || (!decide ((p0 &&& (16 : Int32)) = (0 : Int32)) && (decide (¬ e2 = (9223372036854775807 : Int64))))) (!decide ((p0 &&& (32 : Int32)) = (0 : Int32))) s (if (p0 &&& (16 : Int32)) = (0 : Int32) then e1 else e2) → n0 ≤ h.size → WP κ h 15 560 (mkF κ.m 179 #[.val (.int p0), .val (.long p1), .second, .val (.long p2), .second, .val (.int p3), .val (.long e1), .second, .val (.long e2), .second, .val (.int (if (p0 &&& (16 : Int32)) = (0 : Int32) then (0 : Int32) else (1 : Int32))), .val (.int (if (p0 &&& (32 : Int32)) = (0 : Int32) then (0 : Int32) else (1 : Int32))), .val (.int (if (p0 &&& (64 : Int32)) = (0 : Int32) then (0 : Int32) else (1 : Int32))), .val (.int st), .val (.int (if (p0 &&& (256 : Int32)) = (0 : Int32) then (0 : Int32) else (1 : Int32))), .val (.ref tb), .val (.int (0 : Int32)), .val (.int sv), .unset, .unset, .unset, .unset, .unset, .unset, .unset, .unset] []) := by
                intro h T_ Z0
                refine WP.iload K at_179 rfl (pc' := 181) rfl ?_
                by_cases c1 : (p0 &&& (256 : Int32)) = (0 : Int32)
                · refine WP.if0T K at_181 (by rw [if_pos c1]; decide) (by decide) (pc' := 189) (by decide) ?_
                  have eK : (decide ((p0 &&& (256 : Int32)) = (0 : Int32)) || (decide (¬ (if (p0 &&& (16 : Int32)) = (0 : Int32) then e1 else e2) = (9223372036854775807 : Int64)))) = true := by rw [decide_eq_true c1]; rfl
                  exact C189 h (by rw [eK, Bool.and_true, Bool.and_true, Bool.and_true]; exact T_) Z0
                · refine WP.if0F K at_181 (by rw [if_neg c1]; decide) (pc' := 184) rfl ?_
                  refine WP.aload K at_184 rfl rfl (pc' := 186) rfl ?_
                  refine WP.callV K (a := tb) (argsL := []) (S := []) (w_217 hw) (w_218 hw) (fun vm0 hZ => notFace_of_selects (args := #[]) (mvT (s := κ.s.setVm vm0) hZ (w_220 hw))) (w_220 hw) (w_219 hw) (by decide) (IsTS.exa T_) (rm_let w l Z a0 hw tb tb _ _ _ _ h n0 Z0 T_ old_tb) (w_221 hw) (w_11 hw) (by decide) rfl (lenOf pd_1 rfl) rfl (W := 0) rfl (by decide) (by decide) (k' := 15) (n' := 560) rfl rfl (by decide) (by decide) at_186 (pc' := 189) rfl fun v h147 hq => ?_
                  obtain ⟨rfl, T_⟩ := hq
                  show WP κ h147 15 560 (mkF κ.m 189 #[.val (.int p0), .val (.long p1), .second, .val (.long p2), .second, .val (.int p3), .val (.long e1), .second, .val (.long e2), .second, .val (.int (if (p0 &&& (16 : Int32)) = (0 : Int32) then (0 : Int32) else (1 : Int32))), .val (.int (if (p0 &&& (32 : Int32)) = (0 : Int32) then (0 : Int32) else (1 : Int32))), .val (.int (if (p0 &&& (64 : Int32)) = (0 : Int32) then (0 : Int32) else (1 : Int32))), .val (.int st), .val (.int (if (p0 &&& (256 : Int32)) = (0 : Int32) then (0 : Int32) else (1 : Int32))), .val (.ref tb), .val (.int (0 : Int32)), .val (.int sv), .unset, .unset, .unset, .unset, .unset, .unset, .unset, .unset] [])
                  have Z0 : n0 ≤ h147.size := Nat.le_of_lt (Nat.lt_of_le_of_lt old_tb (IsTS.lt T_))
                  have eK : (decide ((p0 &&& (256 : Int32)) = (0 : Int32)) || (decide (¬ (if (p0 &&& (16 : Int32)) = (0 : Int32) then e1 else e2) = (9223372036854775807 : Int64)))) = (decide (¬ (if (p0 &&& (16 : Int32)) = (0 : Int32) then e1 else e2) = (9223372036854775807 : Int64))) := by rw [decide_eq_false c1, Bool.false_or]
                  exact C189 _ (by rw [eK]; exact T_) Z0
              have C165 : ∀ h : Heap, IsTS Z h tb tb (decide (¬ e1 = (9223372036854775807 : Int64))) (!decide ((p0 &&& (32 : Int32)) = (0 : Int32))) s e1 → n0 ≤ h.size → WP κ h 14 496 (mkF κ.m 165 #[.val (.int p0), .val (.long p1), .second, .val (.long p2), .second, .val (.int p3), .val (.long e1), .second, .val (.long e2), .second, .val (.int (if (p0 &&& (16 : Int32)) = (0 : Int32) then (0 : Int32) else (1 : Int32))), .val (.int (if (p0 &&& (32 : Int32)) = (0 : Int32) then (0 : Int32) else (1 : Int32))), .val (.int (if (p0 &&& (64 : Int32)) = (0 : Int32) then (0 : Int32) else (1 : Int32))), .val (.int st), .val (.int (if (p0 &&& (256 : Int32)) = (0 : Int32) then (0 : Int32) else (1 : Int32))), .val (.ref tb), .val (.int (0 : Int32)), .val (.int sv), .unset, .unset, .unset, .unset, .unset, .unset, .unset, .unset] []) := by
                intro h T_ Z0
                refine WP.iload K at_165 rfl (pc' := 167) rfl ?_
                by_cases c1 : (p0 &&& (16 : Int32)) = (0 : Int32)
                · refine WP.if0T K at_167 (by rw [if_pos c1]; decide) (by decide) (pc' := 179) (by decide) ?_
                  have eE : ((decide (¬ e1 = (9223372036854775807 : Int64))) || (!decide ((p0 &&& (16 : Int32)) = (0 : Int32)) && (decide (¬ e2 = (9223372036854775807 : Int64))))) = (decide (¬ e1 = (9223372036854775807 : Int64))) := by rw [decide_eq_true c1]; exact Bool.or_false _
                  have eD : (if (p0 &&& (16 : Int32)) = (0 : Int32) then e1 else e2) = e1 := if_pos c1
                  exact WP.more (C179 h (by rw [eE, eD]; exact T_) Z0) (by decide) (by decide)
                · refine WP.if0F K at_167 (by rw [if_neg c1]; decide) (pc' := 170) rfl ?_
                  refine WP.aload K at_170 rfl rfl (pc' := 172) rfl ?_
                  refine WP.iload K at_172 rfl (pc' := 174) rfl ?_
                  refine WP.lload K at_174 rfl (pc' := 176) rfl ?_
                  refine WP.callV K (a := tb) (argsL := [(.int (0 : Int32)), (.long e2)]) (S := []) (w_203 hw) (w_204 hw) (fun vm0 hZ => notFace_of_selects (args := #[]) (mvT (s := κ.s.setVm vm0) hZ (w_206 hw))) (w_206 hw) (w_205 hw) (by decide) (IsTS.exa T_) (rm_set w l Z a0 hw tb tb _ _ _ _ e2 h n0 Z0 T_ old_tb) (w_207 hw) (w_11 hw) (by decide) rfl (lenOf pd_12 rfl) rfl (W := 0) rfl (by decide) (by decide) (k' := 15) (n' := 560) rfl rfl (by decide) (by decide) at_176 (pc' := 179) rfl fun v h148 hq => ?_
                  obtain ⟨rfl, T_⟩ := hq
                  show WP κ h148 15 560 (mkF κ.m 179 #[.val (.int p0), .val (.long p1), .second, .val (.long p2), .second, .val (.int p3), .val (.long e1), .second, .val (.long e2), .second, .val (.int (if (p0 &&& (16 : Int32)) = (0 : Int32) then (0 : Int32) else (1 : Int32))), .val (.int (if (p0 &&& (32 : Int32)) = (0 : Int32) then (0 : Int32) else (1 : Int32))), .val (.int (if (p0 &&& (64 : Int32)) = (0 : Int32) then (0 : Int32) else (1 : Int32))), .val (.int st), .val (.int (if (p0 &&& (256 : Int32)) = (0 : Int32) then (0 : Int32) else (1 : Int32))), .val (.ref tb), .val (.int (0 : Int32)), .val (.int sv), .unset, .unset, .unset, .unset, .unset, .unset, .unset, .unset] [])
                  have Z0 : n0 ≤ h148.size := Nat.le_of_lt (Nat.lt_of_le_of_lt old_tb (IsTS.lt T_))
                  have eE : ((decide (¬ e1 = (9223372036854775807 : Int64))) || (!decide ((p0 &&& (16 : Int32)) = (0 : Int32)) && (decide (¬ e2 = (9223372036854775807 : Int64))))) = ((decide (¬ e1 = (9223372036854775807 : Int64))) || (decide (¬ e2 = (9223372036854775807 : Int64)))) := by rw [decide_eq_false c1]; rfl
                  have eD : (if (p0 &&& (16 : Int32)) = (0 : Int32) then e1 else e2) = e2 := if_neg c1
                  exact C179 _ (by rw [eE, eD]; exact T_) Z0
              refine WP.iload K at_153 rfl (pc' := 155) rfl ?_
              by_cases c1 : (p0 &&& (32 : Int32)) = (0 : Int32)
              · refine WP.if0T K at_155 (by rw [if_pos c1]; decide) (by decide) (pc' := 165) (by decide) ?_
                have eM : (!decide ((p0 &&& (32 : Int32)) = (0 : Int32))) = false := by rw [decide_eq_true c1]; rfl
                exact WP.more (C165 h (by rw [eM]; exact T_) Z0) (by decide) (by decide)
              · refine WP.if0F K at_155 (by rw [if_neg c1]; decide) (pc' := 158) rfl ?_
                refine WP.aload K at_158 rfl rfl (pc' := 160) rfl ?_
                refine WP.iload K at_160 rfl (pc' := 162) rfl ?_
                refine WP.callV K (a := tb) (argsL := [(.int (0 : Int32))]) (S := []) (w_198 hw) (w_199 hw) (fun vm0 hZ => notFace_of_selects (args := #[]) (mvT (s := κ.s.setVm vm0) hZ (w_201 hw))) (w_201 hw) (w_200 hw) (by decide) (IsTS.exa T_) (rm_move w l Z a0 hw tb tb _ _ _ h n0 Z0 T_ old_tb) (w_202 hw) (w_11 hw) (by decide) rfl (lenOf pd_3 rfl) rfl (W := 0) rfl (by decide) (by decide) (k' := 14) (n' := 496) rfl rfl (by decide) (by decide) at_162 (pc' := 165) rfl fun v h149 hq => ?_
                obtain ⟨rfl, T_⟩ := hq
                show WP κ h149 14 496 (mkF κ.m 165 #[.val (.int p0), .val (.long p1), .second, .val (.long p2), .second, .val (.int p3), .val (.long e1), .second, .val (.long e2), .second, .val (.int (if (p0 &&& (16 : Int32)) = (0 : Int32) then (0 : Int32) else (1 : Int32))), .val (.int (if (p0 &&& (32 : Int32)) = (0 : Int32) then (0 : Int32) else (1 : Int32))), .val (.int (if (p0 &&& (64 : Int32)) = (0 : Int32) then (0 : Int32) else (1 : Int32))), .val (.int st), .val (.int (if (p0 &&& (256 : Int32)) = (0 : Int32) then (0 : Int32) else (1 : Int32))), .val (.ref tb), .val (.int (0 : Int32)), .val (.int sv), .unset, .unset, .unset, .unset, .unset, .unset, .unset, .unset] [])
                have Z0 : n0 ≤ h149.size := Nat.le_of_lt (Nat.lt_of_le_of_lt old_tb (IsTS.lt T_))
                have eM : (!decide ((p0 &&& (32 : Int32)) = (0 : Int32))) = true := by rw [decide_eq_false c1]; rfl
                exact C165 _ (by rw [eM]; exact T_) Z0
            refine WP.iload K at_118 rfl (pc' := 120) rfl ?_
            by_cases c1 : (p0 &&& (64 : Int32)) = (0 : Int32)
            · refine WP.if0T K at_120 (by rw [if_pos c1]; decide) (by decide) (pc' := 136) (by decide) ?_
              refine WP.iconst K at_136 (v := (0 : Int32)) rfl (pc' := 137) rfl ?_
              refine WP.istore K at_137 (L' := #[.val (.int p0), .val (.long p1), .second, .val (.long p2), .second, .val (.int p3), .val (.long e1), .second, .val (.long e2), .second, .val (.int (if (p0 &&& (16 : Int32)) = (0 : Int32) then (0 : Int32) else (1 : Int32))), .val (.int (if (p0 &&& (32 : Int32)) = (0 : Int32) then (0 : Int32) else (1 : Int32))), .val (.int (if (p0 &&& (64 : Int32)) = (0 : Int32) then (0 : Int32) else (1 : Int32))), .val (.int st), .val (.int (if (p0 &&& (256 : Int32)) = (0 : Int32) then (0 : Int32) else (1 : Int32))), .val (.ref tb), .val (.int (0 : Int32)), .val (.int (0 : Int32)), .unset, .unset, .unset, .unset, .unset, .unset, .unset, .unset]) rfl (pc' := 139) rfl ?_
              refine WP.iload K at_139 rfl (pc' := 141) rfl ?_
              refine WP.if0T K at_141 (by decide) (by decide) (pc' := 153) (by decide) ?_
              exact WP.more (C153 _ false _ (Or.inl ⟨rfl, rfl⟩) T_ Z0) (by decide) (by decide)
            · refine WP.if0F K at_120 (by rw [if_neg c1]; decide) (pc' := 123) rfl ?_
              refine WP.lload K at_123 rfl (pc' := 125) rfl ?_
              refine WP.ldc2J K (w_195 hw) at_125 (pc' := 128) rfl ?_
              refine WP.lcmp K at_128 (pc' := 129) rfl ?_
              by_cases c2 : e1 = (-9223372036854775807 : Int64)
              · refine WP.if0F K at_129 ((if0 _ _).trans (teq ((lw_eq _ _).mpr c2)).2) (pc' := 132) rfl ?_
                refine WP.iconst K at_132 (v := (1 : Int32)) rfl (pc' := 133) rfl ?_
                refine WP.goto K at_133 (by decide) (pc' := 137) (by decide) ?_
                refine WP.istore K at_137 (L' := #[.val (.int p0), .val (.long p1), .second, .val (.long p2), .second, .val (.int p3), .val (.long e1), .second, .val (.long e2), .second, .val (.int (if (p0 &&& (16 : Int32)) = (0 : Int32) then (0 : Int32) else (1 : Int32))), .val (.int (if (p0 &&& (32 : Int32)) = (0 : Int32) then (0 : Int32) else (1 : Int32))), .val (.int (if (p0 &&& (64 : Int32)) = (0 : Int32) then (0 : Int32) else (1 : Int32))), .val (.int st), .val (.int (if (p0 &&& (256 : Int32)) = (0 : Int32) then (0 : Int32) else (1 : Int32))), .val (.ref tb), .val (.int (0 : Int32)), .val (.int (1 : Int32)), .unset, .unset, .unset, .unset, .unset, .unset, .unset, .unset]) rfl (pc' := 139) rfl ?_
                refine WP.iload K at_139 rfl (pc' := 141) rfl ?_
                refine WP.if0F K at_141 (by decide) (pc' := 144) rfl ?_
                refine WP.aload K at_144 rfl rfl (pc' := 146) rfl ?_
                refine WP.iload K at_146 rfl (pc' := 148) rfl ?_
                refine WP.iload K at_148 rfl (pc' := 150) rfl ?_
                refine WP.callV K (a := tb) (argsL := [(.int (0 : Int32)), (.int st)]) (S := []) (w_222 hw) (w_223 hw) (fun vm0 hZ => notFace_of_selects (args := #[]) (mvT (s := κ.s.setVm vm0) hZ (w_225 hw))) (w_225 hw) (w_224 hw) (by decide) (IsTS.exa T_) (rm_strat w l Z a0 hw tb tb _ e1 st h136 n0 Z0 T_ old_tb) (w_226 hw) (w_11 hw) (by decide) rfl (lenOf pd_13 rfl) rfl (W := 0) rfl (by decide) (by decide) (k' := 13) (n' := 432) rfl rfl (by decide) (by decide) at_150 (pc' := 153) rfl fun v h150 hq => ?_
                obtain ⟨rfl, T_⟩ := hq
                show WP κ h150 13 432 (mkF κ.m 153 #[.val (.int p0), .val (.long p1), .second, .val (.long p2), .second, .val (.int p3), .val (.long e1), .second, .val (.long e2), .second, .val (.int (if (p0 &&& (16 : Int32)) = (0 : Int32) then (0 : Int32) else (1 : Int32))), .val (.int (if (p0 &&& (32 : Int32)) = (0 : Int32) then (0 : Int32) else (1 : Int32))), .val (.int (if (p0 &&& (64 : Int32)) = (0 : Int32) then (0 : Int32) else (1 : Int32))), .val (.int st), .val (.int (if (p0 &&& (256 : Int32)) = (0 : Int32) then (0 : Int32) else (1 : Int32))), .val (.ref tb), .val (.int (0 : Int32)), .val (.int (1 : Int32)), .unset, .unset, .unset, .unset, .unset, .unset, .unset, .unset] [])
                have Z0 : n0 ≤ h150.size := Nat.le_of_lt (Nat.lt_of_le_of_lt old_tb (IsTS.lt T_))
                exact C153 _ _ _ (Or.inr ⟨rfl, rfl⟩) T_ Z0
              · refine WP.if0T K at_129 ((if0 _ _).trans (feq (fun q => c2 ((lw_eq _ _).mp q))).2) (by decide) (pc' := 136) (by decide) ?_
                refine WP.iconst K at_136 (v := (0 : Int32)) rfl (pc' := 137) rfl ?_
                refine WP.istore K at_137 (L' := #[.val (.int p0), .val (.long p1), .second, .val (.long p2), .second, .val (.int p3), .val (.long e1), .second, .val (.long e2), .second, .val (.int (if (p0 &&& (16 : Int32)) = (0 : Int32) then (0 : Int32) else (1 : Int32))), .val (.int (if (p0 &&& (32 : Int32)) = (0 : Int32) then (0 : Int32) else (1 : Int32))), .val (.int (if (p0 &&& (64 : Int32)) = (0 : Int32) then (0 : Int32) else (1 : Int32))), .val (.int st), .val (.int (if (p0 &&& (256 : Int32)) = (0 : Int32) then (0 : Int32) else (1 : Int32))), .val (.ref tb), .val (.int (0 : Int32)), .val (.int (0 : Int32)), .unset, .unset, .unset, .unset, .unset, .unset, .unset, .unset]) rfl (pc' := 139) rfl ?_
                refine WP.iload K at_139 rfl (pc' := 141) rfl ?_
                refine WP.if0T K at_141 (by decide) (by decide) (pc' := 153) (by decide) ?_
                exact WP.more (C153 _ false _ (Or.inl ⟨rfl, rfl⟩) T_ Z0) (by decide) (by decide)
        by_cases c8 : (p0 &&& (128 : Int32)) = (0 : Int32)
        · refine WP.if0T K at_67 ((if0 _ _).trans (teq c8).1) (by decide) (pc' := 74) (by decide) ?_
          refine WP.iconst K at_74 (v := (1 : Int32)) rfl (pc' := 75) rfl ?_
          refine WP.iload K at_75 rfl (pc' := 77) rfl ?_
          refine WP.callS K (argsL := [(.int (1 : Int32)), (.int p3)]) (S := []) (w_5 hw) (w_6 hw) (rm_max w l Z a0 hw (1 : Int32) p3 h0 n0 Z0) (w_8 hw) (w_7 hw) (by decide) rfl (lenOf pd_0 rfl) rfl (W := 0) rfl (by decide) (by decide) (k' := 0) (n' := 0) rfl rfl (by decide) (by decide) at_77 (pc' := 80) rfl fun v h151 hq => ?_
          obtain ⟨rfl, rfl⟩ := hq
          show WP κ h0 0 0 (mkF κ.m 80 #[.val (.int p0), .val (.long p1), .second, .val (.long p2), .second, .val (.int p3), .val (.long e1), .second, .val (.long e2), .second, .val (.int (if (p0 &&& (16 : Int32)) = (0 : Int32) then (0 : Int32) else (1 : Int32))), .val (.int (if (p0 &&& (32 : Int32)) = (0 : Int32) then (0 : Int32) else (1 : Int32))), .val (.int (if (p0 &&& (64 : Int32)) = (0 : Int32) then (0 : Int32) else (1 : Int32))), .unset, .unset, .unset, .unset, .unset, .unset, .unset, .unset, .unset, .unset, .unset, .unset, .unset] [(.int (own_max (1 : Int32) p3))])
          exact J80 _
        · refine WP.if0F K at_67 ((if0 _ _).trans (feq c8).1) (pc' := 70) rfl ?_
          refine WP.iconst K at_70 (v := (1 : Int32)) rfl (pc' := 71) rfl ?_
          refine WP.goto K at_71 (by decide) (pc' := 80) (by decide) ?_
          exact J80 _
set_option maxRecDepth 65536 in
set_option maxHeartbeats 40000000 in
theorem comes_1 {Post : Tables → Env → Array Value → State → Outcome → State → Prop} (hpost : ∀ tb e args s v u, (limb_1_1.after args s (.returned v) u = true ∧ limb_1_2.after args s (.returned v) u = true ∧ True) → ReturnedEndW s (.returned v) u (Jvm.fieldLocs frame_1_writes args s ++ Jvm.arrayLocs frame_1_arrays args s ++ Jvm.staticLocs frame_1_statics s) 40 1088 → Post tb e args s (.returned v) u) :
    ArmFor flags0 classFile x code maxLocals ret World_1 tables_1 room_1 Calls_1 rest_1 Pre_1 Post := by
  intro l hfl _ _ p e ha hc hk s m args below hf hA hF happ hP
  obtain ⟨hcalls, hrest, hpre⟩ := hP
  obtain ⟨-, -, -, hnamed, -, -, -, hat⟩ := (Spec.applies_iff hf).mp happ
  obtain ⟨hg, hn⟩ := and_e (Cond.before_iff.mp (show (Jvm.Cond.and given_1 narrow_1).before args s = true from hpre))
  obtain ⟨q0, r0⟩ := and_e hg
  obtain ⟨q1, r1⟩ := and_e r0
  obtain ⟨q2, r2⟩ := and_e r1
  obtain ⟨q3, r3⟩ := and_e r2
  obtain ⟨v0, v1, v2, v3, rfl⟩ : ∃ v0 v1 v2 v3 : Value, args = #[v0, v1, v2, v3] := by
    have hs : args.size = 4 := by simpa [Cond.value, given_1] using q0
    obtain ⟨L⟩ := args
    match L, hs with
    | [v0, v1, v2, v3], _ => exact ⟨v0, v1, v2, v3, rfl⟩
  have hw := fun d (hd : d ∈ tables_1) => atoms_spec (ws := Jvm.Cond.code x code maxLocals ret :: tables_1) hat d (List.mem_cons_of_mem _ hd)
  have hfit : Fit s := fun {y c} hc i hi => by
    obtain ⟨ha, rfl⟩ := Array.getElem?_eq_some_iff.mp hc
    have q := List.all_eq_true.mp ((Array.all_eq_true_iff_forall_mem.mp hF) _ (Array.getElem_mem ha)) i (List.mem_range.mpr hi)
    simpa [Array.getElem?_eq_getElem hi] using q
  obtain ⟨i0, ei0⟩ := is_v q1
  obtain rfl : v0 = (.int i0) := Option.some.inj ei0
  obtain ⟨i1, ei1⟩ := isL_v q2
  obtain rfl : v1 = (.long i1) := Option.some.inj ei1
  obtain ⟨i2, ei2⟩ := isL_v q3
  obtain rfl : v2 = (.long i2) := Option.some.inj ei2
  obtain ⟨i3, ei3⟩ := is_v r3
  obtain rfl : v3 = (.int i3) := Option.some.inj ei3
  obtain ⟨m0, m1⟩ := and_e hn
  obtain ⟨m2, m3⟩ := and_e m1
  obtain ⟨nl, kL, fL, S_nl, A_nl, -⟩ := static_ary (N := 0) hfit (w_81 hw) (w_43 hw) (ty := .int) (by decide) m0 m3 rfl
  obtain ⟨n, o, h1, h2, h3, _, L, rfl, ⟨rfl, N⟩, hq⟩ := rm_law true l s _ hw i0 i1 i2 i3 s.heap s.heap.size (Nat.le_refl _) nl kL fL S_nl A_nl (Old.start s) p e ha hc hk s m _ below hf ((Spec.applies_iff_loose hf).mp happ).1 ⟨rfl, State.Warmed39.refl s, rfl⟩ trivial
  refine ⟨n, _, h1, h2, h3, hpost _ _ _ _ _ _ ⟨Cond.after_iff.mpr rfl, Cond.after_iff.mpr (eq_i res_at (Term.int_eval (1)) rfl), trivial⟩ ⟨hq.1, hq.2.1, hq.2.2.1, (hq.2.2.2.sift fun y hy => Or.inr (N y hy)).mono (by decide) (by decide)⟩⟩
theorem main_1_1 : Claimed_1_1 := comes_1 fun _ _ _ _ _ _ h hF => ⟨h.1, hF⟩
theorem main_1_2 : Claimed_1_2 := comes_1 fun _ _ _ _ _ _ h hF => ⟨h.2.1, hF⟩
end Jvm.Pilot.@@N@@
namespace Jvm.Pilot.@@N@@
open Jvm Jvm.ClassFile Sem Op Lib Jvm.Free Jvm.Stand Jvm.Pilot.@@N@@.Jvm.D
/-! MADE BY PROGRAM (witnessworld.py) out of the Statement's table words and the real class files: 21 classes; the members and pool entries that the words name. The judged class is class 1, her method 2. -/
namespace start1
open Jvm.ClassFile
def u (s : String) : CpInfo := .utf8 (stringToUtf16 s)
/-- a pool by its gaps: so many unusable entries, then the entry; so many at the end -/
def gap : Nat → List CpInfo → List CpInfo
  | 0, r => r
  | n + 1, r => .unusable :: gap n r
def poolList (es : List (Nat × CpInfo)) (last : Nat) : List CpInfo := es.foldr (fun e r => gap e.1 (e.2 :: r)) (gap last [])
def pool (es : List (Nat × CpInfo)) (last : Nat) : Array CpInfo := ⟨poolList es last⟩
def fileOf (pool : Array CpInfo) (this : Nat) (attrs : Array Attribute := #[]) (ms : Array MethodInfo := #[]) (fl : Nat := 33) (sup : Nat := 0) (ifs : Array Nat := #[]) (fds : Array FieldInfo := #[]) : ClassFile where
  minorVersion := 0
  majorVersion := 65
  constantPool := pool
  accessFlags := fl
  thisClass := this
  superClass := sup
  interfaces := ifs
  fields := fds
  methods := ms
  attributes := attrs
def plain (name : String) (sup : Option ClassId) : Class where
  name := name
  kind := .ordinary
  loader := none
  accessFlags := 33
  super := sup
  interfaces := #[]
  cf := none
  fields := #[]
  methods := #[]
  instanceTypes := #[]
  staticTypes := #[]
  resolved := #[]
  callSites := []
  init := .initialized
  statics := none
  mirror := none

def pool0 : Array CpInfo := pool [(5, u "<init>"), (0, u "()V"), (1, .class_ 10), (1, u "java/lang/Object")] 113

def k0c0 : Code := { maxStack := 0, maxLocals := 1, code := object_method_1_code, exceptionTable := #[], attributes := #[] }
def k0m0 : Method := { name := "<init>", desc := "()V", sig := { parameters := [], returnType := none }, accessFlags := 1, code := some k0c0 }
/-- java/lang/Object -/
def k0 : Class := { plain "java/lang/Object" none with
  accessFlags := 33
  interfaces := #[]
  cf := some (fileOf pool0 8 #[] #[{ accessFlags := 1, nameIndex := 5, descriptorIndex := 6, attributes := #[] }] 33 0 #[] #[])
  fields := #[]
  methods := #[k0m0]
  instanceTypes := #[]
  staticTypes := #[]
  resolved := Array.replicate 124 none
  statics := none }

def pool1 : Array CpInfo := pool [(2, .class_ 4), (0, .nameAndType 5 6), (0, u "java/lang/Object"), (0, u "<init>"), (0, u "()V"), (0, .class_ 8), (0, u "com/example/weir/weir/engine/TripleTable"), (0, .long 9223372036854775807), (1, .long 9223372036854775809), (3, .long 9223372036854775808), (1, .methodref 18 19), (0, .class_ 20), (0, .nameAndType 21 22), (0, u "com/example/weir/weir/engine/TripleTableEndRoomPinLaw"), (0, u "pick"), (0, u "(IJ)J"), (0, .methodref 24 25), (0, .class_ 26), (0, .nameAndType 27 28), (0, u "java/lang/Math"), (0, u "max"), (0, u "(II)I"), (0, .methodref 7 3), (0, .methodref 7 31), (0, .nameAndType 32 33), (0, u "add"), (0, u "(IIIJ)I"), (0, .methodref 7 35), (0, .nameAndType 36 37), (0, u "setStratum"), (0, u "(II)V"), (0, .methodref 7 39), (0, .nameAndType 40 41), (0, u "countMove"), (0, u "(I)V"), (0, .methodref 7 43), (0, .nameAndType 44 45), (0, u "setEnd"), (0, u "(IJ)V"), (0, .methodref 7 47), (0, .nameAndType 48 6), (0, u "letGoOfEnds"), (0, .methodref 7 50), (0, .nameAndType 51 52), (0, u "endRoom"), (0, u "()I"), (0, .methodref 7 54), (0, .nameAndType 55 52), (0, u "capacity"), (3, u "law"), (0, u "(IJJI)Z")] 2

def k1m0 : Method := { name := "<init>", desc := "()V", sig := { parameters := [], returnType := none }, accessFlags := 1, code := none }
def k1c1 : Code := { maxStack := 4, maxLocals := 3, code := method_2_code, exceptionTable := #[], attributes := #[] }
def k1m1 : Method := { name := "pick", desc := "(IJ)J", sig := { parameters := [.int, .long], returnType := some .long }, accessFlags := 10, code := some k1c1 }
def k1c2 : Code := { maxStack := 6, maxLocals := 26, code := code, exceptionTable := #[], attributes := #[] }
def k1m2 : Method := { name := "law", desc := "(IJJI)Z", sig := { parameters := [.int, .long, .long, .int], returnType := some .boolean }, accessFlags := 9, code := some k1c2 }
/-- com/example/weir/weir/engine/TripleTableEndRoomPinLaw -/
def k1 : Class := { plain "com/example/weir/weir/engine/TripleTableEndRoomPinLaw" (some 0) with
  accessFlags := 49
  interfaces := #[]
  cf := some (fileOf pool1 18 #[] #[{ accessFlags := 1, nameIndex := 5, descriptorIndex := 6, attributes := #[] }, { accessFlags := 10, nameIndex := 21, descriptorIndex := 22, attributes := #[] }, { accessFlags := 9, nameIndex := 59, descriptorIndex := 60, attributes := #[] }] 49 2 #[] #[])
  fields := #[]
  methods := #[k1m0, k1m1, k1m2]
  instanceTypes := #[]
  staticTypes := #[]
  resolved := Array.replicate 63 none
  statics := none }

def pool2 : Array CpInfo := pool [(1, .class_ 2), (0, u "java/lang/Math"), (1, .class_ 6), (1, u "java/lang/Object"), (0, u "<init>"), (0, u "()V"), (89, .class_ 100), (1, u "java/lang/Math$RandomNumberGeneratorHolder"), (71, u "negativeZeroFloatBits"), (0, u "J"), (2, u "negativeZeroDoubleBits"), (21, u "max"), (2, u "min"), (43, u "$assertionsDisabled"), (0, u "Z"), (88, u "(II)I"), (2, u "twoToTheDoubleScaleDown"), (0, u "D"), (4, u "twoToTheDoubleScaleUp"), (9, u "E"), (3, u "PI"), (2, u "TAU"), (2, u "DEGREES_TO_RADIANS"), (0, u "RADIANS_TO_DEGREES")] 94

def k2m0 : Method := { name := "<init>", desc := "()V", sig := { parameters := [], returnType := none }, accessFlags := 2, code := none }
def k2c1 : Code := { maxStack := 2, maxLocals := 2, code := jdk_29_method_65_code, exceptionTable := #[], attributes := #[] }
def k2m1 : Method := { name := "max", desc := "(II)I", sig := { parameters := [.int, .int], returnType := some .int }, accessFlags := 9, code := some k2c1 }
def k2c2 : Code := { maxStack := 2, maxLocals := 2, code := jdk_29_method_69_code, exceptionTable := #[], attributes := #[] }
def k2m2 : Method := { name := "min", desc := "(II)I", sig := { parameters := [.int, .int], returnType := some .int }, accessFlags := 9, code := some k2c2 }
/-- java/lang/Math -/
def k2 : Class := { plain "java/lang/Math" (some 0) with
  accessFlags := 49
  interfaces := #[]
  cf := some (fileOf pool2 1 #[.nestMembers #[98]] #[{ accessFlags := 2, nameIndex := 7, descriptorIndex := 8, attributes := #[] }, { accessFlags := 9, nameIndex := 198, descriptorIndex := 335, attributes := #[] }, { accessFlags := 9, nameIndex := 201, descriptorIndex := 335, attributes := #[] }] 49 4 #[] #[{ accessFlags := 25, nameIndex := 354, descriptorIndex := 339, attributes := #[] }, { accessFlags := 25, nameIndex := 358, descriptorIndex := 339, attributes := #[] }, { accessFlags := 25, nameIndex := 361, descriptorIndex := 339, attributes := #[] }, { accessFlags := 26, nameIndex := 364, descriptorIndex := 339, attributes := #[] }, { accessFlags := 26, nameIndex := 365, descriptorIndex := 339, attributes := #[] }, { accessFlags := 26, nameIndex := 172, descriptorIndex := 173, attributes := #[] }, { accessFlags := 26, nameIndex := 176, descriptorIndex := 173, attributes := #[] }, { accessFlags := 8, nameIndex := 344, descriptorIndex := 339, attributes := #[] }, { accessFlags := 8, nameIndex := 338, descriptorIndex := 339, attributes := #[] }, { accessFlags := 4120, nameIndex := 245, descriptorIndex := 246, attributes := #[] }])
  fields := #[{ name := "E", type := .double, accessFlags := 25, slot := 0, constantValue := 0 }, { name := "PI", type := .double, accessFlags := 25, slot := 1, constantValue := 0 }, { name := "TAU", type := .double, accessFlags := 25, slot := 2, constantValue := 0 }, { name := "DEGREES_TO_RADIANS", type := .double, accessFlags := 26, slot := 3, constantValue := 0 }, { name := "RADIANS_TO_DEGREES", type := .double, accessFlags := 26, slot := 4, constantValue := 0 }, { name := "negativeZeroFloatBits", type := .long, accessFlags := 26, slot := 5, constantValue := 0 }, { name := "negativeZeroDoubleBits", type := .long, accessFlags := 26, slot := 6, constantValue := 0 }, { name := "twoToTheDoubleScaleUp", type := .double, accessFlags := 8, slot := 7, constantValue := 0 }, { name := "twoToTheDoubleScaleDown", type := .double, accessFlags := 8, slot := 8, constantValue := 0 }, { name := "$assertionsDisabled", type := .boolean, accessFlags := 4120, slot := 9, constantValue := 0 }]
  methods := #[k2m0, k2m1, k2m2]
  instanceTypes := #[]
  staticTypes := #[.double, .double, .double, .double, .double, .long, .long, .double, .double, .boolean]
  resolved := Array.replicate 460 none
  statics := none }

def pool3 : Array CpInfo := pool [(3, .methodref 4 5), (0, .class_ 6), (0, .nameAndType 7 8), (0, u "java/lang/Object"), (0, u "<init>"), (0, u "()V"), (0, .class_ 10), (0, u "com/example/weir/weir/engine/TripleTable"), (0, .fieldref 9 12), (0, .nameAndType 13 14), (0, u "terms"), (0, u "[I"), (0, .class_ 16), (0, u "com/example/weir/weir/engine/Numbers"), (0, .methodref 15 5), (0, .fieldref 9 19), (0, .nameAndType 20 21), (0, u "numbers"), (0, u "Lcom/example/weir/weir/engine/Numbers;"), (0, .class_ 23), (0, u "com/example/weir/weir/engine/SubjectIndex"), (0, .invokeDynamic 0 25), (0, .nameAndType 26 27), (0, u "term"), (0, u "(Lcom/example/weir/weir/engine/TripleTable;)Lcom/example/weir/weir/engine/SubjectIndex$Terms;"), (0, .methodref 22 29), (0, .nameAndType 7 30), (0, u "(Lcom/example/weir/weir/engine/SubjectIndex$Terms;)V"), (0, .fieldref 9 32), (0, .nameAndType 33 34), (0, u "index"), (0, u "Lcom/example/weir/weir/engine/SubjectIndex;"), (0, .fieldref 9 36), (0, .nameAndType 37 38), (0, u "size"), (0, u "I"), (3, u "()I"), (4, .fieldref 9 48), (0, .nameAndType 49 50), (0, u "ends"), (0, u "[J"), (0, .long 9223372036854775807), (1, .methodref 9 54), (0, .nameAndType 55 56), (0, u "uncountEnd"), (0, u "(I)V"), (0, .methodref 9 58), (0, .nameAndType 59 60), (0, u "putEnd"), (0, u "(IJ)V"), (0, .fieldref 9 62), (0, .nameAndType 63 38), (0, u "earliest"), (0, .fieldref 9 65), (0, .nameAndType 66 14), (0, u "strata"), (0, .methodref 9 68), (0, .nameAndType 69 42), (0, u "capacity"), (0, .methodref 71 72), (0, .class_ 73), (0, .nameAndType 74 75), (0, u "java/util/Arrays"), (0, u "fill"), (0, u "([II)V"), (0, .fieldref 9 77), (0, .nameAndType 78 38), (0, u "ending"), (0, .fieldref 9 80), (0, .nameAndType 81 14), (0, u "moves"), (6, .methodref 15 89), (0, .nameAndType 90 42), (0, u "take"), (5, u "(II)I"), (0, .methodref 71 98), (0, .nameAndType 99 100), (0, u "copyOf"), (0, u "([II)[I"), (3, .methodref 22 105), (0, .nameAndType 106 107), (0, u "add"), (0, u "(II)V"), (17, u "letGoOfEnds"), (4, .methodref 9 131), (0, .nameAndType 132 133), (0, u "end"), (0, u "(I)J"), (0, .long 9223372036854775809), (1, .methodref 71 137), (0, .nameAndType 74 138), (0, u "([JJ)V"), (0, u "SUBJECT"), (2, u "PREDICATE"), (1, u "OBJECT"), (1, u "FOREVER"), (0, u "J"), (0, u "EARLIEST"), (0, u "FREE"), (1, u "SMALLEST_CAPACITY"), (6, u "setEnd"), (2, u "setStratum"), (0, u "endRoom"), (0, u "countMove"), (0, u "(IIIJ)I"), (6, .methodType 96), (0, .methodHandle 5 173), (0, .methodref 9 174), (0, .nameAndType 26 96), (0, .methodHandle 6 176), (0, .methodref 177 178), (0, .class_ 179), (0, .nameAndType 180 181), (0, u "java/lang/invoke/LambdaMetafactory"), (0, u "metafactory"), (0, u "(Ljava/lang/invoke/MethodHandles$Lookup;Ljava/lang/String;Ljava/lang/invoke/MethodType;Ljava/lang/invoke/MethodType;Ljava/lang/invoke/MethodHandle;Ljava/lang/invoke/MethodType;)Ljava/lang/invoke/CallSite;")] 9

def k3c0 : Code := { maxStack := 4, maxLocals := 1, code := prog_50_method_1_code, exceptionTable := #[], attributes := #[] }
def k3m0 : Method := { name := "<init>", desc := "()V", sig := { parameters := [], returnType := none }, accessFlags := 0, code := some k3c0 }
def k3c1 : Code := { maxStack := 2, maxLocals := 1, code := prog_50_method_4_code, exceptionTable := #[], attributes := #[] }
def k3m1 : Method := { name := "capacity", desc := "()I", sig := { parameters := [], returnType := some .int }, accessFlags := 0, code := some k3c1 }
def k3c2 : Code := { maxStack := 3, maxLocals := 3, code := prog_50_method_7_code, exceptionTable := #[], attributes := #[] }
def k3m2 : Method := { name := "term", desc := "(II)I", sig := { parameters := [.int, .int], returnType := some .int }, accessFlags := 0, code := some k3c2 }
def k3c3 : Code := { maxStack := 2, maxLocals := 2, code := prog_50_method_8_code, exceptionTable := #[], attributes := #[] }
def k3m3 : Method := { name := "end", desc := "(I)J", sig := { parameters := [.int], returnType := some .long }, accessFlags := 0, code := some k3c3 }
def k3c4 : Code := { maxStack := 4, maxLocals := 4, code := prog_50_method_9_code, exceptionTable := #[], attributes := #[] }
def k3m4 : Method := { name := "setEnd", desc := "(IJ)V", sig := { parameters := [.int, .long], returnType := none }, accessFlags := 0, code := some k3c4 }
def k3c5 : Code := { maxStack := 3, maxLocals := 3, code := prog_50_method_12_code, exceptionTable := #[], attributes := #[] }
def k3m5 : Method := { name := "setStratum", desc := "(II)V", sig := { parameters := [.int, .int], returnType := none }, accessFlags := 0, code := some k3c5 }
def k3c6 : Code := { maxStack := 2, maxLocals := 1, code := prog_50_method_13_code, exceptionTable := #[], attributes := #[] }
def k3m6 : Method := { name := "letGoOfEnds", desc := "()V", sig := { parameters := [], returnType := none }, accessFlags := 0, code := some k3c6 }
def k3c7 : Code := { maxStack := 3, maxLocals := 1, code := prog_50_method_14_code, exceptionTable := #[], attributes := #[] }
def k3m7 : Method := { name := "endRoom", desc := "()I", sig := { parameters := [], returnType := some .int }, accessFlags := 0, code := some k3c7 }
def k3c8 : Code := { maxStack := 4, maxLocals := 2, code := prog_50_method_16_code, exceptionTable := #[], attributes := #[] }
def k3m8 : Method := { name := "countMove", desc := "(I)V", sig := { parameters := [.int], returnType := none }, accessFlags := 0, code := some k3c8 }
def k3c9 : Code := { maxStack := 6, maxLocals := 7, code := prog_50_method_18_code, exceptionTable := #[], attributes := #[] }
def k3m9 : Method := { name := "add", desc := "(IIIJ)I", sig := { parameters := [.int, .int, .int, .long], returnType := some .int }, accessFlags := 0, code := some k3c9 }
def k3c10 : Code := { maxStack := 4, maxLocals := 4, code := prog_50_method_22_code, exceptionTable := #[], attributes := #[] }
def k3m10 : Method := { name := "uncountEnd", desc := "(I)V", sig := { parameters := [.int], returnType := none }, accessFlags := 2, code := some k3c10 }
def k3c11 : Code := { maxStack := 4, maxLocals := 4, code := prog_50_method_23_code, exceptionTable := #[], attributes := #[] }
def k3m11 : Method := { name := "putEnd", desc := "(IJ)V", sig := { parameters := [.int, .long], returnType := none }, accessFlags := 2, code := some k3c11 }
/-- com/example/weir/weir/engine/TripleTable -/
def k3 : Class := { plain "com/example/weir/weir/engine/TripleTable" (some 0) with
  accessFlags := 48
  interfaces := #[]
  cf := some (fileOf pool3 9 #[.bootstrapMethods #[⟨175, #[171, 172, 171]⟩]] #[{ accessFlags := 0, nameIndex := 7, descriptorIndex := 8, attributes := #[] }, { accessFlags := 0, nameIndex := 69, descriptorIndex := 42, attributes := #[] }, { accessFlags := 0, nameIndex := 26, descriptorIndex := 96, attributes := #[] }, { accessFlags := 0, nameIndex := 132, descriptorIndex := 133, attributes := #[] }, { accessFlags := 0, nameIndex := 158, descriptorIndex := 60, attributes := #[] }, { accessFlags := 0, nameIndex := 161, descriptorIndex := 107, attributes := #[] }, { accessFlags := 0, nameIndex := 125, descriptorIndex := 8, attributes := #[] }, { accessFlags := 0, nameIndex := 162, descriptorIndex := 42, attributes := #[] }, { accessFlags := 0, nameIndex := 163, descriptorIndex := 56, attributes := #[] }, { accessFlags := 0, nameIndex := 106, descriptorIndex := 164, attributes := #[] }, { accessFlags := 2, nameIndex := 55, descriptorIndex := 56, attributes := #[] }, { accessFlags := 2, nameIndex := 59, descriptorIndex := 60, attributes := #[] }] 48 4 #[] #[{ accessFlags := 24, nameIndex := 139, descriptorIndex := 38, attributes := #[] }, { accessFlags := 24, nameIndex := 142, descriptorIndex := 38, attributes := #[] }, { accessFlags := 24, nameIndex := 144, descriptorIndex := 38, attributes := #[] }, { accessFlags := 24, nameIndex := 146, descriptorIndex := 147, attributes := #[] }, { accessFlags := 24, nameIndex := 148, descriptorIndex := 147, attributes := #[] }, { accessFlags := 26, nameIndex := 149, descriptorIndex := 38, attributes := #[] }, { accessFlags := 26, nameIndex := 151, descriptorIndex := 38, attributes := #[] }, { accessFlags := 2, nameIndex := 13, descriptorIndex := 14, attributes := #[] }, { accessFlags := 2, nameIndex := 49, descriptorIndex := 50, attributes := #[] }, { accessFlags := 2, nameIndex := 78, descriptorIndex := 38, attributes := #[] }, { accessFlags := 2, nameIndex := 63, descriptorIndex := 38, attributes := #[] }, { accessFlags := 2, nameIndex := 66, descriptorIndex := 14, attributes := #[] }, { accessFlags := 2, nameIndex := 81, descriptorIndex := 14, attributes := #[] }, { accessFlags := 18, nameIndex := 20, descriptorIndex := 21, attributes := #[] }, { accessFlags := 2, nameIndex := 37, descriptorIndex := 38, attributes := #[] }, { accessFlags := 2, nameIndex := 33, descriptorIndex := 34, attributes := #[] }])
  fields := #[{ name := "SUBJECT", type := .int, accessFlags := 24, slot := 0, constantValue := 0 }, { name := "PREDICATE", type := .int, accessFlags := 24, slot := 1, constantValue := 0 }, { name := "OBJECT", type := .int, accessFlags := 24, slot := 2, constantValue := 0 }, { name := "FOREVER", type := .long, accessFlags := 24, slot := 3, constantValue := 0 }, { name := "EARLIEST", type := .long, accessFlags := 24, slot := 4, constantValue := 0 }, { name := "FREE", type := .int, accessFlags := 26, slot := 5, constantValue := 0 }, { name := "SMALLEST_CAPACITY", type := .int, accessFlags := 26, slot := 6, constantValue := 0 }, { name := "terms", type := (.array .int), accessFlags := 2, slot := 0, constantValue := 0 }, { name := "ends", type := (.array .long), accessFlags := 2, slot := 1, constantValue := 0 }, { name := "ending", type := .int, accessFlags := 2, slot := 2, constantValue := 0 }, { name := "earliest", type := .int, accessFlags := 2, slot := 3, constantValue := 0 }, { name := "strata", type := (.array .int), accessFlags := 2, slot := 4, constantValue := 0 }, { name := "moves", type := (.array .int), accessFlags := 2, slot := 5, constantValue := 0 }, { name := "numbers", type := (.object "com/example/weir/weir/engine/Numbers"), accessFlags := 18, slot := 6, constantValue := 0 }, { name := "size", type := .int, accessFlags := 2, slot := 7, constantValue := 0 }, { name := "index", type := (.object "com/example/weir/weir/engine/SubjectIndex"), accessFlags := 2, slot := 8, constantValue := 0 }]
  methods := #[k3m0, k3m1, k3m2, k3m3, k3m4, k3m5, k3m6, k3m7, k3m8, k3m9, k3m10, k3m11]
  instanceTypes := #[(.array .int), (.array .long), .int, .int, (.array .int), (.array .int), (.object "com/example/weir/weir/engine/Numbers"), .int, (.object "com/example/weir/weir/engine/SubjectIndex")]
  staticTypes := #[.int, .int, .int, .long, .long, .int, .int]
  resolved := Array.replicate 191 none
  callSites := [(0, 30, .makes 20)]
  statics := none }

def pool4 : Array CpInfo := pool [(1, .methodref 2 3), (0, .class_ 4), (0, .nameAndType 5 6), (0, u "java/lang/Object"), (0, u "<init>"), (0, u "()V"), (0, .class_ 8), (0, u "com/example/weir/weir/engine/IntList"), (0, .methodref 7 3), (0, .fieldref 11 12), (0, .class_ 13), (0, .nameAndType 14 15), (0, u "com/example/weir/weir/engine/Numbers"), (0, u "free"), (0, u "Lcom/example/weir/weir/engine/IntList;"), (0, .methodref 7 17), (0, .nameAndType 18 19), (0, u "size"), (0, u "()I"), (3, .fieldref 11 24), (0, .nameAndType 25 26), (0, u "limit"), (0, u "I"), (8, u "SMALLEST_COMPACTED"), (4, u "take")] 9

def k4c0 : Code := { maxStack := 3, maxLocals := 1, code := prog_41_method_1_code, exceptionTable := #[], attributes := #[] }
def k4m0 : Method := { name := "<init>", desc := "()V", sig := { parameters := [], returnType := none }, accessFlags := 0, code := some k4c0 }
def k4c1 : Code := { maxStack := 4, maxLocals := 1, code := prog_41_method_2_code, exceptionTable := #[], attributes := #[] }
def k4m1 : Method := { name := "take", desc := "()I", sig := { parameters := [], returnType := some .int }, accessFlags := 0, code := some k4c1 }
/-- com/example/weir/weir/engine/Numbers -/
def k4 : Class := { plain "com/example/weir/weir/engine/Numbers" (some 0) with
  accessFlags := 48
  interfaces := #[]
  cf := some (fileOf pool4 11 #[] #[{ accessFlags := 0, nameIndex := 5, descriptorIndex := 6, attributes := #[] }, { accessFlags := 0, nameIndex := 40, descriptorIndex := 19, attributes := #[] }] 48 2 #[] #[{ accessFlags := 26, nameIndex := 35, descriptorIndex := 26, attributes := #[] }, { accessFlags := 2, nameIndex := 25, descriptorIndex := 26, attributes := #[] }, { accessFlags := 2, nameIndex := 14, descriptorIndex := 15, attributes := #[] }])
  fields := #[{ name := "SMALLEST_COMPACTED", type := .int, accessFlags := 26, slot := 0, constantValue := 0 }, { name := "limit", type := .int, accessFlags := 2, slot := 0, constantValue := 0 }, { name := "free", type := (.object "com/example/weir/weir/engine/IntList"), accessFlags := 2, slot := 1, constantValue := 0 }]
  methods := #[k4m0, k4m1]
  instanceTypes := #[.int, (.object "com/example/weir/weir/engine/IntList")]
  staticTypes := #[.int]
  resolved := Array.replicate 50 none
  statics := none }

def pool5 : Array CpInfo := pool [(1, .methodref 2 3), (0, .class_ 4), (0, .nameAndType 5 6), (0, u "java/lang/Object"), (0, u "<init>"), (0, u "()V"), (0, .class_ 8), (0, u "com/example/weir/weir/engine/IntList"), (0, .fieldref 7 10), (0, .nameAndType 11 12), (0, u "values"), (0, u "[I"), (0, .fieldref 7 14), (0, .nameAndType 15 16), (0, u "size"), (0, u "I"), (6, u "SMALLEST_ROOM"), (12, u "()I")] 2

def k5c0 : Code := { maxStack := 2, maxLocals := 1, code := prog_27_method_1_code, exceptionTable := #[], attributes := #[] }
def k5m0 : Method := { name := "<init>", desc := "()V", sig := { parameters := [], returnType := none }, accessFlags := 0, code := some k5c0 }
def k5c1 : Code := { maxStack := 1, maxLocals := 1, code := prog_27_method_6_code, exceptionTable := #[], attributes := #[] }
def k5m1 : Method := { name := "size", desc := "()I", sig := { parameters := [], returnType := some .int }, accessFlags := 0, code := some k5c1 }
/-- com/example/weir/weir/engine/IntList -/
def k5 : Class := { plain "com/example/weir/weir/engine/IntList" (some 0) with
  accessFlags := 48
  interfaces := #[]
  cf := some (fileOf pool5 7 #[] #[{ accessFlags := 0, nameIndex := 5, descriptorIndex := 6, attributes := #[] }, { accessFlags := 0, nameIndex := 15, descriptorIndex := 36, attributes := #[] }] 48 2 #[] #[{ accessFlags := 26, nameIndex := 23, descriptorIndex := 16, attributes := #[] }, { accessFlags := 2, nameIndex := 11, descriptorIndex := 12, attributes := #[] }, { accessFlags := 2, nameIndex := 15, descriptorIndex := 16, attributes := #[] }])
  fields := #[{ name := "SMALLEST_ROOM", type := .int, accessFlags := 26, slot := 0, constantValue := 0 }, { name := "values", type := (.array .int), accessFlags := 2, slot := 0, constantValue := 0 }, { name := "size", type := .int, accessFlags := 2, slot := 1, constantValue := 0 }]
  methods := #[k5m0, k5m1]
  instanceTypes := #[(.array .int), .int]
  staticTypes := #[.int]
  resolved := Array.replicate 39 none
  statics := none }

def pool6 : Array CpInfo := pool [(1, .class_ 2), (0, u "com/example/weir/weir/engine/SubjectIndex"), (0, .methodref 4 5), (0, .class_ 6), (0, .nameAndType 7 8), (0, u "java/lang/Object"), (0, u "<init>"), (0, u "()V"), (0, .class_ 10), (0, u "com/example/weir/weir/engine/IntIntMap"), (0, .methodref 9 5), (0, .fieldref 1 13), (0, .nameAndType 14 15), (0, u "subjects"), (0, u "Lcom/example/weir/weir/engine/IntIntMap;"), (0, .fieldref 1 17), (0, .nameAndType 18 19), (0, u "NO_LINKS"), (0, u "[I"), (0, .fieldref 1 21), (0, .nameAndType 22 19), (0, u "next"), (0, .fieldref 1 24), (0, .nameAndType 25 26), (0, u "terms"), (0, u "Lcom/example/weir/weir/engine/SubjectIndex$Terms;"), (9, .methodref 9 37), (0, .nameAndType 38 39), (0, u "place"), (0, u "(I)I"), (3, u "(II)I"), (8, .methodref 53 54), (0, .class_ 55), (0, .nameAndType 56 57), (0, u "java/util/Arrays"), (0, u "copyOf"), (0, u "([II)[I"), (2, .interfaceMethodref 61 62), (0, .class_ 63), (0, .nameAndType 64 43), (0, u "com/example/weir/weir/engine/SubjectIndex$Terms"), (0, u "term"), (0, .methodref 9 66), (0, .nameAndType 67 43), (0, u "add"), (53, u "CHAINED"), (0, u "I"), (2, u "SMALLEST_TABLE"), (0, u "END"), (1, u "(Lcom/example/weir/weir/engine/SubjectIndex$Terms;)V"), (6, u "(II)V")] 20

def k6c0 : Code := { maxStack := 3, maxLocals := 2, code := prog_43_method_1_code, exceptionTable := #[], attributes := #[] }
def k6m0 : Method := { name := "<init>", desc := "(Lcom/example/weir/weir/engine/SubjectIndex$Terms;)V", sig := { parameters := [(.object "com/example/weir/weir/engine/SubjectIndex$Terms")], returnType := none }, accessFlags := 0, code := some k6c0 }
def k6c1 : Code := { maxStack := 7, maxLocals := 6, code := prog_43_method_4_code, exceptionTable := #[], attributes := #[] }
def k6m1 : Method := { name := "add", desc := "(II)V", sig := { parameters := [.int, .int], returnType := none }, accessFlags := 0, code := some k6c1 }
/-- com/example/weir/weir/engine/SubjectIndex -/
def k6 : Class := { plain "com/example/weir/weir/engine/SubjectIndex" (some 0) with
  accessFlags := 48
  interfaces := #[]
  cf := some (fileOf pool6 1 #[.nestMembers #[61]] #[{ accessFlags := 0, nameIndex := 7, descriptorIndex := 128, attributes := #[] }, { accessFlags := 0, nameIndex := 67, descriptorIndex := 135, attributes := #[] }] 48 4 #[] #[{ accessFlags := 26, nameIndex := 121, descriptorIndex := 122, attributes := #[] }, { accessFlags := 26, nameIndex := 125, descriptorIndex := 122, attributes := #[] }, { accessFlags := 26, nameIndex := 126, descriptorIndex := 122, attributes := #[] }, { accessFlags := 26, nameIndex := 18, descriptorIndex := 19, attributes := #[] }, { accessFlags := 18, nameIndex := 25, descriptorIndex := 26, attributes := #[] }, { accessFlags := 18, nameIndex := 14, descriptorIndex := 15, attributes := #[] }, { accessFlags := 2, nameIndex := 22, descriptorIndex := 19, attributes := #[] }])
  fields := #[{ name := "CHAINED", type := .int, accessFlags := 26, slot := 0, constantValue := 0 }, { name := "SMALLEST_TABLE", type := .int, accessFlags := 26, slot := 1, constantValue := 0 }, { name := "END", type := .int, accessFlags := 26, slot := 2, constantValue := 0 }, { name := "NO_LINKS", type := (.array .int), accessFlags := 26, slot := 3, constantValue := 0 }, { name := "terms", type := (.object "com/example/weir/weir/engine/SubjectIndex$Terms"), accessFlags := 18, slot := 0, constantValue := 0 }, { name := "subjects", type := (.object "com/example/weir/weir/engine/IntIntMap"), accessFlags := 18, slot := 1, constantValue := 0 }, { name := "next", type := (.array .int), accessFlags := 2, slot := 2, constantValue := 0 }]
  methods := #[k6m0, k6m1]
  instanceTypes := #[(.object "com/example/weir/weir/engine/SubjectIndex$Terms"), (.object "com/example/weir/weir/engine/IntIntMap"), (.array .int)]
  staticTypes := #[.int, .int, .int, (.array .int)]
  resolved := Array.replicate 156 none
  statics := some 0 }

def pool7 : Array CpInfo := pool [(1, .class_ 2), (0, u "com/example/weir/weir/engine/SubjectIndex$Terms"), (0, .class_ 4), (0, u "java/lang/Object"), (0, u "term"), (0, u "(II)I"), (5, .class_ 13), (0, u "com/example/weir/weir/engine/SubjectIndex")] 2

def k7m0 : Method := { name := "term", desc := "(II)I", sig := { parameters := [.int, .int], returnType := some .int }, accessFlags := 1025, code := none }
/-- com/example/weir/weir/engine/SubjectIndex$Terms -/
def k7 : Class := { plain "com/example/weir/weir/engine/SubjectIndex$Terms" (some 0) with
  accessFlags := 1536
  interfaces := #[]
  cf := some (fileOf pool7 1 #[.nestHost 12] #[{ accessFlags := 1025, nameIndex := 5, descriptorIndex := 6, attributes := #[] }] 1536 3 #[] #[])
  fields := #[]
  methods := #[k7m0]
  instanceTypes := #[]
  staticTypes := #[]
  resolved := Array.replicate 16 none
  statics := none }

def pool8 : Array CpInfo := pool [(1, .methodref 2 3), (0, .class_ 4), (0, .nameAndType 5 6), (0, u "com/example/weir/weir/engine/IntIntMap"), (0, u "<init>"), (0, u "(I)V"), (0, .methodref 8 9), (0, .class_ 10), (0, .nameAndType 5 11), (0, u "java/lang/Object"), (0, u "()V"), (0, .fieldref 2 13), (0, .nameAndType 14 15), (0, u "width"), (0, u "I"), (0, .fieldref 2 17), (0, .nameAndType 18 15), (0, u "stride"), (0, .methodref 2 20), (0, .nameAndType 21 22), (0, u "emptyTable"), (0, u "(IZ)V"), (0, .fieldref 2 24), (0, .nameAndType 25 15), (0, u "size"), (0, .fieldref 2 27), (0, .nameAndType 28 29), (0, u "values"), (0, u "[I"), (0, .fieldref 2 31), (0, .nameAndType 32 29), (0, u "entries"), (0, .fieldref 2 34), (0, .nameAndType 35 15), (0, u "keys"), (0, .methodref 2 37), (0, .nameAndType 38 39), (0, u "find"), (0, u "(I)I"), (2, u "place"), (2, u "add"), (0, u "(II)I"), (7, .fieldref 2 55), (0, .nameAndType 56 15), (0, u "greatestKey"), (0, .methodref 58 59), (0, .class_ 60), (0, .nameAndType 61 46), (0, u "java/lang/Math"), (0, u "max"), (0, .methodref 2 63), (0, .nameAndType 64 6), (0, u "toArray"), (3, .fieldref 2 69), (0, .nameAndType 70 15), (0, u "slots"), (4, .class_ 77), (1, u "java/util/Arrays"), (0, u "fill"), (1, .fieldref 2 81), (0, .nameAndType 82 83), (0, u "objects"), (0, u "[Ljava/lang/Object;"), (4, .methodref 89 90), (0, .class_ 91), (0, .nameAndType 92 93), (0, u "com/example/weir/weir/engine/LinearProbing"), (0, u "spread"), (0, u "(J)I"), (39, .methodref 75 134), (0, .nameAndType 78 135), (0, u "([II)V"), (0, u "ABSENT"), (2, u "SMALLEST_TABLE"), (1, u "SMALLEST_SHRUNK_ARRAY")] 16

def k8c0 : Code := { maxStack := 2, maxLocals := 1, code := prog_26_method_1_code, exceptionTable := #[], attributes := #[] }
def k8m0 : Method := { name := "<init>", desc := "()V", sig := { parameters := [], returnType := none }, accessFlags := 0, code := some k8c0 }
def k8c1 : Code := { maxStack := 3, maxLocals := 2, code := prog_26_method_2_code, exceptionTable := #[], attributes := #[] }
def k8m1 : Method := { name := "<init>", desc := "(I)V", sig := { parameters := [.int], returnType := none }, accessFlags := 0, code := some k8c1 }
def k8c2 : Code := { maxStack := 3, maxLocals := 3, code := prog_26_method_7_code, exceptionTable := #[], attributes := #[] }
def k8m2 : Method := { name := "place", desc := "(I)I", sig := { parameters := [.int], returnType := some .int }, accessFlags := 0, code := some k8c2 }
def k8c3 : Code := { maxStack := 5, maxLocals := 5, code := prog_26_method_8_code, exceptionTable := #[], attributes := #[] }
def k8m3 : Method := { name := "add", desc := "(II)I", sig := { parameters := [.int, .int], returnType := some .int }, accessFlags := 0, code := some k8c3 }
def k8c4 : Code := { maxStack := 3, maxLocals := 4, code := prog_26_method_20_code, exceptionTable := #[], attributes := #[] }
def k8m4 : Method := { name := "find", desc := "(I)I", sig := { parameters := [.int], returnType := some .int }, accessFlags := 2, code := some k8c4 }
def k8c5 : Code := { maxStack := 3, maxLocals := 3, code := prog_26_method_22_code, exceptionTable := #[], attributes := #[] }
def k8m5 : Method := { name := "emptyTable", desc := "(IZ)V", sig := { parameters := [.int, .boolean], returnType := none }, accessFlags := 2, code := some k8c5 }
def k8c6 : Code := { maxStack := 5, maxLocals := 5, code := prog_26_method_24_code, exceptionTable := #[], attributes := #[] }
def k8m6 : Method := { name := "toArray", desc := "(I)V", sig := { parameters := [.int], returnType := none }, accessFlags := 2, code := some k8c6 }
/-- com/example/weir/weir/engine/IntIntMap -/
def k8 : Class := { plain "com/example/weir/weir/engine/IntIntMap" (some 0) with
  accessFlags := 48
  interfaces := #[]
  cf := some (fileOf pool8 2 #[] #[{ accessFlags := 0, nameIndex := 5, descriptorIndex := 11, attributes := #[] }, { accessFlags := 0, nameIndex := 5, descriptorIndex := 6, attributes := #[] }, { accessFlags := 0, nameIndex := 42, descriptorIndex := 39, attributes := #[] }, { accessFlags := 0, nameIndex := 45, descriptorIndex := 46, attributes := #[] }, { accessFlags := 2, nameIndex := 38, descriptorIndex := 39, attributes := #[] }, { accessFlags := 2, nameIndex := 21, descriptorIndex := 22, attributes := #[] }, { accessFlags := 2, nameIndex := 64, descriptorIndex := 6, attributes := #[] }] 48 8 #[] #[{ accessFlags := 24, nameIndex := 136, descriptorIndex := 15, attributes := #[] }, { accessFlags := 26, nameIndex := 139, descriptorIndex := 15, attributes := #[] }, { accessFlags := 26, nameIndex := 141, descriptorIndex := 15, attributes := #[] }, { accessFlags := 18, nameIndex := 14, descriptorIndex := 15, attributes := #[] }, { accessFlags := 18, nameIndex := 18, descriptorIndex := 15, attributes := #[] }, { accessFlags := 2, nameIndex := 32, descriptorIndex := 29, attributes := #[] }, { accessFlags := 2, nameIndex := 70, descriptorIndex := 15, attributes := #[] }, { accessFlags := 2, nameIndex := 28, descriptorIndex := 29, attributes := #[] }, { accessFlags := 2, nameIndex := 35, descriptorIndex := 15, attributes := #[] }, { accessFlags := 2, nameIndex := 82, descriptorIndex := 83, attributes := #[] }, { accessFlags := 2, nameIndex := 56, descriptorIndex := 15, attributes := #[] }, { accessFlags := 2, nameIndex := 25, descriptorIndex := 15, attributes := #[] }])
  fields := #[{ name := "ABSENT", type := .int, accessFlags := 24, slot := 0, constantValue := 0 }, { name := "SMALLEST_TABLE", type := .int, accessFlags := 26, slot := 1, constantValue := 0 }, { name := "SMALLEST_SHRUNK_ARRAY", type := .int, accessFlags := 26, slot := 2, constantValue := 0 }, { name := "width", type := .int, accessFlags := 18, slot := 0, constantValue := 0 }, { name := "stride", type := .int, accessFlags := 18, slot := 1, constantValue := 0 }, { name := "entries", type := (.array .int), accessFlags := 2, slot := 2, constantValue := 0 }, { name := "slots", type := .int, accessFlags := 2, slot := 3, constantValue := 0 }, { name := "values", type := (.array .int), accessFlags := 2, slot := 4, constantValue := 0 }, { name := "keys", type := .int, accessFlags := 2, slot := 5, constantValue := 0 }, { name := "objects", type := (.array (.object "java/lang/Object")), accessFlags := 2, slot := 6, constantValue := 0 }, { name := "greatestKey", type := .int, accessFlags := 2, slot := 7, constantValue := 0 }, { name := "size", type := .int, accessFlags := 2, slot := 8, constantValue := 0 }]
  methods := #[k8m0, k8m1, k8m2, k8m3, k8m4, k8m5, k8m6]
  instanceTypes := #[.int, .int, (.array .int), .int, (.array .int), .int, (.array (.object "java/lang/Object")), .int, .int]
  staticTypes := #[.int, .int, .int]
  resolved := Array.replicate 158 none
  statics := none }

def pool9 : Array CpInfo := pool [(2, .class_ 4), (1, u "java/lang/Object"), (0, u "<init>"), (0, u "()V"), (7, .class_ 16), (1, u "java/util/Arrays"), (57, .class_ 76), (1, u "java/util/Arrays$NaturalOrder"), (36, .class_ 115), (1, u "java/util/Arrays$LegacyMergeSort"), (1, u "Z"), (32, .methodref 151 152), (0, .class_ 153), (0, .nameAndType 154 155), (0, u "java/lang/System"), (0, u "arraycopy"), (0, u "(Ljava/lang/Object;ILjava/lang/Object;II)V"), (146, u "copyOf"), (1, .methodref 305 306), (0, .class_ 307), (0, .nameAndType 308 309), (0, u "java/lang/Math"), (0, u "min"), (0, u "(II)I"), (65, .class_ 376), (0, u "java/util/Arrays$ArrayList"), (68, u "$assertionsDisabled"), (269, u "MIN_ARRAY_SORT_GRAN"), (0, u "I"), (2, u "INSERTIONSORT_THRESHOLD"), (120, u "fill"), (0, u "([JJ)V"), (3, u "([II)V"), (25, u "([II)[I"), (103, .class_ 976), (0, u "java/util/Arrays$ArrayItr")] 52

def k9m0 : Method := { name := "<init>", desc := "()V", sig := { parameters := [], returnType := none }, accessFlags := 2, code := none }
def k9c1 : Code := { maxStack := 4, maxLocals := 5, code := jdk_65_method_101_code, exceptionTable := #[], attributes := #[] }
def k9m1 : Method := { name := "fill", desc := "([JJ)V", sig := { parameters := [(.array .long), .long], returnType := none }, accessFlags := 9, code := some k9c1 }
def k9c2 : Code := { maxStack := 3, maxLocals := 4, code := jdk_65_method_103_code, exceptionTable := #[], attributes := #[] }
def k9m2 : Method := { name := "fill", desc := "([II)V", sig := { parameters := [(.array .int), .int], returnType := none }, accessFlags := 9, code := some k9c2 }
def k9c3 : Code := { maxStack := 6, maxLocals := 3, code := jdk_65_method_123_code, exceptionTable := #[], attributes := #[] }
def k9m3 : Method := { name := "copyOf", desc := "([II)[I", sig := { parameters := [(.array .int), .int], returnType := some (.array .int) }, accessFlags := 9, code := some k9c3 }
/-- java/util/Arrays -/
def k9 : Class := { plain "java/util/Arrays" (some 0) with
  accessFlags := 49
  interfaces := #[]
  cf := some (fileOf pool9 14 #[.nestMembers #[975, 375, 113, 74]] #[{ accessFlags := 2, nameIndex := 5, descriptorIndex := 6, attributes := #[] }, { accessFlags := 9, nameIndex := 840, descriptorIndex := 841, attributes := #[] }, { accessFlags := 9, nameIndex := 840, descriptorIndex := 845, attributes := #[] }, { accessFlags := 9, nameIndex := 302, descriptorIndex := 871, attributes := #[] }] 49 2 #[] #[{ accessFlags := 26, nameIndex := 715, descriptorIndex := 716, attributes := #[] }, { accessFlags := 26, nameIndex := 719, descriptorIndex := 716, attributes := #[] }, { accessFlags := 4120, nameIndex := 445, descriptorIndex := 117, attributes := #[] }])
  fields := #[{ name := "MIN_ARRAY_SORT_GRAN", type := .int, accessFlags := 26, slot := 0, constantValue := 0 }, { name := "INSERTIONSORT_THRESHOLD", type := .int, accessFlags := 26, slot := 1, constantValue := 0 }, { name := "$assertionsDisabled", type := .boolean, accessFlags := 4120, slot := 2, constantValue := 0 }]
  methods := #[k9m0, k9m1, k9m2, k9m3]
  instanceTypes := #[]
  staticTypes := #[.int, .int, .boolean]
  resolved := Array.replicate 1029 none
  statics := none }

def pool10 : Array CpInfo := pool [(2, .class_ 4), (1, u "java/lang/Object"), (0, u "<init>"), (0, u "()V"), (1, .class_ 10), (1, u "java/lang/System"), (0, u "allowSecurityManager"), (0, u "I"), (16, u "cons"), (0, u "Ljava/io/Console;"), (77, .class_ 110), (1, u "java/lang/System$CallersHolder"), (43, u "initialErrStream"), (0, u "Ljava/io/PrintStream;"), (19, u "security"), (0, u "Ljava/lang/SecurityManager;"), (31, .class_ 209), (0, u "java/lang/System$1"), (7, u "props"), (0, u "Ljava/util/Properties;"), (2, u "lineSeparator"), (0, u "Ljava/lang/String;"), (96, .class_ 321), (1, u "java/lang/System$LoggerFinder"), (5, .class_ 328), (0, u "java/lang/System$Logger"), (67, u "err"), (2, u "out"), (91, u "notSupportedJnuEncoding"), (15, u "in"), (17, u "initialIn"), (0, u "Ljava/io/InputStream;"), (35, u "bootLayer"), (0, u "Ljava/lang/ModuleLayer;"), (99, .class_ 664), (0, u "java/lang/System$2"), (9, u "NEVER"), (2, u "MAYBE"), (49, u "arraycopy"), (0, u "(Ljava/lang/Object;ILjava/lang/Object;II)V"), (72, .class_ 802), (0, u "java/lang/System$Logger$Level")] 31

def k10m0 : Method := { name := "<init>", desc := "()V", sig := { parameters := [], returnType := none }, accessFlags := 2, code := none }
def k10m1 : Method := { name := "arraycopy", desc := "(Ljava/lang/Object;ILjava/lang/Object;II)V", sig := { parameters := [(.object "java/lang/Object"), .int, (.object "java/lang/Object"), .int, .int], returnType := none }, accessFlags := 265, code := none }
/-- java/lang/System -/
def k10 : Class := { plain "java/lang/System" (some 0) with
  accessFlags := 49
  interfaces := #[]
  cf := some (fileOf pool10 8 #[.nestMembers #[319, 327, 801, 108, 663, 208]] #[{ accessFlags := 2, nameIndex := 5, descriptorIndex := 6, attributes := #[] }, { accessFlags := 265, nameIndex := 727, descriptorIndex := 728, attributes := #[] }] 49 2 #[] #[{ accessFlags := 25, nameIndex := 507, descriptorIndex := 526, attributes := #[] }, { accessFlags := 25, nameIndex := 399, descriptorIndex := 155, attributes := #[] }, { accessFlags := 25, nameIndex := 396, descriptorIndex := 155, attributes := #[] }, { accessFlags := 10, nameIndex := 525, descriptorIndex := 526, attributes := #[] }, { accessFlags := 26, nameIndex := 674, descriptorIndex := 12, attributes := #[] }, { accessFlags := 26, nameIndex := 677, descriptorIndex := 12, attributes := #[] }, { accessFlags := 10, nameIndex := 11, descriptorIndex := 12, attributes := #[] }, { accessFlags := 74, nameIndex := 175, descriptorIndex := 176, attributes := #[] }, { accessFlags := 10, nameIndex := 491, descriptorIndex := 222, attributes := #[] }, { accessFlags := 74, nameIndex := 29, descriptorIndex := 30, attributes := #[] }, { accessFlags := 74, nameIndex := 154, descriptorIndex := 155, attributes := #[] }, { accessFlags := 10, nameIndex := 217, descriptorIndex := 218, attributes := #[] }, { accessFlags := 10, nameIndex := 221, descriptorIndex := 222, attributes := #[] }, { accessFlags := 8, nameIndex := 562, descriptorIndex := 563, attributes := #[] }])
  fields := #[{ name := "in", type := (.object "java/io/InputStream"), accessFlags := 25, slot := 0, constantValue := 0 }, { name := "out", type := (.object "java/io/PrintStream"), accessFlags := 25, slot := 1, constantValue := 0 }, { name := "err", type := (.object "java/io/PrintStream"), accessFlags := 25, slot := 2, constantValue := 0 }, { name := "initialIn", type := (.object "java/io/InputStream"), accessFlags := 10, slot := 3, constantValue := 0 }, { name := "NEVER", type := .int, accessFlags := 26, slot := 4, constantValue := 0 }, { name := "MAYBE", type := .int, accessFlags := 26, slot := 5, constantValue := 0 }, { name := "allowSecurityManager", type := .int, accessFlags := 10, slot := 6, constantValue := 0 }, { name := "security", type := (.object "java/lang/SecurityManager"), accessFlags := 74, slot := 7, constantValue := 0 }, { name := "notSupportedJnuEncoding", type := (.object "java/lang/String"), accessFlags := 10, slot := 8, constantValue := 0 }, { name := "cons", type := (.object "java/io/Console"), accessFlags := 74, slot := 9, constantValue := 0 }, { name := "initialErrStream", type := (.object "java/io/PrintStream"), accessFlags := 74, slot := 10, constantValue := 0 }, { name := "props", type := (.object "java/util/Properties"), accessFlags := 10, slot := 11, constantValue := 0 }, { name := "lineSeparator", type := (.object "java/lang/String"), accessFlags := 10, slot := 12, constantValue := 0 }, { name := "bootLayer", type := (.object "java/lang/ModuleLayer"), accessFlags := 8, slot := 13, constantValue := 0 }]
  methods := #[k10m0, k10m1]
  instanceTypes := #[]
  staticTypes := #[(.object "java/io/InputStream"), (.object "java/io/PrintStream"), (.object "java/io/PrintStream"), (.object "java/io/InputStream"), .int, .int, .int, (.object "java/lang/SecurityManager"), (.object "java/lang/String"), (.object "java/io/Console"), (.object "java/io/PrintStream"), (.object "java/util/Properties"), (.object "java/lang/String"), (.object "java/lang/ModuleLayer")]
  resolved := Array.replicate 834 none
  statics := none }

def pool11 : Array CpInfo := pool [(2, .class_ 4), (1, u "java/lang/Object"), (0, u "<init>"), (0, u "()V"), (0, .long 11400714819323198485), (1, .class_ 10), (0, u "com/example/weir/weir/engine/LinearProbing"), (2, u "spread"), (0, u "(J)I")] 5

def k11m0 : Method := { name := "<init>", desc := "()V", sig := { parameters := [], returnType := none }, accessFlags := 2, code := none }
def k11c1 : Code := { maxStack := 4, maxLocals := 2, code := prog_28_method_2_code, exceptionTable := #[], attributes := #[] }
def k11m1 : Method := { name := "spread", desc := "(J)I", sig := { parameters := [.long], returnType := some .int }, accessFlags := 8, code := some k11c1 }
/-- com/example/weir/weir/engine/LinearProbing -/
def k11 : Class := { plain "com/example/weir/weir/engine/LinearProbing" (some 0) with
  accessFlags := 48
  interfaces := #[]
  cf := some (fileOf pool11 9 #[] #[{ accessFlags := 2, nameIndex := 5, descriptorIndex := 6, attributes := #[] }, { accessFlags := 8, nameIndex := 13, descriptorIndex := 14, attributes := #[] }] 48 2 #[] #[])
  fields := #[]
  methods := #[k11m0, k11m1]
  instanceTypes := #[]
  staticTypes := #[]
  resolved := Array.replicate 20 none
  statics := none }

def pool12 : Array CpInfo := pool [(1, u "java/lang/Cloneable"), (0, .class_ 1), (0, u "java/lang/Object"), (0, .class_ 3)] 3

/-- java/lang/Cloneable -/
def k12 : Class := { plain "java/lang/Cloneable" (some 0) with
  accessFlags := 1537
  interfaces := #[]
  cf := some (fileOf pool12 2 #[] #[] 1537 4 #[] #[])
  fields := #[]
  methods := #[]
  instanceTypes := #[]
  staticTypes := #[]
  resolved := Array.replicate 8 none
  statics := none }

def pool13 : Array CpInfo := pool [(1, u "java/io/Serializable"), (0, .class_ 1), (0, u "java/lang/Object"), (0, .class_ 3)] 3

/-- java/io/Serializable -/
def k13 : Class := { plain "java/io/Serializable" (some 0) with
  accessFlags := 1537
  interfaces := #[]
  cf := some (fileOf pool13 2 #[] #[] 1537 4 #[] #[])
  fields := #[]
  methods := #[]
  instanceTypes := #[]
  staticTypes := #[]
  resolved := Array.replicate 8 none
  statics := none }

/-- the primitive byte -/
def k14 : Class := { plain "byte" none with kind := .primitive 'B', accessFlags := 0x411 }
/-- [B -/
def k15 : Class := { plain "[B" (some 0) with kind := .array 14 .byte, interfaces := #[12, 13], accessFlags := 1041 }

/-- the primitive int -/
def k16 : Class := { plain "int" none with kind := .primitive 'I', accessFlags := 0x411 }
/-- [I -/
def k17 : Class := { plain "[I" (some 0) with kind := .array 16 .int, interfaces := #[12, 13], accessFlags := 1041 }

/-- the primitive long -/
def k18 : Class := { plain "long" none with kind := .primitive 'J', accessFlags := 0x411 }
/-- [J -/
def k19 : Class := { plain "[J" (some 0) with kind := .array 18 .long, interfaces := #[12, 13], accessFlags := 1041 }

def classes0 : Array Class := #[k0, k1, k2, k3, k4, k5, k6, k7, k8, k9, k10, k11, k12, k13, k14, k15, k16, k17, k18, k19]
/-- the class that the rule has made for the site at 30 of com/example/weir/weir/engine/TripleTable.<init> -/
def k20 : Class := Jvm.LamKit.madeRec { classes := classes0 } "com/example/weir/weir/engine/TripleTable" (Jvm.Lambda.Shape.mk "com/example/weir/weir/engine/SubjectIndex$Terms" "term" (Jvm.ClassFile.MethodDescriptor.mk ([Jvm.ClassFile.FieldType.int, Jvm.ClassFile.FieldType.int] : List Jvm.ClassFile.FieldType) (Option.some Jvm.ClassFile.FieldType.int)) ([(Jvm.ClassFile.FieldType.object "com/example/weir/weir/engine/TripleTable")] : List Jvm.ClassFile.FieldType) (5 : Nat) "com/example/weir/weir/engine/TripleTable" "term" (Jvm.ClassFile.MethodDescriptor.mk ([Jvm.ClassFile.FieldType.int, Jvm.ClassFile.FieldType.int] : List Jvm.ClassFile.FieldType) (Option.some Jvm.ClassFile.FieldType.int)) false (Jvm.ClassFile.MethodDescriptor.mk ([Jvm.ClassFile.FieldType.int, Jvm.ClassFile.FieldType.int] : List Jvm.ClassFile.FieldType) (Option.some Jvm.ClassFile.FieldType.int))) 20

def heap : Heap := #[{ cls := 6, slots := #[.int 0, .int 0, .int 0, .ref 1], vm := .statics 6 },
  { cls := 17, slots := #[], vm := .none }]
def classes : Array Class := #[k0, k1, k2, k3, k4, k5, k6, k7, k8, k9, k10, k11, k12, k13, k14, k15, k16, k17, k18, k19, k20]
def interned : List (Array UInt16 × Addr) := []
def slotsUsed : Nat := 4
def theMethod : MethodId := ⟨1, 2⟩
def args0 : Array Value := #[.int 5, .long 5, .long 5, .int 5]
def aboutOver (below : List Frame) : State where
  vm := { classes := classes, interned := interned.toArray }
  heap := heap
  slotsUsed := slotsUsed
  threads := #[{ frames := .invoking theMethod args0 :: below }]
def below0 : List Frame := [.native { method := ⟨0, 0⟩, args := #[] }]
def about1 : State := aboutOver below0
def p0 : Program := .bare "" "" ""
def e0 : Env := launch0.env 0 0 0
theorem w_frames : about1.frames = Frame.invoking theMethod args0 :: below0 := rfl
set_option maxRecDepth 65536 in
theorem w_args : argsFit about1.vm theMethod args0 = true := by decide +kernel
set_option maxRecDepth 65536 in
theorem w_heap : heapFits about1 = true := by decide +kernel
set_option maxRecDepth 65536 in
theorem w_runnable : about1.curStatus? = some .runnable := by decide +kernel
set_option maxRecDepth 65536 in
theorem w_alone : about1.alone = true := by decide +kernel
set_option maxRecDepth 65536 in
theorem w_named : about1.methodNamed? x = some theMethod := by decide +kernel
set_option maxRecDepth 65536 in
theorem w_hears : about1.hears theMethod below0 = true := by decide +kernel
set_option maxRecDepth 65536 in
theorem w_ripe : about1.ripe theMethod args0 below0 = true := by decide +kernel
theorem w_running : about1.status = .running := rfl
set_option maxRecDepth 65536 in
theorem w_room : about1.hasRoom e0.platform room_1 = true :=
  launch0.hasRoom_least _ room_1 (by decide +kernel) (by decide +kernel) (by decide +kernel) (by decide +kernel) (by decide +kernel) (by decide +kernel)
theorem allAtoms_all (ts : List Jvm.Cond) (a : Array Jvm.Value) (st : Jvm.State) : (allAtoms ts).before a st = ts.all (fun c => c.before a st) := by
  induction ts with
  | nil => rfl
  | cons c t ih =>
    show (Jvm.Cond.and c (allAtoms t)).before a st = _
    rw [Jvm.Cond.before_and, ih, List.all_cons]
def words1 : List Jvm.Cond := Jvm.Cond.code x code maxLocals ret :: tables_1
/-- a 'code' word, met by the world's own term for the bytes: nothing is compared byte by byte -/
theorem code_word {y : MethodName} {bytes : ByteArray} {mx : Nat} {rt : Option FieldType} {a : Array Value} {s : State} {m : MethodId} {meth : Method} {c : Code} (h1 : s.methodNamed? y = some m) (h2 : s.vm.method? m = some meth) (h3 : meth.code = some c) (h4 : c.code = bytes)
    (h5 : (c.maxLocals == mx && c.exceptionTable.isEmpty && decide (c.maxStack ≤ mostOperands) && decide (meth.sig.returnType = rt) && !meth.locks && decide (parseMethodDescriptor y.desc = some meth.sig)) = true) : (Jvm.Cond.code y bytes mx rt).before a s = true := by
  simp only [Bool.and_eq_true, beq_iff_eq, Bool.not_eq_true', decide_eq_true_eq] at h5
  obtain ⟨⟨⟨⟨⟨g1, g2⟩, g3⟩, g4⟩, g5⟩, g6⟩ := h5
  simp [Cond.before, Cond.holds, Cond.value, h1, h2, h3, h4, g1, g2, g3, g4, g5, g6]
def isCode : Jvm.Cond → Bool
  | .code _ _ _ _ => true
  | _ => false
theorem all_split {L : List Jvm.Cond} {P : Jvm.Cond → Bool} (h1 : L.all (fun c => isCode c || P c) = true) (h2 : ∀ c ∈ L.filter isCode, P c = true) : L.all P = true := by
  refine List.all_eq_true.mpr fun c hc => ?_
  have h := List.all_eq_true.mp h1 c hc
  rcases Bool.eq_false_or_eq_true (isCode c) with hi | hi
  · exact h2 c (List.mem_filter.mpr ⟨hc, hi⟩)
  · simpa [hi] using h
set_option maxRecDepth 65536 in
theorem w_c0 : (Jvm.Cond.code x code maxLocals ret).before args0 about1 = true := code_word (m := ⟨1, 2⟩) (meth := k1m2) (c := k1c2) (by decide +kernel) rfl rfl rfl (by decide +kernel)
set_option maxRecDepth 65536 in
theorem w_c1 : (Jvm.Cond.code ({ cls := "com/example/weir/weir/engine/TripleTableEndRoomPinLaw", name := "pick", desc := "(IJ)J" } : Jvm.MethodName) method_2_code (3 : Nat) (Option.some Jvm.ClassFile.FieldType.long)).before args0 about1 = true := code_word (m := ⟨1, 1⟩) (meth := k1m1) (c := k1c1) (by decide +kernel) rfl rfl rfl (by decide +kernel)
set_option maxRecDepth 65536 in
theorem w_c2 : (Jvm.Cond.code ({ cls := "java/lang/Math", name := "max", desc := "(II)I" } : Jvm.MethodName) jdk_29_method_65_code (2 : Nat) (Option.some Jvm.ClassFile.FieldType.int)).before args0 about1 = true := code_word (m := ⟨2, 1⟩) (meth := k2m1) (c := k2c1) (by decide +kernel) rfl rfl rfl (by decide +kernel)
set_option maxRecDepth 65536 in
theorem w_c3 : (Jvm.Cond.code ({ cls := "com/example/weir/weir/engine/TripleTable", name := "<init>", desc := "()V" } : Jvm.MethodName) prog_50_method_1_code (1 : Nat) (Option.none : Option Jvm.ClassFile.FieldType)).before args0 about1 = true := code_word (m := ⟨3, 0⟩) (meth := k3m0) (c := k3c0) (by decide +kernel) rfl rfl rfl (by decide +kernel)
set_option maxRecDepth 65536 in
theorem w_c4 : (Jvm.Cond.code ({ cls := "java/lang/Object", name := "<init>", desc := "()V" } : Jvm.MethodName) object_method_1_code (1 : Nat) (Option.none : Option Jvm.ClassFile.FieldType)).before args0 about1 = true := code_word (m := ⟨0, 0⟩) (meth := k0m0) (c := k0c0) (by decide +kernel) rfl rfl rfl (by decide +kernel)
set_option maxRecDepth 65536 in
theorem w_c5 : (Jvm.Cond.code ({ cls := "com/example/weir/weir/engine/Numbers", name := "<init>", desc := "()V" } : Jvm.MethodName) prog_41_method_1_code (1 : Nat) (Option.none : Option Jvm.ClassFile.FieldType)).before args0 about1 = true := code_word (m := ⟨4, 0⟩) (meth := k4m0) (c := k4c0) (by decide +kernel) rfl rfl rfl (by decide +kernel)
set_option maxRecDepth 65536 in
theorem w_c6 : (Jvm.Cond.code ({ cls := "com/example/weir/weir/engine/IntList", name := "<init>", desc := "()V" } : Jvm.MethodName) prog_27_method_1_code (1 : Nat) (Option.none : Option Jvm.ClassFile.FieldType)).before args0 about1 = true := code_word (m := ⟨5, 0⟩) (meth := k5m0) (c := k5c0) (by decide +kernel) rfl rfl rfl (by decide +kernel)
set_option maxRecDepth 65536 in
theorem w_c7 : (Jvm.Cond.code ({ cls := "com/example/weir/weir/engine/SubjectIndex", name := "<init>", desc := "(Lcom/example/weir/weir/engine/SubjectIndex$Terms;)V" } : Jvm.MethodName) prog_43_method_1_code (2 : Nat) (Option.none : Option Jvm.ClassFile.FieldType)).before args0 about1 = true := code_word (m := ⟨6, 0⟩) (meth := k6m0) (c := k6c0) (by decide +kernel) rfl rfl rfl (by decide +kernel)
set_option maxRecDepth 65536 in
theorem w_c8 : (Jvm.Cond.code ({ cls := "com/example/weir/weir/engine/IntIntMap", name := "<init>", desc := "()V" } : Jvm.MethodName) prog_26_method_1_code (1 : Nat) (Option.none : Option Jvm.ClassFile.FieldType)).before args0 about1 = true := code_word (m := ⟨8, 0⟩) (meth := k8m0) (c := k8c0) (by decide +kernel) rfl rfl rfl (by decide +kernel)
set_option maxRecDepth 65536 in
theorem w_c9 : (Jvm.Cond.code ({ cls := "com/example/weir/weir/engine/IntIntMap", name := "<init>", desc := "(I)V" } : Jvm.MethodName) prog_26_method_2_code (2 : Nat) (Option.none : Option Jvm.ClassFile.FieldType)).before args0 about1 = true := code_word (m := ⟨8, 1⟩) (meth := k8m1) (c := k8c1) (by decide +kernel) rfl rfl rfl (by decide +kernel)
set_option maxRecDepth 65536 in
theorem w_c10 : (Jvm.Cond.code ({ cls := "com/example/weir/weir/engine/IntIntMap", name := "emptyTable", desc := "(IZ)V" } : Jvm.MethodName) prog_26_method_22_code (3 : Nat) (Option.none : Option Jvm.ClassFile.FieldType)).before args0 about1 = true := code_word (m := ⟨8, 5⟩) (meth := k8m5) (c := k8c5) (by decide +kernel) rfl rfl rfl (by decide +kernel)
set_option maxRecDepth 65536 in
theorem w_c11 : (Jvm.Cond.code ({ cls := "com/example/weir/weir/engine/TripleTable", name := "add", desc := "(IIIJ)I" } : Jvm.MethodName) prog_50_method_18_code (7 : Nat) (Option.some Jvm.ClassFile.FieldType.int)).before args0 about1 = true := code_word (m := ⟨3, 9⟩) (meth := k3m9) (c := k3c9) (by decide +kernel) rfl rfl rfl (by decide +kernel)
set_option maxRecDepth 65536 in
theorem w_c12 : (Jvm.Cond.code ({ cls := "com/example/weir/weir/engine/Numbers", name := "take", desc := "()I" } : Jvm.MethodName) prog_41_method_2_code (1 : Nat) (Option.some Jvm.ClassFile.FieldType.int)).before args0 about1 = true := code_word (m := ⟨4, 1⟩) (meth := k4m1) (c := k4c1) (by decide +kernel) rfl rfl rfl (by decide +kernel)
set_option maxRecDepth 65536 in
theorem w_c13 : (Jvm.Cond.code ({ cls := "com/example/weir/weir/engine/IntList", name := "size", desc := "()I" } : Jvm.MethodName) prog_27_method_6_code (1 : Nat) (Option.some Jvm.ClassFile.FieldType.int)).before args0 about1 = true := code_word (m := ⟨5, 1⟩) (meth := k5m1) (c := k5c1) (by decide +kernel) rfl rfl rfl (by decide +kernel)
set_option maxRecDepth 65536 in
theorem w_c14 : (Jvm.Cond.code ({ cls := "com/example/weir/weir/engine/TripleTable", name := "putEnd", desc := "(IJ)V" } : Jvm.MethodName) prog_50_method_23_code (4 : Nat) (Option.none : Option Jvm.ClassFile.FieldType)).before args0 about1 = true := code_word (m := ⟨3, 11⟩) (meth := k3m11) (c := k3c11) (by decide +kernel) rfl rfl rfl (by decide +kernel)
set_option maxRecDepth 65536 in
theorem w_c15 : (Jvm.Cond.code ({ cls := "com/example/weir/weir/engine/TripleTable", name := "capacity", desc := "()I" } : Jvm.MethodName) prog_50_method_4_code (1 : Nat) (Option.some Jvm.ClassFile.FieldType.int)).before args0 about1 = true := code_word (m := ⟨3, 1⟩) (meth := k3m1) (c := k3c1) (by decide +kernel) rfl rfl rfl (by decide +kernel)
set_option maxRecDepth 65536 in
theorem w_c16 : (Jvm.Cond.code ({ cls := "com/example/weir/weir/engine/SubjectIndex", name := "add", desc := "(II)V" } : Jvm.MethodName) prog_43_method_4_code (6 : Nat) (Option.none : Option Jvm.ClassFile.FieldType)).before args0 about1 = true := code_word (m := ⟨6, 1⟩) (meth := k6m1) (c := k6c1) (by decide +kernel) rfl rfl rfl (by decide +kernel)
set_option maxRecDepth 65536 in
theorem w_c17 : (Jvm.Cond.code ({ cls := "java/util/Arrays", name := "copyOf", desc := "([II)[I" } : Jvm.MethodName) jdk_65_method_123_code (3 : Nat) (Option.some (Jvm.ClassFile.FieldType.array Jvm.ClassFile.FieldType.int))).before args0 about1 = true := code_word (m := ⟨9, 3⟩) (meth := k9m3) (c := k9c3) (by decide +kernel) rfl rfl rfl (by decide +kernel)
set_option maxRecDepth 65536 in
theorem w_c18 : (Jvm.Cond.code ({ cls := "java/lang/Math", name := "min", desc := "(II)I" } : Jvm.MethodName) jdk_29_method_69_code (2 : Nat) (Option.some Jvm.ClassFile.FieldType.int)).before args0 about1 = true := code_word (m := ⟨2, 2⟩) (meth := k2m2) (c := k2c2) (by decide +kernel) rfl rfl rfl (by decide +kernel)
set_option maxRecDepth 65536 in
theorem w_c19 : (Jvm.Cond.code ({ cls := "com/example/weir/weir/engine/TripleTable", name := "term", desc := "(II)I" } : Jvm.MethodName) prog_50_method_7_code (3 : Nat) (Option.some Jvm.ClassFile.FieldType.int)).before args0 about1 = true := code_word (m := ⟨3, 2⟩) (meth := k3m2) (c := k3c2) (by decide +kernel) rfl rfl rfl (by decide +kernel)
set_option maxRecDepth 65536 in
theorem w_c20 : (Jvm.Cond.code ({ cls := "com/example/weir/weir/engine/IntIntMap", name := "place", desc := "(I)I" } : Jvm.MethodName) prog_26_method_7_code (3 : Nat) (Option.some Jvm.ClassFile.FieldType.int)).before args0 about1 = true := code_word (m := ⟨8, 2⟩) (meth := k8m2) (c := k8c2) (by decide +kernel) rfl rfl rfl (by decide +kernel)
set_option maxRecDepth 65536 in
theorem w_c21 : (Jvm.Cond.code ({ cls := "com/example/weir/weir/engine/IntIntMap", name := "find", desc := "(I)I" } : Jvm.MethodName) prog_26_method_20_code (4 : Nat) (Option.some Jvm.ClassFile.FieldType.int)).before args0 about1 = true := code_word (m := ⟨8, 4⟩) (meth := k8m4) (c := k8c4) (by decide +kernel) rfl rfl rfl (by decide +kernel)
set_option maxRecDepth 65536 in
theorem w_c22 : (Jvm.Cond.code ({ cls := "com/example/weir/weir/engine/LinearProbing", name := "spread", desc := "(J)I" } : Jvm.MethodName) prog_28_method_2_code (2 : Nat) (Option.some Jvm.ClassFile.FieldType.int)).before args0 about1 = true := code_word (m := ⟨11, 1⟩) (meth := k11m1) (c := k11c1) (by decide +kernel) rfl rfl rfl (by decide +kernel)
set_option maxRecDepth 65536 in
theorem w_c23 : (Jvm.Cond.code ({ cls := "com/example/weir/weir/engine/IntIntMap", name := "add", desc := "(II)I" } : Jvm.MethodName) prog_26_method_8_code (5 : Nat) (Option.some Jvm.ClassFile.FieldType.int)).before args0 about1 = true := code_word (m := ⟨8, 3⟩) (meth := k8m3) (c := k8c3) (by decide +kernel) rfl rfl rfl (by decide +kernel)
set_option maxRecDepth 65536 in
theorem w_c24 : (Jvm.Cond.code ({ cls := "com/example/weir/weir/engine/IntIntMap", name := "toArray", desc := "(I)V" } : Jvm.MethodName) prog_26_method_24_code (5 : Nat) (Option.none : Option Jvm.ClassFile.FieldType)).before args0 about1 = true := code_word (m := ⟨8, 6⟩) (meth := k8m6) (c := k8c6) (by decide +kernel) rfl rfl rfl (by decide +kernel)
set_option maxRecDepth 65536 in
theorem w_c25 : (Jvm.Cond.code ({ cls := "java/util/Arrays", name := "fill", desc := "([II)V" } : Jvm.MethodName) jdk_65_method_103_code (4 : Nat) (Option.none : Option Jvm.ClassFile.FieldType)).before args0 about1 = true := code_word (m := ⟨9, 2⟩) (meth := k9m2) (c := k9c2) (by decide +kernel) rfl rfl rfl (by decide +kernel)
set_option maxRecDepth 65536 in
theorem w_c26 : (Jvm.Cond.code ({ cls := "com/example/weir/weir/engine/TripleTable", name := "endRoom", desc := "()I" } : Jvm.MethodName) prog_50_method_14_code (1 : Nat) (Option.some Jvm.ClassFile.FieldType.int)).before args0 about1 = true := code_word (m := ⟨3, 7⟩) (meth := k3m7) (c := k3c7) (by decide +kernel) rfl rfl rfl (by decide +kernel)
set_option maxRecDepth 65536 in
theorem w_c27 : (Jvm.Cond.code ({ cls := "java/util/Arrays", name := "fill", desc := "([JJ)V" } : Jvm.MethodName) jdk_65_method_101_code (5 : Nat) (Option.none : Option Jvm.ClassFile.FieldType)).before args0 about1 = true := code_word (m := ⟨9, 1⟩) (meth := k9m1) (c := k9c1) (by decide +kernel) rfl rfl rfl (by decide +kernel)
set_option maxRecDepth 65536 in
theorem w_c28 : (Jvm.Cond.code ({ cls := "com/example/weir/weir/engine/TripleTable", name := "countMove", desc := "(I)V" } : Jvm.MethodName) prog_50_method_16_code (2 : Nat) (Option.none : Option Jvm.ClassFile.FieldType)).before args0 about1 = true := code_word (m := ⟨3, 8⟩) (meth := k3m8) (c := k3c8) (by decide +kernel) rfl rfl rfl (by decide +kernel)
set_option maxRecDepth 65536 in
theorem w_c29 : (Jvm.Cond.code ({ cls := "com/example/weir/weir/engine/TripleTable", name := "setEnd", desc := "(IJ)V" } : Jvm.MethodName) prog_50_method_9_code (4 : Nat) (Option.none : Option Jvm.ClassFile.FieldType)).before args0 about1 = true := code_word (m := ⟨3, 4⟩) (meth := k3m4) (c := k3c4) (by decide +kernel) rfl rfl rfl (by decide +kernel)
set_option maxRecDepth 65536 in
theorem w_c30 : (Jvm.Cond.code ({ cls := "com/example/weir/weir/engine/TripleTable", name := "uncountEnd", desc := "(I)V" } : Jvm.MethodName) prog_50_method_22_code (4 : Nat) (Option.none : Option Jvm.ClassFile.FieldType)).before args0 about1 = true := code_word (m := ⟨3, 10⟩) (meth := k3m10) (c := k3c10) (by decide +kernel) rfl rfl rfl (by decide +kernel)
set_option maxRecDepth 65536 in
theorem w_c31 : (Jvm.Cond.code ({ cls := "com/example/weir/weir/engine/TripleTable", name := "end", desc := "(I)J" } : Jvm.MethodName) prog_50_method_8_code (2 : Nat) (Option.some Jvm.ClassFile.FieldType.long)).before args0 about1 = true := code_word (m := ⟨3, 3⟩) (meth := k3m3) (c := k3c3) (by decide +kernel) rfl rfl rfl (by decide +kernel)
set_option maxRecDepth 65536 in
theorem w_c32 : (Jvm.Cond.code ({ cls := "com/example/weir/weir/engine/TripleTable", name := "letGoOfEnds", desc := "()V" } : Jvm.MethodName) prog_50_method_13_code (1 : Nat) (Option.none : Option Jvm.ClassFile.FieldType)).before args0 about1 = true := code_word (m := ⟨3, 6⟩) (meth := k3m6) (c := k3c6) (by decide +kernel) rfl rfl rfl (by decide +kernel)
set_option maxRecDepth 65536 in
theorem w_c33 : (Jvm.Cond.code ({ cls := "com/example/weir/weir/engine/TripleTable", name := "setStratum", desc := "(II)V" } : Jvm.MethodName) prog_50_method_12_code (3 : Nat) (Option.none : Option Jvm.ClassFile.FieldType)).before args0 about1 = true := code_word (m := ⟨3, 5⟩) (meth := k3m5) (c := k3c5) (by decide +kernel) rfl rfl rfl (by decide +kernel)
def codes1 : List Jvm.Cond := [Jvm.Cond.code x code maxLocals ret, Jvm.Cond.code ({ cls := "com/example/weir/weir/engine/TripleTableEndRoomPinLaw", name := "pick", desc := "(IJ)J" } : Jvm.MethodName) method_2_code (3 : Nat) (Option.some Jvm.ClassFile.FieldType.long), Jvm.Cond.code ({ cls := "java/lang/Math", name := "max", desc := "(II)I" } : Jvm.MethodName) jdk_29_method_65_code (2 : Nat) (Option.some Jvm.ClassFile.FieldType.int), Jvm.Cond.code ({ cls := "com/example/weir/weir/engine/TripleTable", name := "<init>", desc := "()V" } : Jvm.MethodName) prog_50_method_1_code (1 : Nat) (Option.none : Option Jvm.ClassFile.FieldType), Jvm.Cond.code ({ cls := "java/lang/Object", name := "<init>", desc := "()V" } : Jvm.MethodName) object_method_1_code (1 : Nat) (Option.none : Option Jvm.ClassFile.FieldType), Jvm.Cond.code ({ cls := "com/example/weir/weir/engine/Numbers", name := "<init>", desc := "()V" } : Jvm.MethodName) prog_41_method_1_code (1 : Nat) (Option.none : Option Jvm.ClassFile.FieldType), Jvm.Cond.code ({ cls := "com/example/weir/weir/engine/IntList", name := "<init>", desc := "()V" } : Jvm.MethodName) prog_27_method_1_code (1 : Nat) (Option.none : Option Jvm.ClassFile.FieldType), Jvm.Cond.code ({ cls := "com/example/weir/weir/engine/SubjectIndex", name := "<init>", desc := "(Lcom/example/weir/weir/engine/SubjectIndex$Terms;)V" } : Jvm.MethodName) prog_43_method_1_code (2 : Nat) (Option.none : Option Jvm.ClassFile.FieldType), Jvm.Cond.code ({ cls := "com/example/weir/weir/engine/IntIntMap", name := "<init>", desc := "()V" } : Jvm.MethodName) prog_26_method_1_code (1 : Nat) (Option.none : Option Jvm.ClassFile.FieldType), Jvm.Cond.code ({ cls := "com/example/weir/weir/engine/IntIntMap", name := "<init>", desc := "(I)V" } : Jvm.MethodName) prog_26_method_2_code (2 : Nat) (Option.none : Option Jvm.ClassFile.FieldType), Jvm.Cond.code ({ cls := "com/example/weir/weir/engine/IntIntMap", name := "emptyTable", desc := "(IZ)V" } : Jvm.MethodName) prog_26_method_22_code (3 : Nat) (Option.none : Option Jvm.ClassFile.FieldType), Jvm.Cond.code ({ cls := "com/example/weir/weir/engine/TripleTable", name := "add", desc := "(IIIJ)I" } : Jvm.MethodName) prog_50_method_18_code (7 : Nat) (Option.some Jvm.ClassFile.FieldType.int), Jvm.Cond.code ({ cls := "com/example/weir/weir/engine/Numbers", name := "take", desc := "()I" } : Jvm.MethodName) prog_41_method_2_code (1 : Nat) (Option.some Jvm.ClassFile.FieldType.int), Jvm.Cond.code ({ cls := "com/example/weir/weir/engine/IntList", name := "size", desc := "()I" } : Jvm.MethodName) prog_27_method_6_code (1 : Nat) (Option.some Jvm.ClassFile.FieldType.int), Jvm.Cond.code ({ cls := "com/example/weir/weir/engine/TripleTable", name := "putEnd", desc := "(IJ)V" } : Jvm.MethodName) prog_50_method_23_code (4 : Nat) (Option.none : Option Jvm.ClassFile.FieldType), Jvm.Cond.code ({ cls := "com/example/weir/weir/engine/TripleTable", name := "capacity", desc := "()I" } : Jvm.MethodName) prog_50_method_4_code (1 : Nat) (Option.some Jvm.ClassFile.FieldType.int), Jvm.Cond.code ({ cls := "com/example/weir/weir/engine/SubjectIndex", name := "add", desc := "(II)V" } : Jvm.MethodName) prog_43_method_4_code (6 : Nat) (Option.none : Option Jvm.ClassFile.FieldType), Jvm.Cond.code ({ cls := "java/util/Arrays", name := "copyOf", desc := "([II)[I" } : Jvm.MethodName) jdk_65_method_123_code (3 : Nat) (Option.some (Jvm.ClassFile.FieldType.array Jvm.ClassFile.FieldType.int)), Jvm.Cond.code ({ cls := "java/lang/Math", name := "min", desc := "(II)I" } : Jvm.MethodName) jdk_29_method_69_code (2 : Nat) (Option.some Jvm.ClassFile.FieldType.int), Jvm.Cond.code ({ cls := "com/example/weir/weir/engine/TripleTable", name := "term", desc := "(II)I" } : Jvm.MethodName) prog_50_method_7_code (3 : Nat) (Option.some Jvm.ClassFile.FieldType.int), Jvm.Cond.code ({ cls := "com/example/weir/weir/engine/IntIntMap", name := "place", desc := "(I)I" } : Jvm.MethodName) prog_26_method_7_code (3 : Nat) (Option.some Jvm.ClassFile.FieldType.int), Jvm.Cond.code ({ cls := "com/example/weir/weir/engine/IntIntMap", name := "find", desc := "(I)I" } : Jvm.MethodName) prog_26_method_20_code (4 : Nat) (Option.some Jvm.ClassFile.FieldType.int), Jvm.Cond.code ({ cls := "com/example/weir/weir/engine/LinearProbing", name := "spread", desc := "(J)I" } : Jvm.MethodName) prog_28_method_2_code (2 : Nat) (Option.some Jvm.ClassFile.FieldType.int), Jvm.Cond.code ({ cls := "com/example/weir/weir/engine/IntIntMap", name := "add", desc := "(II)I" } : Jvm.MethodName) prog_26_method_8_code (5 : Nat) (Option.some Jvm.ClassFile.FieldType.int), Jvm.Cond.code ({ cls := "com/example/weir/weir/engine/IntIntMap", name := "toArray", desc := "(I)V" } : Jvm.MethodName) prog_26_method_24_code (5 : Nat) (Option.none : Option Jvm.ClassFile.FieldType), Jvm.Cond.code ({ cls := "java/util/Arrays", name := "fill", desc := "([II)V" } : Jvm.MethodName) jdk_65_method_103_code (4 : Nat) (Option.none : Option Jvm.ClassFile.FieldType), Jvm.Cond.code ({ cls := "com/example/weir/weir/engine/TripleTable", name := "endRoom", desc := "()I" } : Jvm.MethodName) prog_50_method_14_code (1 : Nat) (Option.some Jvm.ClassFile.FieldType.int), Jvm.Cond.code ({ cls := "java/util/Arrays", name := "fill", desc := "([JJ)V" } : Jvm.MethodName) jdk_65_method_101_code (5 : Nat) (Option.none : Option Jvm.ClassFile.FieldType), Jvm.Cond.code ({ cls := "com/example/weir/weir/engine/TripleTable", name := "countMove", desc := "(I)V" } : Jvm.MethodName) prog_50_method_16_code (2 : Nat) (Option.none : Option Jvm.ClassFile.FieldType), Jvm.Cond.code ({ cls := "com/example/weir/weir/engine/TripleTable", name := "setEnd", desc := "(IJ)V" } : Jvm.MethodName) prog_50_method_9_code (4 : Nat) (Option.none : Option Jvm.ClassFile.FieldType), Jvm.Cond.code ({ cls := "com/example/weir/weir/engine/TripleTable", name := "uncountEnd", desc := "(I)V" } : Jvm.MethodName) prog_50_method_22_code (4 : Nat) (Option.none : Option Jvm.ClassFile.FieldType), Jvm.Cond.code ({ cls := "com/example/weir/weir/engine/TripleTable", name := "end", desc := "(I)J" } : Jvm.MethodName) prog_50_method_8_code (2 : Nat) (Option.some Jvm.ClassFile.FieldType.long), Jvm.Cond.code ({ cls := "com/example/weir/weir/engine/TripleTable", name := "letGoOfEnds", desc := "()V" } : Jvm.MethodName) prog_50_method_13_code (1 : Nat) (Option.none : Option Jvm.ClassFile.FieldType), Jvm.Cond.code ({ cls := "com/example/weir/weir/engine/TripleTable", name := "setStratum", desc := "(II)V" } : Jvm.MethodName) prog_50_method_12_code (3 : Nat) (Option.none : Option Jvm.ClassFile.FieldType)]
set_option maxRecDepth 65536 in
theorem codes_eq : words1.filter isCode = codes1 := rfl
theorem w_codes : ∀ c ∈ words1.filter isCode, c.before args0 about1 = true := by
  rw [codes_eq]
  intro c hc
  simp only [codes1, List.mem_cons, List.not_mem_nil, or_false] at hc
  rcases hc with rfl | rfl | rfl | rfl | rfl | rfl | rfl | rfl | rfl | rfl | rfl | rfl | rfl | rfl | rfl | rfl | rfl | rfl | rfl | rfl | rfl | rfl | rfl | rfl | rfl | rfl | rfl | rfl | rfl | rfl | rfl | rfl | rfl | rfl
  · exact w_c0
  · exact w_c1
  · exact w_c2
  · exact w_c3
  · exact w_c4
  · exact w_c5
  · exact w_c6
  · exact w_c7
  · exact w_c8
  · exact w_c9
  · exact w_c10
  · exact w_c11
  · exact w_c12
  · exact w_c13
  · exact w_c14
  · exact w_c15
  · exact w_c16
  · exact w_c17
  · exact w_c18
  · exact w_c19
  · exact w_c20
  · exact w_c21
  · exact w_c22
  · exact w_c23
  · exact w_c24
  · exact w_c25
  · exact w_c26
  · exact w_c27
  · exact w_c28
  · exact w_c29
  · exact w_c30
  · exact w_c31
  · exact w_c32
  · exact w_c33
set_option maxRecDepth 65536 in
theorem w_t1 : (words1.take 24).all (fun c => isCode c || c.before args0 about1) = true := by decide +kernel
set_option maxRecDepth 65536 in
theorem w_t2 : ((words1.drop 24).take 24).all (fun c => isCode c || c.before args0 about1) = true := by decide +kernel
set_option maxRecDepth 65536 in
theorem w_t3 : (((words1.drop 24).drop 24).take 24).all (fun c => isCode c || c.before args0 about1) = true := by decide +kernel
set_option maxRecDepth 65536 in
theorem w_t4 : ((((words1.drop 24).drop 24).drop 24).take 24).all (fun c => isCode c || c.before args0 about1) = true := by decide +kernel
set_option maxRecDepth 65536 in
theorem w_t5 : (((((words1.drop 24).drop 24).drop 24).drop 24).take 24).all (fun c => isCode c || c.before args0 about1) = true := by decide +kernel
set_option maxRecDepth 65536 in
theorem w_t6 : ((((((words1.drop 24).drop 24).drop 24).drop 24).drop 24).take 24).all (fun c => isCode c || c.before args0 about1) = true := by decide +kernel
set_option maxRecDepth 65536 in
theorem w_t7 : (((((((words1.drop 24).drop 24).drop 24).drop 24).drop 24).drop 24).take 24).all (fun c => isCode c || c.before args0 about1) = true := by decide +kernel
set_option maxRecDepth 65536 in
theorem w_t8 : ((((((((words1.drop 24).drop 24).drop 24).drop 24).drop 24).drop 24).drop 24).take 24).all (fun c => isCode c || c.before args0 about1) = true := by decide +kernel
set_option maxRecDepth 65536 in
theorem w_t9 : (((((((((words1.drop 24).drop 24).drop 24).drop 24).drop 24).drop 24).drop 24).drop 24).take 24).all (fun c => isCode c || c.before args0 about1) = true := by decide +kernel
set_option maxRecDepth 65536 in
theorem w_t10 : (((((((((words1.drop 24).drop 24).drop 24).drop 24).drop 24).drop 24).drop 24).drop 24).drop 24).all (fun c => isCode c || c.before args0 about1) = true := by decide +kernel
theorem w_tables : (allAtoms (Jvm.Cond.code x code maxLocals ret :: tables_1)).before args0 about1 = true := by
  rw [allAtoms_all]
  show words1.all (fun c => c.before args0 about1) = true
  refine all_split ?_ w_codes
  rw [← List.take_append_drop 24 words1, List.all_append, w_t1, ← List.take_append_drop 24 (words1.drop 24), List.all_append, w_t2, ← List.take_append_drop 24 ((words1.drop 24).drop 24), List.all_append, w_t3, ← List.take_append_drop 24 (((words1.drop 24).drop 24).drop 24), List.all_append, w_t4, ← List.take_append_drop 24 ((((words1.drop 24).drop 24).drop 24).drop 24), List.all_append, w_t5, ← List.take_append_drop 24 (((((words1.drop 24).drop 24).drop 24).drop 24).drop 24), List.all_append, w_t6, ← List.take_append_drop 24 ((((((words1.drop 24).drop 24).drop 24).drop 24).drop 24).drop 24), List.all_append, w_t7, ← List.take_append_drop 24 (((((((words1.drop 24).drop 24).drop 24).drop 24).drop 24).drop 24).drop 24), List.all_append, w_t8, ← List.take_append_drop 24 ((((((((words1.drop 24).drop 24).drop 24).drop 24).drop 24).drop 24).drop 24).drop 24), List.all_append, w_t9, w_t10]
  rfl
set_option maxRecDepth 65536 in
theorem w_case : (Jvm.Cond.and given_1 narrow_1).before args0 about1 = true := by decide +kernel
theorem w_applies : (headSpec (Jvm.Cond.code x code maxLocals ret :: tables_1) room_1).applies x e0.platform about1 = true :=
  (Spec.applies_iff w_frames).mpr ⟨w_running, w_runnable, w_alone, w_named, w_hears, w_ripe, w_room, w_tables⟩
theorem atStart : AtStart classFile x code maxLocals ret World_1 tables_1 room_1 Calls_1 rest_1 Pre_1 launch0 p0 e0 about1 theMethod args0 below0 :=
  ⟨lists_1, trivial, launch0.admits_env _ _ _, launch0.least_env, fairChoices_fair.cas, fairChoices_fair.clock, w_frames, w_args, w_heap, w_applies, trivial, trivial, w_case⟩
end start1
theorem witness_1 : WitnessClaimed_1 := ⟨start1.p0, start1.e0, start1.about1, start1.theMethod, start1.args0, start1.below0, start1.atStart⟩
end Jvm.Pilot.@@N@@
