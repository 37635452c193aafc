import JvmDerived
import JvmDerived.Pilot.@@N@@Statement
import JvmDerived.Pilot.@@N@@Code
set_option linter.unusedVariables false
set_option linter.unusedSimpArgs false
namespace Jvm.OwnW
open Sem ClassFile Op Lib Jvm.Stand Jvm.Free Jvm.LawKit Jvm.RoadKit
/-- false: nothing may have been interned; true: the wide word -/
def Md (w : Bool) (s : State) (vm0 : Vm) (n : Nat) : Prop := (w = false → vm0 = s.vm) ∧ ∃ k0, s.Since vm0 k0 ∧ k0 ≤ n
theorem Md.mono {w : Bool} {s : State} {vm0 : Vm} {n n' : Nat} (h : Md w s vm0 n) (q : n ≤ n') : Md w s vm0 n' := ⟨h.1, h.2.imp fun _ r => ⟨r.1, Nat.le_trans r.2 q⟩⟩
theorem Md.start (w : Bool) (s : State) (n : Nat) : Md w s s.vm n := ⟨fun _ => rfl, 0, (State.WarmedH.refl s).since 0, Nat.zero_le _⟩
def EndF (w : Bool) (s : State) (o : Outcome) (t : State) (L : List Loc) (k n : Nat) : Prop := match w with
  | false => FrameEnd s o t L k n
  | true => ReturnedEndW s o t L k n
abbrev Kx : Type := Bool × Program × Launch × Env × Room × State × MethodId × Array Value × List Frame × Method × Code × State × String × Nat × (Option Value → Heap → Prop)
abbrev Kx.w (κ : Kx) : Bool := κ.1
abbrev Kx.p (κ : Kx) : Program := κ.2.1
abbrev Kx.l (κ : Kx) : Launch := κ.2.2.1
abbrev Kx.e (κ : Kx) : Env := κ.2.2.2.1
abbrev Kx.R (κ : Kx) : Room := κ.2.2.2.2.1
abbrev Kx.s (κ : Kx) : State := κ.2.2.2.2.2.1
abbrev Kx.m (κ : Kx) : MethodId := κ.2.2.2.2.2.2.1
abbrev Kx.a (κ : Kx) : Array Value := κ.2.2.2.2.2.2.2.1
abbrev Kx.below (κ : Kx) : List Frame := κ.2.2.2.2.2.2.2.2.1
abbrev Kx.meth (κ : Kx) : Method := κ.2.2.2.2.2.2.2.2.2.1
abbrev Kx.c (κ : Kx) : Code := κ.2.2.2.2.2.2.2.2.2.2.1
abbrev Kx.Z (κ : Kx) : State := κ.2.2.2.2.2.2.2.2.2.2.2.1
abbrev Kx.own (κ : Kx) : String := κ.2.2.2.2.2.2.2.2.2.2.2.2.1
abbrev Kx.n0 (κ : Kx) : Nat := κ.2.2.2.2.2.2.2.2.2.2.2.2.2.1
abbrev Kx.Q (κ : Kx) : Option Value → Heap → Prop := κ.2.2.2.2.2.2.2.2.2.2.2.2.2.2
/-- the body's run from T with the frame g ends as κ.Q says -/
def Ends (κ : Kx) (T : State) (g : JFrame) : Prop := ∃ (t : State) (o : Outcome), Steps κ.p.tables κ.e κ.below (T.setTop g) t ∧ t.status = .running ∧ Ended t κ.below o ∧ ∃ v L, o = .returned v ∧ (κ.Q v t.heap ∧ Fr κ.n0 L) ∧ EndF κ.w κ.s o t L κ.R.cells κ.R.slots
def WP (κ : Kx) (h : Heap) (k n : Nat) (g : JFrame) : Prop :=
  ∀ (T : State) (locs : List Loc) (vm0 : Vm), Stand κ.p κ.l κ.e κ.R (κ.s.setVm vm0) κ.m κ.a κ.below κ.meth κ.c T locs k n → T.heap = h → Md κ.w κ.s vm0 h.size → κ.Z.Warmed39 vm0 → vm0.findClass κ.own = some κ.m.cls → Fr κ.n0 locs → Ends κ T g
/-- what stands fast through a body's walk -/
def Cx (κ : Kx) (w : Bool) (l : Launch) (Z : State) (own : String) (n0 : Nat) (rm : Room) (bytes : ByteArray) (maxL : Nat) (ret : Option FieldType) (nm : String) (Q : Option Value → Heap → Prop) : Prop :=
  κ.p.tables.exec = Jvm.exec ∧ κ.c.code = bytes ∧ κ.c.maxLocals = maxL ∧ κ.meth.sig.returnType = ret ∧ κ.meth.locks = false ∧ κ.meth.name = nm ∧ κ.w = w ∧ κ.l = l ∧ κ.Z = Z ∧ κ.own = own ∧ κ.n0 = n0 ∧ κ.R = rm ∧ κ.Q = Q
/-- a body's contract -/
def Met (w : Bool) (l : Launch) (Z : State) (y : MethodName) (bytes : ByteArray) (maxL : Nat) (ret : Option FieldType) (ws : List Cond) (rm : Room) (as' : Array Value) (h0 : Heap) (n0 : Nat) (Q : Option Value → Heap → Prop) : Prop :=
  MetFree l y (head1 (Cond.code y bytes maxL ret :: ws) rm) (fun a U => a = as' ∧ Z.Warmed39 U.vm ∧ U.heap = h0) (fun _ _ _ _ _ => True) (fun _ U o U' => ∃ v L, o = .returned v ∧ (Q v U'.heap ∧ Fr n0 L) ∧ EndF w U o U' L rm.cells rm.slots)
theorem Met.of {w : Bool} {l : Launch} {Z : State} {y : MethodName} {bytes : ByteArray} {maxL : Nat} {ret : Option FieldType} {ws : List Cond} {rm : Room} {as' : Array Value} {h0 : Heap} {n0 : Nat} {Q : Option Value → Heap → Prop} (hp : plainFor y = true)
    (body : ∀ κ : Kx, Cx κ w l Z y.cls n0 rm bytes maxL ret y.name Q → WP κ h0 0 0 (entryFrame κ.m as' maxL)) : Met w l Z y bytes maxL ret ws rm as' h0 n0 Q := by
  refine MetFree.of_bodySF hp hisR ?_
  intro p e s m args below meth c s₁ Bd hml0 hP hK
  obtain ⟨rfl, hZ, hh⟩ := hP
  exact body (w, p, l, e, rm, s, m, args, below, meth, c, Z, y.cls, n0, Q) ⟨Bd.exec, Bd.bytes, hml0, Bd.returns, Bd.notSynchronized, (name_of_methodNamed Bd.named Bd.method).1, rfl, rfl, rfl, rfl, rfl, rfl, rfl⟩ s₁ [] s.vm (Stand.of_body Bd) (by rw [← hh, Bd.state]; rfl) (Md.start _ _ _) hZ (findClass_of_methodNamed Bd.named) (Fr.nil n0)
theorem Met.ofN {w : Bool} {l : Launch} {Z : State} {y : MethodName} {bytes : ByteArray} {maxL : Nat} {ret : Option FieldType} {ws : List Cond} {rm : Room} {as' : Array Value} {h0 : Heap} {n0 : Nat} {Q : Option Value → Heap → Prop} (hp : plainFor y = true)
    (body : ∀ κ : Kx, Cx κ w l Z y.cls n0 rm bytes maxL ret y.name Q → Z.methodNamed? y = some κ.m → WP κ h0 0 0 (entryFrame κ.m as' maxL)) : Met w l Z y bytes maxL ret ws rm as' h0 n0 Q := by
  refine MetFree.of_bodySF hp hisR ?_
  intro p e s m args below meth c s₁ Bd hml0 hP hK
  obtain ⟨rfl, hZ, hh⟩ := hP
  have hN : Z.methodNamed? y = some m := by
    have q := State.methodNamed?_setVm hZ.alike y
    rw [show (Z.setVm s.vm).methodNamed? y = s.methodNamed? y from congrFun (State.methodNamed?_of_vm rfl) y] at q
    exact q.symm.trans Bd.named
  exact body (w, p, l, e, rm, s, m, args, below, meth, c, Z, y.cls, n0, Q) ⟨Bd.exec, Bd.bytes, hml0, Bd.returns, Bd.notSynchronized, (name_of_methodNamed Bd.named Bd.method).1, rfl, rfl, rfl, rfl, rfl, rfl, rfl⟩ hN s₁ [] s.vm (Stand.of_body Bd) (by rw [← hh, Bd.state]; rfl) (Md.start _ _ _) hZ (findClass_of_methodNamed Bd.named) (Fr.nil n0)
theorem EndF.widen {w : Bool} {s : State} {o : Outcome} {t : State} {L : List Loc} {k n : Nat} (h : EndF w s o t L k n) : ReturnedEndW s o t L k n := by
  cases w
  · exact ReturnedEndW.of_narrow h.1 h.2.1 h.2.2
  · exact h
section Rules
variable {κ : Kx} {w : Bool} {l : Launch} {Z : State} {own nm : String} {n0 : Nat} {rm : Room} {bytes : ByteArray} {maxL : Nat} {ret : Option FieldType} {Q : Option Value → Heap → Prop} {h h' : Heap} {k n k' n' : Nat} {pc pc' : Nat} {L L' : Array Slot} {S : List Value} {a0 : Array Value}
theorem WP.go {g g' : JFrame} (st : ∀ (T : State) (locs : List Loc) (vm0 : Vm), Stand κ.p κ.l κ.e κ.R (κ.s.setVm vm0) κ.m κ.a κ.below κ.meth κ.c T locs k n → T.heap = h → κ.Z.Warmed39 vm0 → vm0.findClass κ.own = some κ.m.cls → ∀ t, Steps κ.p.tables κ.e κ.below (T.setTop g') t → Steps κ.p.tables κ.e κ.below (T.setTop g) t)
    (H : WP κ h k n g') : WP κ h k n g := fun T locs vm0 X e M hZ ho N => by
  obtain ⟨t, o, h1, r⟩ := H T locs vm0 X e M hZ ho N
  exact ⟨t, o, st T locs vm0 X e hZ ho t h1, r⟩
theorem WP.frame {g g' : JFrame} (q : g = g') (H : WP κ h k n g') : WP κ h k n g := q ▸ H
theorem WP.more {g : JFrame} (H : WP κ h k' n' g) (hk : k ≤ k') (hn : n ≤ n') : WP κ h k n g := fun T locs vm0 X e M hZ ho N => H T locs vm0 (X.mono hk hn) e M hZ ho N
/-- a pure stretch with several roads that meet again -/
theorem WP.meet {g g' : JFrame} (H : WP κ h k n g' → WP κ h k n g) (K : WP κ h k n g') : WP κ h k n g := H K
theorem WP.iadd (K : Cx κ w l Z own n0 rm bytes maxL ret nm Q) {x y : Int32} (hd : decode bytes pc = .ok (.iadd, 1))  (hp : pc + 1 = pc') (H : WP κ h k n (mkF κ.m pc' L (.int (x + y) :: S))) : WP κ h k n (mkF κ.m pc L (.int y :: .int x :: S)) := by
  obtain ⟨hx, hby, -⟩ := K
  subst hp
  exact WP.go (fun T locs vm0 X e hZ ho t k => XS.iadd X.here hx rfl (hb hby hd) rfl k) H
theorem WP.isub (K : Cx κ w l Z own n0 rm bytes maxL ret nm Q) {x y : Int32} (hd : decode bytes pc = .ok (.isub, 1))  (hp : pc + 1 = pc') (H : WP κ h k n (mkF κ.m pc' L (.int (x - y) :: S))) : WP κ h k n (mkF κ.m pc L (.int y :: .int x :: S)) := by
  obtain ⟨hx, hby, -⟩ := K
  subst hp
  exact WP.go (fun T locs vm0 X e hZ ho t k => XS.isub X.here hx rfl (hb hby hd) rfl k) H
theorem WP.imul (K : Cx κ w l Z own n0 rm bytes maxL ret nm Q) {x y : Int32} (hd : decode bytes pc = .ok (.imul, 1))  (hp : pc + 1 = pc') (H : WP κ h k n (mkF κ.m pc' L (.int (x * y) :: S))) : WP κ h k n (mkF κ.m pc L (.int y :: .int x :: S)) := by
  obtain ⟨hx, hby, -⟩ := K
  subst hp
  exact WP.go (fun T locs vm0 X e hZ ho t k => XS.imul X.here hx rfl (hb hby hd) rfl k) H
theorem WP.iand (K : Cx κ w l Z own n0 rm bytes maxL ret nm Q) {x y : Int32} (hd : decode bytes pc = .ok (.iand, 1))  (hp : pc + 1 = pc') (H : WP κ h k n (mkF κ.m pc' L (.int (x &&& y) :: S))) : WP κ h k n (mkF κ.m pc L (.int y :: .int x :: S)) := by
  obtain ⟨hx, hby, -⟩ := K
  subst hp
  exact WP.go (fun T locs vm0 X e hZ ho t k => XS.iand X.here hx rfl (hb hby hd) rfl k) H
theorem WP.ixor (K : Cx κ w l Z own n0 rm bytes maxL ret nm Q) {x y : Int32} (hd : decode bytes pc = .ok (.ixor, 1))  (hp : pc + 1 = pc') (H : WP κ h k n (mkF κ.m pc' L (.int (x ^^^ y) :: S))) : WP κ h k n (mkF κ.m pc L (.int y :: .int x :: S)) := by
  obtain ⟨hx, hby, -⟩ := K
  subst hp
  exact WP.go (fun T locs vm0 X e hZ ho t k => XS.ixor X.here hx rfl (hb hby hd) rfl k) H
theorem WP.ior (K : Cx κ w l Z own n0 rm bytes maxL ret nm Q) {x y : Int32} (hd : decode bytes pc = .ok (.ior, 1))  (hp : pc + 1 = pc') (H : WP κ h k n (mkF κ.m pc' L (.int (x ||| y) :: S))) : WP κ h k n (mkF κ.m pc L (.int y :: .int x :: S)) := by
  obtain ⟨hx, hby, -⟩ := K
  subst hp
  exact WP.go (fun T locs vm0 X e hZ ho t k => XS.ior X.here hx rfl (hb hby hd) rfl k) H
theorem WP.ishl (K : Cx κ w l Z own n0 rm bytes maxL ret nm Q) {x y : Int32} (hd : decode bytes pc = .ok (.ishl, 1))  (hp : pc + 1 = pc') (H : WP κ h k n (mkF κ.m pc' L (.int (x <<< (y &&& 31)) :: S))) : WP κ h k n (mkF κ.m pc L (.int y :: .int x :: S)) := by
  obtain ⟨hx, hby, -⟩ := K
  subst hp
  exact WP.go (fun T locs vm0 X e hZ ho t k => XS.ishl X.here hx rfl (hb hby hd) rfl k) H
theorem WP.ishr (K : Cx κ w l Z own n0 rm bytes maxL ret nm Q) {x y : Int32} (hd : decode bytes pc = .ok (.ishr, 1))  (hp : pc + 1 = pc') (H : WP κ h k n (mkF κ.m pc' L (.int (x >>> (y &&& 31)) :: S))) : WP κ h k n (mkF κ.m pc L (.int y :: .int x :: S)) := by
  obtain ⟨hx, hby, -⟩ := K
  subst hp
  exact WP.go (fun T locs vm0 X e hZ ho t k => XS.ishr X.here hx rfl (hb hby hd) rfl k) H
theorem WP.iushr (K : Cx κ w l Z own n0 rm bytes maxL ret nm Q) {x y : Int32} (hd : decode bytes pc = .ok (.iushr, 1))  (hp : pc + 1 = pc') (H : WP κ h k n (mkF κ.m pc' L (.int ((x.toUInt32 >>> (y &&& 31).toUInt32).toInt32) :: S))) : WP κ h k n (mkF κ.m pc L (.int y :: .int x :: S)) := by
  obtain ⟨hx, hby, -⟩ := K
  subst hp
  exact WP.go (fun T locs vm0 X e hZ ho t k => XS.iushr X.here hx rfl (hb hby hd) rfl k) H
theorem WP.ladd (K : Cx κ w l Z own n0 rm bytes maxL ret nm Q) {x y : Int64} (hd : decode bytes pc = .ok (.ladd, 1))  (hp : pc + 1 = pc') (H : WP κ h k n (mkF κ.m pc' L (.long (x + y) :: S))) : WP κ h k n (mkF κ.m pc L (.long y :: .long x :: S)) := by
  obtain ⟨hx, hby, -⟩ := K
  subst hp
  exact WP.go (fun T locs vm0 X e hZ ho t k => XS.ladd X.here hx rfl (hb hby hd) rfl k) H
theorem WP.lsub (K : Cx κ w l Z own n0 rm bytes maxL ret nm Q) {x y : Int64} (hd : decode bytes pc = .ok (.lsub, 1))  (hp : pc + 1 = pc') (H : WP κ h k n (mkF κ.m pc' L (.long (x - y) :: S))) : WP κ h k n (mkF κ.m pc L (.long y :: .long x :: S)) := by
  obtain ⟨hx, hby, -⟩ := K
  subst hp
  exact WP.go (fun T locs vm0 X e hZ ho t k => XS.lsub X.here hx rfl (hb hby hd) rfl k) H
theorem WP.lmul (K : Cx κ w l Z own n0 rm bytes maxL ret nm Q) {x y : Int64} (hd : decode bytes pc = .ok (.lmul, 1))  (hp : pc + 1 = pc') (H : WP κ h k n (mkF κ.m pc' L (.long (x * y) :: S))) : WP κ h k n (mkF κ.m pc L (.long y :: .long x :: S)) := by
  obtain ⟨hx, hby, -⟩ := K
  subst hp
  exact WP.go (fun T locs vm0 X e hZ ho t k => XS.lmul X.here hx rfl (hb hby hd) rfl k) H
theorem WP.land (K : Cx κ w l Z own n0 rm bytes maxL ret nm Q) {x y : Int64} (hd : decode bytes pc = .ok (.land, 1))  (hp : pc + 1 = pc') (H : WP κ h k n (mkF κ.m pc' L (.long (x &&& y) :: S))) : WP κ h k n (mkF κ.m pc L (.long y :: .long x :: S)) := by
  obtain ⟨hx, hby, -⟩ := K
  subst hp
  exact WP.go (fun T locs vm0 X e hZ ho t k => XS.land X.here hx rfl (hb hby hd) rfl k) H
theorem WP.lor (K : Cx κ w l Z own n0 rm bytes maxL ret nm Q) {x y : Int64} (hd : decode bytes pc = .ok (.lor, 1))  (hp : pc + 1 = pc') (H : WP κ h k n (mkF κ.m pc' L (.long (x ||| y) :: S))) : WP κ h k n (mkF κ.m pc L (.long y :: .long x :: S)) := by
  obtain ⟨hx, hby, -⟩ := K
  subst hp
  exact WP.go (fun T locs vm0 X e hZ ho t k => XS.lor X.here hx rfl (hb hby hd) rfl k) H
theorem WP.lxor (K : Cx κ w l Z own n0 rm bytes maxL ret nm Q) {x y : Int64} (hd : decode bytes pc = .ok (.lxor, 1))  (hp : pc + 1 = pc') (H : WP κ h k n (mkF κ.m pc' L (.long (x ^^^ y) :: S))) : WP κ h k n (mkF κ.m pc L (.long y :: .long x :: S)) := by
  obtain ⟨hx, hby, -⟩ := K
  subst hp
  exact WP.go (fun T locs vm0 X e hZ ho t k => XS.lxor X.here hx rfl (hb hby hd) rfl k) H
theorem WP.idiv (K : Cx κ w l Z own n0 rm bytes maxL ret nm Q) {x y : Int32} (hd : decode bytes pc = .ok (.idiv, 1)) (hy : y ≠ 0) (hp : pc + 1 = pc') (H : WP κ h k n (mkF κ.m pc' L (.int (x / y) :: S))) : WP κ h k n (mkF κ.m pc L (.int y :: .int x :: S)) := by
  obtain ⟨hx, hby, -⟩ := K
  subst hp
  exact WP.go (fun T locs vm0 X e hZ ho t k => XS.idiv X.here hx rfl (hb hby hd) rfl hy k) H
theorem WP.irem (K : Cx κ w l Z own n0 rm bytes maxL ret nm Q) {x y : Int32} (hd : decode bytes pc = .ok (.irem, 1)) (hy : y ≠ 0) (hp : pc + 1 = pc') (H : WP κ h k n (mkF κ.m pc' L (.int (x % y) :: S))) : WP κ h k n (mkF κ.m pc L (.int y :: .int x :: S)) := by
  obtain ⟨hx, hby, -⟩ := K
  subst hp
  exact WP.go (fun T locs vm0 X e hZ ho t k => iremM X hx rfl (hb hby hd) rfl hy k) H
theorem WP.ldiv (K : Cx κ w l Z own n0 rm bytes maxL ret nm Q) {x y : Int64} (hd : decode bytes pc = .ok (.ldiv, 1)) (hy : y ≠ 0) (hp : pc + 1 = pc') (H : WP κ h k n (mkF κ.m pc' L (.long (x / y) :: S))) : WP κ h k n (mkF κ.m pc L (.long y :: .long x :: S)) := by
  obtain ⟨hx, hby, -⟩ := K
  subst hp
  exact WP.go (fun T locs vm0 X e hZ ho t k => XT.ldiv X.here hx rfl (hb hby hd) rfl hy k) H
theorem WP.lrem (K : Cx κ w l Z own n0 rm bytes maxL ret nm Q) {x y : Int64} (hd : decode bytes pc = .ok (.lrem, 1)) (hy : y ≠ 0) (hp : pc + 1 = pc') (H : WP κ h k n (mkF κ.m pc' L (.long (x % y) :: S))) : WP κ h k n (mkF κ.m pc L (.long y :: .long x :: S)) := by
  obtain ⟨hx, hby, -⟩ := K
  subst hp
  exact WP.go (fun T locs vm0 X e hZ ho t k => XT.lrem X.here hx rfl (hb hby hd) rfl hy (by rw [lrem_mod]; exact k)) H
theorem WP.ineg (K : Cx κ w l Z own n0 rm bytes maxL ret nm Q) {x : Int32} (hd : decode bytes pc = .ok (.ineg, 1))  (hp : pc + 1 = pc') (H : WP κ h k n (mkF κ.m pc' L (.int (-x) :: S))) : WP κ h k n (mkF κ.m pc L (.int x :: S)) := by
  obtain ⟨hx, hby, -⟩ := K
  subst hp
  exact WP.go (fun T locs vm0 X e hZ ho t k => XS.ineg X.here hx rfl (hb hby hd) rfl k) H
theorem WP.lneg (K : Cx κ w l Z own n0 rm bytes maxL ret nm Q) {x : Int64} (hd : decode bytes pc = .ok (.lneg, 1))  (hp : pc + 1 = pc') (H : WP κ h k n (mkF κ.m pc' L (.long (-x) :: S))) : WP κ h k n (mkF κ.m pc L (.long x :: S)) := by
  obtain ⟨hx, hby, -⟩ := K
  subst hp
  exact WP.go (fun T locs vm0 X e hZ ho t k => XT.lneg X.here hx rfl (hb hby hd) rfl k) H
theorem WP.lshl (K : Cx κ w l Z own n0 rm bytes maxL ret nm Q) {x : Int64} {y : Int32} (hd : decode bytes pc = .ok (.lshl, 1))  (hp : pc + 1 = pc') (H : WP κ h k n (mkF κ.m pc' L (.long (x <<< (y &&& 0x3f).toInt64) :: S))) : WP κ h k n (mkF κ.m pc L (.int y :: .long x :: S)) := by
  obtain ⟨hx, hby, -⟩ := K
  subst hp
  exact WP.go (fun T locs vm0 X e hZ ho t k => XS.lshl X.here hx rfl (hb hby hd) rfl k) H
theorem WP.lshr (K : Cx κ w l Z own n0 rm bytes maxL ret nm Q) {x : Int64} {y : Int32} (hd : decode bytes pc = .ok (.lshr, 1))  (hp : pc + 1 = pc') (H : WP κ h k n (mkF κ.m pc' L (.long (x >>> (y &&& 0x3f).toInt64) :: S))) : WP κ h k n (mkF κ.m pc L (.int y :: .long x :: S)) := by
  obtain ⟨hx, hby, -⟩ := K
  subst hp
  exact WP.go (fun T locs vm0 X e hZ ho t k => XS.lshr X.here hx rfl (hb hby hd) rfl k) H
theorem WP.lushr (K : Cx κ w l Z own n0 rm bytes maxL ret nm Q) {x : Int64} {y : Int32} (hd : decode bytes pc = .ok (.lushr, 1))  (hp : pc + 1 = pc') (H : WP κ h k n (mkF κ.m pc' L (.long ((x.toUInt64 >>> (y &&& 0x3f).toInt64.toUInt64).toInt64) :: S))) : WP κ h k n (mkF κ.m pc L (.int y :: .long x :: S)) := by
  obtain ⟨hx, hby, -⟩ := K
  subst hp
  exact WP.go (fun T locs vm0 X e hZ ho t k => XS.lushr X.here hx rfl (hb hby hd) rfl k) H
theorem WP.i2l (K : Cx κ w l Z own n0 rm bytes maxL ret nm Q) {x : Int32} (hd : decode bytes pc = .ok (.i2l, 1))  (hp : pc + 1 = pc') (H : WP κ h k n (mkF κ.m pc' L (.long (x.toInt64) :: S))) : WP κ h k n (mkF κ.m pc L (.int x :: S)) := by
  obtain ⟨hx, hby, -⟩ := K
  subst hp
  exact WP.go (fun T locs vm0 X e hZ ho t k => XS.i2l X.here hx rfl (hb hby hd) rfl k) H
theorem WP.l2i (K : Cx κ w l Z own n0 rm bytes maxL ret nm Q) {x : Int64} (hd : decode bytes pc = .ok (.l2i, 1))  (hp : pc + 1 = pc') (H : WP κ h k n (mkF κ.m pc' L (.int (x.toInt32) :: S))) : WP κ h k n (mkF κ.m pc L (.long x :: S)) := by
  obtain ⟨hx, hby, -⟩ := K
  subst hp
  exact WP.go (fun T locs vm0 X e hZ ho t k => XS.l2i X.here hx rfl (hb hby hd) rfl k) H
theorem WP.i2b (K : Cx κ w l Z own n0 rm bytes maxL ret nm Q) {x : Int32} (hd : decode bytes pc = .ok (.i2b, 1))  (hp : pc + 1 = pc') (H : WP κ h k n (mkF κ.m pc' L (.int (x.toInt8.toInt32) :: S))) : WP κ h k n (mkF κ.m pc L (.int x :: S)) := by
  obtain ⟨hx, hby, -⟩ := K
  subst hp
  exact WP.go (fun T locs vm0 X e hZ ho t k => XS.i2b X.here hx rfl (hb hby hd) rfl k) H
theorem WP.i2c (K : Cx κ w l Z own n0 rm bytes maxL ret nm Q) {x : Int32} (hd : decode bytes pc = .ok (.i2c, 1))  (hp : pc + 1 = pc') (H : WP κ h k n (mkF κ.m pc' L (.int (x.toUInt32.toUInt16.toUInt32.toInt32) :: S))) : WP κ h k n (mkF κ.m pc L (.int x :: S)) := by
  obtain ⟨hx, hby, -⟩ := K
  subst hp
  exact WP.go (fun T locs vm0 X e hZ ho t k => XS.i2c X.here hx rfl (hb hby hd) rfl k) H
theorem WP.i2s (K : Cx κ w l Z own n0 rm bytes maxL ret nm Q) {x : Int32} (hd : decode bytes pc = .ok (.i2s, 1))  (hp : pc + 1 = pc') (H : WP κ h k n (mkF κ.m pc' L (.int (x.toInt16.toInt32) :: S))) : WP κ h k n (mkF κ.m pc L (.int x :: S)) := by
  obtain ⟨hx, hby, -⟩ := K
  subst hp
  exact WP.go (fun T locs vm0 X e hZ ho t k => XS.i2s X.here hx rfl (hb hby hd) rfl k) H
theorem WP.lcmp (K : Cx κ w l Z own n0 rm bytes maxL ret nm Q) {x y : Int64} (hd : decode bytes pc = .ok (.lcmp, 1))  (hp : pc + 1 = pc') (H : WP κ h k n (mkF κ.m pc' L (.int (lcmpW x y) :: S))) : WP κ h k n (mkF κ.m pc L (.long y :: .long x :: S)) := by
  obtain ⟨hx, hby, -⟩ := K
  subst hp
  exact WP.go (fun T locs vm0 X e hZ ho t k => XS.lcmp X.here hx rfl (hb hby hd) rfl k) H
theorem WP.iconst (K : Cx κ w l Z own n0 rm bytes maxL ret nm Q) {i : Int} {v : Int32} (hd : decode bytes pc = .ok (.iconst i, 1)) (hv : Int32.ofInt i = v) (hp : pc + 1 = pc') (H : WP κ h k n (mkF κ.m pc' L (.int v :: S))) : WP κ h k n (mkF κ.m pc L (S)) := by
  obtain ⟨hx, hby, -⟩ := K
  subst hp
  exact WP.go (fun T locs vm0 X e hZ ho t k => XT.iconstV X.here hx rfl v (hb hby hd) hv k) H
theorem WP.bipush (K : Cx κ w l Z own n0 rm bytes maxL ret nm Q) {i : Int} {v : Int32} (hd : decode bytes pc = .ok (.bipush i, 2)) (hv : (Int8.ofInt i).toInt32 = v) (hp : pc + 2 = pc') (H : WP κ h k n (mkF κ.m pc' L (.int v :: S))) : WP κ h k n (mkF κ.m pc L (S)) := by
  obtain ⟨hx, hby, -⟩ := K
  subst hp
  exact WP.go (fun T locs vm0 X e hZ ho t k => XT.bipushV X.here hx rfl v (hb hby hd) hv k) H
theorem WP.sipush (K : Cx κ w l Z own n0 rm bytes maxL ret nm Q) {i : Int} {v : Int32} (hd : decode bytes pc = .ok (.sipush i, 3)) (hv : (Int16.ofInt i).toInt32 = v) (hp : pc + 3 = pc') (H : WP κ h k n (mkF κ.m pc' L (.int v :: S))) : WP κ h k n (mkF κ.m pc L (S)) := by
  obtain ⟨hx, hby, -⟩ := K
  subst hp
  exact WP.go (fun T locs vm0 X e hZ ho t k => XT.sipushV X.here hx rfl v (hb hby hd) hv k) H
theorem WP.lconst (K : Cx κ w l Z own n0 rm bytes maxL ret nm Q) {i : Fin 2} {v : Int64} (hd : decode bytes pc = .ok (.lconst i, 1)) (hv : Int64.ofNat i = v) (hp : pc + 1 = pc') (H : WP κ h k n (mkF κ.m pc' L (.long v :: S))) : WP κ h k n (mkF κ.m pc L (S)) := by
  obtain ⟨hx, hby, -⟩ := K
  subst hp
  exact WP.go (fun T locs vm0 X e hZ ho t k => XT.lconstV X.here hx rfl v (hb hby hd) hv k) H
theorem WP.aconst_null (K : Cx κ w l Z own n0 rm bytes maxL ret nm Q)  (hd : decode bytes pc = .ok (.aconst_null, 1))  (hp : pc + 1 = pc') (H : WP κ h k n (mkF κ.m pc' L (.null :: S))) : WP κ h k n (mkF κ.m pc L (S)) := by
  obtain ⟨hx, hby, -⟩ := K
  subst hp
  exact WP.go (fun T locs vm0 X e hZ ho t k => XS.aconstNull X.here hx rfl (hb hby hd) k) H
theorem WP.iloadN (K : Cx κ w l Z own n0 rm bytes maxL ret nm Q) {j : Fin 4} {v : Int32} (hd : decode bytes pc = .ok (.iload_n j, 1)) (hl : L[j.val]? = some (.val (.int v))) (hp : pc + 1 = pc') (H : WP κ h k n (mkF κ.m pc' L (.int v :: S))) : WP κ h k n (mkF κ.m pc L (S)) := by
  obtain ⟨hx, hby, -⟩ := K
  subst hp
  exact WP.go (fun T locs vm0 X e hZ ho t k => XS.iloadN X.here hx rfl (hb hby hd) hl k) H
theorem WP.iload (K : Cx κ w l Z own n0 rm bytes maxL ret nm Q) {j : Nat} {v : Int32} (hd : decode bytes pc = .ok (.iload j, 2)) (hl : L[j]? = some (.val (.int v))) (hp : pc + 2 = pc') (H : WP κ h k n (mkF κ.m pc' L (.int v :: S))) : WP κ h k n (mkF κ.m pc L (S)) := by
  obtain ⟨hx, hby, -⟩ := K
  subst hp
  exact WP.go (fun T locs vm0 X e hZ ho t k => XS.iload X.here hx rfl (hb hby hd) hl k) H
theorem WP.lloadN (K : Cx κ w l Z own n0 rm bytes maxL ret nm Q) {j : Fin 4} {v : Int64} (hd : decode bytes pc = .ok (.lload_n j, 1)) (hl : L[j.val]? = some (.val (.long v))) (hp : pc + 1 = pc') (H : WP κ h k n (mkF κ.m pc' L (.long v :: S))) : WP κ h k n (mkF κ.m pc L (S)) := by
  obtain ⟨hx, hby, -⟩ := K
  subst hp
  exact WP.go (fun T locs vm0 X e hZ ho t k => XT.lloadN X.here hx rfl (hb hby hd) hl k) H
theorem WP.lload (K : Cx κ w l Z own n0 rm bytes maxL ret nm Q) {j : Nat} {v : Int64} (hd : decode bytes pc = .ok (.lload j, 2)) (hl : L[j]? = some (.val (.long v))) (hp : pc + 2 = pc') (H : WP κ h k n (mkF κ.m pc' L (.long v :: S))) : WP κ h k n (mkF κ.m pc L (S)) := by
  obtain ⟨hx, hby, -⟩ := K
  subst hp
  exact WP.go (fun T locs vm0 X e hZ ho t k => XT.lload X.here hx rfl (hb hby hd) hl k) H
theorem WP.aloadN (K : Cx κ w l Z own n0 rm bytes maxL ret nm Q) {j : Fin 4} {v : Value} (hd : decode bytes pc = .ok (.aload_n j, 1)) (hl : L[j.val]? = some (.val v)) (hv : v.isRef = true) (hp : pc + 1 = pc') (H : WP κ h k n (mkF κ.m pc' L (v :: S))) : WP κ h k n (mkF κ.m pc L (S)) := by
  obtain ⟨hx, hby, -⟩ := K
  subst hp
  exact WP.go (fun T locs vm0 X e hZ ho t k => XS.aloadN X.here hx rfl (hb hby hd) hl hv k) H
theorem WP.aload (K : Cx κ w l Z own n0 rm bytes maxL ret nm Q) {j : Nat} {v : Value} (hd : decode bytes pc = .ok (.aload j, 2)) (hl : L[j]? = some (.val v)) (hv : v.isRef = true) (hp : pc + 2 = pc') (H : WP κ h k n (mkF κ.m pc' L (v :: S))) : WP κ h k n (mkF κ.m pc L (S)) := by
  obtain ⟨hx, hby, -⟩ := K
  subst hp
  exact WP.go (fun T locs vm0 X e hZ ho t k => XS.aload X.here hx rfl (hb hby hd) hl hv k) H
theorem WP.dloadN (K : Cx κ w l Z own n0 rm bytes maxL ret nm Q) {j : Fin 4} {v : UInt64} (hd : decode bytes pc = .ok (.dload_n j, 1)) (hl : L[j.val]? = some (.val (.double v))) (hp : pc + 1 = pc') (H : WP κ h k n (mkF κ.m pc' L (.double v :: S))) : WP κ h k n (mkF κ.m pc L (S)) := by
  obtain ⟨hx, hby, -⟩ := K
  subst hp
  exact WP.go (fun T locs vm0 X e hZ ho t k => XT.dloadN X.here hx rfl (hb hby hd) hl k) H
theorem WP.dload (K : Cx κ w l Z own n0 rm bytes maxL ret nm Q) {j : Nat} {v : UInt64} (hd : decode bytes pc = .ok (.dload j, 2)) (hl : L[j]? = some (.val (.double v))) (hp : pc + 2 = pc') (H : WP κ h k n (mkF κ.m pc' L (.double v :: S))) : WP κ h k n (mkF κ.m pc L (S)) := by
  obtain ⟨hx, hby, -⟩ := K
  subst hp
  exact WP.go (fun T locs vm0 X e hZ ho t k => XT.dload X.here hx rfl (hb hby hd) hl k) H
theorem WP.dup (K : Cx κ w l Z own n0 rm bytes maxL ret nm Q) {x : Value} (hd : decode bytes pc = .ok (.dup, 1)) (hc : x.category = 1) (hp : pc + 1 = pc') (H : WP κ h k n (mkF κ.m pc' L (x :: x :: S))) : WP κ h k n (mkF κ.m pc L (x :: S)) := by
  obtain ⟨hx, hby, -⟩ := K
  subst hp
  exact WP.go (fun T locs vm0 X e hZ ho t k => XS.dup X.here hx rfl (hb hby hd) rfl hc k) H
theorem WP.pop (K : Cx κ w l Z own n0 rm bytes maxL ret nm Q) {x : Value} (hd : decode bytes pc = .ok (.pop, 1)) (hc : x.category = 1) (hp : pc + 1 = pc') (H : WP κ h k n (mkF κ.m pc' L (S))) : WP κ h k n (mkF κ.m pc L (x :: S)) := by
  obtain ⟨hx, hby, -⟩ := K
  subst hp
  exact WP.go (fun T locs vm0 X e hZ ho t k => XT.pop X.here hx rfl (hb hby hd) rfl hc k) H
theorem WP.dup_x1 (K : Cx κ w l Z own n0 rm bytes maxL ret nm Q) {x y : Value} (hd : decode bytes pc = .ok (.dup_x1, 1)) (hc : x.category = 1) (hc' : y.category = 1) (hp : pc + 1 = pc') (H : WP κ h k n (mkF κ.m pc' L (x :: y :: x :: S))) : WP κ h k n (mkF κ.m pc L (x :: y :: S)) := by
  obtain ⟨hx, hby, -⟩ := K
  subst hp
  exact WP.go (fun T locs vm0 X e hZ ho t k => XT.dupX1 X.here hx rfl (hb hby hd) rfl hc hc' k) H
theorem WP.dup2 (K : Cx κ w l Z own n0 rm bytes maxL ret nm Q) {x y : Value} (hd : decode bytes pc = .ok (.dup2, 1)) (hc : x.category = 1) (hc' : y.category = 1) (hp : pc + 1 = pc') (H : WP κ h k n (mkF κ.m pc' L (x :: y :: x :: y :: S))) : WP κ h k n (mkF κ.m pc L (x :: y :: S)) := by
  obtain ⟨hx, hby, -⟩ := K
  subst hp
  exact WP.go (fun T locs vm0 X e hZ ho t k => XT.dup2 X.here hx rfl (hb hby hd) rfl hc hc' k) H
theorem WP.dup2L (K : Cx κ w l Z own n0 rm bytes maxL ret nm Q) {x : Int64} (hd : decode bytes pc = .ok (.dup2, 1))  (hp : pc + 1 = pc') (H : WP κ h k n (mkF κ.m pc' L (.long x :: .long x :: S))) : WP κ h k n (mkF κ.m pc L (.long x :: S)) := by
  obtain ⟨hx, hby, -⟩ := K
  subst hp
  exact WP.go (fun T locs vm0 X e hZ ho t k => XT.dup2L X.here hx rfl (hb hby hd) rfl k) H
theorem WP.i2d (K : Cx κ w l Z own n0 rm bytes maxL ret nm Q) {x : Int32} (hd : decode bytes pc = .ok (.i2d, 1))  (hp : pc + 1 = pc') (H : WP κ h k n (mkF κ.m pc' L (.double (FP.i2d x) :: S))) : WP κ h k n (mkF κ.m pc L (.int x :: S)) := by
  obtain ⟨hx, hby, -⟩ := K
  subst hp
  exact WP.go (fun T locs vm0 X e hZ ho t k => Jvm.Free.XS.i2dS X.here hx rfl (hb hby hd) rfl rfl k) H
theorem WP.l2d (K : Cx κ w l Z own n0 rm bytes maxL ret nm Q) {x : Int64} (hd : decode bytes pc = .ok (.l2d, 1))  (hp : pc + 1 = pc') (H : WP κ h k n (mkF κ.m pc' L (.double (FP.l2d x) :: S))) : WP κ h k n (mkF κ.m pc L (.long x :: S)) := by
  obtain ⟨hx, hby, -⟩ := K
  subst hp
  exact WP.go (fun T locs vm0 X e hZ ho t k => Jvm.Free.XS.l2dS X.here hx rfl (hb hby hd) rfl rfl k) H
theorem WP.dcmp (K : Cx κ w l Z own n0 rm bytes maxL ret nm Q) {o : CmpOp} {x y : UInt64} (hd : decode bytes pc = .ok (.dcmp o, 1))  (hp : pc + 1 = pc') (H : WP κ h k n (mkF κ.m pc' L (.int (cmpValue (FP.dcmp x y) o) :: S))) : WP κ h k n (mkF κ.m pc L (.double y :: .double x :: S)) := by
  obtain ⟨hx, hby, -⟩ := K
  subst hp
  exact WP.go (fun T locs vm0 X e hZ ho t k => Jvm.Free.XS.dcmpS X.here hx rfl (hb hby hd) rfl rfl k) H
theorem WP.dconst0 (K : Cx κ w l Z own n0 rm bytes maxL ret nm Q) {v : UInt64} (hd : decode bytes pc = .ok (.dconst 0, 1)) (hv : FP.dconst0 = v) (hp : pc + 1 = pc') (H : WP κ h k n (mkF κ.m pc' L (.double v :: S))) : WP κ h k n (mkF κ.m pc L (S)) := by
  obtain ⟨hx, hby, -⟩ := K
  subst hp
  exact WP.go (fun T locs vm0 X e hZ ho t k => Jvm.Free.XS.dconst0 X.here hx rfl (hb hby hd) hv k) H
theorem WP.dconst1 (K : Cx κ w l Z own n0 rm bytes maxL ret nm Q) {v : UInt64} (hd : decode bytes pc = .ok (.dconst 1, 1)) (hv : FP.dconst1 = v) (hp : pc + 1 = pc') (H : WP κ h k n (mkF κ.m pc' L (.double v :: S))) : WP κ h k n (mkF κ.m pc L (S)) := by
  obtain ⟨hx, hby, -⟩ := K
  subst hp
  exact WP.go (fun T locs vm0 X e hZ ho t k => Jvm.Free.XS.dconst1 X.here hx rfl (hb hby hd) hv k) H
theorem WP.ddiv (K : Cx κ w l Z own n0 rm bytes maxL ret nm Q) {x y : UInt64} (hd : decode bytes pc = .ok (.ddiv, 1)) (hn : Jvm.Free.Fl.NoNaN64 (FP.ddiv x y)) (hp : pc + 1 = pc') (H : WP κ h k n (mkF κ.m pc' L (.double (FP.ddiv x y) :: S))) : WP κ h k n (mkF κ.m pc L (.double y :: .double x :: S)) := by
  obtain ⟨hx, hby, -⟩ := K
  subst hp
  exact WP.go (fun T locs vm0 X e hZ ho t k => Jvm.Free.XS.ddivS X.here hx rfl (hb hby hd) rfl hn rfl k) H
theorem WP.istoreN (K : Cx κ w l Z own n0 rm bytes maxL ret nm Q) {j : Fin 4} {x : Int32} (hd : decode bytes pc = .ok (.istore_n j, 1))  (hl : storeLocals L j.val (.int x) = some L') (hp : pc + 1 = pc') (H : WP κ h k n (mkF κ.m pc' L' S)) : WP κ h k n (mkF κ.m pc L ((.int x) :: S)) := by
  obtain ⟨hx, hby, -⟩ := K
  subst hp
  exact WP.go (fun T locs vm0 X e hZ ho t k => XS.istoreN X.here hx rfl (hb hby hd) rfl hl k) H
theorem WP.istore (K : Cx κ w l Z own n0 rm bytes maxL ret nm Q) {j : Nat} {x : Int32} (hd : decode bytes pc = .ok (.istore j, 2))  (hl : storeLocals L j (.int x) = some L') (hp : pc + 2 = pc') (H : WP κ h k n (mkF κ.m pc' L' S)) : WP κ h k n (mkF κ.m pc L ((.int x) :: S)) := by
  obtain ⟨hx, hby, -⟩ := K
  subst hp
  exact WP.go (fun T locs vm0 X e hZ ho t k => XS.istore X.here hx rfl (hb hby hd) rfl hl k) H
theorem WP.lstoreN (K : Cx κ w l Z own n0 rm bytes maxL ret nm Q) {j : Fin 4} {x : Int64} (hd : decode bytes pc = .ok (.lstore_n j, 1))  (hl : storeLocals L j.val (.long x) = some L') (hp : pc + 1 = pc') (H : WP κ h k n (mkF κ.m pc' L' S)) : WP κ h k n (mkF κ.m pc L ((.long x) :: S)) := by
  obtain ⟨hx, hby, -⟩ := K
  subst hp
  exact WP.go (fun T locs vm0 X e hZ ho t k => XT.lstoreN X.here hx rfl (hb hby hd) rfl hl k) H
theorem WP.lstore (K : Cx κ w l Z own n0 rm bytes maxL ret nm Q) {j : Nat} {x : Int64} (hd : decode bytes pc = .ok (.lstore j, 2))  (hl : storeLocals L j (.long x) = some L') (hp : pc + 2 = pc') (H : WP κ h k n (mkF κ.m pc' L' S)) : WP κ h k n (mkF κ.m pc L ((.long x) :: S)) := by
  obtain ⟨hx, hby, -⟩ := K
  subst hp
  exact WP.go (fun T locs vm0 X e hZ ho t k => XT.lstore X.here hx rfl (hb hby hd) rfl hl k) H
theorem WP.astoreN (K : Cx κ w l Z own n0 rm bytes maxL ret nm Q) {j : Fin 4} {x : Value} (hd : decode bytes pc = .ok (.astore_n j, 1)) (hv : x.isRef = true) (hl : storeLocals L j.val x = some L') (hp : pc + 1 = pc') (H : WP κ h k n (mkF κ.m pc' L' S)) : WP κ h k n (mkF κ.m pc L (x :: S)) := by
  obtain ⟨hx, hby, -⟩ := K
  subst hp
  exact WP.go (fun T locs vm0 X e hZ ho t k => XS.astoreN X.here hx rfl (hb hby hd) rfl hv hl k) H
theorem WP.astore (K : Cx κ w l Z own n0 rm bytes maxL ret nm Q) {j : Nat} {x : Value} (hd : decode bytes pc = .ok (.astore j, 2)) (hv : x.isRef = true) (hl : storeLocals L j x = some L') (hp : pc + 2 = pc') (H : WP κ h k n (mkF κ.m pc' L' S)) : WP κ h k n (mkF κ.m pc L (x :: S)) := by
  obtain ⟨hx, hby, -⟩ := K
  subst hp
  exact WP.go (fun T locs vm0 X e hZ ho t k => XS.astore X.here hx rfl (hb hby hd) rfl hv hl k) H
theorem WP.dstoreN (K : Cx κ w l Z own n0 rm bytes maxL ret nm Q) {j : Fin 4} {x : UInt64} (hd : decode bytes pc = .ok (.dstore_n j, 1))  (hl : storeLocals L j.val (.double x) = some L') (hp : pc + 1 = pc') (H : WP κ h k n (mkF κ.m pc' L' S)) : WP κ h k n (mkF κ.m pc L ((.double x) :: S)) := by
  obtain ⟨hx, hby, -⟩ := K
  subst hp
  exact WP.go (fun T locs vm0 X e hZ ho t k => Jvm.Free.XS.dstoreN X.here hx rfl (hb hby hd) rfl hl k) H
theorem WP.dstore (K : Cx κ w l Z own n0 rm bytes maxL ret nm Q) {j : Nat} {x : UInt64} (hd : decode bytes pc = .ok (.dstore j, 2))  (hl : storeLocals L j (.double x) = some L') (hp : pc + 2 = pc') (H : WP κ h k n (mkF κ.m pc' L' S)) : WP κ h k n (mkF κ.m pc L ((.double x) :: S)) := by
  obtain ⟨hx, hby, -⟩ := K
  subst hp
  exact WP.go (fun T locs vm0 X e hZ ho t k => Jvm.Free.XS.dstore X.here hx rfl (hb hby hd) rfl hl k) H
theorem WP.iinc (K : Cx κ w l Z own n0 rm bytes maxL ret nm Q) {j : Nat} {cst : Int} {x v : Int32} (hd : decode bytes pc = .ok (.iinc j cst, 3)) (hv : Int32.ofInt cst = v) (hl : L[j]? = some (.val (.int x))) (hl' : storeLocals L j (.int (x + v)) = some L') (hp : pc + 3 = pc') (H : WP κ h k n (mkF κ.m pc' L' S)) : WP κ h k n (mkF κ.m pc L S) := by
  obtain ⟨hx, hby, -⟩ := K
  subst hp
  exact WP.go (fun T locs vm0 X e hZ ho t k => XT.iincV X.here hx rfl v (hb hby hd) hv hl hl' k) H
theorem WP.goto (K : Cx κ w l Z own n0 rm bytes maxL ret nm Q) {o : Int} (hd : decode bytes pc = .ok (.goto o, 3)) (ho : 0 ≤ (pc : Int) + o) (hp : ((pc : Int) + o).toNat = pc') (H : WP κ h k n (mkF κ.m pc' L S)) : WP κ h k n (mkF κ.m pc L S) := by
  obtain ⟨hx, hby, -⟩ := K
  exact WP.go (fun T locs vm0 X e hZ ho' t k => XS.goto X.here hx rfl rfl (hb hby hd) ho hp k) H
theorem WP.if0T (K : Cx κ w l Z own n0 rm bytes maxL ret nm Q) {cd : ClassFile.Cond} {x : Int32} {o : Int} (hd : decode bytes pc = .ok (.ifCond cd o, 3)) (hc : ifCond.holds cd x = true) (ho : 0 ≤ (pc : Int) + o) (hp : ((pc : Int) + o).toNat = pc') (H : WP κ h k n (mkF κ.m pc' L S)) : WP κ h k n (mkF κ.m pc L (.int x :: S)) := by
  obtain ⟨hx, hby, -⟩ := K
  exact WP.go (fun T locs vm0 X e hZ ho' t k => XS.ifYes X.here hx rfl rfl (hb hby hd) rfl hc ho hp k) H
theorem WP.if0F (K : Cx κ w l Z own n0 rm bytes maxL ret nm Q) {cd : ClassFile.Cond} {x : Int32} {o : Int} (hd : decode bytes pc = .ok (.ifCond cd o, 3)) (hc : ifCond.holds cd x = false) (hp : pc + 3 = pc') (H : WP κ h k n (mkF κ.m pc' L S)) : WP κ h k n (mkF κ.m pc L (.int x :: S)) := by
  obtain ⟨hx, hby, -⟩ := K
  subst hp
  exact WP.go (fun T locs vm0 X e hZ ho' t k => XS.ifNo X.here hx rfl (hb hby hd) rfl hc k) H
theorem WP.icmpT (K : Cx κ w l Z own n0 rm bytes maxL ret nm Q) {cd : ClassFile.Cond} {x y : Int32} {o : Int} (hd : decode bytes pc = .ok (.if_icmp cd o, 3)) (hc : if_icmp.holds cd x y = true) (ho : 0 ≤ (pc : Int) + o) (hp : ((pc : Int) + o).toNat = pc') (H : WP κ h k n (mkF κ.m pc' L S)) : WP κ h k n (mkF κ.m pc L (.int y :: .int x :: S)) := by
  obtain ⟨hx, hby, -⟩ := K
  exact WP.go (fun T locs vm0 X e hZ ho' t k => XS.icmpYes X.here hx rfl rfl (hb hby hd) rfl hc ho hp k) H
theorem WP.icmpF (K : Cx κ w l Z own n0 rm bytes maxL ret nm Q) {cd : ClassFile.Cond} {x y : Int32} {o : Int} (hd : decode bytes pc = .ok (.if_icmp cd o, 3)) (hc : if_icmp.holds cd x y = false) (hp : pc + 3 = pc') (H : WP κ h k n (mkF κ.m pc' L S)) : WP κ h k n (mkF κ.m pc L (.int y :: .int x :: S)) := by
  obtain ⟨hx, hby, -⟩ := K
  subst hp
  exact WP.go (fun T locs vm0 X e hZ ho' t k => XS.icmpNo X.here hx rfl (hb hby hd) rfl hc k) H
theorem WP.acmpT (K : Cx κ w l Z own n0 rm bytes maxL ret nm Q) {cd : ClassFile.ACond} {x y : Value} {o : Int} (hd : decode bytes pc = .ok (.if_acmp cd o, 3)) (h1 : x.isRef = true) (h2 : y.isRef = true) (hc : XT.acmp cd x y = true) (ho : 0 ≤ (pc : Int) + o) (hp : ((pc : Int) + o).toNat = pc') (H : WP κ h k n (mkF κ.m pc' L S)) : WP κ h k n (mkF κ.m pc L (y :: x :: S)) := by
  obtain ⟨hx, hby, -⟩ := K
  exact WP.go (fun T locs vm0 X e hZ ho' t k => XT.acmpYes X.here hx rfl rfl (hb hby hd) rfl h1 h2 hc ho hp k) H
theorem WP.acmpF (K : Cx κ w l Z own n0 rm bytes maxL ret nm Q) {cd : ClassFile.ACond} {x y : Value} {o : Int} (hd : decode bytes pc = .ok (.if_acmp cd o, 3)) (h1 : x.isRef = true) (h2 : y.isRef = true) (hc : XT.acmp cd x y = false) (hp : pc + 3 = pc') (H : WP κ h k n (mkF κ.m pc' L S)) : WP κ h k n (mkF κ.m pc L (y :: x :: S)) := by
  obtain ⟨hx, hby, -⟩ := K
  subst hp
  exact WP.go (fun T locs vm0 X e hZ ho' t k => XT.acmpNo X.here hx rfl (hb hby hd) rfl h1 h2 hc k) H
theorem WP.ifnullT (K : Cx κ w l Z own n0 rm bytes maxL ret nm Q) {o : Int} {b : Addr} (hd : decode bytes pc = .ok (.ifnull o, 3)) (ho : 0 ≤ (pc : Int) + o) (hp : ((pc : Int) + o).toNat = pc') (H : WP κ h k n (mkF κ.m pc' L S)) : WP κ h k n (mkF κ.m pc L (.null :: S)) := by
  obtain ⟨hx, hby, -⟩ := K
  exact WP.go (fun T locs vm0 X e hZ ho' t k => XS.ifnullYes X.here hx rfl rfl (hb hby hd) rfl ho hp k) H
theorem WP.ifnullF (K : Cx κ w l Z own n0 rm bytes maxL ret nm Q) {o : Int} {b : Addr} (hd : decode bytes pc = .ok (.ifnull o, 3)) (hp : pc + 3 = pc') (H : WP κ h k n (mkF κ.m pc' L S)) : WP κ h k n (mkF κ.m pc L (.ref b :: S)) := by
  obtain ⟨hx, hby, -⟩ := K
  subst hp
  exact WP.go (fun T locs vm0 X e hZ ho' t k => XS.ifnullNo X.here hx rfl (hb hby hd) rfl k) H
theorem WP.ifnonnullT (K : Cx κ w l Z own n0 rm bytes maxL ret nm Q) {o : Int} {b : Addr} (hd : decode bytes pc = .ok (.ifnonnull o, 3)) (ho : 0 ≤ (pc : Int) + o) (hp : ((pc : Int) + o).toNat = pc') (H : WP κ h k n (mkF κ.m pc' L S)) : WP κ h k n (mkF κ.m pc L (.ref b :: S)) := by
  obtain ⟨hx, hby, -⟩ := K
  exact WP.go (fun T locs vm0 X e hZ ho' t k => XT.ifnonnullYes X.here hx rfl rfl (hb hby hd) rfl ho hp k) H
theorem WP.ifnonnullF (K : Cx κ w l Z own n0 rm bytes maxL ret nm Q) {o : Int} {b : Addr} (hd : decode bytes pc = .ok (.ifnonnull o, 3)) (hp : pc + 3 = pc') (H : WP κ h k n (mkF κ.m pc' L S)) : WP κ h k n (mkF κ.m pc L (.null :: S)) := by
  obtain ⟨hx, hby, -⟩ := K
  subst hp
  exact WP.go (fun T locs vm0 X e hZ ho' t k => XT.ifnonnullNo X.here hx rfl (hb hby hd) rfl k) H
theorem WP.ldcI (K : Cx κ w l Z own n0 rm bytes maxL ret nm Q) {i : Nat} {v : Int32} (wc : (Cond.constant own i v).before a0 Z = true) (hd : decode bytes pc = .ok (.ldc i, 2)) (hp : pc + 2 = pc') (H : WP κ h k n (mkF κ.m pc' L (.int v :: S))) : WP κ h k n (mkF κ.m pc L S) := by
  obtain ⟨hx, hby, -, -, -, -, -, -, rfl, rfl, -⟩ := K
  subst hp
  exact WP.go (fun T locs vm0 X e hZ ho t k => X.ldcInt hx (own := κ.own) ho (mvT (args := κ.a) (s := κ.s.setVm vm0) hZ wc) (g := mkF κ.m pc L S) rfl (hb hby hd) t k) H
theorem WP.ldcwI (K : Cx κ w l Z own n0 rm bytes maxL ret nm Q) {i : Nat} {v : Int32} (wc : (Cond.constant own i v).before a0 Z = true) (hd : decode bytes pc = .ok (.ldc_w i, 3)) (hp : pc + 3 = pc') (H : WP κ h k n (mkF κ.m pc' L (.int v :: S))) : WP κ h k n (mkF κ.m pc L S) := by
  obtain ⟨hx, hby, -, -, -, -, -, -, rfl, rfl, -⟩ := K
  subst hp
  exact WP.go (fun T locs vm0 X e hZ ho t k => X.ldcwInt hx (own := κ.own) ho (mvT (args := κ.a) (s := κ.s.setVm vm0) hZ wc) (g := mkF κ.m pc L S) rfl (hb hby hd) t k) H
theorem WP.ldc2J (K : Cx κ w l Z own n0 rm bytes maxL ret nm Q) {i : Nat} {v : Int64} (wc : (Cond.constantLong own i v).before a0 Z = true) (hd : decode bytes pc = .ok (.ldc2_w i, 3)) (hp : pc + 3 = pc') (H : WP κ h k n (mkF κ.m pc' L (.long v :: S))) : WP κ h k n (mkF κ.m pc L S) := by
  obtain ⟨hx, hby, -, -, -, -, -, -, rfl, rfl, -⟩ := K
  subst hp
  exact WP.go (fun T locs vm0 X e hZ ho t k => X.ldc2Long hx (own := κ.own) ho (mvT (args := κ.a) (s := κ.s.setVm vm0) hZ wc) (g := mkF κ.m pc L S) rfl (hb hby hd) t k) H
theorem WP.ldc2D (K : Cx κ w l Z own n0 rm bytes maxL ret nm Q) {i : Nat} {v : UInt64} (wc : (Cond.constantDouble own i v).before a0 Z = true) (hd : decode bytes pc = .ok (.ldc2_w i, 3)) (hp : pc + 3 = pc') (H : WP κ h k n (mkF κ.m pc' L (.double v :: S))) : WP κ h k n (mkF κ.m pc L S) := by
  obtain ⟨hx, hby, -, -, -, -, -, -, rfl, rfl, -⟩ := K
  subst hp
  exact WP.go (fun T locs vm0 X e hZ ho t k => X.ldc2DoubleC hx (own := κ.own) ho (mvT (args := κ.a) (s := κ.s.setVm vm0) hZ wc) (g := mkF κ.m pc L S) rfl (hb hby hd) t k) H
theorem Ends.of {T : State} {locs : List Loc} {vm0 : Vm} {v : Option Value} {g : JFrame} (X : Stand κ.p κ.l κ.e κ.R (κ.s.setVm vm0) κ.m κ.a κ.below κ.meth κ.c T locs k n) (M : Md κ.w κ.s vm0 T.heap.size) (N : Fr κ.n0 locs) (hv : κ.meth.sig.returnType = none → v = none) (hlk : κ.meth.locks = false) (hk : k ≤ κ.R.cells) (hn : n ≤ κ.R.slots) (hq : κ.Q v T.heap)
    (st : ∀ fs, (∀ (f : JFrame) (acts : List Action), f.method = κ.m → f.locked = none → f.entered = [] → (doReturn κ.e (T.setTop f) acts v).1 = T.setFrames fs) → Steps κ.p.tables κ.e κ.below (T.setTop g) (T.setFrames fs)) : Ends κ T g := by
  obtain ⟨k0, hS, hk0⟩ := M.2
  by_cases hw : κ.w = true
  · obtain ⟨fs, h1, h2, h3, h4⟩ := (X.mono hk hn).leaveW hS hk0 hv hlk
    exact ⟨_, _, st fs h1, h2, h3, v, locs, rfl, ⟨hq, N⟩, by rw [hw]; exact h4⟩
  · have hw' : κ.w = false := by simpa using hw
    have e := M.1 hw'
    subst e
    obtain ⟨fs, h1, h2, h3, h4, h5⟩ := (X.mono hk hn).leave hv hlk
    exact ⟨_, _, st fs h1, h2, h3, v, locs, rfl, ⟨hq, N⟩, by rw [hw']; exact ⟨⟨v, rfl⟩, h4, h5⟩⟩
theorem WP.ret0 (K : Cx κ w l Z own n0 rm bytes maxL none nm Q) (hd : decode bytes pc = .ok (.return_, 1)) (hk : k ≤ rm.cells) (hn : n ≤ rm.slots) (hq : Q none h) : WP κ h k n (mkF κ.m pc L ([])) := by
  obtain ⟨hx, hby, -, hr, hlk, -, -, -, rfl, rfl, rfl, rfl, rfl⟩ := K
  intro T locs vm0 X e M hZ ho N
  subst e
  exact Ends.of X M N (fun _ => rfl) hlk hk hn hq fun fs hl => X.returnOut hx hr (hb hby hd) hl
theorem WP.retI (K : Cx κ w l Z own n0 rm bytes maxL (some .int) nm Q) {z : Int32} (hd : decode bytes pc = .ok (.ireturn, 1)) (hk : k ≤ rm.cells) (hn : n ≤ rm.slots) (hq : Q (some (.int z)) h) : WP κ h k n (mkF κ.m pc L (.int z :: S)) := by
  obtain ⟨hx, hby, -, hr, hlk, -, -, -, rfl, rfl, rfl, rfl, rfl⟩ := K
  intro T locs vm0 X e M hZ ho N
  subst e
  exact Ends.of X M N (fun q => by rw [hr] at q; cases q) hlk hk hn hq fun fs hl => retOut X hx hr rfl (Or.inl ⟨rfl, Or.inl rfl, z, rfl⟩) (hb hby hd) hl
theorem WP.retJ (K : Cx κ w l Z own n0 rm bytes maxL (some .long) nm Q) {z : Int64} (hd : decode bytes pc = .ok (.lreturn, 1)) (hk : k ≤ rm.cells) (hn : n ≤ rm.slots) (hq : Q (some (.long z)) h) : WP κ h k n (mkF κ.m pc L (.long z :: S)) := by
  obtain ⟨hx, hby, -, hr, hlk, -, -, -, rfl, rfl, rfl, rfl, rfl⟩ := K
  intro T locs vm0 X e M hZ ho N
  subst e
  exact Ends.of X M N (fun q => by rw [hr] at q; cases q) hlk hk hn hq fun fs hl => retOut X hx hr rfl (Or.inr (Or.inl ⟨rfl, rfl, z, rfl⟩)) (hb hby hd) hl
theorem WP.retD (K : Cx κ w l Z own n0 rm bytes maxL (some .double) nm Q) {z : UInt64} (hd : decode bytes pc = .ok (.dreturn, 1)) (hk : k ≤ rm.cells) (hn : n ≤ rm.slots) (hq : Q (some (.double z)) h) : WP κ h k n (mkF κ.m pc L (.double z :: S)) := by
  obtain ⟨hx, hby, -, hr, hlk, -, -, -, rfl, rfl, rfl, rfl, rfl⟩ := K
  intro T locs vm0 X e M hZ ho N
  subst e
  exact Ends.of X M N (fun q => by rw [hr] at q; cases q) hlk hk hn hq fun fs hl => retOut X hx hr rfl (Or.inr (Or.inr (Or.inl ⟨rfl, rfl, z, rfl⟩))) (hb hby hd) hl
theorem WP.retR {ty : FieldType} (K : Cx κ w l Z own n0 rm bytes maxL (some ty) nm Q) {v : Value} (ht : ty.isReference = true) (hv : v.isRef = true) (hd : decode bytes pc = .ok (.areturn, 1)) (hk : k ≤ rm.cells) (hn : n ≤ rm.slots) (hq : Q (some v) h) : WP κ h k n (mkF κ.m pc L (v :: S)) := by
  obtain ⟨hx, hby, -, hr, hlk, -, -, -, rfl, rfl, rfl, rfl, rfl⟩ := K
  intro T locs vm0 X e M hZ ho N
  subst e
  exact Ends.of X M N (fun q => by rw [hr] at q; cases q) hlk hk hn hq fun fs hl => retOut X hx hr (by cases ty <;> first | rfl | (cases ht) | (rcases ref_cases hv with rfl | ⟨_, rfl⟩ <;> rfl)) (Or.inr (Or.inr (Or.inr (Or.inr ⟨rfl, ht, hv⟩)))) (hb hby hd) hl
theorem WP.retN {ty : FieldType} (K : Cx κ w l Z own n0 rm bytes maxL (some ty) nm Q) {z : Int32} (ht : ty = .boolean ∨ ty = .byte ∨ ty = .char ∨ ty = .short) (hd : decode bytes pc = .ok (.ireturn, 1)) (hk : k ≤ rm.cells) (hn : n ≤ rm.slots) (hq : Q (some (.int (nar ty z))) h) : WP κ h k n (mkF κ.m pc L (.int z :: S)) := by
  obtain ⟨hx, hby, -, hr, hlk, -, -, -, rfl, rfl, rfl, rfl, rfl⟩ := K
  intro T locs vm0 X e M hZ ho N
  subst e
  exact Ends.of X M N (fun q => by rw [hr] at q; cases q) hlk hk hn hq fun fs hl => RoadKit.retN X hx hr ht (hb hby hd) hl
theorem WP.getF (K : Cx κ w l Z own n0 rm bytes maxL ret nm Q) {i : Nat} {R0 O f d : String} {a : Addr} {v : Value} (wl : (Cond.fieldLink own i R0 f d).before a0 Z = true) (via : Via Z R0 O f d) (F : Fld Z h a O f d v) (hd : decode bytes pc = .ok (.getfield i, 3)) (hp : pc + 3 = pc') (H : WP κ h k n (mkF κ.m pc' L (v :: S))) : WP κ h k n (mkF κ.m pc L (.ref a :: S)) := by
  obtain ⟨hx, hby, -, -, -, hnm, -, -, rfl, rfl, rfl, rfl, -⟩ := K
  subst hp
  intro T locs vm0 X e M hZ ho N
  obtain ⟨T', X', e', st⟩ := RoadKit.getF X hx (s := κ.s.setVm vm0) hZ ho (host := "") (Or.inl wl) via e F (g := mkF κ.m pc L (.ref a :: S)) rfl rfl (hb hby hd)
  obtain ⟨t, o, h1, r⟩ := H T' locs vm0 X' e' M hZ ho N
  exact ⟨t, o, st _ h1, r⟩
theorem WP.getS (K : Cx κ w l Z own n0 rm bytes maxL ret nm Q) {i : Nat} {R0 O f d : String} {v : Value} (wl : (Cond.fieldLink own i R0 f d).before a0 Z = true) (via : Via Z R0 O f d) (F : Sta Z h O f d v) (hd : decode bytes pc = .ok (.getstatic i, 3)) (hp : pc + 3 = pc') (H : WP κ h k n (mkF κ.m pc' L (v :: S))) : WP κ h k n (mkF κ.m pc L S) := by
  obtain ⟨hx, hby, -, -, -, hnm, -, -, rfl, rfl, rfl, rfl, -⟩ := K
  subst hp
  intro T locs vm0 X e M hZ ho N
  obtain ⟨T', X', e', st⟩ := RoadKit.getS (host := "") X hx (s := κ.s.setVm vm0) hZ ho wl via e F (g := mkF κ.m pc L S) rfl (hb hby hd)
  obtain ⟨t, o, h1, r⟩ := H T' locs vm0 X' e' M hZ ho N
  exact ⟨t, o, st _ h1, r⟩
theorem WP.putF (K : Cx κ w l Z own n0 rm bytes maxL ret nm Q) {i kk : Nat} {R0 O f d C : String} {ty : FieldType} {a : Addr} {v old : Value} (wl : (Cond.fieldLink own i R0 f d).before a0 Z = true) (via : Via Z R0 O f d) (F : Fld Z h a O f d old) (E : Exa Z h a C) (la : (Cond.lays C O f d).before a0 Z = true ∨ ((Cond.laysFinal C O f d).before a0 Z = true ∧ own = O ∧ nm = "<init>")) (wi : (Cond.instantiable C kk).before a0 Z = true)
    (hty : parseFieldDescriptor d = some ty) (hn1 : narrow ty v = v) (hf : fits ty v = true) (ha : n0 ≤ a) (hd : decode bytes pc = .ok (.putfield i, 3)) (hp : pc + 3 = pc') (H : ∀ h', Wr h h' a (Jvm.RoadKit.slotOf Z O f d) v → WP κ h' k n (mkF κ.m pc' L S)) : WP κ h k n (mkF κ.m pc L (v :: .ref a :: S)) := by
  obtain ⟨hx, hby, -, -, -, hnm, -, -, rfl, rfl, rfl, rfl, -⟩ := K
  subst hp
  intro T locs vm0 X e M hZ ho N
  obtain ⟨T', h', X', e', W, st⟩ := RoadKit.putF X hx (s := κ.s.setVm vm0) hZ ho (host := "") (Or.inl wl) via e F E (la.imp id fun q => ⟨q.1, q.2.1, hnm.trans q.2.2⟩) wi hty hn1 hf (g := mkF κ.m pc L (v :: .ref a :: S)) rfl rfl (hb hby hd)
  obtain ⟨t, o, h1, r⟩ := H h' W T' _ vm0 X' e' (M.mono (Nat.le_of_eq W.size.symm)) hZ ho (Fr.snoc X' N ha)
  exact ⟨t, o, st _ h1, r⟩
theorem WP.putFN (K : Cx κ w l Z own n0 rm bytes maxL ret nm Q) {i kk : Nat} {R0 O f d C : String} {ty : FieldType} {a : Addr} {v v' old : Value} (wl : (Cond.fieldLink own i R0 f d).before a0 Z = true) (via : Via Z R0 O f d) (F : Fld Z h a O f d old) (E : Exa Z h a C) (la : (Cond.lays C O f d).before a0 Z = true ∨ ((Cond.laysFinal C O f d).before a0 Z = true ∧ own = O ∧ nm = "<init>")) (wi : (Cond.instantiable C kk).before a0 Z = true)
    (hty : parseFieldDescriptor d = some ty) (hn1 : narrow ty v = v') (hf : fits ty v' = true) (ha : n0 ≤ a) (hd : decode bytes pc = .ok (.putfield i, 3)) (hp : pc + 3 = pc') (H : ∀ h', Wr h h' a (Jvm.RoadKit.slotOf Z O f d) v' → WP κ h' k n (mkF κ.m pc' L S)) : WP κ h k n (mkF κ.m pc L (v :: .ref a :: S)) := by
  obtain ⟨hx, hby, -, -, -, hnm, -, -, rfl, rfl, rfl, rfl, -⟩ := K
  subst hp
  intro T locs vm0 X e M hZ ho N
  obtain ⟨T', h', X', e', W, st⟩ := RoadKit.putFN X hx (s := κ.s.setVm vm0) hZ ho wl via e F E (la.imp id fun q => ⟨q.1, q.2.1, hnm.trans q.2.2⟩) wi hty hn1 hf (g := mkF κ.m pc L (v :: .ref a :: S)) rfl rfl (hb hby hd)
  obtain ⟨t, o, h1, r⟩ := H h' W T' _ vm0 X' e' (M.mono (Nat.le_of_eq W.size.symm)) hZ ho (Fr.snoc X' N ha)
  exact ⟨t, o, st _ h1, r⟩
theorem WP.new (K : Cx κ w l Z own n0 rm bytes maxL ret nm Q) {i sl : Nat} {C : String} (w1 : (Cond.classLink own i C).before a0 Z = true) (w2 : (Cond.instantiable C sl).before a0 Z = true) (w3 : (Cond.initialized C).before a0 Z = true) (hd : decode bytes pc = .ok (.new i, 3)) (hk : k + 1 = k') (hn : n + sl = n') (hk' : k' ≤ rm.cells) (hn' : n' ≤ rm.slots) (hp : pc + 3 = pc')
    (H : ∀ (h' : Heap) (a : Addr), @Eq Nat h.size a → Ext h h' → Exa Z h' a C → (∀ {O f d : String} {ty : FieldType}, Laid Z a0 C O f d → parseFieldDescriptor d = some ty → Fld Z h' a O f d (defaultValue ty)) → WP κ h' k' n' (mkF κ.m pc' L (.ref a :: S))) : WP κ h k n (mkF κ.m pc L S) := by
  obtain ⟨hx, hby, -, -, -, hnm, -, -, rfl, rfl, rfl, rfl, -⟩ := K
  subst hp hk hn
  intro T locs vm0 X e M hZ ho N
  obtain ⟨T', h', X', e', E, A, D, -, st⟩ := newO X hx (s := κ.s.setVm vm0) hZ ho w1 w2 w3 e (g := mkF κ.m pc L S) rfl (hb hby hd) hk' hn'
  obtain ⟨t, o, h1, r⟩ := H h' _ rfl E A D T' _ vm0 X' e' (M.mono E.1) hZ ho N
  exact ⟨t, o, st _ h1, r⟩
theorem WP.initO (K : Cx κ w l Z own n0 rm bytes maxL ret nm Q) {i W : Nat} {a : Addr} (w1 : (Cond.methodLink own i Lib.objectInit).before a0 Z = true) (w2 : (Cond.instanceMethod Lib.objectInit).before a0 Z = true) (w3 : (Cond.code Lib.objectInit ⟨#[0xb1]⟩ 1 none).before a0 Z = true) (hd : decode bytes pc = .ok (.invokespecial i, 3)) (hL : L.size = maxL) (hf : 1 ≤ rm.frames) (hW : (S.map fun v => v.category).sum = W) (hl : W + 12 ≤ rm.locals) (hp : pc + 3 = pc')
    (H : WP κ h k n (mkF κ.m pc' L S)) : WP κ h k n (mkF κ.m pc L (.ref a :: S)) := by
  obtain ⟨hx, hby, hml, -, -, -, -, -, rfl, rfl, rfl, rfl, -⟩ := K
  subst hp
  intro T locs vm0 X e M hZ ho N
  obtain ⟨T', X', e', st⟩ := RoadKit.initO X hx (s := κ.s.setVm vm0) hZ ho w1 w2 w3 e (g := mkF κ.m pc L (.ref a :: S)) rfl (hL.trans hml.symm) rfl (hb hby hd) hf (W := W) (by show 2 * 0 + _ ≤ _; omega) hl
  obtain ⟨t, o, h1, r⟩ := H T' locs vm0 X' e' M hZ ho N
  exact ⟨t, o, st _ h1, r⟩
/-- an array: its class, its kind of component, its length, its components -/
def Ary (Z : State) (h : Heap) (a : Addr) (kA : ClassId) (ty : FieldType) (N : Nat) (f : Nat → Value) : Prop := ∃ c : Cell, Arr Z h a c ty ∧ c.cls = kA ∧ c.slots.size = N ∧ N < 2 ^ 31 ∧ (∀ i, i < N → c.slots[i]? = some (f i)) ∧ ∀ i, i < N → fits ty (f i) = true
def upd (f : Nat → Value) (i : Nat) (v : Value) : Nat → Value := fun j => if j = i then v else f j
theorem upd_same (f : Nat → Value) (i : Nat) (v : Value) : upd f i v i = v := if_pos rfl
theorem upd_ne (f : Nat → Value) {i j : Nat} (v : Value) (q : j ≠ i) : upd f i v j = f j := if_neg q
def fset {α : Type} (f : Nat → α) (i : Nat) (v : α) : Nat → α := fun j => if j = i then v else f j
theorem fset_same {α : Type} (f : Nat → α) (i : Nat) (v : α) : fset f i v i = v := if_pos rfl
theorem fset_ne {α : Type} (f : Nat → α) {i j : Nat} (v : α) (q : j ≠ i) : fset f i v j = f j := if_neg q
theorem upd_int (F : Nat → Int32) (i : Nat) (v : Int32) : upd (fun j => .int (F j)) i (.int v) = fun j => .int (fset F i v j) := by funext j; unfold upd fset; split <;> rfl
theorem upd_long (F : Nat → Int64) (i : Nat) (v : Int64) : upd (fun j => .long (F j)) i (.long v) = fun j => .long (fset F i v j) := by funext j; unfold upd fset; split <;> rfl
theorem upd_double (F : Nat → UInt64) (i : Nat) (v : UInt64) : upd (fun j => .double (F j)) i (.double v) = fun j => .double (fset F i v j) := by funext j; unfold upd fset; split <;> rfl
section Arrays
variable {a b : Addr} {kA : ClassId} {ty : FieldType} {N : Nat} {f f' : Nat → Value} {sl : Nat} {v : Value} {ws : List Addr}
theorem Ary.lt (A : Ary Z h a kA ty N f) : a < h.size := by obtain ⟨c, q, -⟩ := A; exact q.lt
theorem Ary.len (A : Ary Z h a kA ty N f) : N < 2 ^ 31 := by obtain ⟨c, -, -, -, q, -⟩ := A; exact q
theorem Ary.ext (E : Ext h h') (A : Ary Z h a kA ty N f) : Ary Z h' a kA ty N f := by obtain ⟨c, q, r⟩ := A; exact ⟨c, q.ext E, r⟩
theorem Ary.other (W : Wr h h' b sl v) (A : Ary Z h a kA ty N f) (q : a ≠ b) : Ary Z h' a kA ty N f := by obtain ⟨c, A, r⟩ := A; exact ⟨c, A.other W q, r⟩
theorem Ary.keep (K : Keep h h' ws) (A : Ary Z h a kA ty N f) (q : a ∉ ws) : Ary Z h' a kA ty N f := by obtain ⟨c, A, r⟩ := A; exact ⟨c, ⟨K.2.1 a c A.1 q, A.2⟩, r⟩
theorem Ary.congr (A : Ary Z h a kA ty N f) (q : ∀ i, i < N → f i = f' i) : Ary Z h a kA ty N f' := by obtain ⟨c, A, r1, r2, r3, r4, r5⟩ := A; exact ⟨c, A, r1, r2, r3, fun i hi => by rw [← q i hi]; exact r4 i hi, fun i hi => by rw [← q i hi]; exact r5 i hi⟩
theorem Ary.fits (A : Ary Z h a kA ty N f) {i : Nat} (hi : i < N) : Jvm.fits ty (f i) = true := by obtain ⟨c, -, -, -, -, -, q⟩ := A; exact q i hi
theorem Ary.set (W : Wr h h' a sl v) (A : Ary Z h a kA ty N f) (hv : Jvm.fits ty v = true) : Ary Z h' a kA ty N (upd f sl v) := by
  obtain ⟨c, A, r1, r2, r3, r4, r5⟩ := A
  refine ⟨_, A.same W, r1, by rw [sz_set]; exact r2, r3, fun i hi => ?_, fun i hi => ?_⟩
  · by_cases q : i = sl
    · subst q; rw [upd_same]; simp [Cell.setSlot, r2, hi]
    · rw [upd_ne f v q]; simp only [Cell.setSlot]; rw [Array.getElem?_setIfInBounds_ne (Ne.symm q)]; exact r4 i hi
  · by_cases q : i = sl
    · subst q; rw [upd_same]; exact hv
    · rw [upd_ne f v q]; exact r5 i hi
theorem Ary.ints (A : Ary Z h a kA ty N f) (ht : ty = .int ∨ ty = .boolean ∨ ty = .byte ∨ ty = .char ∨ ty = .short) : ∃ F : Nat → Int32, Ary Z h a kA ty N (fun i => .int (F i)) := by
  refine ⟨fun i => match f i with | .int x => x | _ => 0, A.congr fun i hi => ?_⟩
  obtain ⟨x, e⟩ := fit_I (A.fits hi) ht
  simp only [e]
theorem Ary.doubles (A : Ary Z h a kA .double N f) : ∃ F : Nat → UInt64, Ary Z h a kA .double N (fun i => .double (F i)) := by
  refine ⟨fun i => match f i with | .double x => x | _ => 0, A.congr fun i hi => ?_⟩
  obtain ⟨x, e⟩ := fit_D (A.fits hi)
  simp only [e]
theorem Ary.longs (A : Ary Z h a kA .long N f) : ∃ F : Nat → Int64, Ary Z h a kA .long N (fun i => .long (F i)) := by
  refine ⟨fun i => match f i with | .long x => x | _ => 0, A.congr fun i hi => ?_⟩
  obtain ⟨x, e⟩ := fit_J (A.fits hi)
  simp only [e]
theorem static_ary {s : State} {args : Array Value} {C nm d : String} {z : Int32} (hf : Fit s) (wl : (Cond.laysStatic C nm d).before args s = true) (wi : (Cond.initialized C).before args s = true) (hd : parseFieldDescriptor d = some (.array ty))
    (hA : (Cond.arrayOf (Term.static C nm d) ty).value args s none s [] = some true) (hL : (Cond.eq (Term.length (Term.static C nm d)) (Term.int z)).value args s none s [] = some true) (hz : z.toInt = (N : Int)) :
    ∃ (a : Addr) (kA : ClassId) (f : Nat → Value), Sta s s.heap C nm d (.ref a) ∧ Ary s s.heap a kA ty N f ∧ ∀ (i : Nat) (j v : Int32), j.toInt = (i : Int) → i < N → (Cond.eq (Term.elem (Term.static C nm d) (Term.int j)) (Term.int v)).value args s none s [] = some true → f i = .int v := by
  obtain ⟨v, ev, hv⟩ := static_fit hf wl hd
  have hr := fit_R hv rfl
  rcases ref_cases hr with rfl | ⟨a, rfl⟩
  · exfalso; simp [Cond.value, ev] at hA
  obtain ⟨c, A⟩ := Arr.start ev hA
  have hc := A.fin (Vm.Alike.refl _)
  have hs : c.slots.size < 2 ^ 31 ∧ c.slots.size.toInt32 = z := by
    obtain ⟨x, y, ex, ey⟩ := cmp_v (Or.inl hL)
    obtain ⟨a', c', ea, hc', rfl, q⟩ := Jvm.Free.SB.Term.length_small ex
    cases ev.symm.trans ea
    cases hc.symm.trans hc'
    exact ⟨q, by simpa [Cond.value, ex, Term.int_eval] using hL⟩
  have hN : c.slots.size = N := by have e := len_toInt hs.1; rw [hs.2, hz] at e; omega
  refine ⟨a, c.cls, fun i => c.slots.getD i .null, Sta.start ev (Or.inr ⟨wi, wl⟩), ⟨c, A, rfl, hN, by omega, fun i hi => ?_, fun i hi => ?_⟩, fun i j v hj hi he => ?_⟩
  · simp [Array.getD, hN, hi]
  · have q := hf A.1 (i := i) (by omega)
    obtain ⟨hst, k, hk, comp, hkind⟩ := A.2.1
    have e : s.slotType? c.cls c.vm i = some ty := by
      cases hq : c.vm <;> first | exact absurd hq (hst _) | simp [State.slotType?, hk, hkind]
    have hi' : i < c.slots.size := by omega
    simpa [State.fitsSlot, e, Array.getD, hi'] using q
  · have hi' : i < c.slots.size := by omega
    have hn : j.toNatClampNeg = i := by simp only [Int32.toNatClampNeg, hj]; omega
    obtain ⟨x, y, ex, ey⟩ := cmp_v (Or.inl he)
    obtain ⟨a', j', c', ea, ej, hc', -, hx⟩ := Term.elem_spec ex
    cases ev.symm.trans ea
    cases hc.symm.trans hc'
    cases (Term.int_eval j).symm.trans ej
    rw [hn] at hx
    have q : x = .int v := by
      have r := hf A.1 (i := i) hi'
      simp only [Cond.value, ex, Term.int_eval] at he
      cases x <;> simp at he
      rw [he]
    simp only [Array.getD, hi', dif_pos]
    rw [Array.getElem?_eq_getElem hi'] at hx
    exact (Option.some.inj hx).trans q
theorem Ary.of_new {cA : ClassId} {z : Int32} (A : Arr Z h a (newA cA ty z) ty) (hz : z.toInt = (N : Int)) : Ary Z h a cA ty N (fun _ => defaultValue ty) := by
  have e : z.toNatClampNeg = N := by simp only [Int32.toNatClampNeg]; omega
  have q := z.toInt_lt
  refine ⟨_, A, rfl, by rw [sz_new, e], by omega, fun i hi => ?_, fun i _ => by cases ty <;> rfl⟩
  simp [newA, e, hi]
theorem Ary.ne {a0 : Array Value} {C : String} {m : Nat} (E : Exa Z h b C) (A : Ary Z h a kA ty N f) (w : (Cond.instantiable C m).before a0 Z = true) : b ≠ a := by obtain ⟨c, q, -⟩ := A; exact ne_arr E w q
theorem in_of {c : Cell} {j : Int32} {i N : Nat} (S : c.slots.size = N) (hj : j.toInt = (i : Int)) (hi : i < N) : ¬ (j < 0 ∨ c.slots.size ≤ j.toNatClampNeg) := by
  rw [S, Int32.lt_iff_toInt_lt]; simp only [Int32.toNatClampNeg, hj]; have : (0 : Int32).toInt = 0 := rfl; omega
theorem nat_of {j : Int32} {i : Nat} (hj : j.toInt = (i : Int)) : j.toNatClampNeg = i := by simp only [Int32.toNatClampNeg, hj]; omega
end Arrays
theorem WP.iaload (K : Cx κ w l Z own n0 rm bytes maxL ret nm Q) {a : Addr} {kA : ClassId} {N i : Nat} {f : Nat → Value} {j : Int32} {v : Value} (A : Ary Z h a kA .int N f) (hj : j.toInt = (i : Int)) (hi : i < N) (hv : f i = v) (hd : decode bytes pc = .ok (.iaload, 1)) (hp : pc + 1 = pc') (H : WP κ h k n (mkF κ.m pc' L (v :: S))) : WP κ h k n (mkF κ.m pc L (.int j :: .ref a :: S)) := by
  obtain ⟨hx, hby, -, -, -, -, -, -, rfl, rfl, -⟩ := K
  subst hp hv
  obtain ⟨c, A, -, r2, -, r4, -⟩ := A
  refine WP.go (fun T locs vm0 X e hZ ho t k => ?_) H
  exact X.iaload hx (by rw [e]; exact A.1) (State.isArrayOf_alike (T := κ.s.setVm vm0) hZ.alike A.2.1) A.2.2 (in_of r2 hj hi) (by rw [nat_of hj]; exact r4 i hi) (g := mkF κ.m pc L (.int j :: .ref a :: S)) rfl rfl (hb hby hd) t k
theorem WP.laload (K : Cx κ w l Z own n0 rm bytes maxL ret nm Q) {a : Addr} {kA : ClassId} {N i : Nat} {f : Nat → Value} {j : Int32} {v : Value} (A : Ary Z h a kA .long N f) (hj : j.toInt = (i : Int)) (hi : i < N) (hv : f i = v) (hd : decode bytes pc = .ok (.laload, 1)) (hp : pc + 1 = pc') (H : WP κ h k n (mkF κ.m pc' L (v :: S))) : WP κ h k n (mkF κ.m pc L (.int j :: .ref a :: S)) := by
  obtain ⟨hx, hby, -, -, -, -, -, -, rfl, rfl, -⟩ := K
  subst hp hv
  obtain ⟨c, A, -, r2, -, r4, -⟩ := A
  refine WP.go (fun T locs vm0 X e hZ ho t k => ?_) H
  exact X.laload hx (by rw [e]; exact A.1) (State.isArrayOf_alike (T := κ.s.setVm vm0) hZ.alike A.2.1) A.2.2 (in_of r2 hj hi) (by rw [nat_of hj]; exact r4 i hi) (g := mkF κ.m pc L (.int j :: .ref a :: S)) rfl rfl (hb hby hd) t k
theorem WP.caload (K : Cx κ w l Z own n0 rm bytes maxL ret nm Q) {a : Addr} {kA : ClassId} {N i : Nat} {f : Nat → Value} {j : Int32} {v : Value} (A : Ary Z h a kA .char N f) (hj : j.toInt = (i : Int)) (hi : i < N) (hv : f i = v) (hd : decode bytes pc = .ok (.caload, 1)) (hp : pc + 1 = pc') (H : WP κ h k n (mkF κ.m pc' L (v :: S))) : WP κ h k n (mkF κ.m pc L (.int j :: .ref a :: S)) := by
  obtain ⟨hx, hby, -, -, -, -, -, -, rfl, rfl, -⟩ := K
  subst hp hv
  obtain ⟨c, A, -, r2, -, r4, -⟩ := A
  refine WP.go (fun T locs vm0 X e hZ ho t k => ?_) H
  exact X.caload hx (by rw [e]; exact A.1) (State.isArrayOf_alike (T := κ.s.setVm vm0) hZ.alike A.2.1) A.2.2 (in_of r2 hj hi) (by rw [nat_of hj]; exact r4 i hi) (g := mkF κ.m pc L (.int j :: .ref a :: S)) rfl rfl (hb hby hd) t k
theorem WP.baload (K : Cx κ w l Z own n0 rm bytes maxL ret nm Q) {a : Addr} {kA : ClassId} {N i : Nat} {f : Nat → Value} {j : Int32} {v : Value} (A : Ary Z h a kA .byte N f) (hj : j.toInt = (i : Int)) (hi : i < N) (hv : f i = v) (hd : decode bytes pc = .ok (.baload, 1)) (hp : pc + 1 = pc') (H : WP κ h k n (mkF κ.m pc' L (v :: S))) : WP κ h k n (mkF κ.m pc L (.int j :: .ref a :: S)) := by
  obtain ⟨hx, hby, -, -, -, -, -, -, rfl, rfl, -⟩ := K
  subst hp hv
  obtain ⟨c, A, -, r2, -, r4, -⟩ := A
  refine WP.go (fun T locs vm0 X e hZ ho t k => ?_) H
  exact X.baloadBytes hx (by rw [e]; exact A.1) (State.isArrayOf_alike (T := κ.s.setVm vm0) hZ.alike A.2.1) A.2.2 (in_of r2 hj hi) (by rw [nat_of hj]; exact r4 i hi) (g := mkF κ.m pc L (.int j :: .ref a :: S)) rfl rfl (hb hby hd) t k
theorem WP.baloadZ (K : Cx κ w l Z own n0 rm bytes maxL ret nm Q) {a : Addr} {kA : ClassId} {N i : Nat} {f : Nat → Value} {j : Int32} {v : Value} (A : Ary Z h a kA .boolean N f) (hj : j.toInt = (i : Int)) (hi : i < N) (hv : f i = v) (hd : decode bytes pc = .ok (.baload, 1)) (hp : pc + 1 = pc') (H : WP κ h k n (mkF κ.m pc' L (v :: S))) : WP κ h k n (mkF κ.m pc L (.int j :: .ref a :: S)) := by
  obtain ⟨hx, hby, -, -, -, -, -, -, rfl, rfl, -⟩ := K
  subst hp hv
  obtain ⟨c, A, -, r2, -, r4, -⟩ := A
  refine WP.go (fun T locs vm0 X e hZ ho t k => ?_) H
  exact X.baloadBooleans hx (by rw [e]; exact A.1) (State.isArrayOf_alike (T := κ.s.setVm vm0) hZ.alike A.2.1) A.2.2 (in_of r2 hj hi) (by rw [nat_of hj]; exact r4 i hi) (g := mkF κ.m pc L (.int j :: .ref a :: S)) rfl rfl (hb hby hd) t k
theorem WP.daload (K : Cx κ w l Z own n0 rm bytes maxL ret nm Q) {a : Addr} {kA : ClassId} {N i : Nat} {f : Nat → Value} {j : Int32} {v : Value} (A : Ary Z h a kA .double N f) (hj : j.toInt = (i : Int)) (hi : i < N) (hv : f i = v) (hd : decode bytes pc = .ok (.daload, 1)) (hp : pc + 1 = pc') (H : WP κ h k n (mkF κ.m pc' L (v :: S))) : WP κ h k n (mkF κ.m pc L (.int j :: .ref a :: S)) := by
  obtain ⟨hx, hby, -, -, -, -, -, -, rfl, rfl, -⟩ := K
  subst hp hv
  obtain ⟨c, A, -, r2, -, r4, -⟩ := A
  refine WP.go (fun T locs vm0 X e hZ ho t k => ?_) H
  exact X.daload hx (by rw [e]; exact A.1) (State.isArrayOf_alike (T := κ.s.setVm vm0) hZ.alike A.2.1) A.2.2 (in_of r2 hj hi) (by rw [nat_of hj]; exact r4 i hi) (g := mkF κ.m pc L (.int j :: .ref a :: S)) rfl rfl (hb hby hd) t k
theorem WP.aaload (K : Cx κ w l Z own n0 rm bytes maxL ret nm Q) {a : Addr} {kA : ClassId} {N i : Nat} {f : Nat → Value} {j : Int32} {v : Value} {ty : FieldType} (ht : ty.isReference = true) (A : Ary Z h a kA ty N f) (hj : j.toInt = (i : Int)) (hi : i < N) (hv : f i = v) (hd : decode bytes pc = .ok (.aaload, 1)) (hp : pc + 1 = pc') (H : WP κ h k n (mkF κ.m pc' L (v :: S))) : WP κ h k n (mkF κ.m pc L (.int j :: .ref a :: S)) := by
  obtain ⟨hx, hby, -, -, -, -, -, -, rfl, rfl, -⟩ := K
  subst hp hv
  obtain ⟨c, A, -, r2, -, r4, -⟩ := A
  refine WP.go (fun T locs vm0 X e hZ ho t k => ?_) H
  exact X.aaload hx (by rw [e]; exact A.1) (State.isArrayOf_alike (T := κ.s.setVm vm0) hZ.alike A.2.1) ht A.2.2 (in_of r2 hj hi) (by rw [nat_of hj]; exact r4 i hi) (g := mkF κ.m pc L (.int j :: .ref a :: S)) rfl rfl (hb hby hd) t k
theorem WP.arraylength (K : Cx κ w l Z own n0 rm bytes maxL ret nm Q) {a : Addr} {kA : ClassId} {ty : FieldType} {N : Nat} {f : Nat → Value} (A : Ary Z h a kA ty N f) (hd : decode bytes pc = .ok (.arraylength, 1)) (hp : pc + 1 = pc') (H : WP κ h k n (mkF κ.m pc' L (.int (Int32.ofNat N) :: S))) : WP κ h k n (mkF κ.m pc L (.ref a :: S)) := by
  obtain ⟨hx, hby, -, -, -, -, -, -, rfl, rfl, -⟩ := K
  subst hp
  obtain ⟨c, A, -, r2, -⟩ := A
  refine WP.go (fun T locs vm0 X e hZ ho t k => ?_) H
  exact X.arraylength hx (by rw [e]; exact A.1) (State.isArrayOf_alike (T := κ.s.setVm vm0) hZ.alike A.2.1) (g := mkF κ.m pc L (.ref a :: S)) rfl rfl (hb hby hd) t (by rw [r2]; exact k)
theorem WP.iastore (K : Cx κ w l Z own n0 rm bytes maxL ret nm Q) {a : Addr} {kA : ClassId} {N i : Nat} {f : Nat → Value} {j : Int32} {x : Int32} (A : Ary Z h a kA .int N f) (hj : j.toInt = (i : Int)) (hi : i < N) (ha : n0 ≤ a) (hd : decode bytes pc = .ok (.iastore, 1)) (hp : pc + 1 = pc')
    (H : ∀ h', Wr h h' a i (.int x) → Ary Z h' a kA .int N (upd f i (.int x)) → WP κ h' k n (mkF κ.m pc' L S)) : WP κ h k n (mkF κ.m pc L (.int x :: .int j :: .ref a :: S)) := by
  obtain ⟨hx, hby, -, -, -, hnm, -, -, rfl, rfl, rfl, rfl, -⟩ := K
  subst hp
  have A0 := A
  obtain ⟨c, A, -, r2, -⟩ := A
  intro T locs vm0 X e M hZ ho N
  obtain ⟨T', h', X', e', W, st⟩ := RoadKit.stI X hx (s := κ.s.setVm vm0) hZ e A (in_of r2 hj hi) (g := mkF κ.m pc L (.int x :: .int j :: .ref a :: S)) rfl rfl (hb hby hd)
  rw [nat_of hj] at W
  obtain ⟨t, o, h1, r⟩ := H h' W (A0.set W rfl) T' _ vm0 X' e' (M.mono (Nat.le_of_eq W.size.symm)) hZ ho (Fr.snoc X' N ha)
  exact ⟨t, o, st _ h1, r⟩
theorem WP.lastore (K : Cx κ w l Z own n0 rm bytes maxL ret nm Q) {a : Addr} {kA : ClassId} {N i : Nat} {f : Nat → Value} {j : Int32} {x : Int64} (A : Ary Z h a kA .long N f) (hj : j.toInt = (i : Int)) (hi : i < N) (ha : n0 ≤ a) (hd : decode bytes pc = .ok (.lastore, 1)) (hp : pc + 1 = pc')
    (H : ∀ h', Wr h h' a i (.long x) → Ary Z h' a kA .long N (upd f i (.long x)) → WP κ h' k n (mkF κ.m pc' L S)) : WP κ h k n (mkF κ.m pc L (.long x :: .int j :: .ref a :: S)) := by
  obtain ⟨hx, hby, -, -, -, hnm, -, -, rfl, rfl, rfl, rfl, -⟩ := K
  subst hp
  have A0 := A
  obtain ⟨c, A, -, r2, -⟩ := A
  intro T locs vm0 X e M hZ ho N
  obtain ⟨T', h', X', e', W, st⟩ := RoadKit.stJ X hx (s := κ.s.setVm vm0) hZ e A (in_of r2 hj hi) (g := mkF κ.m pc L (.long x :: .int j :: .ref a :: S)) rfl rfl (hb hby hd)
  rw [nat_of hj] at W
  obtain ⟨t, o, h1, r⟩ := H h' W (A0.set W rfl) T' _ vm0 X' e' (M.mono (Nat.le_of_eq W.size.symm)) hZ ho (Fr.snoc X' N ha)
  exact ⟨t, o, st _ h1, r⟩
theorem WP.castore (K : Cx κ w l Z own n0 rm bytes maxL ret nm Q) {a : Addr} {kA : ClassId} {N i : Nat} {f : Nat → Value} {j : Int32} {x : Int32} (A : Ary Z h a kA .char N f) (hj : j.toInt = (i : Int)) (hi : i < N) (ha : n0 ≤ a) (hd : decode bytes pc = .ok (.castore, 1)) (hp : pc + 1 = pc')
    (H : ∀ h', Wr h h' a i (.int (nar .char x)) → Ary Z h' a kA .char N (upd f i (.int (nar .char x))) → WP κ h' k n (mkF κ.m pc' L S)) : WP κ h k n (mkF κ.m pc L (.int x :: .int j :: .ref a :: S)) := by
  obtain ⟨hx, hby, -, -, -, hnm, -, -, rfl, rfl, rfl, rfl, -⟩ := K
  subst hp
  have A0 := A
  obtain ⟨c, A, -, r2, -⟩ := A
  intro T locs vm0 X e M hZ ho N
  obtain ⟨T', h', X', e', W, st⟩ := RoadKit.stC X hx (s := κ.s.setVm vm0) hZ e A (in_of r2 hj hi) (g := mkF κ.m pc L (.int x :: .int j :: .ref a :: S)) rfl rfl (hb hby hd)
  rw [nat_of hj] at W
  obtain ⟨t, o, h1, r⟩ := H h' W (A0.set W (fits_nar_char x)) T' _ vm0 X' e' (M.mono (Nat.le_of_eq W.size.symm)) hZ ho (Fr.snoc X' N ha)
  exact ⟨t, o, st _ h1, r⟩
theorem WP.bastore (K : Cx κ w l Z own n0 rm bytes maxL ret nm Q) {a : Addr} {kA : ClassId} {N i : Nat} {f : Nat → Value} {j : Int32} {x : Int32} (A : Ary Z h a kA .byte N f) (hj : j.toInt = (i : Int)) (hi : i < N) (ha : n0 ≤ a) (hd : decode bytes pc = .ok (.bastore, 1)) (hp : pc + 1 = pc')
    (H : ∀ h', Wr h h' a i (.int (nar .byte x)) → Ary Z h' a kA .byte N (upd f i (.int (nar .byte x))) → WP κ h' k n (mkF κ.m pc' L S)) : WP κ h k n (mkF κ.m pc L (.int x :: .int j :: .ref a :: S)) := by
  obtain ⟨hx, hby, -, -, -, hnm, -, -, rfl, rfl, rfl, rfl, -⟩ := K
  subst hp
  have A0 := A
  obtain ⟨c, A, -, r2, -⟩ := A
  intro T locs vm0 X e M hZ ho N
  obtain ⟨T', h', X', e', W, st⟩ := RoadKit.stB X hx (s := κ.s.setVm vm0) hZ e A (in_of r2 hj hi) (g := mkF κ.m pc L (.int x :: .int j :: .ref a :: S)) rfl rfl (hb hby hd)
  rw [nat_of hj] at W
  obtain ⟨t, o, h1, r⟩ := H h' W (A0.set W (fits_nar_byte x)) T' _ vm0 X' e' (M.mono (Nat.le_of_eq W.size.symm)) hZ ho (Fr.snoc X' N ha)
  exact ⟨t, o, st _ h1, r⟩
theorem WP.bastoreZ (K : Cx κ w l Z own n0 rm bytes maxL ret nm Q) {a : Addr} {kA : ClassId} {N i : Nat} {f : Nat → Value} {j : Int32} {x : Int32} (A : Ary Z h a kA .boolean N f) (hj : j.toInt = (i : Int)) (hi : i < N) (ha : n0 ≤ a) (hd : decode bytes pc = .ok (.bastore, 1)) (hp : pc + 1 = pc')
    (H : ∀ h', Wr h h' a i (.int (nar .boolean x)) → Ary Z h' a kA .boolean N (upd f i (.int (nar .boolean x))) → WP κ h' k n (mkF κ.m pc' L S)) : WP κ h k n (mkF κ.m pc L (.int x :: .int j :: .ref a :: S)) := by
  obtain ⟨hx, hby, -, -, -, hnm, -, -, rfl, rfl, rfl, rfl, -⟩ := K
  subst hp
  have A0 := A
  obtain ⟨c, A, -, r2, -⟩ := A
  intro T locs vm0 X e M hZ ho N
  obtain ⟨T', h', X', e', W, st⟩ := RoadKit.stZ X hx (s := κ.s.setVm vm0) hZ e A (in_of r2 hj hi) (g := mkF κ.m pc L (.int x :: .int j :: .ref a :: S)) rfl rfl (hb hby hd)
  rw [nat_of hj] at W
  obtain ⟨t, o, h1, r⟩ := H h' W (A0.set W (fits_nar_bool x)) T' _ vm0 X' e' (M.mono (Nat.le_of_eq W.size.symm)) hZ ho (Fr.snoc X' N ha)
  exact ⟨t, o, st _ h1, r⟩
theorem WP.dastore (K : Cx κ w l Z own n0 rm bytes maxL ret nm Q) {a : Addr} {kA : ClassId} {N i : Nat} {f : Nat → Value} {j : Int32} {x : UInt64} (A : Ary Z h a kA .double N f) (hj : j.toInt = (i : Int)) (hi : i < N) (ha : n0 ≤ a) (hd : decode bytes pc = .ok (.dastore, 1)) (hp : pc + 1 = pc')
    (H : ∀ h', Wr h h' a i (.double x) → Ary Z h' a kA .double N (upd f i (.double x)) → WP κ h' k n (mkF κ.m pc' L S)) : WP κ h k n (mkF κ.m pc L (.double x :: .int j :: .ref a :: S)) := by
  obtain ⟨hx, hby, -, -, -, hnm, -, -, rfl, rfl, rfl, rfl, -⟩ := K
  subst hp
  have A0 := A
  obtain ⟨c, A, -, r2, -⟩ := A
  intro T locs vm0 X e M hZ ho N
  obtain ⟨T', h', X', e', W, st⟩ := RoadKit.stD X hx (s := κ.s.setVm vm0) hZ e A (in_of r2 hj hi) (g := mkF κ.m pc L (.double x :: .int j :: .ref a :: S)) rfl rfl (hb hby hd)
  rw [nat_of hj] at W
  obtain ⟨t, o, h1, r⟩ := H h' W (A0.set W rfl) T' _ vm0 X' e' (M.mono (Nat.le_of_eq W.size.symm)) hZ ho (Fr.snoc X' N ha)
  exact ⟨t, o, st _ h1, r⟩
theorem WP.newarray (K : Cx κ w l Z own n0 rm bytes maxL ret nm Q) {aty : ArrayType} {z : Int32} {N cap : Nat} (w1 : (Cond.arrayClass (newarray.typeOf aty)).before a0 Z = true) (hd : decode bytes pc = .ok (.newarray aty, 2)) (hz : z.toInt = (N : Int)) (hcap : N ≤ cap) (hbig : cap * 8 ≤ 536870912) (hk : k + 1 = k') (hn : n + cap = n') (hk' : k' ≤ rm.cells) (hn' : n' ≤ rm.slots) (hp : pc + 2 = pc')
    (H : ∀ (h' : Heap) (a : Addr) (kA : ClassId), @Eq Nat h.size a → Ext h h' → Ary Z h' a kA (newarray.typeOf aty) N (fun _ => defaultValue (newarray.typeOf aty)) → WP κ h' k' n' (mkF κ.m pc' L (.ref a :: S))) : WP κ h k n (mkF κ.m pc L (.int z :: S)) := by
  obtain ⟨hx, hby, -, -, -, hnm, -, -, rfl, rfl, rfl, rfl, -⟩ := K
  subst hp hk hn
  intro T locs vm0 X e M hZ ho N
  obtain ⟨T', h', cA, X', e', E, A, st⟩ := newP X hx (s := κ.s.setVm vm0) hZ w1 e (g := mkF κ.m pc L (.int z :: S)) rfl (hb hby hd) rfl (by rw [Int32.lt_iff_toInt_lt, hz]; show ¬ _ < (0 : Int); omega) (cap := cap) (by rw [nat_of hz]; exact hcap) hbig hk' hn'
  obtain ⟨t, o, h1, r⟩ := H h' _ cA rfl E (Ary.of_new A hz) T' _ vm0 X' e' (M.mono E.1) hZ ho N
  exact ⟨t, o, st _ h1, r⟩
/-- what a call's law hands back, in both modes -/
theorem Met.back {y : MethodName} {by' : ByteArray} {mL' : Nat} {rt' : Option FieldType} {rm' : Room} {as' : Array Value} {Q' : Option Value → Heap → Prop} {len W : Nat} {R : Room} {p : Program} {e : Env} {below : List Frame} {s : State} {args : Array Value}
    (hM : Met false l Z y by' mL' rt' [] rm' as' h n0 Q') (hZ : Z.Warmed39 s.vm) (wc : (Cond.code y by' mL' rt').before a0 Z = true) (wz : (Cond.initialized y.cls).before a0 Z = true) (hf : rm'.frames + 1 ≤ R.frames) (hl : W + (mL' + 11) + rm'.locals ≤ R.locals) :
    Back l R p e below s args y len W (fun A a => a = as' ∧ A.U.heap = h ∧ A.cells + rm'.cells ≤ R.cells ∧ A.slots + rm'.slots ≤ R.slots) (fun A _ v B => ∃ L, (Q' v B.U.heap ∧ Fr n0 L) ∧ B.locs = A.locs ++ L ∧ B.cells = A.cells + rm'.cells ∧ B.slots = A.slots + rm'.slots) :=
  backOf (Q := fun v h L => Q' v h ∧ Fr n0 L) hM hZ wc wz hf hl
theorem Met.backW {y : MethodName} {by' : ByteArray} {mL' : Nat} {rt' : Option FieldType} {rm' : Room} {as' : Array Value} {Q' : Option Value → Heap → Prop} {len W : Nat} {R : Room} {p : Program} {e : Env} {below : List Frame} {s : State} {args : Array Value}
    (hM : Met true l Z y by' mL' rt' [] rm' as' h n0 Q') (hZ : Z.Warmed39 s.vm) (wc : (Cond.code y by' mL' rt').before a0 Z = true) (wz : (Cond.initialized y.cls).before a0 Z = true) (hf : rm'.frames + 1 ≤ R.frames) (hl : W + (mL' + 11) + rm'.locals ≤ R.locals) :
    BackS l R p e below s args y len W (fun A a => a = as' ∧ A.U.heap = h ∧ A.cells + rm'.cells ≤ R.cells ∧ A.slots + rm'.slots ≤ R.slots) (fun A _ v B => ∃ L, (Q' v B.U.heap ∧ Fr n0 L) ∧ B.locs = A.locs ++ L ∧ B.cells = A.cells + rm'.cells ∧ B.slots = A.slots + rm'.slots) :=
  backOfS (Q := fun v h L => Q' v h ∧ Fr n0 L) hM hZ wc wz hf hl
theorem Ends.call {T : State} {locs : List Loc} {vm0 : Vm} {g g' : JFrame} {rm' : Room} {Q' : Option Value → Heap → Prop} {T1 B : Pt} {v : Option Value} (M : Md κ.w κ.s vm0 h.size) (N : Fr κ.n0 locs) (hc : T1 = ⟨T1.1, locs, k, n⟩)
    (hpost : ∃ L, (Q' v B.U.heap ∧ Fr κ.n0 L) ∧ B.locs = T1.locs ++ L ∧ B.cells = T1.cells + rm'.cells ∧ B.slots = T1.slots + rm'.slots) (hk : k + rm'.cells = k') (hn : n + rm'.slots = n') {vm1 : Vm}
    (X' : Stand κ.p κ.l κ.e κ.R (κ.s.setVm vm1) κ.m κ.a κ.below κ.meth κ.c B.U B.locs B.cells B.slots) (M' : Md κ.w κ.s vm1 B.U.heap.size) (hZ : κ.Z.Warmed39 vm1) (ho : vm1.findClass κ.own = some κ.m.cls) (st : Steps κ.p.tables κ.e κ.below (T.setTop g) (B.U.setTop g'))
    (H : ∀ h', Q' v h' → WP κ h' k' n' g') : Ends κ T g := by
  obtain ⟨Lc, ⟨hQ, hN⟩, l1, l2, l3⟩ := hpost
  rw [hc] at l1 l2 l3
  dsimp only [Pt.U, Pt.locs, Pt.cells, Pt.slots] at l1 l2 l3 X' hQ M' st
  subst hk hn
  rw [l1, l2, l3] at X'
  obtain ⟨t, o, h1, r⟩ := H _ hQ _ _ vm1 X' rfl M' hZ ho (Fr.app N hN)
  exact ⟨t, o, st.trans h1, r⟩
theorem WP.callS (K : Cx κ w l Z own n0 rm bytes maxL ret nm Q) {y : MethodName} {by' : ByteArray} {mL' : Nat} {rt' : Option FieldType} {rm' : Room} {Q' : Option Value → Heap → Prop} {i W : Nat} {argsL : List Value} {S' : List Value} (w1 : (Cond.methodLink own i y).before a0 Z = true) (w2 : (Cond.static y).before a0 Z = true) (hM : Met w l Z y by' mL' rt' [] rm' argsL.toArray h n0 Q') (wc : (Cond.code y by' mL' rt').before a0 Z = true) (wz : (Cond.initialized y.cls).before a0 Z = true) (hy : y.cls ≠ "java/lang/invoke/MethodHandle" ∧ y.cls ≠ "java/lang/invoke/VarHandle")
    (hL : L.size = maxL) (hlen : ∀ sig, parseMethodDescriptor y.desc = some sig → argsL.length = sig.parameters.length) (hS : S' = argsL.reverse ++ S) (hW : (S.map fun v => v.category).sum = W) (hf : rm'.frames + 1 ≤ rm.frames) (hl : W + (mL' + 11) + rm'.locals ≤ rm.locals) (hk : k + rm'.cells = k') (hn : n + rm'.slots = n') (hk' : k' ≤ rm.cells) (hn' : n' ≤ rm.slots) (hd : decode bytes pc = .ok (.invokestatic i, 3)) (hp : pc + 3 = pc')
    (H : ∀ (v : Option Value) (h' : Heap), Q' v h' → WP κ h' k' n' (mkF κ.m pc' L (v.toList ++ S))) : WP κ h k n (mkF κ.m pc L S') := by
  obtain ⟨hx, hby, hml, -, -, -, rfl, rfl, rfl, rfl, rfl, rfl, -⟩ := K
  subst hp hS
  intro T locs vm0 X e M hZ ho N
  by_cases hw : κ.w = true
  · rw [hw] at hM
    obtain ⟨v, vm₁, B, -, X', hSi, hgr, hpost, st⟩ := callSS X hx (y := y) ho (mvT (s := κ.s.setVm vm0) hZ w1) (mvT (s := κ.s.setVm vm0) hZ w2) (mvT (s := κ.s.setVm vm0) hZ wz) (mvT (s := κ.s.setVm vm0) hZ wc) hy (Met.backW (s := κ.s.setVm vm0) hM hZ wc wz hf hl) (g := mkF κ.m pc L (argsL.reverse ++ S)) rfl (hL.trans hml.symm) (argsL := argsL) (rest := S) hlen rfl (by show 2 * 0 + _ ≤ _; omega) (hb hby hd) (fun _ _ => ⟨rfl, e, by rw [← hk] at hk'; exact hk', by rw [← hn] at hn'; exact hn'⟩)
    obtain ⟨k0, hS0, hk0⟩ := M.2
    obtain ⟨X'', hS1, hZ1, ho1⟩ := rebS hS0 hk0 X' hSi (e ▸ hgr) hZ ho
    exact Ends.call (Q' := Q') (T1 := ⟨T.setVm vm₁, locs, k, n⟩) M N rfl hpost hk hn X'' ⟨fun q => (by rw [hw] at q; cases q), _, hS1, Nat.le_refl _⟩ hZ1 ho1 st (H v)
  · have hw' : κ.w = false := by simpa using hw
    rw [hw'] at hM
    obtain ⟨v, vm₁, B, -, X', hpost, st⟩ := Jvm.LawKit.callS X hx (y := y) ho (mvT (s := κ.s.setVm vm0) hZ w1) (mvT (s := κ.s.setVm vm0) hZ w2) (mvT (s := κ.s.setVm vm0) hZ wz) (mvT (s := κ.s.setVm vm0) hZ wc) hy (Met.back (s := κ.s.setVm vm0) hM hZ wc wz hf hl) (g := mkF κ.m pc L (argsL.reverse ++ S)) rfl (hL.trans hml.symm) (argsL := argsL) (rest := S) hlen rfl (by show 2 * 0 + _ ≤ _; omega) (hb hby hd) (fun _ _ => ⟨rfl, e, by rw [← hk] at hk'; exact hk', by rw [← hn] at hn'; exact hn'⟩)
    refine Ends.call (Q' := Q') (T1 := ⟨T.setVm vm₁, locs, k, n⟩) M N rfl hpost hk hn X' ?_ hZ ho (st _ (Steps.refl _)) (H v)
    have e0 := M.1 hw'
    subst e0
    exact Md.start _ _ _
theorem WP.callI (K : Cx κ w l Z own n0 rm bytes maxL ret nm Q) {y : MethodName} {by' : ByteArray} {mL' : Nat}  {rm' : Room} {Q' : Option Value → Heap → Prop} {i W : Nat} {argsL : List Value} {S' : List Value} {a : Addr} (hy1 : y.name = "<init>") (w1 : (Cond.methodLink own i y).before a0 Z = true) (w2 : (Cond.instanceMethod y).before a0 Z = true) (hM : Met w l Z y by' mL' none [] rm' (.ref a :: argsL).toArray h n0 Q') (wc : (Cond.code y by' mL' none).before a0 Z = true) (wz : (Cond.initialized y.cls).before a0 Z = true) (hy : y.cls ≠ "java/lang/invoke/MethodHandle" ∧ y.cls ≠ "java/lang/invoke/VarHandle")
    (hL : L.size = maxL) (hlen : ∀ sig, parseMethodDescriptor y.desc = some sig → argsL.length = sig.parameters.length) (hS : S' = argsL.reverse ++ .ref a :: S) (hW : (S.map fun v => v.category).sum = W) (hf : rm'.frames + 1 ≤ rm.frames) (hl : W + (mL' + 11) + rm'.locals ≤ rm.locals) (hk : k + rm'.cells = k') (hn : n + rm'.slots = n') (hk' : k' ≤ rm.cells) (hn' : n' ≤ rm.slots) (hd : decode bytes pc = .ok (.invokespecial i, 3)) (hp : pc + 3 = pc')
    (H : ∀ (v : Option Value) (h' : Heap), Q' v h' → WP κ h' k' n' (mkF κ.m pc' L (v.toList ++ S))) : WP κ h k n (mkF κ.m pc L S') := by
  obtain ⟨hx, hby, hml, -, -, -, rfl, rfl, rfl, rfl, rfl, rfl, -⟩ := K
  subst hp hS
  intro T locs vm0 X e M hZ ho N
  by_cases hw : κ.w = true
  · rw [hw] at hM
    obtain ⟨v, vm₁, B, -, X', hSi, hgr, hpost, st⟩ := X.specialBackS hx (y := y) hy1 ho (mvT (s := κ.s.setVm vm0) hZ w1) (mvT (s := κ.s.setVm vm0) hZ w2) (mvT (s := κ.s.setVm vm0) hZ wc) hy (Met.backW (s := κ.s.setVm vm0) hM hZ wc wz hf hl) (g := mkF κ.m pc L (argsL.reverse ++ .ref a :: S)) rfl (hL.trans hml.symm) (Steps.refl _) (a := a) (argsL := argsL) (rest := S) hlen rfl (by show 2 * 0 + _ ≤ _; omega) (hb hby hd) (fun _ _ => ⟨rfl, e, by rw [← hk] at hk'; exact hk', by rw [← hn] at hn'; exact hn'⟩)
    obtain ⟨k0, hS0, hk0⟩ := M.2
    obtain ⟨X'', hS1, hZ1, ho1⟩ := rebS hS0 hk0 X' hSi (e ▸ hgr) hZ ho
    exact Ends.call (Q' := Q') (T1 := ⟨T.setVm vm₁, locs, k, n⟩) M N rfl hpost hk hn X'' ⟨fun q => (by rw [hw] at q; cases q), _, hS1, Nat.le_refl _⟩ hZ1 ho1 st (H v)
  · have hw' : κ.w = false := by simpa using hw
    rw [hw'] at hM
    obtain ⟨v, vm₁, B, -, X', hpost, st⟩ := X.specialBack hx (y := y) hy1 ho (mvT (s := κ.s.setVm vm0) hZ w1) (mvT (s := κ.s.setVm vm0) hZ w2) (mvT (s := κ.s.setVm vm0) hZ wc) hy (Met.back (s := κ.s.setVm vm0) hM hZ wc wz hf hl) (g := mkF κ.m pc L (argsL.reverse ++ .ref a :: S)) rfl (hL.trans hml.symm) (Steps.refl _) (a := a) (argsL := argsL) (rest := S) hlen rfl (by show 2 * 0 + _ ≤ _; omega) (hb hby hd) (fun _ _ => ⟨rfl, e, by rw [← hk] at hk'; exact hk', by rw [← hn] at hn'; exact hn'⟩)
    refine Ends.call (Q' := Q') (T1 := ⟨T.setVm vm₁, locs, k, n⟩) M N rfl hpost hk hn X' ?_ hZ ho st (H v)
    have e0 := M.1 hw'
    subst e0
    exact Md.start _ _ _
theorem WP.callV (K : Cx κ w l Z own n0 rm bytes maxL ret nm Q) {x y : MethodName} {by' : ByteArray} {mL' : Nat} {rt' : Option FieldType} {rm' : Room} {Q' : Option Value → Heap → Prop} {i W : Nat} {argsL : List Value} {S' : List Value} {a : Addr} {C : String} (w1 : (Cond.methodLink own i x).before a0 Z = true) (w2 : (Cond.declares x).before a0 Z = true) (nf : ∀ vm0 : Vm, Z.Warmed39 vm0 → NotFace (κ.s.setVm vm0) x) (w3 : (Cond.selects C x y).before a0 Z = true) (w4 : (Cond.instanceMethod y).before a0 Z = true) (hx' : x.cls ≠ "java/lang/invoke/MethodHandle" ∧ x.cls ≠ "java/lang/invoke/VarHandle") (E : Exa Z h a C) (hM : Met w l Z y by' mL' rt' [] rm' (.ref a :: argsL).toArray h n0 Q') (wc : (Cond.code y by' mL' rt').before a0 Z = true) (wz : (Cond.initialized y.cls).before a0 Z = true) (hy : y.cls ≠ "java/lang/invoke/MethodHandle" ∧ y.cls ≠ "java/lang/invoke/VarHandle")
    (hL : L.size = maxL) (hlen : ∀ sig, parseMethodDescriptor x.desc = some sig → argsL.length = sig.parameters.length) (hS : S' = argsL.reverse ++ .ref a :: S) (hW : (S.map fun v => v.category).sum = W) (hf : rm'.frames + 1 ≤ rm.frames) (hl : W + (mL' + 11) + rm'.locals ≤ rm.locals) (hk : k + rm'.cells = k') (hn : n + rm'.slots = n') (hk' : k' ≤ rm.cells) (hn' : n' ≤ rm.slots) (hd : decode bytes pc = .ok (.invokevirtual i, 3)) (hp : pc + 3 = pc')
    (H : ∀ (v : Option Value) (h' : Heap), Q' v h' → WP κ h' k' n' (mkF κ.m pc' L (v.toList ++ S))) : WP κ h k n (mkF κ.m pc L S') := by
  obtain ⟨hx, hby, hml, -, -, -, rfl, rfl, rfl, rfl, rfl, rfl, -⟩ := K
  subst hp hS
  intro T locs vm0 X e M hZ ho N
  obtain ⟨cB, kB, q1, q2, q3⟩ := isOf (s := κ.s.setVm vm0) hZ e E
  by_cases hw : κ.w = true
  · rw [hw] at hM
    obtain ⟨v, vm₁, B, -, X', hSi, hgr, hpost, st⟩ := X.virtualBackS hx (y := x) (z := y) ho (mvT (s := κ.s.setVm vm0) hZ w1) (mvT (s := κ.s.setVm vm0) hZ w2) (nf vm0 hZ) (mvT (s := κ.s.setVm vm0) hZ w3) (mvT (s := κ.s.setVm vm0) hZ w4) hx' (Met.backW (s := κ.s.setVm vm0) hM hZ wc wz hf hl) q1 q3 (g := mkF κ.m pc L (argsL.reverse ++ .ref a :: S)) rfl (hL.trans hml.symm) (Steps.refl _) (argsL := argsL) (rest := S) hlen rfl (by show 2 * 0 + _ ≤ _; omega) (hb hby hd) (fun _ _ => ⟨rfl, e, by rw [← hk] at hk'; exact hk', by rw [← hn] at hn'; exact hn'⟩)
    obtain ⟨k0, hS0, hk0⟩ := M.2
    obtain ⟨X'', hS1, hZ1, ho1⟩ := rebS hS0 hk0 X' hSi (e ▸ hgr) hZ ho
    exact Ends.call (Q' := Q') (T1 := ⟨T.setVm vm₁, locs, k, n⟩) M N rfl hpost hk hn X'' ⟨fun q => (by rw [hw] at q; cases q), _, hS1, Nat.le_refl _⟩ hZ1 ho1 st (H v)
  · have hw' : κ.w = false := by simpa using hw
    rw [hw'] at hM
    obtain ⟨v, vm₁, B, -, X', hpost, st⟩ := X.virtualBack hx (y := x) (z := y) ho (mvT (s := κ.s.setVm vm0) hZ w1) (mvT (s := κ.s.setVm vm0) hZ w2) (nf vm0 hZ) (mvT (s := κ.s.setVm vm0) hZ w3) (mvT (s := κ.s.setVm vm0) hZ w4) hx' (Met.back (s := κ.s.setVm vm0) hM hZ wc wz hf hl) q1 q3 (g := mkF κ.m pc L (argsL.reverse ++ .ref a :: S)) rfl (hL.trans hml.symm) (Steps.refl _) (argsL := argsL) (rest := S) hlen rfl (by show 2 * 0 + _ ≤ _; omega) (hb hby hd) (fun _ _ => ⟨rfl, e, by rw [← hk] at hk'; exact hk', by rw [← hn] at hn'; exact hn'⟩)
    refine Ends.call (Q' := Q') (T1 := ⟨T.setVm vm₁, locs, k, n⟩) M N rfl hpost hk hn X' ?_ hZ ho st (H v)
    have e0 := M.1 hw'
    subst e0
    exact Md.start _ _ _
theorem WP.callP (K : Cx κ w l Z own n0 rm bytes maxL ret nm Q) {y : MethodName} {by' : ByteArray} {mL' : Nat} {rt' : Option FieldType} {rm' : Room} {Q' : Option Value → Heap → Prop} {i W : Nat} {argsL : List Value} {S' : List Value} {a : Addr} {nI : Nat} {C : String} (w1 : (Cond.methodLink own i y).before a0 Z = true) (w2 : (Cond.instanceMethod y).before a0 Z = true) (wi : (Cond.instantiable y.cls nI).before a0 Z = true) (w3 : (Cond.privateMethod y).before a0 Z = true) (E : Exa Z h a C) (hM : Met w l Z y by' mL' rt' [] rm' (.ref a :: argsL).toArray h n0 Q') (wc : (Cond.code y by' mL' rt').before a0 Z = true) (wz : (Cond.initialized y.cls).before a0 Z = true) (hy : y.cls ≠ "java/lang/invoke/MethodHandle" ∧ y.cls ≠ "java/lang/invoke/VarHandle")
    (hL : L.size = maxL) (hlen : ∀ sig, parseMethodDescriptor y.desc = some sig → argsL.length = sig.parameters.length) (hS : S' = argsL.reverse ++ .ref a :: S) (hW : (S.map fun v => v.category).sum = W) (hf : rm'.frames + 1 ≤ rm.frames) (hl : W + (mL' + 11) + rm'.locals ≤ rm.locals) (hk : k + rm'.cells = k') (hn : n + rm'.slots = n') (hk' : k' ≤ rm.cells) (hn' : n' ≤ rm.slots) (hd : decode bytes pc = .ok (.invokevirtual i, 3)) (hp : pc + 3 = pc')
    (H : ∀ (v : Option Value) (h' : Heap), Q' v h' → WP κ h' k' n' (mkF κ.m pc' L (v.toList ++ S))) : WP κ h k n (mkF κ.m pc L S') := by
  obtain ⟨hx, hby, hml, -, -, -, rfl, rfl, rfl, rfl, rfl, rfl, -⟩ := K
  subst hp hS
  intro T locs vm0 X e M hZ ho N
  obtain ⟨cell, e1, e2⟩ := E.cell
  have hpr : (κ.s.setVm vm0).PrivateAt y := Cond.privateMethod_at (mvP (s := κ.s.setVm vm0) hZ w3 (args := #[]))
  have hsel : (Cond.selects y.cls y y).before κ.a (κ.s.setVm vm0) = true := by
    obtain ⟨c1, k1, i1, i2, i3, i4, -⟩ := Cond.instantiable_spec (mvT (args := κ.a) (s := κ.s.setVm vm0) hZ wi)
    rw [Bool.or_eq_false_iff] at i4
    exact Jvm.Stand.selects_self_of_private i1 i2 i4.1 hpr (mvT (s := κ.s.setVm vm0) hZ w2) hy
  by_cases hw : κ.w = true
  · rw [hw] at hM
    obtain ⟨v, vm₁, B, -, X', hSi, hgr, hpost, st⟩ := X.privateBackS hx (y := y) ho (mvT (s := κ.s.setVm vm0) hZ w1) (mvT (s := κ.s.setVm vm0) hZ w2) hsel hpr (mvT (s := κ.s.setVm vm0) hZ wc) hy (Met.backW (s := κ.s.setVm vm0) hM hZ wc wz hf hl) (g := mkF κ.m pc L (argsL.reverse ++ .ref a :: S)) rfl (hL.trans hml.symm) (Steps.refl _) (a := a) (by rw [e]; exact e1) e2 (argsL := argsL) (rest := S) hlen rfl (by show 2 * 0 + _ ≤ _; omega) (hb hby hd) (fun _ _ => ⟨rfl, e, by rw [← hk] at hk'; exact hk', by rw [← hn] at hn'; exact hn'⟩)
    obtain ⟨k0, hS0, hk0⟩ := M.2
    obtain ⟨X'', hS1, hZ1, ho1⟩ := rebS hS0 hk0 X' hSi (e ▸ hgr) hZ ho
    exact Ends.call (Q' := Q') (T1 := ⟨T.setVm vm₁, locs, k, n⟩) M N rfl hpost hk hn X'' ⟨fun q => (by rw [hw] at q; cases q), _, hS1, Nat.le_refl _⟩ hZ1 ho1 st (H v)
  · have hw' : κ.w = false := by simpa using hw
    rw [hw'] at hM
    obtain ⟨v, vm₁, B, -, X', hpost, st⟩ := X.privateBack hx (y := y) ho (mvT (s := κ.s.setVm vm0) hZ w1) (mvT (s := κ.s.setVm vm0) hZ w2) hsel hpr (mvT (s := κ.s.setVm vm0) hZ wc) hy (Met.back (s := κ.s.setVm vm0) hM hZ wc wz hf hl) (g := mkF κ.m pc L (argsL.reverse ++ .ref a :: S)) rfl (hL.trans hml.symm) (Steps.refl _) (a := a) (by rw [e]; exact e1) e2 (argsL := argsL) (rest := S) hlen rfl (by show 2 * 0 + _ ≤ _; omega) (hb hby hd) (fun _ _ => ⟨rfl, e, by rw [← hk] at hk'; exact hk', by rw [← hn] at hn'; exact hn'⟩)
    refine Ends.call (Q' := Q') (T1 := ⟨T.setVm vm₁, locs, k, n⟩) M N rfl hpost hk hn X' ?_ hZ ho st (H v)
    have e0 := M.1 hw'
    subst e0
    exact Md.start _ _ _
theorem Ary.arv {a : Addr} {kA : ClassId} {ty : FieldType} {N : Nat} {f : Nat → Value} (A : Ary Z h a kA ty N f) (dv : Value) : Arv Z h a kA ty (Int32.ofNat N) ((List.range N).map f) dv := by
  obtain ⟨c, A, r1, r2, r3, r4, r5⟩ := A
  have e : (Int32.ofNat N).toNatClampNeg = N := by simp only [Int32.toNatClampNeg, Int32.toInt_ofNat_small r3]; omega
  have g : ∀ i, i < N → ((List.range N).map f).getD i dv = f i := fun i hi => by simp [List.getD_eq_getElem?_getD, hi]
  refine ⟨c, A, r1, by rw [e]; exact r2, ?_, fun i hi => ?_, fun i hi => ?_⟩
  · rw [Int32.lt_iff_toInt_lt, Int32.toInt_ofNat_small r3]; show ¬ (N : Int) < 0; omega
  · rw [g i (by omega)]; exact r4 i (by omega)
  · rw [g i (by omega)]; exact r5 i (by omega)
theorem Arv.ary {a : Addr} {kA : ClassId} {ty : FieldType} {N : Nat} {vs : List Value} {dv : Value} (r3 : N < 2 ^ 31) (A : Arv Z h a kA ty (Int32.ofNat N) vs dv) : Ary Z h a kA ty N (fun i => vs.getD i dv) := by
  obtain ⟨c, A, r1, r2, -, H, G⟩ := A
  have e : (Int32.ofNat N).toNatClampNeg = N := by simp only [Int32.toNatClampNeg, Int32.toInt_ofNat_small r3]; omega
  rw [e] at r2
  exact ⟨c, A, r1, r2, r3, fun i hi => H i (by omega), fun i hi => G i (by omega)⟩
theorem cp_get {f g : Nat → Value} {N i j m : Nat} {dv : Value} (hj : j + m ≤ N) {x : Nat} (hx : x < N) : (((List.range N).map g).take j ++ ((List.range m).map fun t => f (i + t)) ++ ((List.range N).map g).drop (j + m)).getD x dv = if j ≤ x ∧ x < j + m then f (i + (x - j)) else g x := by
  simp only [List.getD_eq_getElem?_getD]
  by_cases h1 : x < j
  · rw [List.append_assoc, List.getElem?_append_left (by simp; omega), if_neg (by omega)]
    simp [List.getElem?_take, h1, hx]
  · by_cases h2 : x < j + m
    · rw [List.append_assoc, List.getElem?_append_right (by simp; omega), if_pos ⟨by omega, h2⟩]
      have e : (((List.range N).map g).take j).length = j := by simp; omega
      rw [e, List.getElem?_append_left (by simp; omega)]
      simp [show x - j < m by omega]
    · rw [List.getElem?_append_right (by simp; omega), if_neg (by omega)]
      have e : (((List.range N).map g).take j ++ ((List.range m).map fun t => f (i + t))).length = j + m := by simp; omega
      rw [e]
      simp [List.getElem?_drop, show j + m + (x - (j + m)) = x by omega, hx]
theorem WP.arraycopy (K : Cx κ w l Z own n0 rm bytes maxL ret nm Q) {i0 W : Nat} {a b : Addr} {kA kB : ClassId} {ty : FieldType} {N M i j m : Nat} {f g : Nat → Value} {sp dp nn : Int32} (w1 : (Cond.methodLink own i0 Jvm.Stand.acN).before a0 Z = true) (w2 : (Cond.native Jvm.Stand.acN).before a0 Z = true) (w3 : (Cond.static Jvm.Stand.acN).before a0 Z = true) (w4 : (Cond.initialized "java/lang/System").before a0 Z = true)
    (A : Ary Z h a kA ty N f) (B : Ary Z h b kB ty M g) (hp : refKind ty = false) (hsp : sp.toInt = (i : Int)) (hdp : dp.toInt = (j : Int)) (hnn : nn.toInt = (m : Int)) (h1 : i + m ≤ N) (h2 : j + m ≤ M) (ha : n0 ≤ b) (hd : decode bytes pc = .ok (.invokestatic i0, 3)) (hL : L.size = maxL) (hf : 1 ≤ rm.frames) (hW : (S.map fun v => v.category).sum = W) (hl : W + (nativeFrameWords "java/lang/System" "arraycopy" 5 + 11) ≤ rm.locals) (hpc : pc + 3 = pc')
    (H : ∀ h', Keep h h' [b] → Ary Z h' b kB ty M (fun x => if j ≤ x ∧ x < j + m then f (i + (x - j)) else g x) → WP κ h' k n (mkF κ.m pc' L S)) : WP κ h k n (mkF κ.m pc L (.int nn :: .int dp :: .ref b :: .int sp :: .ref a :: S)) := by
  obtain ⟨hx, hby, hml, -, -, hnm, -, -, rfl, rfl, rfl, rfl, -⟩ := K
  subst hpc
  intro T locs vm0 X e M' hZ ho N'
  have nA := A.len; have nB := B.len
  have eA : (Int32.ofNat N).toNatClampNeg = N := by simp only [Int32.toNatClampNeg, Int32.toInt_ofNat_small nA]; omega
  have eB : (Int32.ofNat M).toNatClampNeg = M := by simp only [Int32.toNatClampNeg, Int32.toInt_ofNat_small nB]; omega
  have nn0 : ∀ {z : Int32} {q : Nat}, z.toInt = (q : Int) → ¬ z < 0 := fun {z q} hz => by rw [Int32.lt_iff_toInt_lt, hz]; show ¬ (q : Int) < 0; omega
  obtain ⟨T', h', L', X', e', NF, K', A', st⟩ := cpA X hx (s := κ.s.setVm vm0) hZ ho w1 w2 w3 w4 e (A.arv .null) (B.arv .null) (Or.inl ⟨rfl, hp⟩) (nn0 hsp) (nn0 hdp) (nn0 hnn) (by rw [nat_of hsp, nat_of hnn, eA]; exact h1) (by rw [nat_of hdp, nat_of hnn, eB]; exact h2) rfl (by rw [nat_of hdp, nat_of hnn]; simpa using h2) N' ha (g := mkF κ.m pc L (.int nn :: .int dp :: .ref b :: .int sp :: .ref a :: S)) rfl (hL.trans hml.symm) rfl (hb hby hd) hf (W := W) (by show 2 * 0 + _ ≤ _; omega) hl
  have A2 := (Arv.ary nB A').congr (f' := fun x => if j ≤ x ∧ x < j + m then f (i + (x - j)) else g x) (fun x hx' => by
    rw [nat_of hdp, nat_of hnn, nat_of hsp]
    have q : (List.map (fun t => ((List.range N).map f).getD (i + t) Value.null) (List.range m)) = (List.range m).map fun t => f (i + t) := List.map_congr_left fun t ht => by
      have := List.mem_range.mp ht
      simp [List.getD_eq_getElem?_getD, show i + t < N by omega]
    rw [q]
    exact cp_get h2 hx')
  obtain ⟨t, o, h1', r⟩ := H h' K' A2 T' _ vm0 X' e' (M'.mono K'.1) hZ ho NF
  exact ⟨t, o, st _ h1', r⟩
theorem WP.callF (K : Cx κ w l Z own n0 rm bytes maxL ret nm Q) {x y : MethodName} {by' : ByteArray} {mL' : Nat} {rt' : Option FieldType} {rm' : Room} {Q' : Option Value → Heap → Prop} {i W : Nat} {argsL : List Value} {S' : List Value} {a : Addr} {C : String} {cnt : Nat} (w1 : (Cond.methodLink own i x).before a0 Z = true) (w2 : (Cond.declares x).before a0 Z = true) (w3 : ∀ vm0 : Vm, Z.Warmed39 vm0 → (Cond.interfaceMethod x.cls x.cls x.name x.desc).before κ.a (κ.s.setVm vm0) = true) (w4 : (Cond.selects C x y).before a0 Z = true) (w5 : (Cond.instanceMethod y).before a0 Z = true) (w6 : (Cond.publicMethod y).before a0 Z = true) (w7 : (Cond.unhidden C x.name x.desc).before a0 Z = true) (w8 : (Cond.castable C x.cls).before a0 Z = true) (hx' : x.cls ≠ "java/lang/invoke/MethodHandle" ∧ x.cls ≠ "java/lang/invoke/VarHandle") (E : Exa Z h a C) (hM : Met w l Z y by' mL' rt' [] rm' (.ref a :: argsL).toArray h n0 Q') (wc : (Cond.code y by' mL' rt').before a0 Z = true) (wz : (Cond.initialized y.cls).before a0 Z = true) (hy : y.cls ≠ "java/lang/invoke/MethodHandle" ∧ y.cls ≠ "java/lang/invoke/VarHandle")
    (hL : L.size = maxL) (hlen : ∀ sig, parseMethodDescriptor x.desc = some sig → argsL.length = sig.parameters.length) (hS : S' = argsL.reverse ++ .ref a :: S) (hW : (S.map fun v => v.category).sum = W) (hf : rm'.frames + 1 ≤ rm.frames) (hl : W + (mL' + 11) + rm'.locals ≤ rm.locals) (hk : k + rm'.cells = k') (hn : n + rm'.slots = n') (hk' : k' ≤ rm.cells) (hn' : n' ≤ rm.slots) (hd : decode bytes pc = .ok (.invokeinterface i cnt, 5)) (hp : pc + 5 = pc')
    (H : ∀ (v : Option Value) (h' : Heap), Q' v h' → WP κ h' k' n' (mkF κ.m pc' L (v.toList ++ S))) : WP κ h k n (mkF κ.m pc L S') := by
  obtain ⟨hx, hby, hml, -, -, -, rfl, rfl, rfl, rfl, rfl, rfl, -⟩ := K
  subst hp hS
  intro T locs vm0 X e M hZ ho N
  obtain ⟨cB, kB, q1, q2, q3⟩ := isOf (s := κ.s.setVm vm0) hZ e E
  by_cases hw : κ.w = true
  · rw [hw] at hM
    obtain ⟨v, vm₁, B, -, X', hSi, hgr, hpost, st⟩ := X.interfaceBackS hx (xi := x) (y := y) ho (mvT (s := κ.s.setVm vm0) hZ w1) (mvT (s := κ.s.setVm vm0) hZ w2) (w3 vm0 hZ) (mvT (s := κ.s.setVm vm0) hZ w4) (mvT (s := κ.s.setVm vm0) hZ w5) (mvT (s := κ.s.setVm vm0) hZ w6) (mvT (s := κ.s.setVm vm0) hZ w7) (mvT (s := κ.s.setVm vm0) hZ w8) hx' (Met.backW (s := κ.s.setVm vm0) hM hZ wc wz hf hl) q1 q2 q3 (g := mkF κ.m pc L (argsL.reverse ++ .ref a :: S)) rfl (hL.trans hml.symm) (Steps.refl _) (argsL := argsL) (rest := S) hlen rfl (by show 2 * 0 + _ ≤ _; omega) (hb hby hd) (fun _ _ => ⟨rfl, e, by rw [← hk] at hk'; exact hk', by rw [← hn] at hn'; exact hn'⟩)
    obtain ⟨k0, hS0, hk0⟩ := M.2
    obtain ⟨X'', hS1, hZ1, ho1⟩ := rebS hS0 hk0 X' hSi (e ▸ hgr) hZ ho
    exact Ends.call (Q' := Q') (T1 := ⟨T.setVm vm₁, locs, k, n⟩) M N rfl hpost hk hn X'' ⟨fun q => (by rw [hw] at q; cases q), _, hS1, Nat.le_refl _⟩ hZ1 ho1 st (H v)
  · have hw' : κ.w = false := by simpa using hw
    rw [hw'] at hM
    obtain ⟨v, vm₁, B, -, X', hpost, st⟩ := X.interfaceBack hx (xi := x) (y := y) ho (mvT (s := κ.s.setVm vm0) hZ w1) (mvT (s := κ.s.setVm vm0) hZ w2) (w3 vm0 hZ) (mvT (s := κ.s.setVm vm0) hZ w4) (mvT (s := κ.s.setVm vm0) hZ w5) (mvT (s := κ.s.setVm vm0) hZ w6) (mvT (s := κ.s.setVm vm0) hZ w7) (mvT (s := κ.s.setVm vm0) hZ w8) hx' (Met.back (s := κ.s.setVm vm0) hM hZ wc wz hf hl) q1 q2 q3 (g := mkF κ.m pc L (argsL.reverse ++ .ref a :: S)) rfl (hL.trans hml.symm) (Steps.refl _) (argsL := argsL) (rest := S) hlen rfl (by show 2 * 0 + _ ≤ _; omega) (hb hby hd) (fun _ _ => ⟨rfl, e, by rw [← hk] at hk'; exact hk', by rw [← hn] at hn'; exact hn'⟩)
    refine Ends.call (Q' := Q') (T1 := ⟨T.setVm vm₁, locs, k, n⟩) M N rfl hpost hk hn X' ?_ hZ ho st (H v)
    have e0 := M.1 hw'
    subst e0
    exact Md.start _ _ _
theorem Ary.newR {cA : ClassId} {C : String} {z : Int32} {a : Addr} {N : Nat} (A : Arr Z h a (newA cA (.object C) z) (.object C)) (hz : z.toInt = (N : Int)) : Ary Z h a cA (.object C) N (fun _ => .null) := Ary.of_new (ty := .object C) A hz
theorem WP.anewarray (K : Cx κ w l Z own n0 rm bytes maxL ret nm Q) {i : Nat} {C : String} {z : Int32} {N cap : Nat} (w1 : (Cond.classLink own i C).before a0 Z = true) (w2 : (Cond.arrayOver (.object C)).before a0 Z = true) (hd : decode bytes pc = .ok (.anewarray i, 3)) (hz : z.toInt = (N : Int)) (hcap : N ≤ cap) (hbig : cap * 8 ≤ 536870912) (hk : k + 1 = k') (hn : n + cap = n') (hk' : k' ≤ rm.cells) (hn' : n' ≤ rm.slots) (hp : pc + 3 = pc')
    (H : ∀ (h' : Heap) (a : Addr) (kA : ClassId), @Eq Nat h.size a → Ext h h' → Ary Z h' a kA (.object C) N (fun _ => .null) → Ovr Z kA C → WP κ h' k' n' (mkF κ.m pc' L (.ref a :: S))) : WP κ h k n (mkF κ.m pc L (.int z :: S)) := by
  obtain ⟨hx, hby, -, -, -, hnm, -, -, rfl, rfl, rfl, rfl, -⟩ := K
  subst hp hk hn
  intro T locs vm0 X e M hZ ho N
  obtain ⟨T', h', cA, X', e', E, A, O, st⟩ := RoadKit.newR X hx (s := κ.s.setVm vm0) hZ ho w1 w2 e (g := mkF κ.m pc L (.int z :: S)) rfl (hb hby hd) rfl (by rw [Int32.lt_iff_toInt_lt, hz]; show ¬ _ < (0 : Int); omega) (cap := cap) (by rw [nat_of hz]; exact hcap) hbig hk' hn'
  obtain ⟨t, o, h1, r⟩ := H h' _ cA rfl E (Ary.newR A hz) O T' _ vm0 X' e' (M.mono E.1) hZ ho N
  exact ⟨t, o, st _ h1, r⟩
theorem WP.aastore (K : Cx κ w l Z own n0 rm bytes maxL ret nm Q) {a y : Addr} {kA : ClassId} {ty : FieldType} {C : String} {N i : Nat} {f : Nat → Value} {j : Int32} (A : Ary Z h a kA ty N f) (ht : ty.isReference = true) (O : Ovr Z kA C) (I : Ins Z h y C true) (hj : j.toInt = (i : Int)) (hi : i < N) (ha : n0 ≤ a) (hd : decode bytes pc = .ok (.aastore, 1)) (hp : pc + 1 = pc')
    (H : ∀ h', Wr h h' a i (.ref y) → Ary Z h' a kA ty N (upd f i (.ref y)) → WP κ h' k n (mkF κ.m pc' L S)) : WP κ h k n (mkF κ.m pc L (.ref y :: .int j :: .ref a :: S)) := by
  obtain ⟨hx, hby, -, -, -, hnm, -, -, rfl, rfl, rfl, rfl, -⟩ := K
  subst hp
  have A0 := A
  obtain ⟨c, A, q, r2, -⟩ := A
  intro T locs vm0 X e M hZ ho N
  obtain ⟨T', h', X', e', W, st⟩ := RoadKit.stR X hx (s := κ.s.setVm vm0) hZ e A (in_of r2 hj hi) ht (Sto.ofV A q O I) (g := mkF κ.m pc L (.ref y :: .int j :: .ref a :: S)) rfl rfl (hb hby hd)
  rw [nat_of hj] at W
  obtain ⟨t, o, h1, r⟩ := H h' W (A0.set W (by cases ty <;> first | rfl | (cases ht))) T' _ vm0 X' e' (M.mono (Nat.le_of_eq W.size.symm)) hZ ho (Fr.snoc X' N ha)
  exact ⟨t, o, st _ h1, r⟩
theorem WP.checkcast (K : Cx κ w l Z own n0 rm bytes maxL ret nm Q) {i : Nat} {C : String} {a : Addr} (w1 : (Cond.classLink own i C).before a0 Z = true) (I : Ins Z h a C true) (hd : decode bytes pc = .ok (.checkcast i, 3)) (hp : pc + 3 = pc') (H : WP κ h k n (mkF κ.m pc' L (.ref a :: S))) : WP κ h k n (mkF κ.m pc L (.ref a :: S)) := by
  obtain ⟨hx, hby, -, -, -, hnm, -, -, rfl, rfl, rfl, rfl, -⟩ := K
  subst hp
  intro T locs vm0 X e M hZ ho N
  obtain ⟨T', X', e', st⟩ := castY X hx (s := κ.s.setVm vm0) hZ ho w1 e I (g := mkF κ.m pc L (.ref a :: S)) rfl rfl (hb hby hd)
  obtain ⟨t, o, h1, r⟩ := H T' locs vm0 X' e' M hZ ho N
  exact ⟨t, o, st _ h1, r⟩
theorem WP.instY (K : Cx κ w l Z own n0 rm bytes maxL ret nm Q) {i : Nat} {C : String} {a : Addr} (w1 : (Cond.classLink own i C).before a0 Z = true) (I : Ins Z h a C true) (hd : decode bytes pc = .ok (.instanceof i, 3)) (hp : pc + 3 = pc') (H : WP κ h k n (mkF κ.m pc' L (.int 1 :: S))) : WP κ h k n (mkF κ.m pc L (.ref a :: S)) := by
  obtain ⟨hx, hby, -, -, -, hnm, -, -, rfl, rfl, rfl, rfl, -⟩ := K
  subst hp
  intro T locs vm0 X e M hZ ho N
  obtain ⟨T', X', e', st⟩ := RoadKit.instY X hx (s := κ.s.setVm vm0) hZ ho w1 e I (g := mkF κ.m pc L (.ref a :: S)) rfl rfl (hb hby hd)
  obtain ⟨t, o, h1, r⟩ := H T' locs vm0 X' e' M hZ ho N
  exact ⟨t, o, st _ h1, r⟩
/-- 'ldc' of a String constant (the wide mode alone): some String, of whose text nothing is said -/
theorem WP.ldcS (K : Cx κ true l Z own n0 rm bytes maxL ret nm Q) {i cap : Nat} {text : String} (w1 : (Cond.stringLink own i text).before a0 Z = true) (wS : ∀ a ∈ Bundle.stringAtoms, a.before a0 Z = true) (hd : decode bytes pc = .ok (.ldc i, 2)) (hcap : 4 * text.toList.length ≤ cap) (hbig : cap ≤ 536870912) (hk : k + 2 = k') (hn : n + (cap + 4) = n') (hk' : k' ≤ rm.cells) (hn' : n' ≤ rm.slots) (hp : pc + 2 = pc')
    (H : ∀ (h' : Heap) (a : Addr), Ext h h' → WP κ h' k' n' (mkF κ.m pc' L (.ref a :: S))) : WP κ h k n (mkF κ.m pc L S) := by
  obtain ⟨hx, hby, -, -, -, -, hw, -, rfl, rfl, rfl, rfl, -⟩ := K
  subst hp hk hn
  intro T locs vm0 X e M hZ ho N
  obtain ⟨k0, hS, hk0⟩ := M.2
  obtain ⟨a, T', h', k1, X', e', E, hS', hk1, hZ', ho', st⟩ := RoadKit.ldcS X hx hZ ho w1 wS e hS hk0 (g := mkF κ.m pc L S) rfl (hb hby hd) hcap hbig hk' hn'
  obtain ⟨t, o, h1, r⟩ := H h' a E T' locs T'.vm X' e' ⟨fun q => (by rw [hw] at q; cases q), k1, hS', hk1⟩ hZ' ho' N
  exact ⟨t, o, st _ h1, r⟩
theorem WP.newarrayE (K : Cx κ w l Z own n0 rm bytes maxL ret nm Q) {aty : ArrayType} {z : Int32} {N cap : Nat} {ad : String} (had : "[" ++ (newarray.typeOf aty).toString = ad) (w1 : (Cond.arrayClass (newarray.typeOf aty)).before a0 Z = true) (hd : decode bytes pc = .ok (.newarray aty, 2)) (hz : z.toInt = (N : Int)) (hcap : N ≤ cap) (hbig : cap * 8 ≤ 536870912) (hk : k + 1 = k') (hn : n + cap = n') (hk' : k' ≤ rm.cells) (hn' : n' ≤ rm.slots) (hp : pc + 2 = pc')
    (H : ∀ (h' : Heap) (a : Addr) (kA : ClassId), @Eq Nat h.size a → Ext h h' → Ary Z h' a kA (newarray.typeOf aty) N (fun _ => defaultValue (newarray.typeOf aty)) → Exa Z h' a ad → WP κ h' k' n' (mkF κ.m pc' L (.ref a :: S))) : WP κ h k n (mkF κ.m pc L (.int z :: S)) := by
  obtain ⟨hx, hby, -, -, -, hnm, -, -, rfl, rfl, rfl, rfl, -⟩ := K
  subst hp hk hn
  intro T locs vm0 X e M hZ ho N
  obtain ⟨T', h', cA, X', e', E, A, Ex, st⟩ := newPE X hx (s := κ.s.setVm vm0) hZ w1 e (g := mkF κ.m pc L (.int z :: S)) rfl (hb hby hd) rfl (by rw [Int32.lt_iff_toInt_lt, hz]; show ¬ _ < (0 : Int); omega) (cap := cap) (by rw [nat_of hz]; exact hcap) hbig hk' hn' had
  obtain ⟨t, o, h1, r⟩ := H h' _ cA rfl E (Ary.of_new A hz) Ex T' _ vm0 X' e' (M.mono E.1) hZ ho N
  exact ⟨t, o, st _ h1, r⟩
/-- the native clone of an array -/
theorem WP.cloneA (K : Cx κ w l Z own n0 rm bytes maxL ret nm Q) {i W cap : Nat} {ad : String} {a : Addr} {kA : ClassId} {ty : FieldType} {N : Nat} {f : Nat → Value} (w1 : (Cond.methodLink own i ⟨ad, "clone", "()Ljava/lang/Object;"⟩).before a0 Z = true) (w2 : (Cond.sameMethod ad "java/lang/Object" "clone" "()Ljava/lang/Object;").before a0 Z = true) (w3 : (Cond.native ⟨"java/lang/Object", "clone", "()Ljava/lang/Object;"⟩).before a0 Z = true)
    (w4 : (Cond.instanceMethod ⟨"java/lang/Object", "clone", "()Ljava/lang/Object;"⟩).before a0 Z = true) (w5 : (Cond.selects ad ⟨ad, "clone", "()Ljava/lang/Object;"⟩ ⟨"java/lang/Object", "clone", "()Ljava/lang/Object;"⟩).before a0 Z = true) (w6 : (Cond.castable ad "java/lang/Cloneable").before a0 Z = true)
    (A : Ary Z h a kA ty N f) (E : Exa Z h a ad) (hd : decode bytes pc = .ok (.invokevirtual i, 3)) (hL : L.size = maxL) (hf : 1 ≤ rm.frames) (hW : (S.map fun v => v.category).sum = W) (hl : W + 14 ≤ rm.locals) (hcap : N ≤ cap) (hk : k + 1 = k') (hn : n + cap = n') (hk' : k' ≤ rm.cells) (hn' : n' ≤ rm.slots) (hp : pc + 3 = pc')
    (H : ∀ (h' : Heap) (b : Addr), @Eq Nat h.size b → Ext h h' → Ary Z h' b kA ty N f → Exa Z h' b ad → WP κ h' k' n' (mkF κ.m pc' L (.ref b :: S))) : WP κ h k n (mkF κ.m pc L (.ref a :: S)) := by
  obtain ⟨hx, hby, hml, -, -, -, -, -, rfl, rfl, rfl, rfl, -⟩ := K
  subst hp hk hn
  intro T locs vm0 X e M hZ ho N'
  obtain ⟨c, A, r1, r2, r3, r4, r5⟩ := A
  have FC : FitC κ.Z c := fitC_of A fun i hi v hv => by rw [r4 i (by omega)] at hv; cases hv; exact r5 i (by omega)
  obtain ⟨T', h', X', e', E', A', Ex, st⟩ := RoadKit.cloneA X hx (s := κ.s.setVm vm0) hZ ho w1 w2 w3 w4 w5 w6 e A E FC (g := mkF κ.m pc L (.ref a :: S)) rfl (hL.trans hml.symm) rfl (hb hby hd) hf (W := W) (by show 2 * 0 + _ ≤ _; omega) hl (cap := cap) (by rw [r2]; exact hcap) hk' hn'
  obtain ⟨t, o, h1, r⟩ := H h' _ rfl E' ⟨cloneOf c, A', r1, r2, r3, r4, r5⟩ Ex T' _ vm0 X' e' (M.mono E'.1) hZ ho N'
  exact ⟨t, o, st _ h1, r⟩
/-- a function object made at a site of the class C, that captured one reference -/
def Fun1 (Z : State) (h : Heap) (σ : Lambda.Shape) (C : String) (b a : Addr) : Prop := ∃ (cell : Cell) (d : ClassId) (dk : Class), h[b]? = some cell ∧ cell.vm = .none ∧ cell.slots[0]? = some (.ref a) ∧ Z.vm.classes[d]? = some dk ∧ dk.name = C ∧ Lambda.isMade { classPath := fun _ => none } Z.vm d σ cell.cls = true ∧ Z.lambdaCallable σ cell.cls = true
section Funs
variable {σ : Lambda.Shape} {C : String} {a b : Addr}
theorem Fun1.lt (F : Fun1 Z h σ C b a) : b < h.size := by obtain ⟨cell, _, _, q, _⟩ := F; exact (Array.getElem?_eq_some_iff.mp q).1
theorem Fun1.ext (E : Ext h h') (F : Fun1 Z h σ C b a) : Fun1 Z h' σ C b a := by obtain ⟨cell, d, dk, q, r⟩ := F; exact ⟨cell, d, dk, E.2 _ _ q, r⟩
theorem Fun1.keep {ws : List Addr} (K : Keep h h' ws) (F : Fun1 Z h σ C b a) (q : b ∉ ws) : Fun1 Z h' σ C b a := by obtain ⟨cell, d, dk, p, r⟩ := F; exact ⟨cell, d, dk, K.2.1 _ _ p q, r⟩
theorem Fun1.other {c : Addr} {sl : Nat} {v : Value} (W : Wr h h' c sl v) (F : Fun1 Z h σ C b a) (q : b ≠ c) : Fun1 Z h' σ C b a := Fun1.keep (Keep.wr (Keep.refl h [c]) W (Or.inl (List.mem_singleton.mpr rfl))) F (fun z => q (List.mem_singleton.mp z))
end Funs
/-- a lambda's site that captures one reference: a new function object -/
theorem WP.lambda1 (K : Cx κ w l Z own n0 rm bytes maxL ret nm Q) {x : MethodName} {i W : Nat} {σ : Lambda.Shape} {C0 : String} {a : Addr} (hN : Z.methodNamed? x = some κ.m) (w1 : (Cond.lambdaSite x pc i σ).before a0 Z = true) (wO : (Cond.instantiable "java/lang/Object" 0).before a0 Z = true) (hcap : σ.captured = [.object C0]) (lays : ((σ.file x.cls).bind (layoutFields · 0)).map (·.2.1) = some #[.object C0])
    (hd : decode bytes pc = .ok (.invokedynamic i, 5)) (hL : L.size = maxL) (hW : (S.map fun v => v.category).sum = W) (hl : W + 1 + 3072 ≤ rm.locals) (hk : k + 1 = k') (hn : n + 1 = n') (hk' : k' ≤ rm.cells) (hn' : n' ≤ rm.slots) (hp : pc + 5 = pc')
    (H : ∀ (h' : Heap) (b : Addr), @Eq Nat h.size b → Ext h h' → Fun1 Z h' σ x.cls b a → WP κ h' k' n' (mkF κ.m pc' L (.ref b :: S))) : WP κ h k n (mkF κ.m pc L (.ref a :: S)) := by
  obtain ⟨hx, hby, hml, -, -, -, -, -, rfl, rfl, rfl, rfl, -⟩ := K
  subst hp hk hn
  intro T locs vm0 X e M hZ ho N'
  obtain ⟨cK, one, hat⟩ := Cond.lambdaSite_spec w1
  obtain ⟨m', kS, cfS, i0, p0, lk, hm', hkS, hcfS, hshape, -, hfind, hmade, hcan, hlk⟩ := State.lambdaAt?_spec hat
  cases hN.symm.trans hm'
  obtain ⟨rfl, rfl, -⟩ : lk = .makes cK ∧ one = none ∧ σ.captured ≠ [] := by
    rcases hlk with ⟨a, cell, -, -, h, -⟩ | h
    · rw [hcap] at h; cases h
    · exact h
  obtain ⟨kS', hkS', hnameS⟩ := className_of_methodNamed hN
  cases hkS.symm.trans hkS'
  obtain ⟨bsm, nt, desc, site, hc, hnt, hsite, hpar⟩ := Lambda.shapeOf?_site hshape
  obtain ⟨kK, hkK, htyK, hkindK, hhid⟩ := Lambda.made_types hmade hkS wO (by rw [hnameS]; exact lays)
  obtain ⟨k2, hk2, he2⟩ := hZ.alike.2.2 _ _ hkS
  obtain ⟨k3, hk3, he3⟩ := hZ.alike.2.2 _ _ hkK
  have hty3 : k3.instanceTypes = #[.object C0] := by rw [he3]; exact htyK
  have hkd3 : k3.kind = .ordinary := by rw [he3]; exact hkindK
  have hE : ((k3.instanceTypes.toList.zip [(Value.ref a)]).map fun (t, v) => narrow t v) = [Value.ref a] := by rw [hty3]; rfl
  obtain ⟨X', st⟩ := X.lambdaMakes hx (g := mkF κ.m pc L (.ref a :: S)) rfl (hL.trans hml.symm) (hb hby hd) (vals := [Value.ref a]) (rest := S) hk2 (by rw [he2]; exact hfind) (by rw [he2]; exact hcfS) hc hnt (parseLong_of_parse hsite) (by rw [hpar, hcap]; rfl) rfl hk3
    (by rw [X.admits.platform]; show 2 * 0 + (1 + (S.map fun v => v.category).sum) + 3072 ≤ _; omega) hk' (by rw [hE]; exact hn')
    (fun i v hv => by
      rw [hE] at hv
      match i, hv with
      | 0, hv => simp at hv; subst hv; simp [State.fitsSlot, State.slotType?, hk3, hkd3, hty3, fits]
      | k + 1, hv => simp at hv)
  rw [hE] at X' st
  subst e
  have E : Ext T.heap (T.pushCell { cls := cK, slots := [Value.ref a].toArray, vm := .none }).heap := ext_of fun a q => Array.getElem?_push_lt q |>.trans (Array.getElem?_eq_getElem q).symm
  have F : Fun1 κ.Z (T.pushCell { cls := cK, slots := [Value.ref a].toArray, vm := .none }).heap σ x.cls T.heap.size a := ⟨{ cls := cK, slots := [Value.ref a].toArray, vm := .none }, κ.m.cls, kS, Array.getElem?_push_size, rfl, rfl, hkS, hnameS, hmade, hcan⟩
  obtain ⟨t, o, h1, r⟩ := H _ _ rfl E F _ _ vm0 X' rfl (M.mono E.1) hZ ho N'
  exact ⟨t, o, st _ h1, r⟩
end Rules
end Jvm.OwnW
namespace Jvm.OwnFl
open Jvm Jvm.Op Jvm.FP.Core Jvm.RoadKit

/-- the rounded ratio -/
def Rd (A B : Nat) : Datum := roundRatio b64 false A B 0
theorem Rd.congr {A B A' B' : Nat} (hB : 0 < B) (hB' : 0 < B') (h : A * B' = A' * B) : Rd A B = Rd A' B' :=
  roundRatio_congr hB hB' (by simpa using h)
theorem Rd.fits (A : Nat) {B : Nat} (hB : 0 < B) : FP.Core.fits b64 (Rd A B) := roundRatio_fits good_b64 _ _ hB _
theorem near_mid {a u v : Int} (h : v < u) (q : (a - u).natAbs ≤ (a - v).natAbs) : u + v ≤ 2 * a := by omega
theorem near_mid' {a u v : Int} (h : v < u) (q : (a - v).natAbs ≤ (a - u).natAbs) : 2 * a ≤ u + v := by omega
theorem Rd.mono {A B A' B' c c' : Nat} {q q' : Int} (hB : 0 < B) (hB' : 0 < B') (h : A * B' ≤ A' * B) (e : Rd A B = .fin false c q) (e' : Rd A' B' = .fin false c' q') :
    zmag b64 (.fin false c q) ≤ zmag b64 (.fin false c' q') := by
  have f1 : FP.Core.fits b64 (.fin false c q) := e ▸ Rd.fits A hB
  have f2 : FP.Core.fits b64 (.fin false c' q') := e' ▸ Rd.fits A' hB'
  have z0 : b64.qmin ≤ 0 := by decide
  have n1 := roundRatio_nearest (c' := c') (q' := q') (e0 := b64.qmin) good_b64 hB e f2.1 f2.2.1 (Int.le_refl _) z0
  have n2 := roundRatio_nearest (c' := c) (q' := q) (e0 := b64.qmin) good_b64 hB' e' f1.1 f1.2.1 (Int.le_refl _) z0
  show inUnits c q b64.qmin ≤ inUnits c' q' b64.qmin
  refine Nat.le_of_not_lt fun hlt => ?_
  unfold distance at n1 n2
  have hne : Rd A B ≠ Rd A' B' := fun z => by rw [e, e'] at z; injection z with _ z1 z2; subst z1 z2; exact Nat.lt_irrefl _ hlt
  generalize inUnits c q b64.qmin = u at *
  generalize inUnits c' q' b64.qmin = v at *
  have hA : inUnits A 0 b64.qmin = A * 2 ^ 1074 := rfl
  have hA' : inUnits A' 0 b64.qmin = A' * 2 ^ 1074 := rfl
  rw [hA] at n1; rw [hA'] at n2
  generalize hP : (2 : Nat) ^ 1074 = P at *
  have hPp : 0 < P := by rw [← hP]; exact Nat.two_pow_pos _
  have l1 : (v : Int) * B < (u : Int) * B := Int.mul_lt_mul_of_pos_right (by omega) (by omega)
  have l2 : (v : Int) * B' < (u : Int) * B' := Int.mul_lt_mul_of_pos_right (by omega) (by omega)
  have m1 := near_mid l1 n1
  have m2 := near_mid' l2 n2
  have s1 : (((u + v) * B : Nat) : Int) = (u : Int) * B + (v : Int) * B := by rw [Int.natCast_mul, Int.natCast_add, Int.add_mul]
  have s2 : (((u + v) * B' : Nat) : Int) = (u : Int) * B' + (v : Int) * B' := by rw [Int.natCast_mul, Int.natCast_add, Int.add_mul]
  have t1 : (u + v) * B ≤ 2 * (A * P) := by omega
  have t2 : 2 * (A' * P) ≤ (u + v) * B' := by omega
  have w1 : ((u + v) * B) * B' ≤ 2 * (A * P) * B' := Nat.mul_le_mul_right _ t1
  have w2 : 2 * (A' * P) * B ≤ ((u + v) * B') * B := Nat.mul_le_mul_right _ t2
  have w3 : ((u + v) * B') * B = ((u + v) * B) * B' := by ac_rfl
  have w4 : 2 * (A' * P) * B = 2 * P * (A' * B) := by ac_rfl
  have w5 : 2 * (A * P) * B' = 2 * P * (A * B') := by ac_rfl
  have w6 : 2 * P * (A' * B) ≤ 2 * P * (A * B') := by rw [← w4, ← w5]; exact Nat.le_trans w2 (by rw [w3]; exact w1)
  have w7 : A' * B ≤ A * B' := Nat.le_of_mul_le_mul_left w6 (by omega)
  exact hne (Rd.congr hB hB' (Nat.le_antisymm h w7))

/-- a double that is a number, not below zero, of the size V -/
def Num (x : UInt64) (V : Nat) : Prop := ∃ c q, val64 x = .fin false c q ∧ zmag b64 (.fin false c q) = V
theorem Num.cmp {x y : UInt64} {V W : Nat} (hx : Num x V) (hy : Num y W) : FP.dcmp x y = some (compare (V : Int) (W : Int)) := by
  obtain ⟨c, q, ex, rfl⟩ := hx
  obtain ⟨d, r, ey, rfl⟩ := hy
  have := dcmp_zval (a := x) (b := y) (by rw [ex]; exact Datum.noConfusion) (by rw [ey]; exact Datum.noConfusion)
  rw [ex, ey] at this
  exact this
theorem Num.noNaN {x : UInt64} {V : Nat} (hx : Num x V) : x &&& 0x7fffffffffffffff ≤ 0x7ff0000000000000 := by
  obtain ⟨c, q, ex, rfl⟩ := hx
  have := (ne_nan x).mp (by rw [ex]; exact Datum.noConfusion)
  rw [UInt64.le_iff_toNat_le, mask_toNat]
  exact this
def Vone : Nat := zmag b64 (.fin false (2 ^ 52) (-52))
def Vhalf : Nat := zmag b64 (.fin false (2 ^ 52) (-53))
theorem num0 : Num 0 0 := ⟨_, _, val64_zero, by decide +kernel⟩
theorem num1 : Num 0x3ff0000000000000 Vone := ⟨_, _, val64_dconst1, rfl⟩
theorem numH : Num 0x3fe0000000000000 Vhalf := ⟨2 ^ 52, -53, by decide +kernel, rfl⟩
theorem Rd.one : Rd 1 1 = .fin false (2 ^ 52) (-52) := by decide +kernel
theorem Rd.half : Rd 1 2 = .fin false (2 ^ 52) (-53) := by decide +kernel
theorem Rd.zero (B : Nat) : Rd 0 B = .fin false 0 b64.qmin := rfl
/-- a ratio of at most 1 is a number -/
theorem Rd.fin {A B : Nat} (hB : 0 < B) (h : A ≤ B) : ∃ c q, Rd A B = .fin false c q := by
  rcases roundRatio_cases b64 false A B 0 with z | z
  · exact z
  · exfalso
    have := zmag_roundRatio_le (s := false) (A := A) (B := B) (e := 0) (e0 := b64.qmin) (V := .fin false (2 ^ 52) (-52)) good_b64 hB (by rw [← Rd.one]; exact Rd.fits 1 (B := 1) (by decide)) Datum.noConfusion (Int.le_refl _) (by decide)
      (by
        have e1 : inUnits A 0 b64.qmin = A * 2 ^ 1074 := rfl
        have e2 : zmag b64 (.fin false (2 ^ 52) (-52)) * 2 ^ (b64.qmin - b64.qmin).toNat = 2 ^ 1074 := by decide +kernel
        rw [e1, e2, Nat.mul_comm]; exact Nat.mul_le_mul_left _ h)
    rw [z] at this
    exact absurd this (by decide +kernel)
theorem l2d_rd {a : Int64} (h : 0 ≤ a.toInt) : val64 (FP.l2d a) = Rd a.toInt.toNat 1 := by
  have q := val64_l2d a
  rw [show FP.l2d a = FP.Core.l2d a from rfl, q]
  unfold FP.Core.ofInt FP.Core.round Rd
  rw [show decide (a.toInt < 0) = false by simp; omega, show a.toInt.natAbs = a.toInt.toNat by omega]
theorem l2d_num {a : Int64} (h : 0 ≤ a.toInt) : ∃ V, Num (FP.l2d a) V ∧ (a.toInt = 0 → V = 0) ∧ (0 < a.toInt → 0 < V) := by
  obtain ⟨c, q, e⟩ := l2d_shape a
  rw [show decide (a.toInt < 0) = false by simp; omega] at e
  refine ⟨_, ⟨c, q, e, rfl⟩, fun z => ?_, fun z => ?_⟩
  · have e' := l2d_rd h
    rw [show FP.l2d a = FP.Core.l2d a from rfl, e, z] at e'
    rw [e']; decide +kernel
  · have := l2d_ne_zero (v := a) (fun q => by rw [q] at z; exact absurd z (by decide))
    refine Nat.pos_of_ne_zero fun k => this ?_
    refine (zval_eq_zero (a := FP.Core.l2d a) (by rw [e]; exact Datum.noConfusion)).mp ?_
    rw [e]; show signed false (zmag b64 (.fin false c q)) = 0
    rw [k]; rfl
theorem l2d_mono {a b : Int64} {V W : Nat} (ha : 0 ≤ a.toInt) (h : a.toInt ≤ b.toInt) (hV : Num (FP.l2d a) V) (hW : Num (FP.l2d b) W) : V ≤ W := by
  obtain ⟨c, q, e, rfl⟩ := hV
  obtain ⟨d, r, e', rfl⟩ := hW
  rw [l2d_rd ha] at e
  rw [l2d_rd (Int.le_trans ha h)] at e'
  exact Rd.mono (by decide) (by decide) (by omega) e e'
theorem l2d_whole {a : Int64} {V : Nat} (ha : 0 ≤ a.toInt) (h : a.toInt ≤ 2 ^ 53) (hV : Num (FP.l2d a) V) : V = a.toInt.toNat * one64 := by
  have z := DInt_zval (l2d_int (a := a) (by omega))
  obtain ⟨c, q, e, rfl⟩ := hV
  rw [show FP.Core.l2d a = FP.l2d a from rfl, e] at z
  have z : ((zmag b64 (.fin false c q) : Nat) : Int) = a.toInt * (one64 : Int) := z
  have k : (((a.toInt.toNat * one64 : Nat)) : Int) = a.toInt * (one64 : Int) := by rw [Int.natCast_mul, Int.toNat_of_nonneg ha]
  omega
theorem ddiv_rd {x y : UInt64} {V W : Nat} (hx : Num x V) (hy : Num y W) (hW : 0 < W) : val64 (FP.ddiv x y) = Rd V W := by
  obtain ⟨c, q, ex, hV⟩ := hx
  obtain ⟨d, r, ey, hWe⟩ := hy
  have f1 : FP.Core.fits b64 (.fin false c q) := ex ▸ val64_fits x
  have f2 : FP.Core.fits b64 (.fin false d r) := ey ▸ val64_fits y
  have eV : c * 2 ^ (q - b64.qmin).toNat = V := hV
  have eW : d * 2 ^ (r - b64.qmin).toNat = W := hWe
  have hd : 0 < d := Nat.pos_of_ne_zero fun z => by rw [z, Nat.zero_mul] at eW; omega
  show val64 (FP.Core.ddiv x y) = _
  rw [val64_ddiv, ex, ey]
  show (if d = 0 then _ else roundRatio b64 (false != false) c d (q - r)) = _
  rw [if_neg (by omega)]
  refine roundRatio_congr hd hW ?_
  have q1 := f1.2.1
  have q2 := f2.2.1
  rw [← eV, ← eW, Int.sub_zero, show (0 - (q - r)).toNat = (r - q).toNat by omega]
  have k : (r - b64.qmin).toNat + (q - r).toNat = (q - b64.qmin).toNat + (r - q).toNat := by omega
  calc c * (d * 2 ^ (r - b64.qmin).toNat) * 2 ^ (q - r).toNat = c * d * (2 ^ (r - b64.qmin).toNat * 2 ^ (q - r).toNat) := by ac_rfl
    _ = c * d * (2 ^ (q - b64.qmin).toNat * 2 ^ (r - q).toNat) := by rw [← Nat.pow_add, ← Nat.pow_add, k]
    _ = _ := by ac_rfl
theorem ddiv_num {x y : UInt64} {V W : Nat} (hx : Num x V) (hy : Num y W) (hW : 0 < W) (h : V ≤ W) : ∃ U, Num (FP.ddiv x y) U := by
  obtain ⟨c, q, e⟩ := Rd.fin hW h
  exact ⟨_, c, q, by rw [ddiv_rd hx hy hW, e], rfl⟩
theorem rd_le {x y : UInt64} {U U' A B A' B' : Nat} (hx : Num x U) (hy : Num y U') (ex : val64 x = Rd A B) (ey : val64 y = Rd A' B') (hB : 0 < B) (hB' : 0 < B') (h : A * B' ≤ A' * B) : U ≤ U' := by
  obtain ⟨c, q, e, rfl⟩ := hx
  obtain ⟨d, r, e', rfl⟩ := hy
  exact Rd.mono hB hB' h (ex ▸ e) (ey ▸ e')
theorem rd_eq {x y : UInt64} {U U' A B A' B' : Nat} (hx : Num x U) (hy : Num y U') (ex : val64 x = Rd A B) (ey : val64 y = Rd A' B') (hB : 0 < B) (hB' : 0 < B') (h : A * B' = A' * B) : U = U' :=
  Nat.le_antisymm (rd_le hx hy ex ey hB hB' (Nat.le_of_eq h)) (rd_le hy hx ey ex hB' hB (Nat.le_of_eq h.symm))
theorem lead_ge {A : Nat} (hA : 0 < A) : 0 ≤ leading A 1 := by
  have := (leading_spec hA (B := 1) (by decide)).2
  refine Int.not_lt.mp fun z => ?_
  unfold Below at this
  rw [show (leading A 1 + 1).toNat = 0 by omega] at this
  have p := Nat.two_pow_pos (-(leading A 1 + 1)).toNat
  have := Nat.mul_le_mul_left A p
  omega
theorem l2d_double {a b : Int64} {V W : Nat} (ha : 0 < a.toInt) (h : b.toInt = 2 * a.toInt) (hV : Num (FP.l2d a) V) (hW : Num (FP.l2d b) W) : W = 2 * V := by
  obtain ⟨c, q, e, rfl⟩ := hV
  obtain ⟨d, r, e', rfl⟩ := hW
  have f1 : FP.Core.fits b64 (.fin false c q) := e ▸ val64_fits _
  rw [l2d_rd (by omega)] at e e'
  rw [h, show (2 * a.toInt).toNat = a.toInt.toNat * 2 by omega] at e'
  have hA : 0 < a.toInt.toNat := by omega
  generalize a.toInt.toNat = A at *
  have hl := lead_ge hA
  have k1 : Rd (A * 2) 1 = roundRatio b64 false A 1 1 := roundRatio_congr (by decide) (by decide) (by rw [show ((0 : Int) - 1).toNat = 0 from rfl, show ((1 : Int) - 0).toNat = 1 from rfl]; omega)
  have q0 : quantum b64 A 1 0 = leading A 1 - 52 := by unfold quantum; rw [show b64.qmin = -1074 from rfl, show ((b64.p : Nat) : Int) = 53 from rfl]; omega
  have q1 : quantum b64 A 1 1 = leading A 1 - 52 + 1 := by unfold quantum; rw [show b64.qmin = -1074 from rfl, show ((b64.p : Nat) : Int) = 53 from rfl]; omega
  rw [k1] at e'
  unfold Rd at e
  unfold roundRatio roundAt at e e'
  rw [if_neg (by omega), q0] at e
  rw [if_neg (by omega), q1] at e'
  have u1 : unitsNum A 1 (leading A 1 - 52 + 1) = unitsNum A 0 (leading A 1 - 52) := by unfold unitsNum; congr 2; omega
  have u2 : unitsDen 1 1 (leading A 1 - 52 + 1) = unitsDen 1 0 (leading A 1 - 52) := by unfold unitsDen; congr 2; omega
  rw [u1, u2] at e'
  generalize nearest (unitsNum A 0 (leading A 1 - 52)) (unitsDen 1 0 (leading A 1 - 52)) = m at *
  have hl' : b64.qmin ≤ leading A 1 - 52 := by rw [show b64.qmin = -1074 from rfl]; omega
  unfold settle bound at e e'
  have z : ∀ (c : Nat) (q : Int), b64.qmin ≤ q → zmag b64 (.fin false c (q + 1)) = 2 * zmag b64 (.fin false c q) := fun c q hq => by
    show c * 2 ^ (q + 1 - b64.qmin).toNat = 2 * (c * 2 ^ (q - b64.qmin).toNat)
    rw [show (q + 1 - b64.qmin).toNat = (q - b64.qmin).toNat + 1 by omega, Nat.pow_succ]; ac_rfl
  split at e
  · rename_i hm
    rw [if_pos hm] at e'
    split at e
    · split at e'
      · injection e with _ e1 e2; injection e' with _ e3 e4
        subst e1 e2 e3 e4; exact z _ _ hl'
      · cases e'
    · cases e
  · rename_i hm
    rw [if_neg hm] at e'
    split at e
    · split at e'
      · injection e with _ e1 e2; injection e' with _ e3 e4
        subst e1 e2 e3 e4; exact z _ _ (by omega)
      · cases e'
    · cases e

theorem cmpN (a b : Int) : (a = b → compare a b = .eq) ∧ (a < b → compare a b = .lt) ∧ (b < a → compare a b = .gt) := ⟨(compare_eq_iff a b).mpr, (compare_lt_iff a b).mpr, (compare_gt_iff a b).mpr⟩
theorem cv_eq {x y : UInt64} {U W : Nat} {o : ClassFile.CmpOp} (hx : Num x U) (hy : Num y W) (h : U = W) : cmpValue (FP.dcmp x y) o = 0 := by
  rw [hx.cmp hy, (cmpN _ _).1 (by omega)]; rfl
theorem cv_ne {x y : UInt64} {U W : Nat} {o : ClassFile.CmpOp} (hx : Num x U) (hy : Num y W) (h : U ≠ W) : ¬ cmpValue (FP.dcmp x y) o = 0 := by
  rw [hx.cmp hy]
  rcases Nat.lt_or_gt_of_ne h with h | h
  · rw [(cmpN _ _).2.1 (by omega)]; exact (by decide : ¬ (-1 : Int32) = 0)
  · rw [(cmpN _ _).2.2 (by omega)]; exact (by decide : ¬ (1 : Int32) = 0)
theorem cv_le {x y : UInt64} {U W : Nat} {o : ClassFile.CmpOp} (hx : Num x U) (hy : Num y W) (h : U ≤ W) : ¬ (0 : Int32) < cmpValue (FP.dcmp x y) o := by
  rw [hx.cmp hy]
  rcases Nat.lt_or_eq_of_le h with h | h
  · rw [(cmpN _ _).2.1 (by omega)]; exact (by decide : ¬ (0 : Int32) < (-1 : Int32))
  · rw [(cmpN _ _).1 (by omega)]; exact (by decide : ¬ (0 : Int32) < (0 : Int32))
theorem cv_ge {x y : UInt64} {U W : Nat} {o : ClassFile.CmpOp} (hx : Num x U) (hy : Num y W) (h : W ≤ U) : ¬ cmpValue (FP.dcmp x y) o < (0 : Int32) := by
  rw [hx.cmp hy]
  rcases Nat.lt_or_eq_of_le h with h | h
  · rw [(cmpN _ _).2.2 (by omega)]; exact (by decide : ¬ (1 : Int32) < (0 : Int32))
  · rw [(cmpN _ _).1 (by omega)]; exact (by decide : ¬ (0 : Int32) < (0 : Int32))
/-- what precision() and recall() hand back: part t of the whole f -/
def Part (t f : Int64) (d : UInt64) : Prop := (f = 0 → d = 0) ∧ (¬ f = 0 → d = FP.ddiv (FP.l2d t) (FP.l2d f))
theorem part_nn {t f : Int64} (h : f = 0 ∨ 0 ≤ t.toInt ∧ t.toInt ≤ f.toInt) (hf : ¬ f = 0) : FP.ddiv (FP.l2d t) (FP.l2d f) &&& 0x7fffffffffffffff ≤ 0x7ff0000000000000 := by
  rcases h with h | h
  · exact absurd h hf
  · have hf0 : f.toInt ≠ 0 := fun z => hf (Int64.toInt_inj.mp z)
    obtain ⟨V, hV, -, -⟩ := l2d_num h.1
    obtain ⟨W, hW, -, hp⟩ := l2d_num (a := f) (by omega)
    obtain ⟨U, hU⟩ := ddiv_num hV hW (hp (by omega)) (l2d_mono h.1 h.2 hV hW)
    exact hU.noNaN
/-- the part as a rounded ratio -/
theorem part_rd {t f : Int64} {d : UInt64} (hd : Part t f d) (h0 : 0 ≤ t.toInt) (h : t.toInt ≤ f.toInt) (hf : ¬ f = 0) :
    ∃ U V W, Num d U ∧ Num (FP.l2d t) V ∧ Num (FP.l2d f) W ∧ 0 < W ∧ V ≤ W ∧ val64 d = Rd V W ∧ (t.toInt = 0 → V = 0) ∧ (0 < t.toInt → 0 < V) := by
  have hf0 : f.toInt ≠ 0 := fun z => hf (Int64.toInt_inj.mp z)
  obtain ⟨V, hV, z1, z2⟩ := l2d_num h0
  obtain ⟨W, hW, -, hp⟩ := l2d_num (a := f) (by omega)
  obtain ⟨U, hU⟩ := ddiv_num hV hW (hp (by omega)) (l2d_mono h0 h hV hW)
  have e := hd.2 hf
  subst e
  exact ⟨U, V, W, hU, hV, hW, hp (by omega), l2d_mono h0 h hV hW, ddiv_rd hV hW (hp (by omega)), z1, z2⟩
theorem rd_one : val64 0x3ff0000000000000 = Rd 1 1 := by rw [Rd.one]; exact val64_dconst1
theorem rd_half : val64 0x3fe0000000000000 = Rd 1 2 := by rw [Rd.half]; decide +kernel
theorem rd_zero : val64 0 = Rd 0 1 := by rw [Rd.zero]; exact val64_zero
theorem part_bounds {t f : Int64} {d : UInt64} (hd : Part t f d) (h0 : 0 ≤ t.toInt) (h : t.toInt ≤ f.toInt) (hf : ¬ f = 0) :
    ∃ U, Num d U ∧ U ≤ Vone ∧ (t.toInt = 0 → U = 0) ∧ (t.toInt = f.toInt → U = Vone) := by
  obtain ⟨U, V, W, hU, hV, hW, hp, hle, e, z1, -⟩ := part_rd hd h0 h hf
  refine ⟨U, hU, rd_le hU num1 e rd_one hp (by decide) (by omega), fun z => rd_eq hU num0 e rd_zero hp (by decide) (by rw [z1 z]; omega), fun z => rd_eq hU num1 e rd_one hp (by decide) ?_⟩
  have k : t = f := Int64.toInt_inj.mp z
  subst k
  have := Nat.le_antisymm (l2d_mono h0 (Int.le_refl _) hV hW) (l2d_mono h0 (Int.le_refl _) hW hV)
  omega
theorem part_mono {t t' f : Int64} {d d' : UInt64} {U U' : Nat} (hd : Part t f d) (hd' : Part t' f d') (h0 : 0 ≤ t.toInt) (h1 : t.toInt ≤ t'.toInt) (h : t'.toInt ≤ f.toInt) (hf : ¬ f = 0) (hU : Num d U) (hU' : Num d' U') : U ≤ U' := by
  obtain ⟨_, V, W, _, hV, hW, hp, -, e, -, -⟩ := part_rd hd h0 (Int.le_trans h1 h) hf
  obtain ⟨_, V', W', _, hV', hW', hp', -, e', -, -⟩ := part_rd hd' (Int.le_trans h0 h1) h hf
  have k : W = W' := Nat.le_antisymm (l2d_mono (by omega) (Int.le_refl _) hW hW') (l2d_mono (by omega) (Int.le_refl _) hW' hW)
  subst k
  exact rd_le hU hU' e e' hp hp (Nat.mul_le_mul_right _ (l2d_mono h0 h1 hV hV'))
theorem part_half {h f : Int64} {d : UInt64} (hd : Part h f d) (h0 : 0 < h.toInt) (h2 : f.toInt = 2 * h.toInt) : Num d Vhalf := by
  have hf : ¬ f = 0 := fun z => by rw [z] at h2; have : (0 : Int64).toInt = 0 := rfl; omega
  obtain ⟨U, V, W, hU, hV, hW, hp, hle, e, -, z2⟩ := part_rd hd (by omega) (by omega) hf
  have k := l2d_double h0 h2 hV hW
  have : U = Vhalf := rd_eq hU numH e rd_half hp (by decide) (by omega)
  exact this ▸ hU
theorem part_zero {t : Int64} {d : UInt64} (hd : Part t 0 d) : Num d 0 := by rw [hd.1 rfl]; exact num0
/-- law m1's arithmetic -/
theorem mx (x : Int64) : 0 ≤ (x &&& (9223372036854775807 : Int64)).toInt := (c_andSL x 9223372036854775807).2.2 (by decide)
theorem nz1 (f : Int64) : ¬ (f &&& (9223372036854775807 : Int64)) + (1 : Int64) = 0 := by
  have h := mx f
  have a := c_ladd (f &&& (9223372036854775807 : Int64)) 1
  have e : (1 : Int64).toInt = 1 := rfl
  have r := rng64 (f &&& (9223372036854775807 : Int64))
  intro z
  rw [z] at a
  have : (0 : Int64).toInt = 0 := rfl
  omega
theorem rm1 (t f : Int64) : 0 ≤ ((t &&& (9223372036854775807 : Int64)) % ((f &&& (9223372036854775807 : Int64)) + (1 : Int64))).toInt ∧ ((t &&& (9223372036854775807 : Int64)) % ((f &&& (9223372036854775807 : Int64)) + (1 : Int64))).toInt ≤ (f &&& (9223372036854775807 : Int64)).toInt := by
  have h := mx f
  have ht := mx t
  have rt := rng64 (t &&& (9223372036854775807 : Int64))
  generalize t &&& (9223372036854775807 : Int64) = x at *
  generalize f &&& (9223372036854775807 : Int64) = y at *
  have a := c_ladd y 1
  have e : (1 : Int64).toInt = 1 := rfl
  have r := rng64 y
  have r2 := rng64 (y + 1)
  rw [Int64.toInt_mod, Int.tmod_eq_emod_of_nonneg ht]
  generalize (y + 1).toInt = m at *
  by_cases hm : 0 < m
  · have := Int.emod_nonneg x.toInt (b := m) (by omega)
    have := Int.emod_lt_of_pos x.toInt hm
    omega
  · have k : m = -9223372036854775808 := by omega
    subst k
    rw [Int.emod_neg, Int.emod_eq_of_lt ht (by omega)]
    omega
theorem and_le {x m : Int64} (hm : 0 ≤ m.toInt) : 0 ≤ (x &&& m).toInt ∧ (x &&& m).toInt ≤ m.toInt := by
  have h0 := (c_andSL x m).2.2 hm
  refine ⟨h0, ?_⟩
  have e : (x &&& m).toBitVec.toNat ≤ m.toBitVec.toNat := by rw [Int64.toBitVec_and, BitVec.toNat_and]; exact Nat.and_le_right
  have k : ∀ z : Int64, 0 ≤ z.toInt → z.toInt = (z.toBitVec.toNat : Int) := fun z hz => by
    have q : z.toInt = z.toBitVec.toInt := rfl
    rw [q, BitVec.toInt_eq_toNat_cond] at hz ⊢
    have := z.toBitVec.isLt
    split
    · rfl
    · rename_i hh; rw [if_neg hh] at hz; omega
  rw [k _ h0, k _ hm]
  omega
theorem hh1 (k : Int64) : 0 < ((k &&& (4611686018427387902 : Int64)) + (1 : Int64)).toInt ∧ ((2 : Int64) * ((k &&& (4611686018427387902 : Int64)) + (1 : Int64))).toInt = 2 * ((k &&& (4611686018427387902 : Int64)) + (1 : Int64)).toInt := by
  obtain ⟨h0, h1⟩ := and_le (x := k) (m := 4611686018427387902) (by decide)
  generalize k &&& (4611686018427387902 : Int64) = x at *
  have e : (1 : Int64).toInt = 1 := rfl
  have e2 : (2 : Int64).toInt = 2 := rfl
  have em : (4611686018427387902 : Int64).toInt = 4611686018427387902 := rfl
  have a := c_ladd x 1
  have r := rng64 (x + 1)
  have m := c_lmul 2 (x + 1)
  have r2 := rng64 (2 * (x + 1))
  rw [e2] at m
  omega
theorem mnmx (a b : Int64) : (if b < a then b else a).toInt ≤ (if a < b then b else a).toInt ∧ ((if b < a then b else a) = a ∨ (if b < a then b else a) = b) ∧ ((if a < b then b else a) = a ∨ (if a < b then b else a) = b) := by
  refine ⟨?_, by split; exact Or.inr rfl; exact Or.inl rfl, by split; exact Or.inr rfl; exact Or.inl rfl⟩
  by_cases h : a < b
  · rw [if_pos h]; rw [Int64.lt_iff_toInt_lt] at h; split <;> omega
  · rw [if_neg h]; split
    · rename_i g; rw [Int64.lt_iff_toInt_lt] at g; omega
    · omega
theorem law_m1 {lo hi fp h f2 : Int64} {p0 pL pH pX : UInt64} (h0 : 0 ≤ lo.toInt) (h1 : lo.toInt ≤ hi.toInt) (h2 : hi.toInt ≤ fp.toInt) (hh : 0 < h.toInt) (hf2 : f2.toInt = 2 * h.toInt) (d0 : Part 0 0 p0) (dL : Part lo fp pL) (dH : Part hi fp pH) (dX : Part h f2 pX) :
    cmpValue (FP.dcmp p0 0) .l = (0 : Int32) ∧ cmpValue (FP.dcmp pX 4602678819172646912) .l = (0 : Int32) ∧ (fp = 0 → cmpValue (FP.dcmp pL 0) .l = (0 : Int32) ∧ cmpValue (FP.dcmp pH 0) .l = (0 : Int32)) ∧
    (¬ fp = 0 → ¬ (0 : Int32) < cmpValue (FP.dcmp 0 pL) .g ∧ ¬ (0 : Int32) < cmpValue (FP.dcmp pL pH) .g ∧ ¬ (0 : Int32) < cmpValue (FP.dcmp pH 4607182418800017408) .g ∧ (lo = 0 → cmpValue (FP.dcmp pL 0) .l = (0 : Int32)) ∧ (hi = fp → cmpValue (FP.dcmp pH 4607182418800017408) .l = (0 : Int32))) := by
  refine ⟨cv_eq (part_zero d0) num0 rfl, cv_eq (part_half dX hh hf2) numH rfl, fun z => ?_, fun z => ?_⟩
  · subst z; exact ⟨cv_eq (part_zero dL) num0 rfl, cv_eq (part_zero dH) num0 rfl⟩
  · obtain ⟨U, hU, u1, u2, -⟩ := part_bounds dL h0 (Int.le_trans h1 h2) z
    obtain ⟨W, hW, w1, -, w3⟩ := part_bounds dH (Int.le_trans h0 h1) h2 z
    exact ⟨cv_le num0 hU (Nat.zero_le _), cv_le hU hW (part_mono dL dH h0 h1 h2 z hU hW), cv_le hW num1 w1, fun q => cv_eq hU num0 (u2 (by rw [q]; rfl)), fun q => cv_eq hW num1 (w3 (by rw [q]))⟩
/-- law m2's arithmetic -/
theorem part_pos {t f : Int64} {d : UInt64} {U : Nat} (hd : Part t f d) (h0 : 0 < t.toInt) (h : t.toInt ≤ f.toInt) (hf : f.toInt < 2 ^ 40) (hU : Num d U) : 0 < U := by
  have hf0 : ¬ f = 0 := fun z => by rw [z] at h; have : (0 : Int64).toInt = 0 := rfl; omega
  obtain ⟨_, V, W, _, hV, hW, hp, -, e, -, -⟩ := part_rd hd (by omega) h hf0
  have eV := l2d_whole (by omega) (by omega) hV
  have eW := l2d_whole (by omega) (by omega) hW
  have ev : val64 0x3d70000000000000 = Rd 1 (2 ^ 40) := by decide +kernel
  have nv : Num 0x3d70000000000000 (zmag b64 (.fin false (2 ^ 52) (-92))) := ⟨2 ^ 52, -92, by decide +kernel, rfl⟩
  have := rd_le nv hU ev e (by decide) hp (by rw [eV, eW, Nat.one_mul, Nat.mul_right_comm]; exact Nat.mul_le_mul_right _ (by omega))
  exact Nat.lt_of_lt_of_le (by decide +kernel) this
theorem part_lt {t f : Int64} {d : UInt64} {U : Nat} (hd : Part t f d) (h0 : 0 ≤ t.toInt) (h : t.toInt < f.toInt) (hf : f.toInt < 2 ^ 40) (hU : Num d U) : U < Vone := by
  have hf0 : ¬ f = 0 := fun z => by rw [z] at h; have : (0 : Int64).toInt = 0 := rfl; omega
  obtain ⟨_, V, W, _, hV, hW, hp, -, e, -, -⟩ := part_rd hd h0 (by omega) hf0
  have eV := l2d_whole (by omega) (by omega) hV
  have eW := l2d_whole (by omega) (by omega) hW
  have ev : val64 0x3fefffffffffe000 = Rd (2 ^ 40 - 1) (2 ^ 40) := by decide +kernel
  have nv : Num 0x3fefffffffffe000 (zmag b64 (.fin false (2 ^ 53 - 2 ^ 13) (-53))) := ⟨2 ^ 53 - 2 ^ 13, -53, by decide +kernel, rfl⟩
  have := rd_le hU nv e ev hp (by decide) (by rw [eV, eW, Nat.mul_right_comm, ← Nat.mul_assoc]; exact Nat.mul_le_mul_right _ (by omega))
  exact Nat.lt_of_le_of_lt this (by decide +kernel)
theorem part_scale {t f t' f' : Int64} {d d' : UInt64} {k : Nat} {U U' : Nat} (hd : Part t f d) (hd' : Part t' f' d') (h0 : 0 ≤ t.toInt) (h : t.toInt ≤ f.toInt) (hf0 : ¬ f = 0) (hk : 0 < k) (et : t'.toInt = k * t.toInt) (ef : f'.toInt = k * f.toInt) (hb : f'.toInt ≤ 2 ^ 53) (hU : Num d U) (hU' : Num d' U') : U' = U := by
  have hf1 : f.toInt ≠ 0 := fun z => hf0 (Int64.toInt_inj.mp z)
  have p1 : (k : Int) * t.toInt ≤ k * f.toInt := Int.mul_le_mul_of_nonneg_left h (by omega)
  have p2 : (0 : Int) ≤ k * t.toInt := Int.mul_nonneg (by omega) h0
  have p3 : (1 : Int) * f.toInt ≤ k * f.toInt := Int.mul_le_mul_of_nonneg_right (by omega) (by omega)
  obtain ⟨_, V, W, _, hV, hW, hp, -, e, -, -⟩ := part_rd hd h0 h hf0
  obtain ⟨_, V', W', _, hV', hW', hp', -, e', -, -⟩ := part_rd hd' (by omega) (by omega) (fun z => by rw [z] at ef; have : (0 : Int64).toInt = 0 := rfl; omega)
  have eV := l2d_whole (by omega) (by omega) hV
  have eW := l2d_whole (by omega) (by omega) hW
  have eV' := l2d_whole (by omega) (by omega) hV'
  have eW' := l2d_whole (by omega) hb hW'
  have n1 : t'.toInt.toNat = k * t.toInt.toNat := by
    have : ((k * t.toInt.toNat : Nat) : Int) = k * t.toInt := by rw [Int.natCast_mul, Int.toNat_of_nonneg h0]
    omega
  have n2 : f'.toInt.toNat = k * f.toInt.toNat := by
    have : ((k * f.toInt.toNat : Nat) : Int) = k * f.toInt := by rw [Int.natCast_mul, Int.toNat_of_nonneg (by omega)]
    omega
  exact rd_eq hU' hU e' e hp' hp (by rw [eV, eW, eV', eW', n1, n2]; generalize one64 = P; generalize t.toInt.toNat = a; generalize f.toInt.toNat = b; ac_rfl)
theorem law_m2 {g lo hi h g2 kg kl : Int64} {k : Nat} {t0 : Int64} {ra rb rc rh rz : UInt64} (hg : g.toInt < 2 ^ 40) (h0 : 0 ≤ lo.toInt) (h1 : lo.toInt ≤ hi.toInt) (h2 : hi.toInt ≤ g.toInt) (hh : 0 < h.toInt) (hg2 : g2.toInt = 2 * h.toInt) (hk : 0 < k) (hk2 : k ≤ 4096) (ekg : kg.toInt = k * g.toInt) (ekl : kl.toInt = k * lo.toInt)
    (da : Part lo g ra) (db : Part hi g rb) (dc : Part kl kg rc) (dh : Part h g2 rh) (dz : Part t0 0 rz) :
    cmpValue (FP.dcmp rz 0) .l = (0 : Int32) ∧ cmpValue (FP.dcmp rh 4602678819172646912) .l = (0 : Int32) ∧ (g = 0 → cmpValue (FP.dcmp ra 0) .l = (0 : Int32) ∧ cmpValue (FP.dcmp rb 0) .l = (0 : Int32) ∧ cmpValue (FP.dcmp rc 0) .l = (0 : Int32)) ∧
    (¬ g = 0 → ¬ cmpValue (FP.dcmp ra 0) .l < (0 : Int32) ∧ ¬ (0 : Int32) < cmpValue (FP.dcmp rb 4607182418800017408) .g ∧ ¬ (0 : Int32) < cmpValue (FP.dcmp ra rb) .g ∧ (cmpValue (FP.dcmp ra 0) .l = (0 : Int32) ↔ lo = 0) ∧ (cmpValue (FP.dcmp rb 4607182418800017408) .l = (0 : Int32) ↔ hi = g) ∧ cmpValue (FP.dcmp rc ra) .l = (0 : Int32)) := by
  refine ⟨cv_eq (part_zero dz) num0 rfl, cv_eq (part_half dh hh hg2) numH rfl, fun z => ?_, fun z => ?_⟩
  · subst z
    have e0 : (0 : Int64).toInt = 0 := rfl
    have : kg = 0 := Int64.toInt_inj.mp (by rw [ekg, e0]; omega)
    subst this
    exact ⟨cv_eq (part_zero da) num0 rfl, cv_eq (part_zero db) num0 rfl, cv_eq (part_zero dc) num0 rfl⟩
  · have g1 : g.toInt ≠ 0 := fun q => z (Int64.toInt_inj.mp q)
    have e0 : (0 : Int64).toInt = 0 := rfl
    have p1 : (k : Int) * lo.toInt ≤ k * g.toInt := Int.mul_le_mul_of_nonneg_left (by omega) (by omega)
    have p2 : (0 : Int) ≤ k * lo.toInt := Int.mul_nonneg (by omega) h0
    have p3 : (1 : Int) * g.toInt ≤ k * g.toInt := Int.mul_le_mul_of_nonneg_right (by omega) (by omega)
    have p4 : (k : Int) * g.toInt ≤ 4096 * g.toInt := Int.mul_le_mul_of_nonneg_right (by omega) (by omega)
    obtain ⟨U, hU, u1, u2, -⟩ := part_bounds da h0 (Int.le_trans h1 h2) z
    obtain ⟨W, hW, w1, -, w3⟩ := part_bounds db (Int.le_trans h0 h1) h2 z
    obtain ⟨X, hX, -, -, -⟩ := part_bounds dc (by omega) (by omega) (fun q => by rw [q] at ekg; omega)
    refine ⟨cv_ge hU num0 (Nat.zero_le _), cv_le hW num1 w1, cv_le hU hW (part_mono da db h0 h1 h2 z hU hW), ⟨fun q => ?_, fun q => cv_eq hU num0 (u2 (by rw [q]; rfl))⟩, ⟨fun q => ?_, fun q => cv_eq hW num1 (w3 (by rw [q]))⟩, cv_eq hX hU (part_scale da dc h0 (by omega) z hk ekl ekg (by omega) hU hX)⟩
    · by_cases hl : lo.toInt = 0
      · exact Int64.toInt_inj.mp hl
      · exact absurd q (cv_ne hU num0 (Nat.ne_of_gt (part_pos da (by omega) (by omega) hg hU)))
    · by_cases hl : hi.toInt = g.toInt
      · exact Int64.toInt_inj.mp hl
      · exact absurd q (cv_ne hW num1 (Nat.ne_of_lt (part_lt db (by omega) (by omega) hg hW)))
theorem ar_m2 (g0 : Int64) :
    let g := g0 &&& (1099511627775 : Int64)
    0 ≤ g.toInt ∧ g.toInt < 2 ^ 40 ∧ ¬ g + (1 : Int64) = 0 ∧ ∀ t : Int64, 0 ≤ ((t &&& (9223372036854775807 : Int64)) % (g + (1 : Int64))).toInt ∧ ((t &&& (9223372036854775807 : Int64)) % (g + (1 : Int64))).toInt ≤ g.toInt := by
  intro g
  have e : g.toInt = g0.toInt % 1099511627776 := c_maskL g0 1099511627775 40 (by decide) (by decide)
  have a := c_ladd g 1
  have e1 : (1 : Int64).toInt = 1 := rfl
  have r := rng64 (g + 1)
  have e3 : (g + 1).toInt = g.toInt + 1 := by omega
  refine ⟨by omega, by omega, fun z => by rw [z] at e3; have : (0 : Int64).toInt = 0 := rfl; omega, fun t => ?_⟩
  rw [Int64.toInt_mod, Int.tmod_eq_emod_of_nonneg (mx t), e3]
  have := Int.emod_nonneg (t &&& (9223372036854775807 : Int64)).toInt (b := g.toInt + 1) (by omega)
  have := Int.emod_lt_of_pos (t &&& (9223372036854775807 : Int64)).toInt (b := g.toInt + 1) (by omega)
  omega
theorem ak_m2 (k0 : Int32) : ∃ k : Nat, 0 < k ∧ k ≤ 4096 ∧ ((k0 &&& (4095 : Int32)) + (1 : Int32)).toInt64.toInt = k := by
  have e : (k0 &&& (4095 : Int32)).toInt = k0.toInt % 4096 := c_mask k0 4095 12 (by decide) (by decide)
  have a := c_iadd (k0 &&& (4095 : Int32)) 1
  have e1 : (1 : Int32).toInt = 1 := rfl
  have r := rng32 ((k0 &&& (4095 : Int32)) + 1)
  rw [Int32.toInt_toInt64]
  exact ⟨((k0 &&& (4095 : Int32)) + (1 : Int32)).toInt.toNat, by omega, by omega, by omega⟩
theorem mul_m2 {x y : Int64} {k : Nat} (hx : x.toInt = k) (hk : k ≤ 4096) (h0 : 0 ≤ y.toInt) (h : y.toInt ≤ 2 ^ 40) : (x * y).toInt = k * y.toInt := by
  have m := c_lmul x y
  have r := rng64 (x * y)
  rw [hx] at m
  have p4 : (k : Int) * y.toInt ≤ 4096 * y.toInt := Int.mul_le_mul_of_nonneg_right (by omega) (by omega)
  have p2 : (0 : Int) ≤ k * y.toInt := Int.mul_nonneg (by omega) h0
  omega
theorem h_m2 {hi : Int64} (h0 : 0 ≤ hi.toInt) (h : hi.toInt < 2 ^ 40) : 0 < (hi + (1 : Int64)).toInt ∧ ((2 : Int64) * (hi + (1 : Int64))).toInt = 2 * (hi + (1 : Int64)).toInt := by
  have a := c_ladd hi 1
  have e : (1 : Int64).toInt = 1 := rfl
  have r := rng64 (hi + 1)
  have m := c_lmul 2 (hi + 1)
  have e2 : (2 : Int64).toInt = 2 := rfl
  rw [e2] at m
  have r2 := rng64 (2 * (hi + 1))
  omega
end Jvm.OwnFl
namespace Jvm.Pilot.@@N@@
open Jvm Jvm.ClassFile Sem Op Lib Jvm.Free Jvm.Stand Jvm.LawKit Jvm.RoadKit Bundle Jvm.OwnW Jvm.Pilot.@@N@@.Jvm.D
open Jvm.OwnFl
theorem w_0 {Z : State} {a0 : Array Value} (hw : ∀ d ∈ tables_1, d.before a0 Z = true) : (Jvm.Cond.constantLong "com/example/knotwork/knotwork/evaluation/PairwiseScorePrecisionPinLaw" (9 : Nat) (9223372036854775807 : Int64)).before a0 Z = true := hw _ (List.mem_of_getElem? (i := 0) rfl)
theorem w_1 {Z : State} {a0 : Array Value} (hw : ∀ d ∈ tables_1, d.before a0 Z = true) : (Jvm.Cond.methodLink "com/example/knotwork/knotwork/evaluation/PairwiseScorePrecisionPinLaw" (11 : Nat) ({ cls := "java/lang/Math", name := "min", desc := "(JJ)J" } : Jvm.MethodName)).before a0 Z = true := hw _ (List.mem_of_getElem? (i := 1) rfl)
theorem w_2 {Z : State} {a0 : Array Value} (hw : ∀ d ∈ tables_1, d.before a0 Z = true) : (Jvm.Cond.static ({ cls := "java/lang/Math", name := "min", desc := "(JJ)J" } : Jvm.MethodName)).before a0 Z = true := hw _ (List.mem_of_getElem? (i := 2) rfl)
theorem w_3 {Z : State} {a0 : Array Value} (hw : ∀ d ∈ tables_1, d.before a0 Z = true) : (Jvm.Cond.initialized "java/lang/Math").before a0 Z = true := hw _ (List.mem_of_getElem? (i := 3) rfl)
theorem w_4 {Z : State} {a0 : Array Value} (hw : ∀ d ∈ tables_1, d.before a0 Z = true) : (Jvm.Cond.code ({ cls := "java/lang/Math", name := "min", desc := "(JJ)J" } : Jvm.MethodName) jdk_29_method_70_code (4 : Nat) (Option.some Jvm.ClassFile.FieldType.long)).before a0 Z = true := hw _ (List.mem_of_getElem? (i := 4) rfl)
theorem w_5 {Z : State} {a0 : Array Value} (hw : ∀ d ∈ tables_1, d.before a0 Z = true) : (Jvm.Cond.methodLink "com/example/knotwork/knotwork/evaluation/PairwiseScorePrecisionPinLaw" (17 : Nat) ({ cls := "java/lang/Math", name := "max", desc := "(JJ)J" } : Jvm.MethodName)).before a0 Z = true := hw _ (List.mem_of_getElem? (i := 5) rfl)
theorem w_6 {Z : State} {a0 : Array Value} (hw : ∀ d ∈ tables_1, d.before a0 Z = true) : (Jvm.Cond.static ({ cls := "java/lang/Math", name := "max", desc := "(JJ)J" } : Jvm.MethodName)).before a0 Z = true := hw _ (List.mem_of_getElem? (i := 6) rfl)
theorem w_7 {Z : State} {a0 : Array Value} (hw : ∀ d ∈ tables_1, d.before a0 Z = true) : (Jvm.Cond.code ({ cls := "java/lang/Math", name := "max", desc := "(JJ)J" } : Jvm.MethodName) jdk_29_method_66_code (4 : Nat) (Option.some Jvm.ClassFile.FieldType.long)).before a0 Z = true := hw _ (List.mem_of_getElem? (i := 7) rfl)
theorem w_8 {Z : State} {a0 : Array Value} (hw : ∀ d ∈ tables_1, d.before a0 Z = true) : (Jvm.Cond.constantLong "com/example/knotwork/knotwork/evaluation/PairwiseScorePrecisionPinLaw" (20 : Nat) (4611686018427387902 : Int64)).before a0 Z = true := hw _ (List.mem_of_getElem? (i := 8) rfl)
theorem w_9 {Z : State} {a0 : Array Value} (hw : ∀ d ∈ tables_1, d.before a0 Z = true) : (Jvm.Cond.classLink "com/example/knotwork/knotwork/evaluation/PairwiseScorePrecisionPinLaw" (22 : Nat) "com/example/knotwork/knotwork/evaluation/PairwiseScore").before a0 Z = true := hw _ (List.mem_of_getElem? (i := 9) rfl)
theorem w_10 {Z : State} {a0 : Array Value} (hw : ∀ d ∈ tables_1, d.before a0 Z = true) : (Jvm.Cond.instantiable "com/example/knotwork/knotwork/evaluation/PairwiseScore" (4 : Nat)).before a0 Z = true := hw _ (List.mem_of_getElem? (i := 10) rfl)
theorem w_11 {Z : State} {a0 : Array Value} (hw : ∀ d ∈ tables_1, d.before a0 Z = true) : (Jvm.Cond.initialized "com/example/knotwork/knotwork/evaluation/PairwiseScore").before a0 Z = true := hw _ (List.mem_of_getElem? (i := 11) rfl)
theorem w_12 {Z : State} {a0 : Array Value} (hw : ∀ d ∈ tables_1, d.before a0 Z = true) : (Jvm.Cond.methodLink "com/example/knotwork/knotwork/evaluation/PairwiseScorePrecisionPinLaw" (24 : Nat) ({ cls := "com/example/knotwork/knotwork/evaluation/PairwiseScore", name := "<init>", desc := "(JJJJ)V" } : Jvm.MethodName)).before a0 Z = true := hw _ (List.mem_of_getElem? (i := 12) rfl)
theorem w_13 {Z : State} {a0 : Array Value} (hw : ∀ d ∈ tables_1, d.before a0 Z = true) : (Jvm.Cond.instanceMethod ({ cls := "com/example/knotwork/knotwork/evaluation/PairwiseScore", name := "<init>", desc := "(JJJJ)V" } : Jvm.MethodName)).before a0 Z = true := hw _ (List.mem_of_getElem? (i := 13) rfl)
theorem w_14 {Z : State} {a0 : Array Value} (hw : ∀ d ∈ tables_1, d.before a0 Z = true) : (Jvm.Cond.code ({ cls := "com/example/knotwork/knotwork/evaluation/PairwiseScore", name := "<init>", desc := "(JJJJ)V" } : Jvm.MethodName) prog_11_method_1_code (9 : Nat) (Option.none : Option Jvm.ClassFile.FieldType)).before a0 Z = true := hw _ (List.mem_of_getElem? (i := 14) rfl)
theorem w_15 {Z : State} {a0 : Array Value} (hw : ∀ d ∈ tables_1, d.before a0 Z = true) : (Jvm.Cond.methodLink "com/example/knotwork/knotwork/evaluation/PairwiseScore" (1 : Nat) ({ cls := "java/lang/Record", name := "<init>", desc := "()V" } : Jvm.MethodName)).before a0 Z = true := hw _ (List.mem_of_getElem? (i := 15) rfl)
theorem w_16 {Z : State} {a0 : Array Value} (hw : ∀ d ∈ tables_1, d.before a0 Z = true) : (Jvm.Cond.instanceMethod ({ cls := "java/lang/Record", name := "<init>", desc := "()V" } : Jvm.MethodName)).before a0 Z = true := hw _ (List.mem_of_getElem? (i := 16) rfl)
theorem w_18 {Z : State} {a0 : Array Value} (hw : ∀ d ∈ tables_1, d.before a0 Z = true) : (Jvm.Cond.initialized "java/lang/Record").before a0 Z = true := hw _ (List.mem_of_getElem? (i := 18) rfl)
theorem w_19 {Z : State} {a0 : Array Value} (hw : ∀ d ∈ tables_1, d.before a0 Z = true) : (Jvm.Cond.code ({ cls := "java/lang/Record", name := "<init>", desc := "()V" } : Jvm.MethodName) jdk_30_method_1_code (1 : Nat) (Option.none : Option Jvm.ClassFile.FieldType)).before a0 Z = true := hw _ (List.mem_of_getElem? (i := 19) rfl)
theorem w_20 {Z : State} {a0 : Array Value} (hw : ∀ d ∈ tables_1, d.before a0 Z = true) : (Jvm.Cond.methodLink "java/lang/Record" (1 : Nat) ({ cls := "java/lang/Object", name := "<init>", desc := "()V" } : Jvm.MethodName)).before a0 Z = true := hw _ (List.mem_of_getElem? (i := 20) rfl)
theorem w_21 {Z : State} {a0 : Array Value} (hw : ∀ d ∈ tables_1, d.before a0 Z = true) : (Jvm.Cond.instanceMethod ({ cls := "java/lang/Object", name := "<init>", desc := "()V" } : Jvm.MethodName)).before a0 Z = true := hw _ (List.mem_of_getElem? (i := 21) rfl)
theorem w_22 {Z : State} {a0 : Array Value} (hw : ∀ d ∈ tables_1, d.before a0 Z = true) : (Jvm.Cond.code ({ cls := "java/lang/Object", name := "<init>", desc := "()V" } : Jvm.MethodName) object_method_1_code (1 : Nat) (Option.none : Option Jvm.ClassFile.FieldType)).before a0 Z = true := hw _ (List.mem_of_getElem? (i := 22) rfl)
theorem w_23 {Z : State} {a0 : Array Value} (hw : ∀ d ∈ tables_1, d.before a0 Z = true) : (Jvm.Cond.fieldLink "com/example/knotwork/knotwork/evaluation/PairwiseScore" (7 : Nat) "com/example/knotwork/knotwork/evaluation/PairwiseScore" "goldPairs" "J").before a0 Z = true := hw _ (List.mem_of_getElem? (i := 23) rfl)
theorem w_24 {Z : State} {a0 : Array Value} (hw : ∀ d ∈ tables_1, d.before a0 Z = true) : (Jvm.Cond.laysFinal "com/example/knotwork/knotwork/evaluation/PairwiseScore" "com/example/knotwork/knotwork/evaluation/PairwiseScore" "goldPairs" "J").before a0 Z = true := hw _ (List.mem_of_getElem? (i := 24) rfl)
theorem w_25 {Z : State} {a0 : Array Value} (hw : ∀ d ∈ tables_1, d.before a0 Z = true) : (Jvm.Cond.fieldLink "com/example/knotwork/knotwork/evaluation/PairwiseScore" (13 : Nat) "com/example/knotwork/knotwork/evaluation/PairwiseScore" "foundPairs" "J").before a0 Z = true := hw _ (List.mem_of_getElem? (i := 25) rfl)
theorem w_26 {Z : State} {a0 : Array Value} (hw : ∀ d ∈ tables_1, d.before a0 Z = true) : (Jvm.Cond.laysFinal "com/example/knotwork/knotwork/evaluation/PairwiseScore" "com/example/knotwork/knotwork/evaluation/PairwiseScore" "foundPairs" "J").before a0 Z = true := hw _ (List.mem_of_getElem? (i := 26) rfl)
theorem w_27 {Z : State} {a0 : Array Value} (hw : ∀ d ∈ tables_1, d.before a0 Z = true) : (Jvm.Cond.fieldLink "com/example/knotwork/knotwork/evaluation/PairwiseScore" (16 : Nat) "com/example/knotwork/knotwork/evaluation/PairwiseScore" "truePairs" "J").before a0 Z = true := hw _ (List.mem_of_getElem? (i := 27) rfl)
theorem w_28 {Z : State} {a0 : Array Value} (hw : ∀ d ∈ tables_1, d.before a0 Z = true) : (Jvm.Cond.laysFinal "com/example/knotwork/knotwork/evaluation/PairwiseScore" "com/example/knotwork/knotwork/evaluation/PairwiseScore" "truePairs" "J").before a0 Z = true := hw _ (List.mem_of_getElem? (i := 28) rfl)
theorem w_29 {Z : State} {a0 : Array Value} (hw : ∀ d ∈ tables_1, d.before a0 Z = true) : (Jvm.Cond.fieldLink "com/example/knotwork/knotwork/evaluation/PairwiseScore" (19 : Nat) "com/example/knotwork/knotwork/evaluation/PairwiseScore" "unmatchedGold" "J").before a0 Z = true := hw _ (List.mem_of_getElem? (i := 29) rfl)
theorem w_30 {Z : State} {a0 : Array Value} (hw : ∀ d ∈ tables_1, d.before a0 Z = true) : (Jvm.Cond.laysFinal "com/example/knotwork/knotwork/evaluation/PairwiseScore" "com/example/knotwork/knotwork/evaluation/PairwiseScore" "unmatchedGold" "J").before a0 Z = true := hw _ (List.mem_of_getElem? (i := 30) rfl)
theorem w_31 {Z : State} {a0 : Array Value} (hw : ∀ d ∈ tables_1, d.before a0 Z = true) : (Jvm.Cond.constantLong "com/example/knotwork/knotwork/evaluation/PairwiseScorePrecisionPinLaw" (27 : Nat) (2 : Int64)).before a0 Z = true := hw _ (List.mem_of_getElem? (i := 31) rfl)
theorem w_32 {Z : State} {a0 : Array Value} (hw : ∀ d ∈ tables_1, d.before a0 Z = true) : (Jvm.Cond.methodLink "com/example/knotwork/knotwork/evaluation/PairwiseScorePrecisionPinLaw" (29 : Nat) ({ cls := "com/example/knotwork/knotwork/evaluation/PairwiseScore", name := "precision", desc := "()D" } : Jvm.MethodName)).before a0 Z = true := hw _ (List.mem_of_getElem? (i := 32) rfl)
theorem w_33 {Z : State} {a0 : Array Value} (hw : ∀ d ∈ tables_1, d.before a0 Z = true) : (Jvm.Cond.declares ({ cls := "com/example/knotwork/knotwork/evaluation/PairwiseScore", name := "precision", desc := "()D" } : Jvm.MethodName)).before a0 Z = true := hw _ (List.mem_of_getElem? (i := 33) rfl)
theorem w_34 {Z : State} {a0 : Array Value} (hw : ∀ d ∈ tables_1, d.before a0 Z = true) : (Jvm.Cond.instanceMethod ({ cls := "com/example/knotwork/knotwork/evaluation/PairwiseScore", name := "precision", desc := "()D" } : Jvm.MethodName)).before a0 Z = true := hw _ (List.mem_of_getElem? (i := 34) rfl)
theorem w_35 {Z : State} {a0 : Array Value} (hw : ∀ d ∈ tables_1, d.before a0 Z = true) : (Jvm.Cond.selects "com/example/knotwork/knotwork/evaluation/PairwiseScore" ({ cls := "com/example/knotwork/knotwork/evaluation/PairwiseScore", name := "precision", desc := "()D" } : Jvm.MethodName) ({ cls := "com/example/knotwork/knotwork/evaluation/PairwiseScore", name := "precision", desc := "()D" } : Jvm.MethodName)).before a0 Z = true := hw _ (List.mem_of_getElem? (i := 35) rfl)
theorem w_36 {Z : State} {a0 : Array Value} (hw : ∀ d ∈ tables_1, d.before a0 Z = true) : (Jvm.Cond.code ({ cls := "com/example/knotwork/knotwork/evaluation/PairwiseScore", name := "precision", desc := "()D" } : Jvm.MethodName) prog_11_method_4_code (1 : Nat) (Option.some Jvm.ClassFile.FieldType.double)).before a0 Z = true := hw _ (List.mem_of_getElem? (i := 36) rfl)
theorem w_37 {Z : State} {a0 : Array Value} (hw : ∀ d ∈ tables_1, d.before a0 Z = true) : (Jvm.Cond.constantDouble "com/example/knotwork/knotwork/evaluation/PairwiseScorePrecisionPinLaw" (33 : Nat) (4602678819172646912 : UInt64)).before a0 Z = true := hw _ (List.mem_of_getElem? (i := 37) rfl)
theorem pd_0 : parseMethodDescriptor "()V" = some ⟨[], none⟩ := by decide +kernel
theorem pd_1 : parseMethodDescriptor "(JJ)J" = some ⟨[.long, .long], some .long⟩ := by decide +kernel
theorem pd_2 : parseMethodDescriptor "(JJJJ)V" = some ⟨[.long, .long, .long, .long], none⟩ := by decide +kernel
theorem pd_3 : parseMethodDescriptor "()D" = some ⟨[], some .double⟩ := by decide +kernel
theorem d1_0 : decode jdk_29_method_70_code 0 = .ok (.lload_n 0, 1) := by decide +kernel
theorem d1_1 : decode jdk_29_method_70_code 1 = .ok (.lload_n 2, 1) := by decide +kernel
theorem d1_10 : decode jdk_29_method_70_code 10 = .ok (.lload_n 2, 1) := by decide +kernel
theorem d1_11 : decode jdk_29_method_70_code 11 = .ok (.lreturn, 1) := by decide +kernel
theorem d1_2 : decode jdk_29_method_70_code 2 = .ok (.lcmp, 1) := by decide +kernel
theorem d1_3 : decode jdk_29_method_70_code 3 = .ok (.ifCond .gt 7, 3) := by decide +kernel
theorem d1_6 : decode jdk_29_method_70_code 6 = .ok (.lload_n 0, 1) := by decide +kernel
theorem d1_7 : decode jdk_29_method_70_code 7 = .ok (.goto 4, 3) := by decide +kernel
theorem d2_0 : decode jdk_29_method_66_code 0 = .ok (.lload_n 0, 1) := by decide +kernel
theorem d2_1 : decode jdk_29_method_66_code 1 = .ok (.lload_n 2, 1) := by decide +kernel
theorem d2_10 : decode jdk_29_method_66_code 10 = .ok (.lload_n 2, 1) := by decide +kernel
theorem d2_11 : decode jdk_29_method_66_code 11 = .ok (.lreturn, 1) := by decide +kernel
theorem d2_2 : decode jdk_29_method_66_code 2 = .ok (.lcmp, 1) := by decide +kernel
theorem d2_3 : decode jdk_29_method_66_code 3 = .ok (.ifCond .lt 7, 3) := by decide +kernel
theorem d2_6 : decode jdk_29_method_66_code 6 = .ok (.lload_n 0, 1) := by decide +kernel
theorem d2_7 : decode jdk_29_method_66_code 7 = .ok (.goto 4, 3) := by decide +kernel
theorem d3_0 : decode prog_11_method_1_code 0 = .ok (.aload_n 0, 1) := by decide +kernel
theorem d3_1 : decode prog_11_method_1_code 1 = .ok (.invokespecial 1, 3) := by decide +kernel
theorem d3_10 : decode prog_11_method_1_code 10 = .ok (.lload_n 3, 1) := by decide +kernel
theorem d3_11 : decode prog_11_method_1_code 11 = .ok (.putfield 13, 3) := by decide +kernel
theorem d3_14 : decode prog_11_method_1_code 14 = .ok (.aload_n 0, 1) := by decide +kernel
theorem d3_15 : decode prog_11_method_1_code 15 = .ok (.lload 5, 2) := by decide +kernel
theorem d3_17 : decode prog_11_method_1_code 17 = .ok (.putfield 16, 3) := by decide +kernel
theorem d3_20 : decode prog_11_method_1_code 20 = .ok (.aload_n 0, 1) := by decide +kernel
theorem d3_21 : decode prog_11_method_1_code 21 = .ok (.lload 7, 2) := by decide +kernel
theorem d3_23 : decode prog_11_method_1_code 23 = .ok (.putfield 19, 3) := by decide +kernel
theorem d3_26 : decode prog_11_method_1_code 26 = .ok (.return_, 1) := by decide +kernel
theorem d3_4 : decode prog_11_method_1_code 4 = .ok (.aload_n 0, 1) := by decide +kernel
theorem d3_5 : decode prog_11_method_1_code 5 = .ok (.lload_n 1, 1) := by decide +kernel
theorem d3_6 : decode prog_11_method_1_code 6 = .ok (.putfield 7, 3) := by decide +kernel
theorem d3_9 : decode prog_11_method_1_code 9 = .ok (.aload_n 0, 1) := by decide +kernel
theorem d4_0 : decode jdk_30_method_1_code 0 = .ok (.aload_n 0, 1) := by decide +kernel
theorem d4_1 : decode jdk_30_method_1_code 1 = .ok (.invokespecial 1, 3) := by decide +kernel
theorem d4_4 : decode jdk_30_method_1_code 4 = .ok (.return_, 1) := by decide +kernel
theorem d6_0 : decode prog_11_method_4_code 0 = .ok (.aload_n 0, 1) := by decide +kernel
theorem d6_1 : decode prog_11_method_4_code 1 = .ok (.getfield 13, 3) := by decide +kernel
theorem d6_10 : decode prog_11_method_4_code 10 = .ok (.goto 14, 3) := by decide +kernel
theorem d6_13 : decode prog_11_method_4_code 13 = .ok (.aload_n 0, 1) := by decide +kernel
theorem d6_14 : decode prog_11_method_4_code 14 = .ok (.getfield 16, 3) := by decide +kernel
theorem d6_17 : decode prog_11_method_4_code 17 = .ok (.l2d, 1) := by decide +kernel
theorem d6_18 : decode prog_11_method_4_code 18 = .ok (.aload_n 0, 1) := by decide +kernel
theorem d6_19 : decode prog_11_method_4_code 19 = .ok (.getfield 13, 3) := by decide +kernel
theorem d6_22 : decode prog_11_method_4_code 22 = .ok (.l2d, 1) := by decide +kernel
theorem d6_23 : decode prog_11_method_4_code 23 = .ok (.ddiv, 1) := by decide +kernel
theorem d6_24 : decode prog_11_method_4_code 24 = .ok (.dreturn, 1) := by decide +kernel
theorem d6_4 : decode prog_11_method_4_code 4 = .ok (.lconst 0, 1) := by decide +kernel
theorem d6_5 : decode prog_11_method_4_code 5 = .ok (.lcmp, 1) := by decide +kernel
theorem d6_6 : decode prog_11_method_4_code 6 = .ok (.ifCond .ne 7, 3) := by decide +kernel
theorem d6_9 : decode prog_11_method_4_code 9 = .ok (.dconst 0, 1) := by decide +kernel
/-- an object of class com/example/knotwork/knotwork/evaluation/PairwiseScore, and what its fields hold -/
def IsPS (Z : State) (h : Heap) (a : Addr) (v_goldPairs v_foundPairs v_truePairs v_unmatchedGold : Value) : Prop := Exa Z h a "com/example/knotwork/knotwork/evaluation/PairwiseScore" ∧ Fld Z h a "com/example/knotwork/knotwork/evaluation/PairwiseScore" "goldPairs" "J" v_goldPairs ∧ Fld Z h a "com/example/knotwork/knotwork/evaluation/PairwiseScore" "foundPairs" "J" v_foundPairs ∧ Fld Z h a "com/example/knotwork/knotwork/evaluation/PairwiseScore" "truePairs" "J" v_truePairs ∧ Fld Z h a "com/example/knotwork/knotwork/evaluation/PairwiseScore" "unmatchedGold" "J" v_unmatchedGold
theorem IsPS.exa {Z : State} {h : Heap} {a : Addr} {v_goldPairs v_foundPairs v_truePairs v_unmatchedGold : Value} (O : IsPS Z h a v_goldPairs v_foundPairs v_truePairs v_unmatchedGold) : Exa Z h a "com/example/knotwork/knotwork/evaluation/PairwiseScore" := O.1
theorem IsPS.lt {Z : State} {h : Heap} {a : Addr} {v_goldPairs v_foundPairs v_truePairs v_unmatchedGold : Value} (O : IsPS Z h a v_goldPairs v_foundPairs v_truePairs v_unmatchedGold) : a < h.size := (IsPS.exa O).lt
theorem IsPS.f_goldPairs {Z : State} {h : Heap} {a : Addr} {v_goldPairs v_foundPairs v_truePairs v_unmatchedGold : Value} (O : IsPS Z h a v_goldPairs v_foundPairs v_truePairs v_unmatchedGold) : Fld Z h a "com/example/knotwork/knotwork/evaluation/PairwiseScore" "goldPairs" "J" v_goldPairs := O.2.1
theorem IsPS.f_foundPairs {Z : State} {h : Heap} {a : Addr} {v_goldPairs v_foundPairs v_truePairs v_unmatchedGold : Value} (O : IsPS Z h a v_goldPairs v_foundPairs v_truePairs v_unmatchedGold) : Fld Z h a "com/example/knotwork/knotwork/evaluation/PairwiseScore" "foundPairs" "J" v_foundPairs := O.2.2.1
theorem IsPS.f_truePairs {Z : State} {h : Heap} {a : Addr} {v_goldPairs v_foundPairs v_truePairs v_unmatchedGold : Value} (O : IsPS Z h a v_goldPairs v_foundPairs v_truePairs v_unmatchedGold) : Fld Z h a "com/example/knotwork/knotwork/evaluation/PairwiseScore" "truePairs" "J" v_truePairs := O.2.2.2.1
theorem IsPS.f_unmatchedGold {Z : State} {h : Heap} {a : Addr} {v_goldPairs v_foundPairs v_truePairs v_unmatchedGold : Value} (O : IsPS Z h a v_goldPairs v_foundPairs v_truePairs v_unmatchedGold) : Fld Z h a "com/example/knotwork/knotwork/evaluation/PairwiseScore" "unmatchedGold" "J" v_unmatchedGold := O.2.2.2.2
theorem IsPS.ext {Z : State} {h h' : Heap} {a : Addr} {v_goldPairs v_foundPairs v_truePairs v_unmatchedGold : Value} (E : Ext h h') (O : IsPS Z h a v_goldPairs v_foundPairs v_truePairs v_unmatchedGold) : IsPS Z h' a v_goldPairs v_foundPairs v_truePairs v_unmatchedGold := ⟨(O.1).ext E, (O.2.1).ext E, (O.2.2.1).ext E, (O.2.2.2.1).ext E, (O.2.2.2.2).ext E⟩
theorem IsPS.keep {Z : State} {h h' : Heap} {a : Addr} {v_goldPairs v_foundPairs v_truePairs v_unmatchedGold : Value} {ws : List Addr} (K : Keep h h' ws) (O : IsPS Z h a v_goldPairs v_foundPairs v_truePairs v_unmatchedGold) (q : a ∉ ws) : IsPS Z h' a v_goldPairs v_foundPairs v_truePairs v_unmatchedGold := ⟨(O.1).keep K, (O.2.1).keep K q, (O.2.2.1).keep K q, (O.2.2.2.1).keep K q, (O.2.2.2.2).keep K q⟩
theorem IsPS.other {Z : State} {h h' : Heap} {a b : Addr} {v_goldPairs v_foundPairs v_truePairs v_unmatchedGold : Value} {sl : Nat} {v : Value} (W : Wr h h' b sl v) (O : IsPS Z h a v_goldPairs v_foundPairs v_truePairs v_unmatchedGold) (q : a ≠ b) : IsPS Z h' a v_goldPairs v_foundPairs v_truePairs v_unmatchedGold := ⟨(O.1).wr W, (O.2.1).other W (Or.inl q), (O.2.2.1).other W (Or.inl q), (O.2.2.2.1).other W (Or.inl q), (O.2.2.2.2).other W (Or.inl q)⟩
theorem IsPS.s_goldPairs {Z : State} {h h' : Heap} {a : Addr} {v_goldPairs v_foundPairs v_truePairs v_unmatchedGold : Value} {v : Value} {a0 : Array Value} (hw : ∀ d ∈ tables_1, d.before a0 Z = true) (W : Wr h h' a (RoadKit.slotOf Z "com/example/knotwork/knotwork/evaluation/PairwiseScore" "goldPairs" "J") v) (O : IsPS Z h a v_goldPairs v_foundPairs v_truePairs v_unmatchedGold) : IsPS Z h' a v v_foundPairs v_truePairs v_unmatchedGold := ⟨(O.1).wr W, (O.2.1).same W, (O.2.2.1).other W (Or.inr (slot_ne (a0 := a0) (C := "com/example/knotwork/knotwork/evaluation/PairwiseScore") (Or.inr (w_26 hw)) (Or.inr (w_24 hw)) (by decide) (t := .long) (t' := .long) (by decide) (by decide))), (O.2.2.2.1).other W (Or.inr (slot_ne (a0 := a0) (C := "com/example/knotwork/knotwork/evaluation/PairwiseScore") (Or.inr (w_28 hw)) (Or.inr (w_24 hw)) (by decide) (t := .long) (t' := .long) (by decide) (by decide))), (O.2.2.2.2).other W (Or.inr (slot_ne (a0 := a0) (C := "com/example/knotwork/knotwork/evaluation/PairwiseScore") (Or.inr (w_30 hw)) (Or.inr (w_24 hw)) (by decide) (t := .long) (t' := .long) (by decide) (by decide)))⟩
theorem IsPS.s_foundPairs {Z : State} {h h' : Heap} {a : Addr} {v_goldPairs v_foundPairs v_truePairs v_unmatchedGold : Value} {v : Value} {a0 : Array Value} (hw : ∀ d ∈ tables_1, d.before a0 Z = true) (W : Wr h h' a (RoadKit.slotOf Z "com/example/knotwork/knotwork/evaluation/PairwiseScore" "foundPairs" "J") v) (O : IsPS Z h a v_goldPairs v_foundPairs v_truePairs v_unmatchedGold) : IsPS Z h' a v_goldPairs v v_truePairs v_unmatchedGold := ⟨(O.1).wr W, (O.2.1).other W (Or.inr (slot_ne (a0 := a0) (C := "com/example/knotwork/knotwork/evaluation/PairwiseScore") (Or.inr (w_24 hw)) (Or.inr (w_26 hw)) (by decide) (t := .long) (t' := .long) (by decide) (by decide))), (O.2.2.1).same W, (O.2.2.2.1).other W (Or.inr (slot_ne (a0 := a0) (C := "com/example/knotwork/knotwork/evaluation/PairwiseScore") (Or.inr (w_28 hw)) (Or.inr (w_26 hw)) (by decide) (t := .long) (t' := .long) (by decide) (by decide))), (O.2.2.2.2).other W (Or.inr (slot_ne (a0 := a0) (C := "com/example/knotwork/knotwork/evaluation/PairwiseScore") (Or.inr (w_30 hw)) (Or.inr (w_26 hw)) (by decide) (t := .long) (t' := .long) (by decide) (by decide)))⟩
theorem IsPS.s_truePairs {Z : State} {h h' : Heap} {a : Addr} {v_goldPairs v_foundPairs v_truePairs v_unmatchedGold : Value} {v : Value} {a0 : Array Value} (hw : ∀ d ∈ tables_1, d.before a0 Z = true) (W : Wr h h' a (RoadKit.slotOf Z "com/example/knotwork/knotwork/evaluation/PairwiseScore" "truePairs" "J") v) (O : IsPS Z h a v_goldPairs v_foundPairs v_truePairs v_unmatchedGold) : IsPS Z h' a v_goldPairs v_foundPairs v v_unmatchedGold := ⟨(O.1).wr W, (O.2.1).other W (Or.inr (slot_ne (a0 := a0) (C := "com/example/knotwork/knotwork/evaluation/PairwiseScore") (Or.inr (w_24 hw)) (Or.inr (w_28 hw)) (by decide) (t := .long) (t' := .long) (by decide) (by decide))), (O.2.2.1).other W (Or.inr (slot_ne (a0 := a0) (C := "com/example/knotwork/knotwork/evaluation/PairwiseScore") (Or.inr (w_26 hw)) (Or.inr (w_28 hw)) (by decide) (t := .long) (t' := .long) (by decide) (by decide))), (O.2.2.2.1).same W, (O.2.2.2.2).other W (Or.inr (slot_ne (a0 := a0) (C := "com/example/knotwork/knotwork/evaluation/PairwiseScore") (Or.inr (w_30 hw)) (Or.inr (w_28 hw)) (by decide) (t := .long) (t' := .long) (by decide) (by decide)))⟩
theorem IsPS.s_unmatchedGold {Z : State} {h h' : Heap} {a : Addr} {v_goldPairs v_foundPairs v_truePairs v_unmatchedGold : Value} {v : Value} {a0 : Array Value} (hw : ∀ d ∈ tables_1, d.before a0 Z = true) (W : Wr h h' a (RoadKit.slotOf Z "com/example/knotwork/knotwork/evaluation/PairwiseScore" "unmatchedGold" "J") v) (O : IsPS Z h a v_goldPairs v_foundPairs v_truePairs v_unmatchedGold) : IsPS Z h' a v_goldPairs v_foundPairs v_truePairs v := ⟨(O.1).wr W, (O.2.1).other W (Or.inr (slot_ne (a0 := a0) (C := "com/example/knotwork/knotwork/evaluation/PairwiseScore") (Or.inr (w_24 hw)) (Or.inr (w_30 hw)) (by decide) (t := .long) (t' := .long) (by decide) (by decide))), (O.2.2.1).other W (Or.inr (slot_ne (a0 := a0) (C := "com/example/knotwork/knotwork/evaluation/PairwiseScore") (Or.inr (w_26 hw)) (Or.inr (w_30 hw)) (by decide) (t := .long) (t' := .long) (by decide) (by decide))), (O.2.2.2.1).other W (Or.inr (slot_ne (a0 := a0) (C := "com/example/knotwork/knotwork/evaluation/PairwiseScore") (Or.inr (w_28 hw)) (Or.inr (w_30 hw)) (by decide) (t := .long) (t' := .long) (by decide) (by decide))), (O.2.2.2.2).same W⟩
set_option maxRecDepth 65536 in
set_option maxHeartbeats 40000000 in
theorem rm_min (w : Bool) (l : Launch) (Z : State) (a0 : Array Value) (hw : ∀ d ∈ tables_1, d.before a0 Z = true) (x y : Int64) (h0 : Heap) (n0 : Nat) (Z0 : n0 ≤ h0.size)  :
    Met w l Z (⟨"java/lang/Math", "min", "(JJ)J"⟩ : MethodName) jdk_29_method_70_code 4 (some .long) [] ({ frames := 0, cells := 0, slots := 0, locals := 0 } : Room) #[(.long x), (.long y)] h0 n0 (fun v h => v = some (.long (if y < x then y else x)) ∧ h0 = h) := by
  refine Met.of (Jvm.Free.JP.mathPlain rfl (by decide +kernel)) fun κ K => ?_
  refine WP.frame (g' := (mkF κ.m 0 #[.val (.long x), .second, .val (.long y), .second] [])) (by first | (simp [entryFrame, mkF, argsToLocals, Value.category]; done) | rfl) ?_
  refine WP.lloadN K d1_0 rfl (pc' := 1) rfl ?_
  refine WP.lloadN K d1_1 rfl (pc' := 2) rfl ?_
  refine WP.lcmp K d1_2 (pc' := 3) rfl ?_
  by_cases c : y < x
  · refine WP.if0T K d1_3 ((if0 _ _).trans (tlt ((lw_gt _ _).mpr c)).2.2.1) (by decide) (pc' := 10) (by decide) ?_
    refine WP.lloadN K d1_10 rfl (pc' := 11) rfl ?_
    exact WP.retJ K d1_11 (by decide) (by decide) ⟨by rw [if_pos c], rfl⟩
  · refine WP.if0F K d1_3 ((if0 _ _).trans (flt (fun q => c ((lw_gt _ _).mp q))).2.2.1) (pc' := 6) rfl ?_
    refine WP.lloadN K d1_6 rfl (pc' := 7) rfl ?_
    refine WP.goto K d1_7 (by decide) (pc' := 11) (by decide) ?_
    exact WP.retJ K d1_11 (by decide) (by decide) ⟨by rw [if_neg c], rfl⟩
set_option maxRecDepth 65536 in
set_option maxHeartbeats 40000000 in
theorem rm_max (w : Bool) (l : Launch) (Z : State) (a0 : Array Value) (hw : ∀ d ∈ tables_1, d.before a0 Z = true) (x y : Int64) (h0 : Heap) (n0 : Nat) (Z0 : n0 ≤ h0.size)  :
    Met w l Z (⟨"java/lang/Math", "max", "(JJ)J"⟩ : MethodName) jdk_29_method_66_code 4 (some .long) [] ({ frames := 0, cells := 0, slots := 0, locals := 0 } : Room) #[(.long x), (.long y)] h0 n0 (fun v h => v = some (.long (if x < y then y else x)) ∧ h0 = h) := by
  refine Met.of (Jvm.Free.JP.mathPlain rfl (by decide +kernel)) fun κ K => ?_
  refine WP.frame (g' := (mkF κ.m 0 #[.val (.long x), .second, .val (.long y), .second] [])) (by first | (simp [entryFrame, mkF, argsToLocals, Value.category]; done) | rfl) ?_
  refine WP.lloadN K d2_0 rfl (pc' := 1) rfl ?_
  refine WP.lloadN K d2_1 rfl (pc' := 2) rfl ?_
  refine WP.lcmp K d2_2 (pc' := 3) rfl ?_
  by_cases c : x < y
  · refine WP.if0T K d2_3 ((if0 _ _).trans (tlt ((lw_lt _ _).mpr c)).1) (by decide) (pc' := 10) (by decide) ?_
    refine WP.lloadN K d2_10 rfl (pc' := 11) rfl ?_
    exact WP.retJ K d2_11 (by decide) (by decide) ⟨by rw [if_pos c], rfl⟩
  · refine WP.if0F K d2_3 ((if0 _ _).trans (flt (fun q => c ((lw_lt _ _).mp q))).1) (pc' := 6) rfl ?_
    refine WP.lloadN K d2_6 rfl (pc' := 7) rfl ?_
    refine WP.goto K d2_7 (by decide) (pc' := 11) (by decide) ?_
    exact WP.retJ K d2_11 (by decide) (by decide) ⟨by rw [if_neg c], rfl⟩
set_option maxRecDepth 65536 in
set_option maxHeartbeats 40000000 in
theorem rm_rec (w : Bool) (l : Launch) (Z : State) (a0 : Array Value) (hw : ∀ d ∈ tables_1, d.before a0 Z = true) (a : Addr) (h0 : Heap) (n0 : Nat) (Z0 : n0 ≤ h0.size)  :
    Met w l Z (⟨"java/lang/Record", "<init>", "()V"⟩ : MethodName) jdk_30_method_1_code 1 none [] ({ frames := 1, cells := 0, slots := 0, locals := 12 } : Room) #[(.ref a)] h0 n0 (fun v h => v = none ∧ h0 = h) := by
  refine Met.of (plainFor_of_name (by first | (simp [plainName, overriddenIn]; done) | decide +kernel)) fun κ K => ?_
  refine WP.frame (g' := (mkF κ.m 0 #[.val (.ref a)] [])) (by first | (simp [entryFrame, mkF, argsToLocals, Value.category]; done) | rfl) ?_
  refine WP.aloadN K d4_0 rfl rfl (pc' := 1) rfl ?_
  refine WP.initO K (w_20 hw) (w_21 hw) (w_22 hw) d4_1 rfl (by decide) (W := 0) rfl (by decide) (pc' := 4) rfl ?_
  exact WP.ret0 K d4_4 (by decide) (by decide) ⟨rfl, rfl⟩
set_option maxRecDepth 65536 in
set_option maxHeartbeats 40000000 in
theorem rm_ps (w : Bool) (l : Launch) (Z : State) (a0 : Array Value) (hw : ∀ d ∈ tables_1, d.before a0 Z = true) (ps : Addr) (u_goldPairs u_foundPairs u_truePairs u_unmatchedGold : Value) (g f t u : Int64) (h0 : Heap) (n0 : Nat) (Z0 : n0 ≤ h0.size) (O_ps : IsPS Z h0 ps u_goldPairs u_foundPairs u_truePairs u_unmatchedGold) (old_ps : n0 ≤ ps) :
    Met w l Z (⟨"com/example/knotwork/knotwork/evaluation/PairwiseScore", "<init>", "(JJJJ)V"⟩ : MethodName) prog_11_method_1_code 9 none [] ({ frames := 2, cells := 0, slots := 0, locals := 24 } : Room) #[(.ref ps), (.long g), (.long f), (.long t), (.long u)] h0 n0 (fun v h => v = none ∧ Keep h0 h [ps] ∧ IsPS Z h ps (.long g) (.long f) (.long t) (.long u)) := by
  refine Met.of (plainFor_of_name (by first | (simp [plainName, overriddenIn]; done) | decide +kernel)) fun κ K => ?_
  refine WP.frame (g' := (mkF κ.m 0 #[.val (.ref ps), .val (.long g), .second, .val (.long f), .second, .val (.long t), .second, .val (.long u), .second] [])) (by first | (simp [entryFrame, mkF, argsToLocals, Value.category]; done) | rfl) ?_
  have KP := Keep.refl h0 [ps]
  refine WP.aloadN K d3_0 rfl rfl (pc' := 1) rfl ?_
  refine WP.callI K (a := ps) (argsL := []) (S := []) rfl (w_15 hw) (w_16 hw) (rm_rec w l Z a0 hw ps h0 n0 Z0) (w_19 hw) (w_18 hw) (by decide) rfl (lenOf pd_0 rfl) rfl (W := 0) rfl (by decide) (by decide) (k' := 0) (n' := 0) rfl rfl (by decide) (by decide) d3_1 (pc' := 4) rfl fun v h1 hq => ?_
  obtain ⟨rfl, rfl⟩ := hq
  show WP κ h0 0 0 (mkF κ.m 4 #[.val (.ref ps), .val (.long g), .second, .val (.long f), .second, .val (.long t), .second, .val (.long u), .second] [])
  refine WP.aloadN K d3_4 rfl rfl (pc' := 5) rfl ?_
  refine WP.lloadN K d3_5 rfl (pc' := 6) rfl ?_
  refine WP.putF K (w_23 hw) Via.refl (IsPS.f_goldPairs O_ps) (IsPS.exa O_ps) (Or.inr ⟨(w_24 hw), rfl, rfl⟩) (w_10 hw) (ty := .long) (by decide) rfl rfl old_ps d3_6 (pc' := 9) rfl fun h2 W2 => ?_
  have KP := Keep.wr KP W2 (Or.inl (List.mem_of_getElem? (i := 0) rfl))
  have Z0 := Nat.le_trans Z0 (Nat.le_of_eq W2.size.symm)
  have O_ps := IsPS.s_goldPairs hw W2 O_ps
  refine WP.aloadN K d3_9 rfl rfl (pc' := 10) rfl ?_
  refine WP.lloadN K d3_10 rfl (pc' := 11) rfl ?_
  refine WP.putF K (w_25 hw) Via.refl (IsPS.f_foundPairs O_ps) (IsPS.exa O_ps) (Or.inr ⟨(w_26 hw), rfl, rfl⟩) (w_10 hw) (ty := .long) (by decide) rfl rfl old_ps d3_11 (pc' := 14) rfl fun h3 W3 => ?_
  have KP := Keep.wr KP W3 (Or.inl (List.mem_of_getElem? (i := 0) rfl))
  have Z0 := Nat.le_trans Z0 (Nat.le_of_eq W3.size.symm)
  have O_ps := IsPS.s_foundPairs hw W3 O_ps
  refine WP.aloadN K d3_14 rfl rfl (pc' := 15) rfl ?_
  refine WP.lload K d3_15 rfl (pc' := 17) rfl ?_
  refine WP.putF K (w_27 hw) Via.refl (IsPS.f_truePairs O_ps) (IsPS.exa O_ps) (Or.inr ⟨(w_28 hw), rfl, rfl⟩) (w_10 hw) (ty := .long) (by decide) rfl rfl old_ps d3_17 (pc' := 20) rfl fun h4 W4 => ?_
  have KP := Keep.wr KP W4 (Or.inl (List.mem_of_getElem? (i := 0) rfl))
  have Z0 := Nat.le_trans Z0 (Nat.le_of_eq W4.size.symm)
  have O_ps := IsPS.s_truePairs hw W4 O_ps
  refine WP.aloadN K d3_20 rfl rfl (pc' := 21) rfl ?_
  refine WP.lload K d3_21 rfl (pc' := 23) rfl ?_
  refine WP.putF K (w_29 hw) Via.refl (IsPS.f_unmatchedGold O_ps) (IsPS.exa O_ps) (Or.inr ⟨(w_30 hw), rfl, rfl⟩) (w_10 hw) (ty := .long) (by decide) rfl rfl old_ps d3_23 (pc' := 26) rfl fun h5 W5 => ?_
  have KP := Keep.wr KP W5 (Or.inl (List.mem_of_getElem? (i := 0) rfl))
  have Z0 := Nat.le_trans Z0 (Nat.le_of_eq W5.size.symm)
  have O_ps := IsPS.s_unmatchedGold hw W5 O_ps
  exact WP.ret0 K d3_26 (by decide) (by decide) ⟨rfl, KP, O_ps⟩
set_option maxRecDepth 65536 in
set_option maxHeartbeats 40000000 in
theorem rm_pr (w : Bool) (l : Launch) (Z : State) (a0 : Array Value) (hw : ∀ d ∈ tables_1, d.before a0 Z = true) (ps : Addr) (g f t u : Int64) (h0 : Heap) (n0 : Nat) (Z0 : n0 ≤ h0.size) (O_ps : IsPS Z h0 ps (.long g) (.long f) (.long t) (.long u)) (hp : f = 0 ∨ 0 ≤ t.toInt ∧ t.toInt ≤ f.toInt) :
    Met w l Z (⟨"com/example/knotwork/knotwork/evaluation/PairwiseScore", "precision", "()D"⟩ : MethodName) prog_11_method_4_code 1 (some .double) [] ({ frames := 0, cells := 0, slots := 0, locals := 0 } : Room) #[(.ref ps)] h0 n0 (fun v h => ∃ d : UInt64, v = some (.double d) ∧ h0 = h ∧ Part t f d) := by
  refine Met.of (plainFor_of_name (by first | (simp [plainName, overriddenIn]; done) | decide +kernel)) fun κ K => ?_
  refine WP.frame (g' := (mkF κ.m 0 #[.val (.ref ps)] [])) (by first | (simp [entryFrame, mkF, argsToLocals, Value.category]; done) | rfl) ?_
  refine WP.aloadN K d6_0 rfl rfl (pc' := 1) rfl ?_
  refine WP.getF K (w_25 hw) Via.refl (IsPS.f_foundPairs O_ps) d6_1 (pc' := 4) rfl ?_
  refine WP.lconst K d6_4 (v := (0 : Int64)) rfl (pc' := 5) rfl ?_
  refine WP.lcmp K d6_5 (pc' := 6) rfl ?_
  by_cases c : f = (0 : Int64)
  · refine WP.if0F K d6_6 ((if0 _ _).trans (teq ((lw_eq _ _).mpr c)).2) (pc' := 9) rfl ?_
    refine WP.dconst0 K d6_9 (v := (0 : UInt64)) rfl (pc' := 10) rfl ?_
    refine WP.goto K d6_10 (by decide) (pc' := 24) (by decide) ?_
    exact WP.retD K d6_24 (by decide) (by decide) ⟨_, rfl, rfl, fun _ => rfl, fun z => absurd c z⟩
  · refine WP.if0T K d6_6 ((if0 _ _).trans (feq (fun q => c ((lw_eq _ _).mp q))).2) (by decide) (pc' := 13) (by decide) ?_
    refine WP.aloadN K d6_13 rfl rfl (pc' := 14) rfl ?_
    refine WP.getF K (w_27 hw) Via.refl (IsPS.f_truePairs O_ps) d6_14 (pc' := 17) rfl ?_
    refine WP.l2d K d6_17 (pc' := 18) rfl ?_
    refine WP.aloadN K d6_18 rfl rfl (pc' := 19) rfl ?_
    refine WP.getF K (w_25 hw) Via.refl (IsPS.f_foundPairs O_ps) d6_19 (pc' := 22) rfl ?_
    refine WP.l2d K d6_22 (pc' := 23) rfl ?_
    refine WP.ddiv K d6_23 (part_nn hp c) (pc' := 24) rfl ?_
    exact WP.retD K d6_24 (by decide) (by decide) ⟨_, rfl, rfl, fun z => absurd z c, fun _ => rfl⟩
set_option maxRecDepth 65536 in
set_option maxHeartbeats 40000000 in
theorem rm_law (w : Bool) (l : Launch) (Z : State) (a0 : Array Value) (hw : ∀ d ∈ tables_1, d.before a0 Z = true) (p0 p1 p2 p3 p4 p5 : Int64) (h0 : Heap) (n0 : Nat) (Z0 : n0 ≤ h0.size)  :
    Met w l Z x code maxLocals ret tables_1 room_1 #[(.long p0), (.long p1), (.long p2), (.long p3), (.long p4), (.long p5)] h0 n0 (fun v h => v = some (.int 1)) := by
  refine Met.of (plainFor_of_name (by first | (simp [plainName, overriddenIn]; done) | decide +kernel)) fun κ K => ?_
  have K : Cx κ w l Z "com/example/knotwork/knotwork/evaluation/PairwiseScorePrecisionPinLaw" n0 room_1 code 37 (some .boolean) "law" _ := K
  refine WP.frame (g' := (mkF κ.m 0 #[.val (.long p0), .second, .val (.long p1), .second, .val (.long p2), .second, .val (.long p3), .second, .val (.long p4), .second, .val (.long p5), .second, .unset, .unset, .unset, .unset, .unset, .unset, .unset, .unset, .unset, .unset, .unset, .unset, .unset, .unset, .unset, .unset, .unset, .unset, .unset, .unset, .unset, .unset, .unset, .unset, .unset] [])) (by first | (simp [entryFrame, mkF, argsToLocals, Value.category, maxLocals]; done) | rfl) ?_
  have nz := nz1 p1
  have ra := rm1 p2 p1
  have rb := rm1 p3 p1
  have hf := mx p1
  have hh := hh1 p4
  refine WP.lloadN K at_0 rfl (pc' := 1) rfl ?_
  refine WP.ldc2J K (w_0 hw) at_1 (pc' := 4) rfl ?_
  refine WP.land K at_4 (pc' := 5) rfl ?_
  refine WP.lstore K at_5 (L' := #[.val (.long p0), .second, .val (.long p1), .second, .val (.long p2), .second, .val (.long p3), .second, .val (.long p4), .second, .val (.long p5), .second, .val (.long (p1 &&& (9223372036854775807 : Int64))), .second, .unset, .unset, .unset, .unset, .unset, .unset, .unset, .unset, .unset, .unset, .unset, .unset, .unset, .unset, .unset, .unset, .unset, .unset, .unset, .unset, .unset, .unset, .unset]) rfl (pc' := 7) rfl ?_
  refine WP.lload K at_7 rfl (pc' := 9) rfl ?_
  refine WP.ldc2J K (w_0 hw) at_9 (pc' := 12) rfl ?_
  refine WP.land K at_12 (pc' := 13) rfl ?_
  refine WP.lload K at_13 rfl (pc' := 15) rfl ?_
  refine WP.lconst K at_15 (v := (1 : Int64)) rfl (pc' := 16) rfl ?_
  refine WP.ladd K at_16 (pc' := 17) rfl ?_
  refine WP.lrem K at_17 nz (pc' := 18) rfl ?_
  refine WP.lstore K at_18 (L' := #[.val (.long p0), .second, .val (.long p1), .second, .val (.long p2), .second, .val (.long p3), .second, .val (.long p4), .second, .val (.long p5), .second, .val (.long (p1 &&& (9223372036854775807 : Int64))), .second, .val (.long ((p2 &&& (9223372036854775807 : Int64)) % ((p1 &&& (9223372036854775807 : Int64)) + (1 : Int64)))), .second, .unset, .unset, .unset, .unset, .unset, .unset, .unset, .unset, .unset, .unset, .unset, .unset, .unset, .unset, .unset, .unset, .unset, .unset, .unset, .unset, .unset]) rfl (pc' := 20) rfl ?_
  refine WP.lload K at_20 rfl (pc' := 22) rfl ?_
  refine WP.ldc2J K (w_0 hw) at_22 (pc' := 25) rfl ?_
  refine WP.land K at_25 (pc' := 26) rfl ?_
  refine WP.lload K at_26 rfl (pc' := 28) rfl ?_
  refine WP.lconst K at_28 (v := (1 : Int64)) rfl (pc' := 29) rfl ?_
  refine WP.ladd K at_29 (pc' := 30) rfl ?_
  refine WP.lrem K at_30 nz (pc' := 31) rfl ?_
  refine WP.lstore K at_31 (L' := #[.val (.long p0), .second, .val (.long p1), .second, .val (.long p2), .second, .val (.long p3), .second, .val (.long p4), .second, .val (.long p5), .second, .val (.long (p1 &&& (9223372036854775807 : Int64))), .second, .val (.long ((p2 &&& (9223372036854775807 : Int64)) % ((p1 &&& (9223372036854775807 : Int64)) + (1 : Int64)))), .second, .val (.long ((p3 &&& (9223372036854775807 : Int64)) % ((p1 &&& (9223372036854775807 : Int64)) + (1 : Int64)))), .second, .unset, .unset, .unset, .unset, .unset, .unset, .unset, .unset, .unset, .unset, .unset, .unset, .unset, .unset, .unset, .unset, .unset, .unset, .unset]) rfl (pc' := 33) rfl ?_
  generalize e_a : ((p2 &&& (9223372036854775807 : Int64)) % ((p1 &&& (9223372036854775807 : Int64)) + (1 : Int64))) = a at ra ⊢
  generalize e_b : ((p3 &&& (9223372036854775807 : Int64)) % ((p1 &&& (9223372036854775807 : Int64)) + (1 : Int64))) = b at rb ⊢
  generalize e_fp : (p1 &&& (9223372036854775807 : Int64)) = fp at nz ra rb hf ⊢
  refine WP.lload K at_33 rfl (pc' := 35) rfl ?_
  refine WP.lload K at_35 rfl (pc' := 37) rfl ?_
  obtain ⟨m1, m2, m3⟩ := mnmx a b
  refine WP.callS K (argsL := [(.long a), (.long b)]) (S := []) (w_1 hw) (w_2 hw) (rm_min w l Z a0 hw a b h0 n0 Z0) (w_4 hw) (w_3 hw) (by decide) rfl (lenOf pd_1 rfl) rfl (W := 0) rfl (by decide) (by decide) (k' := 0) (n' := 0) rfl rfl (by decide) (by decide) at_37 (pc' := 40) rfl fun v h6 hq => ?_
  obtain ⟨rfl, rfl⟩ := hq
  show WP κ h0 0 0 (mkF κ.m 40 #[.val (.long p0), .second, .val (.long p1), .second, .val (.long p2), .second, .val (.long p3), .second, .val (.long p4), .second, .val (.long p5), .second, .val (.long fp), .second, .val (.long a), .second, .val (.long b), .second, .unset, .unset, .unset, .unset, .unset, .unset, .unset, .unset, .unset, .unset, .unset, .unset, .unset, .unset, .unset, .unset, .unset, .unset, .unset] [(.long (if b < a then b else a))])
  refine WP.lstore K at_40 (L' := #[.val (.long p0), .second, .val (.long p1), .second, .val (.long p2), .second, .val (.long p3), .second, .val (.long p4), .second, .val (.long p5), .second, .val (.long fp), .second, .val (.long a), .second, .val (.long b), .second, .val (.long (if b < a then b else a)), .second, .unset, .unset, .unset, .unset, .unset, .unset, .unset, .unset, .unset, .unset, .unset, .unset, .unset, .unset, .unset, .unset, .unset]) rfl (pc' := 42) rfl ?_
  refine WP.lload K at_42 rfl (pc' := 44) rfl ?_
  refine WP.lload K at_44 rfl (pc' := 46) rfl ?_
  refine WP.callS K (argsL := [(.long a), (.long b)]) (S := []) (w_5 hw) (w_6 hw) (rm_max w l Z a0 hw a b h0 n0 Z0) (w_7 hw) (w_3 hw) (by decide) rfl (lenOf pd_1 rfl) rfl (W := 0) rfl (by decide) (by decide) (k' := 0) (n' := 0) rfl rfl (by decide) (by decide) at_46 (pc' := 49) rfl fun v h7 hq => ?_
  obtain ⟨rfl, rfl⟩ := hq
  show WP κ h0 0 0 (mkF κ.m 49 #[.val (.long p0), .second, .val (.long p1), .second, .val (.long p2), .second, .val (.long p3), .second, .val (.long p4), .second, .val (.long p5), .second, .val (.long fp), .second, .val (.long a), .second, .val (.long b), .second, .val (.long (if b < a then b else a)), .second, .unset, .unset, .unset, .unset, .unset, .unset, .unset, .unset, .unset, .unset, .unset, .unset, .unset, .unset, .unset, .unset, .unset] [(.long (if a < b then b else a))])
  refine WP.lstore K at_49 (L' := #[.val (.long p0), .second, .val (.long p1), .second, .val (.long p2), .second, .val (.long p3), .second, .val (.long p4), .second, .val (.long p5), .second, .val (.long fp), .second, .val (.long a), .second, .val (.long b), .second, .val (.long (if b < a then b else a)), .second, .val (.long (if a < b then b else a)), .second, .unset, .unset, .unset, .unset, .unset, .unset, .unset, .unset, .unset, .unset, .unset, .unset, .unset, .unset, .unset]) rfl (pc' := 51) rfl ?_
  have l0 : 0 ≤ (if b < a then b else a).toInt := by rcases m2 with q | q <;> rw [q] <;> omega
  have l2 : (if a < b then b else a).toInt ≤ fp.toInt := by rcases m3 with q | q <;> rw [q] <;> omega
  clear m2 m3
  generalize e_lo : (if b < a then b else a) = lo at m1 l0 ⊢
  generalize e_hi : (if a < b then b else a) = hi at m1 l2 ⊢
  refine WP.lload K at_51 rfl (pc' := 53) rfl ?_
  refine WP.ldc2J K (w_8 hw) at_53 (pc' := 56) rfl ?_
  refine WP.land K at_56 (pc' := 57) rfl ?_
  refine WP.lconst K at_57 (v := (1 : Int64)) rfl (pc' := 58) rfl ?_
  refine WP.ladd K at_58 (pc' := 59) rfl ?_
  refine WP.lstore K at_59 (L' := #[.val (.long p0), .second, .val (.long p1), .second, .val (.long p2), .second, .val (.long p3), .second, .val (.long p4), .second, .val (.long p5), .second, .val (.long fp), .second, .val (.long a), .second, .val (.long b), .second, .val (.long lo), .second, .val (.long hi), .second, .val (.long ((p4 &&& (4611686018427387902 : Int64)) + (1 : Int64))), .second, .unset, .unset, .unset, .unset, .unset, .unset, .unset, .unset, .unset, .unset, .unset, .unset, .unset]) rfl (pc' := 61) rfl ?_
  generalize e_hx : ((p4 &&& (4611686018427387902 : Int64)) + (1 : Int64)) = hx at hh ⊢
  refine WP.new K (w_9 hw) (w_10 hw) (w_11 hw) at_61 (k' := 1) (n' := 4) rfl rfl (by decide) (by decide) (pc' := 64) rfl fun h8 s0 g8 E8 X8 D8 => ?_
  have old_s0 : n0 ≤ s0 := by have q_ := Z0; omega
  have Z0 := Nat.le_trans Z0 E8.1
  have O_s0 : IsPS Z h8 s0 (.long (0 : Int64)) (.long (0 : Int64)) (.long (0 : Int64)) (.long (0 : Int64)) := ⟨X8, D8 (O := "com/example/knotwork/knotwork/evaluation/PairwiseScore") (f := "goldPairs") (d := "J") (Or.inr (w_24 hw)) (ty := .long) (by decide), D8 (O := "com/example/knotwork/knotwork/evaluation/PairwiseScore") (f := "foundPairs") (d := "J") (Or.inr (w_26 hw)) (ty := .long) (by decide), D8 (O := "com/example/knotwork/knotwork/evaluation/PairwiseScore") (f := "truePairs") (d := "J") (Or.inr (w_28 hw)) (ty := .long) (by decide), D8 (O := "com/example/knotwork/knotwork/evaluation/PairwiseScore") (f := "unmatchedGold") (d := "J") (Or.inr (w_30 hw)) (ty := .long) (by decide)⟩
  refine WP.dup K at_64 rfl (pc' := 65) rfl ?_
  refine WP.lloadN K at_65 rfl (pc' := 66) rfl ?_
  refine WP.lconst K at_66 (v := (0 : Int64)) rfl (pc' := 67) rfl ?_
  refine WP.lconst K at_67 (v := (0 : Int64)) rfl (pc' := 68) rfl ?_
  refine WP.lload K at_68 rfl (pc' := 70) rfl ?_
  refine WP.callI K (a := s0) (argsL := [(.long p0), (.long (0 : Int64)), (.long (0 : Int64)), (.long p5)]) (S := [(.ref s0)]) rfl (w_12 hw) (w_13 hw) (rm_ps w l Z a0 hw s0 _ _ _ _ p0 (0 : Int64) (0 : Int64) p5 h8 n0 Z0 O_s0 old_s0) (w_14 hw) (w_11 hw) (by decide) rfl (lenOf pd_2 rfl) rfl (W := 1) rfl (by decide) (by decide) (k' := 1) (n' := 4) rfl rfl (by decide) (by decide) at_70 (pc' := 73) rfl fun v h9 hq => ?_
  obtain ⟨rfl, K0, O_s0⟩ := hq
  have Z0 := Nat.le_trans Z0 K0.1
  show WP κ h9 1 4 (mkF κ.m 73 #[.val (.long p0), .second, .val (.long p1), .second, .val (.long p2), .second, .val (.long p3), .second, .val (.long p4), .second, .val (.long p5), .second, .val (.long fp), .second, .val (.long a), .second, .val (.long b), .second, .val (.long lo), .second, .val (.long hi), .second, .val (.long hx), .second, .unset, .unset, .unset, .unset, .unset, .unset, .unset, .unset, .unset, .unset, .unset, .unset, .unset] [(.ref s0)])
  refine WP.astore K at_73 rfl (L' := #[.val (.long p0), .second, .val (.long p1), .second, .val (.long p2), .second, .val (.long p3), .second, .val (.long p4), .second, .val (.long p5), .second, .val (.long fp), .second, .val (.long a), .second, .val (.long b), .second, .val (.long lo), .second, .val (.long hi), .second, .val (.long hx), .second, .val (.ref s0), .unset, .unset, .unset, .unset, .unset, .unset, .unset, .unset, .unset, .unset, .unset, .unset]) rfl (pc' := 75) rfl ?_
  refine WP.new K (w_9 hw) (w_10 hw) (w_11 hw) at_75 (k' := 2) (n' := 8) rfl rfl (by decide) (by decide) (pc' := 78) rfl fun h10 s1 g10 E10 X10 D10 => ?_
  have ne_s0_s1 : s0 ≠ s1 := fun z_ => by have q_ : @LT.lt Nat _ s0 h9.size := (IsPS.lt O_s0); have r_ : @Eq Nat s0 s1 := z_; omega
  have old_s1 : n0 ≤ s1 := by have q_ := Z0; omega
  have O_s0 := IsPS.ext E10 O_s0
  have Z0 := Nat.le_trans Z0 E10.1
  have O_s1 : IsPS Z h10 s1 (.long (0 : Int64)) (.long (0 : Int64)) (.long (0 : Int64)) (.long (0 : Int64)) := ⟨X10, D10 (O := "com/example/knotwork/knotwork/evaluation/PairwiseScore") (f := "goldPairs") (d := "J") (Or.inr (w_24 hw)) (ty := .long) (by decide), D10 (O := "com/example/knotwork/knotwork/evaluation/PairwiseScore") (f := "foundPairs") (d := "J") (Or.inr (w_26 hw)) (ty := .long) (by decide), D10 (O := "com/example/knotwork/knotwork/evaluation/PairwiseScore") (f := "truePairs") (d := "J") (Or.inr (w_28 hw)) (ty := .long) (by decide), D10 (O := "com/example/knotwork/knotwork/evaluation/PairwiseScore") (f := "unmatchedGold") (d := "J") (Or.inr (w_30 hw)) (ty := .long) (by decide)⟩
  refine WP.dup K at_78 rfl (pc' := 79) rfl ?_
  refine WP.lloadN K at_79 rfl (pc' := 80) rfl ?_
  refine WP.lload K at_80 rfl (pc' := 82) rfl ?_
  refine WP.lload K at_82 rfl (pc' := 84) rfl ?_
  refine WP.lload K at_84 rfl (pc' := 86) rfl ?_
  refine WP.callI K (a := s1) (argsL := [(.long p0), (.long fp), (.long lo), (.long p5)]) (S := [(.ref s1)]) rfl (w_12 hw) (w_13 hw) (rm_ps w l Z a0 hw s1 _ _ _ _ p0 fp lo p5 h10 n0 Z0 O_s1 old_s1) (w_14 hw) (w_11 hw) (by decide) rfl (lenOf pd_2 rfl) rfl (W := 1) rfl (by decide) (by decide) (k' := 2) (n' := 8) rfl rfl (by decide) (by decide) at_86 (pc' := 89) rfl fun v h11 hq => ?_
  obtain ⟨rfl, K0, O_s1⟩ := hq
  have O_s0 := IsPS.keep K0 O_s0 (ninS ne_s0_s1 nin0)
  have Z0 := Nat.le_trans Z0 K0.1
  show WP κ h11 2 8 (mkF κ.m 89 #[.val (.long p0), .second, .val (.long p1), .second, .val (.long p2), .second, .val (.long p3), .second, .val (.long p4), .second, .val (.long p5), .second, .val (.long fp), .second, .val (.long a), .second, .val (.long b), .second, .val (.long lo), .second, .val (.long hi), .second, .val (.long hx), .second, .val (.ref s0), .unset, .unset, .unset, .unset, .unset, .unset, .unset, .unset, .unset, .unset, .unset, .unset] [(.ref s1)])
  refine WP.astore K at_89 rfl (L' := #[.val (.long p0), .second, .val (.long p1), .second, .val (.long p2), .second, .val (.long p3), .second, .val (.long p4), .second, .val (.long p5), .second, .val (.long fp), .second, .val (.long a), .second, .val (.long b), .second, .val (.long lo), .second, .val (.long hi), .second, .val (.long hx), .second, .val (.ref s0), .val (.ref s1), .unset, .unset, .unset, .unset, .unset, .unset, .unset, .unset, .unset, .unset, .unset]) rfl (pc' := 91) rfl ?_
  refine WP.new K (w_9 hw) (w_10 hw) (w_11 hw) at_91 (k' := 3) (n' := 12) rfl rfl (by decide) (by decide) (pc' := 94) rfl fun h12 s2 g12 E12 X12 D12 => ?_
  have ne_s0_s2 : s0 ≠ s2 := fun z_ => by have q_ : @LT.lt Nat _ s0 h11.size := (IsPS.lt O_s0); have r_ : @Eq Nat s0 s2 := z_; omega
  have ne_s1_s2 : s1 ≠ s2 := fun z_ => by have q_ : @LT.lt Nat _ s1 h11.size := (IsPS.lt O_s1); have r_ : @Eq Nat s1 s2 := z_; omega
  have old_s2 : n0 ≤ s2 := by have q_ := Z0; omega
  have O_s0 := IsPS.ext E12 O_s0
  have O_s1 := IsPS.ext E12 O_s1
  have Z0 := Nat.le_trans Z0 E12.1
  have O_s2 : IsPS Z h12 s2 (.long (0 : Int64)) (.long (0 : Int64)) (.long (0 : Int64)) (.long (0 : Int64)) := ⟨X12, D12 (O := "com/example/knotwork/knotwork/evaluation/PairwiseScore") (f := "goldPairs") (d := "J") (Or.inr (w_24 hw)) (ty := .long) (by decide), D12 (O := "com/example/knotwork/knotwork/evaluation/PairwiseScore") (f := "foundPairs") (d := "J") (Or.inr (w_26 hw)) (ty := .long) (by decide), D12 (O := "com/example/knotwork/knotwork/evaluation/PairwiseScore") (f := "truePairs") (d := "J") (Or.inr (w_28 hw)) (ty := .long) (by decide), D12 (O := "com/example/knotwork/knotwork/evaluation/PairwiseScore") (f := "unmatchedGold") (d := "J") (Or.inr (w_30 hw)) (ty := .long) (by decide)⟩
  refine WP.dup K at_94 rfl (pc' := 95) rfl ?_
  refine WP.lloadN K at_95 rfl (pc' := 96) rfl ?_
  refine WP.lload K at_96 rfl (pc' := 98) rfl ?_
  refine WP.lload K at_98 rfl (pc' := 100) rfl ?_
  refine WP.lload K at_100 rfl (pc' := 102) rfl ?_
  refine WP.callI K (a := s2) (argsL := [(.long p0), (.long fp), (.long hi), (.long p5)]) (S := [(.ref s2)]) rfl (w_12 hw) (w_13 hw) (rm_ps w l Z a0 hw s2 _ _ _ _ p0 fp hi p5 h12 n0 Z0 O_s2 old_s2) (w_14 hw) (w_11 hw) (by decide) rfl (lenOf pd_2 rfl) rfl (W := 1) rfl (by decide) (by decide) (k' := 3) (n' := 12) rfl rfl (by decide) (by decide) at_102 (pc' := 105) rfl fun v h13 hq => ?_
  obtain ⟨rfl, K0, O_s2⟩ := hq
  have O_s0 := IsPS.keep K0 O_s0 (ninS ne_s0_s2 nin0)
  have O_s1 := IsPS.keep K0 O_s1 (ninS ne_s1_s2 nin0)
  have Z0 := Nat.le_trans Z0 K0.1
  show WP κ h13 3 12 (mkF κ.m 105 #[.val (.long p0), .second, .val (.long p1), .second, .val (.long p2), .second, .val (.long p3), .second, .val (.long p4), .second, .val (.long p5), .second, .val (.long fp), .second, .val (.long a), .second, .val (.long b), .second, .val (.long lo), .second, .val (.long hi), .second, .val (.long hx), .second, .val (.ref s0), .val (.ref s1), .unset, .unset, .unset, .unset, .unset, .unset, .unset, .unset, .unset, .unset, .unset] [(.ref s2)])
  refine WP.astore K at_105 rfl (L' := #[.val (.long p0), .second, .val (.long p1), .second, .val (.long p2), .second, .val (.long p3), .second, .val (.long p4), .second, .val (.long p5), .second, .val (.long fp), .second, .val (.long a), .second, .val (.long b), .second, .val (.long lo), .second, .val (.long hi), .second, .val (.long hx), .second, .val (.ref s0), .val (.ref s1), .val (.ref s2), .unset, .unset, .unset, .unset, .unset, .unset, .unset, .unset, .unset, .unset]) rfl (pc' := 107) rfl ?_
  refine WP.new K (w_9 hw) (w_10 hw) (w_11 hw) at_107 (k' := 4) (n' := 16) rfl rfl (by decide) (by decide) (pc' := 110) rfl fun h14 s3 g14 E14 X14 D14 => ?_
  have ne_s0_s3 : s0 ≠ s3 := fun z_ => by have q_ : @LT.lt Nat _ s0 h13.size := (IsPS.lt O_s0); have r_ : @Eq Nat s0 s3 := z_; omega
  have ne_s1_s3 : s1 ≠ s3 := fun z_ => by have q_ : @LT.lt Nat _ s1 h13.size := (IsPS.lt O_s1); have r_ : @Eq Nat s1 s3 := z_; omega
  have ne_s2_s3 : s2 ≠ s3 := fun z_ => by have q_ : @LT.lt Nat _ s2 h13.size := (IsPS.lt O_s2); have r_ : @Eq Nat s2 s3 := z_; omega
  have old_s3 : n0 ≤ s3 := by have q_ := Z0; omega
  have O_s0 := IsPS.ext E14 O_s0
  have O_s1 := IsPS.ext E14 O_s1
  have O_s2 := IsPS.ext E14 O_s2
  have Z0 := Nat.le_trans Z0 E14.1
  have O_s3 : IsPS Z h14 s3 (.long (0 : Int64)) (.long (0 : Int64)) (.long (0 : Int64)) (.long (0 : Int64)) := ⟨X14, D14 (O := "com/example/knotwork/knotwork/evaluation/PairwiseScore") (f := "goldPairs") (d := "J") (Or.inr (w_24 hw)) (ty := .long) (by decide), D14 (O := "com/example/knotwork/knotwork/evaluation/PairwiseScore") (f := "foundPairs") (d := "J") (Or.inr (w_26 hw)) (ty := .long) (by decide), D14 (O := "com/example/knotwork/knotwork/evaluation/PairwiseScore") (f := "truePairs") (d := "J") (Or.inr (w_28 hw)) (ty := .long) (by decide), D14 (O := "com/example/knotwork/knotwork/evaluation/PairwiseScore") (f := "unmatchedGold") (d := "J") (Or.inr (w_30 hw)) (ty := .long) (by decide)⟩
  refine WP.dup K at_110 rfl (pc' := 111) rfl ?_
  refine WP.lloadN K at_111 rfl (pc' := 112) rfl ?_
  refine WP.ldc2J K (w_31 hw) at_112 (pc' := 115) rfl ?_
  refine WP.lload K at_115 rfl (pc' := 117) rfl ?_
  refine WP.lmul K at_117 (pc' := 118) rfl ?_
  refine WP.lload K at_118 rfl (pc' := 120) rfl ?_
  refine WP.lload K at_120 rfl (pc' := 122) rfl ?_
  refine WP.callI K (a := s3) (argsL := [(.long p0), (.long ((2 : Int64) * hx)), (.long hx), (.long p5)]) (S := [(.ref s3)]) rfl (w_12 hw) (w_13 hw) (rm_ps w l Z a0 hw s3 _ _ _ _ p0 ((2 : Int64) * hx) hx p5 h14 n0 Z0 O_s3 old_s3) (w_14 hw) (w_11 hw) (by decide) rfl (lenOf pd_2 rfl) rfl (W := 1) rfl (by decide) (by decide) (k' := 4) (n' := 16) rfl rfl (by decide) (by decide) at_122 (pc' := 125) rfl fun v h15 hq => ?_
  obtain ⟨rfl, K0, O_s3⟩ := hq
  have O_s0 := IsPS.keep K0 O_s0 (ninS ne_s0_s3 nin0)
  have O_s1 := IsPS.keep K0 O_s1 (ninS ne_s1_s3 nin0)
  have O_s2 := IsPS.keep K0 O_s2 (ninS ne_s2_s3 nin0)
  have Z0 := Nat.le_trans Z0 K0.1
  show WP κ h15 4 16 (mkF κ.m 125 #[.val (.long p0), .second, .val (.long p1), .second, .val (.long p2), .second, .val (.long p3), .second, .val (.long p4), .second, .val (.long p5), .second, .val (.long fp), .second, .val (.long a), .second, .val (.long b), .second, .val (.long lo), .second, .val (.long hi), .second, .val (.long hx), .second, .val (.ref s0), .val (.ref s1), .val (.ref s2), .unset, .unset, .unset, .unset, .unset, .unset, .unset, .unset, .unset, .unset] [(.ref s3)])
  refine WP.astore K at_125 rfl (L' := #[.val (.long p0), .second, .val (.long p1), .second, .val (.long p2), .second, .val (.long p3), .second, .val (.long p4), .second, .val (.long p5), .second, .val (.long fp), .second, .val (.long a), .second, .val (.long b), .second, .val (.long lo), .second, .val (.long hi), .second, .val (.long hx), .second, .val (.ref s0), .val (.ref s1), .val (.ref s2), .val (.ref s3), .unset, .unset, .unset, .unset, .unset, .unset, .unset, .unset, .unset]) rfl (pc' := 127) rfl ?_
  refine WP.aload K at_127 rfl rfl (pc' := 129) rfl ?_
  refine WP.callV K (a := s0) (argsL := []) (S := []) (w_32 hw) (w_33 hw) (fun vm0 hZ => notFace_of_selects (args := #[]) (mvT (s := κ.s.setVm vm0) hZ (w_35 hw))) (w_35 hw) (w_34 hw) (by decide) (IsPS.exa O_s0) (rm_pr w l Z a0 hw s0 p0 (0 : Int64) (0 : Int64) p5 h15 n0 Z0 O_s0 (Or.inl rfl)) (w_36 hw) (w_11 hw) (by decide) rfl (lenOf pd_3 rfl) rfl (W := 0) rfl (by decide) (by decide) (k' := 4) (n' := 16) rfl rfl (by decide) (by decide) at_129 (pc' := 132) rfl fun v h16 hq => ?_
  obtain ⟨d0, rfl, rfl, P_d0⟩ := hq
  show WP κ h15 4 16 (mkF κ.m 132 #[.val (.long p0), .second, .val (.long p1), .second, .val (.long p2), .second, .val (.long p3), .second, .val (.long p4), .second, .val (.long p5), .second, .val (.long fp), .second, .val (.long a), .second, .val (.long b), .second, .val (.long lo), .second, .val (.long hi), .second, .val (.long hx), .second, .val (.ref s0), .val (.ref s1), .val (.ref s2), .val (.ref s3), .unset, .unset, .unset, .unset, .unset, .unset, .unset, .unset, .unset] [(.double d0)])
  refine WP.dstore K at_132 (L' := #[.val (.long p0), .second, .val (.long p1), .second, .val (.long p2), .second, .val (.long p3), .second, .val (.long p4), .second, .val (.long p5), .second, .val (.long fp), .second, .val (.long a), .second, .val (.long b), .second, .val (.long lo), .second, .val (.long hi), .second, .val (.long hx), .second, .val (.ref s0), .val (.ref s1), .val (.ref s2), .val (.ref s3), .val (.double d0), .second, .unset, .unset, .unset, .unset, .unset, .unset, .unset]) rfl (pc' := 134) rfl ?_
  refine WP.aload K at_134 rfl rfl (pc' := 136) rfl ?_
  refine WP.callV K (a := s1) (argsL := []) (S := []) (w_32 hw) (w_33 hw) (fun vm0 hZ => notFace_of_selects (args := #[]) (mvT (s := κ.s.setVm vm0) hZ (w_35 hw))) (w_35 hw) (w_34 hw) (by decide) (IsPS.exa O_s1) (rm_pr w l Z a0 hw s1 p0 fp lo p5 h15 n0 Z0 O_s1 (Or.inr ⟨l0, Int.le_trans m1 l2⟩)) (w_36 hw) (w_11 hw) (by decide) rfl (lenOf pd_3 rfl) rfl (W := 0) rfl (by decide) (by decide) (k' := 4) (n' := 16) rfl rfl (by decide) (by decide) at_136 (pc' := 139) rfl fun v h17 hq => ?_
  obtain ⟨dL, rfl, rfl, P_dL⟩ := hq
  show WP κ h15 4 16 (mkF κ.m 139 #[.val (.long p0), .second, .val (.long p1), .second, .val (.long p2), .second, .val (.long p3), .second, .val (.long p4), .second, .val (.long p5), .second, .val (.long fp), .second, .val (.long a), .second, .val (.long b), .second, .val (.long lo), .second, .val (.long hi), .second, .val (.long hx), .second, .val (.ref s0), .val (.ref s1), .val (.ref s2), .val (.ref s3), .val (.double d0), .second, .unset, .unset, .unset, .unset, .unset, .unset, .unset] [(.double dL)])
  refine WP.dstore K at_139 (L' := #[.val (.long p0), .second, .val (.long p1), .second, .val (.long p2), .second, .val (.long p3), .second, .val (.long p4), .second, .val (.long p5), .second, .val (.long fp), .second, .val (.long a), .second, .val (.long b), .second, .val (.long lo), .second, .val (.long hi), .second, .val (.long hx), .second, .val (.ref s0), .val (.ref s1), .val (.ref s2), .val (.ref s3), .val (.double d0), .second, .val (.double dL), .second, .unset, .unset, .unset, .unset, .unset]) rfl (pc' := 141) rfl ?_
  refine WP.aload K at_141 rfl rfl (pc' := 143) rfl ?_
  refine WP.callV K (a := s2) (argsL := []) (S := []) (w_32 hw) (w_33 hw) (fun vm0 hZ => notFace_of_selects (args := #[]) (mvT (s := κ.s.setVm vm0) hZ (w_35 hw))) (w_35 hw) (w_34 hw) (by decide) (IsPS.exa O_s2) (rm_pr w l Z a0 hw s2 p0 fp hi p5 h15 n0 Z0 O_s2 (Or.inr ⟨Int.le_trans l0 m1, l2⟩)) (w_36 hw) (w_11 hw) (by decide) rfl (lenOf pd_3 rfl) rfl (W := 0) rfl (by decide) (by decide) (k' := 4) (n' := 16) rfl rfl (by decide) (by decide) at_143 (pc' := 146) rfl fun v h18 hq => ?_
  obtain ⟨dH, rfl, rfl, P_dH⟩ := hq
  show WP κ h15 4 16 (mkF κ.m 146 #[.val (.long p0), .second, .val (.long p1), .second, .val (.long p2), .second, .val (.long p3), .second, .val (.long p4), .second, .val (.long p5), .second, .val (.long fp), .second, .val (.long a), .second, .val (.long b), .second, .val (.long lo), .second, .val (.long hi), .second, .val (.long hx), .second, .val (.ref s0), .val (.ref s1), .val (.ref s2), .val (.ref s3), .val (.double d0), .second, .val (.double dL), .second, .unset, .unset, .unset, .unset, .unset] [(.double dH)])
  refine WP.dstore K at_146 (L' := #[.val (.long p0), .second, .val (.long p1), .second, .val (.long p2), .second, .val (.long p3), .second, .val (.long p4), .second, .val (.long p5), .second, .val (.long fp), .second, .val (.long a), .second, .val (.long b), .second, .val (.long lo), .second, .val (.long hi), .second, .val (.long hx), .second, .val (.ref s0), .val (.ref s1), .val (.ref s2), .val (.ref s3), .val (.double d0), .second, .val (.double dL), .second, .val (.double dH), .second, .unset, .unset, .unset]) rfl (pc' := 148) rfl ?_
  refine WP.aload K at_148 rfl rfl (pc' := 150) rfl ?_
  refine WP.callV K (a := s3) (argsL := []) (S := []) (w_32 hw) (w_33 hw) (fun vm0 hZ => notFace_of_selects (args := #[]) (mvT (s := κ.s.setVm vm0) hZ (w_35 hw))) (w_35 hw) (w_34 hw) (by decide) (IsPS.exa O_s3) (rm_pr w l Z a0 hw s3 p0 ((2 : Int64) * hx) hx p5 h15 n0 Z0 O_s3 (Or.inr ⟨Int.le_of_lt hh.1, by have := hh.1; have := hh.2; omega⟩)) (w_36 hw) (w_11 hw) (by decide) rfl (lenOf pd_3 rfl) rfl (W := 0) rfl (by decide) (by decide) (k' := 4) (n' := 16) rfl rfl (by decide) (by decide) at_150 (pc' := 153) rfl fun v h19 hq => ?_
  obtain ⟨dX, rfl, rfl, P_dX⟩ := hq
  show WP κ h15 4 16 (mkF κ.m 153 #[.val (.long p0), .second, .val (.long p1), .second, .val (.long p2), .second, .val (.long p3), .second, .val (.long p4), .second, .val (.long p5), .second, .val (.long fp), .second, .val (.long a), .second, .val (.long b), .second, .val (.long lo), .second, .val (.long hi), .second, .val (.long hx), .second, .val (.ref s0), .val (.ref s1), .val (.ref s2), .val (.ref s3), .val (.double d0), .second, .val (.double dL), .second, .val (.double dH), .second, .unset, .unset, .unset] [(.double dX)])
  refine WP.dstore K at_153 (L' := #[.val (.long p0), .second, .val (.long p1), .second, .val (.long p2), .second, .val (.long p3), .second, .val (.long p4), .second, .val (.long p5), .second, .val (.long fp), .second, .val (.long a), .second, .val (.long b), .second, .val (.long lo), .second, .val (.long hi), .second, .val (.long hx), .second, .val (.ref s0), .val (.ref s1), .val (.ref s2), .val (.ref s3), .val (.double d0), .second, .val (.double dL), .second, .val (.double dH), .second, .val (.double dX), .second, .unset]) rfl (pc' := 155) rfl ?_
  obtain ⟨k0, kX, kZ, kN⟩ := law_m1 l0 m1 l2 hh.1 hh.2 P_d0 P_dL P_dH P_dX
  refine WP.lload K at_155 rfl (pc' := 157) rfl ?_
  refine WP.lconst K at_157 (v := (0 : Int64)) rfl (pc' := 158) rfl ?_
  refine WP.lcmp K at_158 (pc' := 159) rfl ?_
  by_cases cf : fp = (0 : Int64)
  · obtain ⟨z1, z2⟩ := kZ cf
    refine WP.if0F K at_159 ((if0 _ _).trans (teq ((lw_eq _ _).mpr cf)).2) (pc' := 162) rfl ?_
    refine WP.dload K at_162 rfl (pc' := 164) rfl ?_
    refine WP.dconst0 K at_164 (v := (0 : UInt64)) rfl (pc' := 165) rfl ?_
    refine WP.dcmp K at_165 (pc' := 166) rfl ?_
    refine WP.if0F K at_166 ((if0 _ _).trans (teq z1).2) (pc' := 169) rfl ?_
    refine WP.dload K at_169 rfl (pc' := 171) rfl ?_
    refine WP.dconst0 K at_171 (v := (0 : UInt64)) rfl (pc' := 172) rfl ?_
    refine WP.dcmp K at_172 (pc' := 173) rfl ?_
    refine WP.if0F K at_173 ((if0 _ _).trans (teq z2).2) (pc' := 176) rfl ?_
    refine WP.iconst K at_176 (v := (1 : Int32)) rfl (pc' := 177) rfl ?_
    refine WP.goto K at_177 (by decide) (pc' := 181) (by decide) ?_
    refine WP.istore K at_181 (L' := #[.val (.long p0), .second, .val (.long p1), .second, .val (.long p2), .second, .val (.long p3), .second, .val (.long p4), .second, .val (.long p5), .second, .val (.long fp), .second, .val (.long a), .second, .val (.long b), .second, .val (.long lo), .second, .val (.long hi), .second, .val (.long hx), .second, .val (.ref s0), .val (.ref s1), .val (.ref s2), .val (.ref s3), .val (.double d0), .second, .val (.double dL), .second, .val (.double dH), .second, .val (.double dX), .second, .val (.int (1 : Int32))]) rfl (pc' := 183) rfl ?_
    refine WP.goto K at_183 (by decide) (pc' := 244) (by decide) ?_
    refine WP.iload K at_244 rfl (pc' := 246) rfl ?_
    refine WP.if0F K at_246 (by decide) (pc' := 249) rfl ?_
    refine WP.dload K at_249 rfl (pc' := 251) rfl ?_
    refine WP.dconst0 K at_251 (v := (0 : UInt64)) rfl (pc' := 252) rfl ?_
    refine WP.dcmp K at_252 (pc' := 253) rfl ?_
    refine WP.if0F K at_253 ((if0 _ _).trans (teq k0).2) (pc' := 256) rfl ?_
    refine WP.dload K at_256 rfl (pc' := 258) rfl ?_
    refine WP.ldc2D K (w_37 hw) at_258 (pc' := 261) rfl ?_
    refine WP.dcmp K at_261 (pc' := 262) rfl ?_
    refine WP.if0F K at_262 ((if0 _ _).trans (teq kX).2) (pc' := 265) rfl ?_
    refine WP.iconst K at_265 (v := (1 : Int32)) rfl (pc' := 266) rfl ?_
    refine WP.goto K at_266 (by decide) (pc' := 270) (by decide) ?_
    exact WP.retN K (ty := .boolean) (by decide) at_270 (by decide) (by decide) rfl
  · obtain ⟨z1, z2, z3, z4, z5⟩ := kN cf
    refine WP.if0T K at_159 ((if0 _ _).trans (feq (fun q => cf ((lw_eq _ _).mp q))).2) (by decide) (pc' := 186) (by decide) ?_
    refine WP.dconst0 K at_186 (v := (0 : UInt64)) rfl (pc' := 187) rfl ?_
    refine WP.dload K at_187 rfl (pc' := 189) rfl ?_
    refine WP.dcmp K at_189 (pc' := 190) rfl ?_
    refine WP.if0F K at_190 ((if0 _ _).trans (flt z1).2.2.1) (pc' := 193) rfl ?_
    refine WP.dload K at_193 rfl (pc' := 195) rfl ?_
    refine WP.dload K at_195 rfl (pc' := 197) rfl ?_
    refine WP.dcmp K at_197 (pc' := 198) rfl ?_
    refine WP.if0F K at_198 ((if0 _ _).trans (flt z2).2.2.1) (pc' := 201) rfl ?_
    refine WP.dload K at_201 rfl (pc' := 203) rfl ?_
    refine WP.dconst1 K at_203 (v := (4607182418800017408 : UInt64)) rfl (pc' := 204) rfl ?_
    refine WP.dcmp K at_204 (pc' := 205) rfl ?_
    refine WP.if0F K at_205 ((if0 _ _).trans (flt z3).2.2.1) (pc' := 208) rfl ?_
    refine WP.lload K at_208 rfl (pc' := 210) rfl ?_
    refine WP.lconst K at_210 (v := (0 : Int64)) rfl (pc' := 211) rfl ?_
    refine WP.lcmp K at_211 (pc' := 212) rfl ?_
    by_cases cl : lo = (0 : Int64)
    · refine WP.if0F K at_212 ((if0 _ _).trans (teq ((lw_eq _ _).mpr cl)).2) (pc' := 215) rfl ?_
      refine WP.dload K at_215 rfl (pc' := 217) rfl ?_
      refine WP.dconst0 K at_217 (v := (0 : UInt64)) rfl (pc' := 218) rfl ?_
      refine WP.dcmp K at_218 (pc' := 219) rfl ?_
      refine WP.if0F K at_219 ((if0 _ _).trans (teq (z4 cl)).2) (pc' := 222) rfl ?_
      refine WP.lload K at_222 rfl (pc' := 224) rfl ?_
      refine WP.lload K at_224 rfl (pc' := 226) rfl ?_
      refine WP.lcmp K at_226 (pc' := 227) rfl ?_
      by_cases ch : hi = fp
      · refine WP.if0F K at_227 ((if0 _ _).trans (teq ((lw_eq _ _).mpr ch)).2) (pc' := 230) rfl ?_
        refine WP.dload K at_230 rfl (pc' := 232) rfl ?_
        refine WP.dconst1 K at_232 (v := (4607182418800017408 : UInt64)) rfl (pc' := 233) rfl ?_
        refine WP.dcmp K at_233 (pc' := 234) rfl ?_
        refine WP.if0F K at_234 ((if0 _ _).trans (teq (z5 ch)).2) (pc' := 237) rfl ?_
        refine WP.iconst K at_237 (v := (1 : Int32)) rfl (pc' := 238) rfl ?_
        refine WP.goto K at_238 (by decide) (pc' := 242) (by decide) ?_
        refine WP.istore K at_242 (L' := #[.val (.long p0), .second, .val (.long p1), .second, .val (.long p2), .second, .val (.long p3), .second, .val (.long p4), .second, .val (.long p5), .second, .val (.long fp), .second, .val (.long a), .second, .val (.long b), .second, .val (.long lo), .second, .val (.long hi), .second, .val (.long hx), .second, .val (.ref s0), .val (.ref s1), .val (.ref s2), .val (.ref s3), .val (.double d0), .second, .val (.double dL), .second, .val (.double dH), .second, .val (.double dX), .second, .val (.int (1 : Int32))]) rfl (pc' := 244) rfl ?_
        refine WP.iload K at_244 rfl (pc' := 246) rfl ?_
        refine WP.if0F K at_246 (by decide) (pc' := 249) rfl ?_
        refine WP.dload K at_249 rfl (pc' := 251) rfl ?_
        refine WP.dconst0 K at_251 (v := (0 : UInt64)) rfl (pc' := 252) rfl ?_
        refine WP.dcmp K at_252 (pc' := 253) rfl ?_
        refine WP.if0F K at_253 ((if0 _ _).trans (teq k0).2) (pc' := 256) rfl ?_
        refine WP.dload K at_256 rfl (pc' := 258) rfl ?_
        refine WP.ldc2D K (w_37 hw) at_258 (pc' := 261) rfl ?_
        refine WP.dcmp K at_261 (pc' := 262) rfl ?_
        refine WP.if0F K at_262 ((if0 _ _).trans (teq kX).2) (pc' := 265) rfl ?_
        refine WP.iconst K at_265 (v := (1 : Int32)) rfl (pc' := 266) rfl ?_
        refine WP.goto K at_266 (by decide) (pc' := 270) (by decide) ?_
        exact WP.retN K (ty := .boolean) (by decide) at_270 (by decide) (by decide) rfl
      · refine WP.if0T K at_227 ((if0 _ _).trans (feq (fun q => ch ((lw_eq _ _).mp q))).2) (by decide) (pc' := 237) (by decide) ?_
        refine WP.iconst K at_237 (v := (1 : Int32)) rfl (pc' := 238) rfl ?_
        refine WP.goto K at_238 (by decide) (pc' := 242) (by decide) ?_
        refine WP.istore K at_242 (L' := #[.val (.long p0), .second, .val (.long p1), .second, .val (.long p2), .second, .val (.long p3), .second, .val (.long p4), .second, .val (.long p5), .second, .val (.long fp), .second, .val (.long a), .second, .val (.long b), .second, .val (.long lo), .second, .val (.long hi), .second, .val (.long hx), .second, .val (.ref s0), .val (.ref s1), .val (.ref s2), .val (.ref s3), .val (.double d0), .second, .val (.double dL), .second, .val (.double dH), .second, .val (.double dX), .second, .val (.int (1 : Int32))]) rfl (pc' := 244) rfl ?_
        refine WP.iload K at_244 rfl (pc' := 246) rfl ?_
        refine WP.if0F K at_246 (by decide) (pc' := 249) rfl ?_
        refine WP.dload K at_249 rfl (pc' := 251) rfl ?_
        refine WP.dconst0 K at_251 (v := (0 : UInt64)) rfl (pc' := 252) rfl ?_
        refine WP.dcmp K at_252 (pc' := 253) rfl ?_
        refine WP.if0F K at_253 ((if0 _ _).trans (teq k0).2) (pc' := 256) rfl ?_
        refine WP.dload K at_256 rfl (pc' := 258) rfl ?_
        refine WP.ldc2D K (w_37 hw) at_258 (pc' := 261) rfl ?_
        refine WP.dcmp K at_261 (pc' := 262) rfl ?_
        refine WP.if0F K at_262 ((if0 _ _).trans (teq kX).2) (pc' := 265) rfl ?_
        refine WP.iconst K at_265 (v := (1 : Int32)) rfl (pc' := 266) rfl ?_
        refine WP.goto K at_266 (by decide) (pc' := 270) (by decide) ?_
        exact WP.retN K (ty := .boolean) (by decide) at_270 (by decide) (by decide) rfl
    · refine WP.if0T K at_212 ((if0 _ _).trans (feq (fun q => cl ((lw_eq _ _).mp q))).2) (by decide) (pc' := 222) (by decide) ?_
      refine WP.lload K at_222 rfl (pc' := 224) rfl ?_
      refine WP.lload K at_224 rfl (pc' := 226) rfl ?_
      refine WP.lcmp K at_226 (pc' := 227) rfl ?_
      by_cases ch : hi = fp
      · refine WP.if0F K at_227 ((if0 _ _).trans (teq ((lw_eq _ _).mpr ch)).2) (pc' := 230) rfl ?_
        refine WP.dload K at_230 rfl (pc' := 232) rfl ?_
        refine WP.dconst1 K at_232 (v := (4607182418800017408 : UInt64)) rfl (pc' := 233) rfl ?_
        refine WP.dcmp K at_233 (pc' := 234) rfl ?_
        refine WP.if0F K at_234 ((if0 _ _).trans (teq (z5 ch)).2) (pc' := 237) rfl ?_
        refine WP.iconst K at_237 (v := (1 : Int32)) rfl (pc' := 238) rfl ?_
        refine WP.goto K at_238 (by decide) (pc' := 242) (by decide) ?_
        refine WP.istore K at_242 (L' := #[.val (.long p0), .second, .val (.long p1), .second, .val (.long p2), .second, .val (.long p3), .second, .val (.long p4), .second, .val (.long p5), .second, .val (.long fp), .second, .val (.long a), .second, .val (.long b), .second, .val (.long lo), .second, .val (.long hi), .second, .val (.long hx), .second, .val (.ref s0), .val (.ref s1), .val (.ref s2), .val (.ref s3), .val (.double d0), .second, .val (.double dL), .second, .val (.double dH), .second, .val (.double dX), .second, .val (.int (1 : Int32))]) rfl (pc' := 244) rfl ?_
        refine WP.iload K at_244 rfl (pc' := 246) rfl ?_
        refine WP.if0F K at_246 (by decide) (pc' := 249) rfl ?_
        refine WP.dload K at_249 rfl (pc' := 251) rfl ?_
        refine WP.dconst0 K at_251 (v := (0 : UInt64)) rfl (pc' := 252) rfl ?_
        refine WP.dcmp K at_252 (pc' := 253) rfl ?_
        refine WP.if0F K at_253 ((if0 _ _).trans (teq k0).2) (pc' := 256) rfl ?_
        refine WP.dload K at_256 rfl (pc' := 258) rfl ?_
        refine WP.ldc2D K (w_37 hw) at_258 (pc' := 261) rfl ?_
        refine WP.dcmp K at_261 (pc' := 262) rfl ?_
        refine WP.if0F K at_262 ((if0 _ _).trans (teq kX).2) (pc' := 265) rfl ?_
        refine WP.iconst K at_265 (v := (1 : Int32)) rfl (pc' := 266) rfl ?_
        refine WP.goto K at_266 (by decide) (pc' := 270) (by decide) ?_
        exact WP.retN K (ty := .boolean) (by decide) at_270 (by decide) (by decide) rfl
      · refine WP.if0T K at_227 ((if0 _ _).trans (feq (fun q => ch ((lw_eq _ _).mp q))).2) (by decide) (pc' := 237) (by decide) ?_
        refine WP.iconst K at_237 (v := (1 : Int32)) rfl (pc' := 238) rfl ?_
        refine WP.goto K at_238 (by decide) (pc' := 242) (by decide) ?_
        refine WP.istore K at_242 (L' := #[.val (.long p0), .second, .val (.long p1), .second, .val (.long p2), .second, .val (.long p3), .second, .val (.long p4), .second, .val (.long p5), .second, .val (.long fp), .second, .val (.long a), .second, .val (.long b), .second, .val (.long lo), .second, .val (.long hi), .second, .val (.long hx), .second, .val (.ref s0), .val (.ref s1), .val (.ref s2), .val (.ref s3), .val (.double d0), .second, .val (.double dL), .second, .val (.double dH), .second, .val (.double dX), .second, .val (.int (1 : Int32))]) rfl (pc' := 244) rfl ?_
        refine WP.iload K at_244 rfl (pc' := 246) rfl ?_
        refine WP.if0F K at_246 (by decide) (pc' := 249) rfl ?_
        refine WP.dload K at_249 rfl (pc' := 251) rfl ?_
        refine WP.dconst0 K at_251 (v := (0 : UInt64)) rfl (pc' := 252) rfl ?_
        refine WP.dcmp K at_252 (pc' := 253) rfl ?_
        refine WP.if0F K at_253 ((if0 _ _).trans (teq k0).2) (pc' := 256) rfl ?_
        refine WP.dload K at_256 rfl (pc' := 258) rfl ?_
        refine WP.ldc2D K (w_37 hw) at_258 (pc' := 261) rfl ?_
        refine WP.dcmp K at_261 (pc' := 262) rfl ?_
        refine WP.if0F K at_262 ((if0 _ _).trans (teq kX).2) (pc' := 265) rfl ?_
        refine WP.iconst K at_265 (v := (1 : Int32)) rfl (pc' := 266) rfl ?_
        refine WP.goto K at_266 (by decide) (pc' := 270) (by decide) ?_
        exact WP.retN K (ty := .boolean) (by decide) at_270 (by decide) (by decide) rfl
set_option maxRecDepth 65536 in
set_option maxHeartbeats 40000000 in
theorem comes_1 {Post : Tables → Env → Array Value → State → Outcome → State → Prop} (hpost : ∀ tb e args s v u, (limb_1_1.after args s (.returned v) u = true ∧ limb_1_2.after args s (.returned v) u = true ∧ True) → FrameEnd s (.returned v) u (Jvm.fieldLocs frame_1_writes args s ++ Jvm.arrayLocs frame_1_arrays args s ++ Jvm.staticLocs frame_1_statics s) 16 128 → Post tb e args s (.returned v) u) :
    ArmFor flags0 classFile x code maxLocals ret World_1 tables_1 room_1 Calls_1 rest_1 Pre_1 Post := by
  intro l hfl _ _ p e ha hc hk s m args below hf hA hF happ hP
  obtain ⟨hcalls, hrest, hpre⟩ := hP
  obtain ⟨-, -, -, hnamed, -, -, -, hat⟩ := (Spec.applies_iff hf).mp happ
  obtain ⟨hg, hn⟩ := and_e (Cond.before_iff.mp (show (Jvm.Cond.and given_1 narrow_1).before args s = true from hpre))
  obtain ⟨q0, r0⟩ := and_e hg
  obtain ⟨q1, r1⟩ := and_e r0
  obtain ⟨q2, r2⟩ := and_e r1
  obtain ⟨q3, r3⟩ := and_e r2
  obtain ⟨q4, r4⟩ := and_e r3
  obtain ⟨q5, r5⟩ := and_e r4
  obtain ⟨v0, v1, v2, v3, v4, v5, rfl⟩ : ∃ v0 v1 v2 v3 v4 v5 : Value, args = #[v0, v1, v2, v3, v4, v5] := by
    have hs : args.size = 6 := by simpa [Cond.value, given_1] using q0
    obtain ⟨L⟩ := args
    match L, hs with
    | [v0, v1, v2, v3, v4, v5], _ => exact ⟨v0, v1, v2, v3, v4, v5, rfl⟩
  have hw := fun d (hd : d ∈ tables_1) => atoms_spec (ws := Jvm.Cond.code x code maxLocals ret :: tables_1) hat d (List.mem_cons_of_mem _ hd)
  obtain ⟨i0, ei0⟩ := isL_v q1
  obtain rfl : v0 = (.long i0) := Option.some.inj ei0
  obtain ⟨i1, ei1⟩ := isL_v q2
  obtain rfl : v1 = (.long i1) := Option.some.inj ei1
  obtain ⟨i2, ei2⟩ := isL_v q3
  obtain rfl : v2 = (.long i2) := Option.some.inj ei2
  obtain ⟨i3, ei3⟩ := isL_v q4
  obtain rfl : v3 = (.long i3) := Option.some.inj ei3
  obtain ⟨i4, ei4⟩ := isL_v q5
  obtain rfl : v4 = (.long i4) := Option.some.inj ei4
  obtain ⟨i5, ei5⟩ := isL_v r5
  obtain rfl : v5 = (.long i5) := Option.some.inj ei5
  obtain ⟨n, o, h1, h2, h3, _, L, rfl, ⟨rfl, N⟩, hq⟩ := rm_law false l s _ hw i0 i1 i2 i3 i4 i5 s.heap s.heap.size (Nat.le_refl _)  p e ha hc hk s m _ below hf ((Spec.applies_iff_loose hf).mp happ).1 ⟨rfl, State.Warmed39.refl s, rfl⟩ trivial
  refine ⟨n, _, h1, h2, h3, hpost _ _ _ _ _ _ ⟨Cond.after_iff.mpr rfl, Cond.after_iff.mpr (eq_i res_at (Term.int_eval (1)) rfl), trivial⟩ ⟨hq.1, hq.2.1, (hq.2.2.sift fun y hy => Or.inr (N y hy)).mono (by decide) (by decide)⟩⟩
theorem main_1_1 : Claimed_1_1 := comes_1 fun _ _ _ _ _ _ h hF => ⟨h.1, hF⟩
theorem main_1_2 : Claimed_1_2 := comes_1 fun _ _ _ _ _ _ h hF => ⟨h.2.1, hF⟩
end Jvm.Pilot.@@N@@
namespace Jvm.Pilot.@@N@@
open Jvm Jvm.ClassFile Sem Op Lib Jvm.Free Jvm.Stand Jvm.Pilot.@@N@@.Jvm.D
/-! MADE BY PROGRAM (witnessworld.py) out of the Statement's table words and the real class files: 11 classes; the members and pool entries that the words name. The judged class is class 1, her method 1. -/
namespace start1
open Jvm.ClassFile
def u (s : String) : CpInfo := .utf8 (stringToUtf16 s)
/-- a pool by its gaps: so many unusable entries, then the entry; so many at the end -/
def gap : Nat → List CpInfo → List CpInfo
  | 0, r => r
  | n + 1, r => .unusable :: gap n r
def poolList (es : List (Nat × CpInfo)) (last : Nat) : List CpInfo := es.foldr (fun e r => gap e.1 (e.2 :: r)) (gap last [])
def pool (es : List (Nat × CpInfo)) (last : Nat) : Array CpInfo := ⟨poolList es last⟩
def fileOf (pool : Array CpInfo) (this : Nat) (attrs : Array Attribute := #[]) (ms : Array MethodInfo := #[]) (fl : Nat := 33) (sup : Nat := 0) (ifs : Array Nat := #[]) (fds : Array FieldInfo := #[]) : ClassFile where
  minorVersion := 0
  majorVersion := 65
  constantPool := pool
  accessFlags := fl
  thisClass := this
  superClass := sup
  interfaces := ifs
  fields := fds
  methods := ms
  attributes := attrs
def plain (name : String) (sup : Option ClassId) : Class where
  name := name
  kind := .ordinary
  loader := none
  accessFlags := 33
  super := sup
  interfaces := #[]
  cf := none
  fields := #[]
  methods := #[]
  instanceTypes := #[]
  staticTypes := #[]
  resolved := #[]
  callSites := []
  init := .initialized
  statics := none
  mirror := none

def pool0 : Array CpInfo := pool [(5, u "<init>"), (0, u "()V"), (1, .class_ 10), (1, u "java/lang/Object")] 113

def k0c0 : Code := { maxStack := 0, maxLocals := 1, code := object_method_1_code, exceptionTable := #[], attributes := #[] }
def k0m0 : Method := { name := "<init>", desc := "()V", sig := { parameters := [], returnType := none }, accessFlags := 1, code := some k0c0 }
/-- java/lang/Object -/
def k0 : Class := { plain "java/lang/Object" none with
  accessFlags := 33
  interfaces := #[]
  cf := some (fileOf pool0 8 #[] #[{ accessFlags := 1, nameIndex := 5, descriptorIndex := 6, attributes := #[] }] 33 0 #[] #[])
  fields := #[]
  methods := #[k0m0]
  instanceTypes := #[]
  staticTypes := #[]
  resolved := Array.replicate 124 none
  statics := none }

def pool1 : Array CpInfo := pool [(2, .class_ 4), (1, u "java/lang/Object"), (0, u "<init>"), (0, u "()V"), (2, .long 9223372036854775807), (1, .methodref 12 13), (0, .class_ 14), (0, .nameAndType 15 16), (0, u "java/lang/Math"), (0, u "min"), (0, u "(JJ)J"), (0, .methodref 12 18), (0, .nameAndType 19 16), (0, u "max"), (0, .long 4611686018427387902), (1, .class_ 23), (0, u "com/example/knotwork/knotwork/evaluation/PairwiseScore"), (0, .methodref 22 25), (0, .nameAndType 5 26), (0, u "(JJJJ)V"), (0, .long 2), (1, .methodref 22 30), (0, .nameAndType 31 32), (0, u "precision"), (0, u "()D"), (0, .double 4602678819172646912), (1, .class_ 36), (0, u "com/example/knotwork/knotwork/evaluation/PairwiseScorePrecisionPinLaw"), (2, u "law"), (0, u "(JJJJJJ)Z")] 3

def k1m0 : Method := { name := "<init>", desc := "()V", sig := { parameters := [], returnType := none }, accessFlags := 1, code := none }
def k1c1 : Code := { maxStack := 10, maxLocals := 37, code := code, exceptionTable := #[], attributes := #[] }
def k1m1 : Method := { name := "law", desc := "(JJJJJJ)Z", sig := { parameters := [.long, .long, .long, .long, .long, .long], returnType := some .boolean }, accessFlags := 9, code := some k1c1 }
/-- com/example/knotwork/knotwork/evaluation/PairwiseScorePrecisionPinLaw -/
def k1 : Class := { plain "com/example/knotwork/knotwork/evaluation/PairwiseScorePrecisionPinLaw" (some 0) with
  accessFlags := 49
  interfaces := #[]
  cf := some (fileOf pool1 35 #[] #[{ accessFlags := 1, nameIndex := 5, descriptorIndex := 6, attributes := #[] }, { accessFlags := 9, nameIndex := 39, descriptorIndex := 40, attributes := #[] }] 49 2 #[] #[])
  fields := #[]
  methods := #[k1m0, k1m1]
  instanceTypes := #[]
  staticTypes := #[]
  resolved := Array.replicate 44 none
  statics := none }

def pool2 : Array CpInfo := pool [(1, .class_ 2), (0, u "java/lang/Math"), (1, .class_ 6), (1, u "java/lang/Object"), (0, u "<init>"), (0, u "()V"), (89, .class_ 100), (1, u "java/lang/Math$RandomNumberGeneratorHolder"), (20, u "(JJ)J"), (50, u "negativeZeroFloatBits"), (0, u "J"), (2, u "negativeZeroDoubleBits"), (21, u "max"), (2, u "min"), (43, u "$assertionsDisabled"), (0, u "Z"), (91, u "twoToTheDoubleScaleDown"), (0, u "D"), (4, u "twoToTheDoubleScaleUp"), (9, u "E"), (3, u "PI"), (2, u "TAU"), (2, u "DEGREES_TO_RADIANS"), (0, u "RADIANS_TO_DEGREES")] 94

def k2m0 : Method := { name := "<init>", desc := "()V", sig := { parameters := [], returnType := none }, accessFlags := 2, code := none }
def k2c1 : Code := { maxStack := 4, maxLocals := 4, code := jdk_29_method_66_code, exceptionTable := #[], attributes := #[] }
def k2m1 : Method := { name := "max", desc := "(JJ)J", sig := { parameters := [.long, .long], returnType := some .long }, accessFlags := 9, code := some k2c1 }
def k2c2 : Code := { maxStack := 4, maxLocals := 4, code := jdk_29_method_70_code, exceptionTable := #[], attributes := #[] }
def k2m2 : Method := { name := "min", desc := "(JJ)J", sig := { parameters := [.long, .long], returnType := some .long }, accessFlags := 9, code := some k2c2 }
/-- java/lang/Math -/
def k2 : Class := { plain "java/lang/Math" (some 0) with
  accessFlags := 49
  interfaces := #[]
  cf := some (fileOf pool2 1 #[.nestMembers #[98]] #[{ accessFlags := 2, nameIndex := 7, descriptorIndex := 8, attributes := #[] }, { accessFlags := 9, nameIndex := 198, descriptorIndex := 121, attributes := #[] }, { accessFlags := 9, nameIndex := 201, descriptorIndex := 121, attributes := #[] }] 49 4 #[] #[{ accessFlags := 25, nameIndex := 354, descriptorIndex := 339, attributes := #[] }, { accessFlags := 25, nameIndex := 358, descriptorIndex := 339, attributes := #[] }, { accessFlags := 25, nameIndex := 361, descriptorIndex := 339, attributes := #[] }, { accessFlags := 26, nameIndex := 364, descriptorIndex := 339, attributes := #[] }, { accessFlags := 26, nameIndex := 365, descriptorIndex := 339, attributes := #[] }, { accessFlags := 26, nameIndex := 172, descriptorIndex := 173, attributes := #[] }, { accessFlags := 26, nameIndex := 176, descriptorIndex := 173, attributes := #[] }, { accessFlags := 8, nameIndex := 344, descriptorIndex := 339, attributes := #[] }, { accessFlags := 8, nameIndex := 338, descriptorIndex := 339, attributes := #[] }, { accessFlags := 4120, nameIndex := 245, descriptorIndex := 246, attributes := #[] }])
  fields := #[{ name := "E", type := .double, accessFlags := 25, slot := 0, constantValue := 0 }, { name := "PI", type := .double, accessFlags := 25, slot := 1, constantValue := 0 }, { name := "TAU", type := .double, accessFlags := 25, slot := 2, constantValue := 0 }, { name := "DEGREES_TO_RADIANS", type := .double, accessFlags := 26, slot := 3, constantValue := 0 }, { name := "RADIANS_TO_DEGREES", type := .double, accessFlags := 26, slot := 4, constantValue := 0 }, { name := "negativeZeroFloatBits", type := .long, accessFlags := 26, slot := 5, constantValue := 0 }, { name := "negativeZeroDoubleBits", type := .long, accessFlags := 26, slot := 6, constantValue := 0 }, { name := "twoToTheDoubleScaleUp", type := .double, accessFlags := 8, slot := 7, constantValue := 0 }, { name := "twoToTheDoubleScaleDown", type := .double, accessFlags := 8, slot := 8, constantValue := 0 }, { name := "$assertionsDisabled", type := .boolean, accessFlags := 4120, slot := 9, constantValue := 0 }]
  methods := #[k2m0, k2m1, k2m2]
  instanceTypes := #[]
  staticTypes := #[.double, .double, .double, .double, .double, .long, .long, .double, .double, .boolean]
  resolved := Array.replicate 460 none
  statics := none }

def pool3 : Array CpInfo := pool [(1, .methodref 2 3), (0, .class_ 4), (0, .nameAndType 5 6), (0, u "java/lang/Object"), (0, u "<init>"), (0, u "()V"), (0, .class_ 8), (0, u "java/lang/Record")] 13

def k3c0 : Code := { maxStack := 1, maxLocals := 1, code := jdk_30_method_1_code, exceptionTable := #[], attributes := #[] }
def k3m0 : Method := { name := "<init>", desc := "()V", sig := { parameters := [], returnType := none }, accessFlags := 4, code := some k3c0 }
/-- java/lang/Record -/
def k3 : Class := { plain "java/lang/Record" (some 0) with
  accessFlags := 1057
  interfaces := #[]
  cf := some (fileOf pool3 7 #[] #[{ accessFlags := 4, nameIndex := 5, descriptorIndex := 6, attributes := #[] }] 1057 2 #[] #[])
  fields := #[]
  methods := #[k3m0]
  instanceTypes := #[]
  staticTypes := #[]
  resolved := Array.replicate 22 none
  statics := none }

def pool4 : Array CpInfo := pool [(1, .methodref 2 3), (0, .class_ 4), (0, .nameAndType 5 6), (0, u "java/lang/Record"), (0, u "<init>"), (0, u "()V"), (0, .fieldref 8 9), (0, .class_ 10), (0, .nameAndType 11 12), (0, u "com/example/knotwork/knotwork/evaluation/PairwiseScore"), (0, u "goldPairs"), (0, u "J"), (0, .fieldref 8 14), (0, .nameAndType 15 12), (0, u "foundPairs"), (0, .fieldref 8 17), (0, .nameAndType 18 12), (0, u "truePairs"), (0, .fieldref 8 20), (0, .nameAndType 21 12), (0, u "unmatchedGold"), (55, u "(JJJJ)V"), (38, u "precision"), (0, u "()D")] 131

def k4c0 : Code := { maxStack := 3, maxLocals := 9, code := prog_11_method_1_code, exceptionTable := #[], attributes := #[] }
def k4m0 : Method := { name := "<init>", desc := "(JJJJ)V", sig := { parameters := [.long, .long, .long, .long], returnType := none }, accessFlags := 1, code := some k4c0 }
def k4c1 : Code := { maxStack := 4, maxLocals := 1, code := prog_11_method_4_code, exceptionTable := #[], attributes := #[] }
def k4m1 : Method := { name := "precision", desc := "()D", sig := { parameters := [], returnType := some .double }, accessFlags := 1, code := some k4c1 }
/-- com/example/knotwork/knotwork/evaluation/PairwiseScore -/
def k4 : Class := { plain "com/example/knotwork/knotwork/evaluation/PairwiseScore" (some 3) with
  accessFlags := 49
  interfaces := #[]
  cf := some (fileOf pool4 8 #[] #[{ accessFlags := 1, nameIndex := 5, descriptorIndex := 77, attributes := #[] }, { accessFlags := 1, nameIndex := 116, descriptorIndex := 117, attributes := #[] }] 49 2 #[] #[{ accessFlags := 18, nameIndex := 11, descriptorIndex := 12, attributes := #[] }, { accessFlags := 18, nameIndex := 15, descriptorIndex := 12, attributes := #[] }, { accessFlags := 18, nameIndex := 18, descriptorIndex := 12, attributes := #[] }, { accessFlags := 18, nameIndex := 21, descriptorIndex := 12, attributes := #[] }])
  fields := #[{ name := "goldPairs", type := .long, accessFlags := 18, slot := 0, constantValue := 0 }, { name := "foundPairs", type := .long, accessFlags := 18, slot := 1, constantValue := 0 }, { name := "truePairs", type := .long, accessFlags := 18, slot := 2, constantValue := 0 }, { name := "unmatchedGold", type := .long, accessFlags := 18, slot := 3, constantValue := 0 }]
  methods := #[k4m0, k4m1]
  instanceTypes := #[.long, .long, .long, .long]
  staticTypes := #[]
  resolved := Array.replicate 249 none
  statics := none }

def pool5 : Array CpInfo := pool [(1, u "java/lang/Cloneable"), (0, .class_ 1), (0, u "java/lang/Object"), (0, .class_ 3)] 3

/-- java/lang/Cloneable -/
def k5 : Class := { plain "java/lang/Cloneable" (some 0) with
  accessFlags := 1537
  interfaces := #[]
  cf := some (fileOf pool5 2 #[] #[] 1537 4 #[] #[])
  fields := #[]
  methods := #[]
  instanceTypes := #[]
  staticTypes := #[]
  resolved := Array.replicate 8 none
  statics := none }

def pool6 : Array CpInfo := pool [(1, u "java/io/Serializable"), (0, .class_ 1), (0, u "java/lang/Object"), (0, .class_ 3)] 3

/-- java/io/Serializable -/
def k6 : Class := { plain "java/io/Serializable" (some 0) with
  accessFlags := 1537
  interfaces := #[]
  cf := some (fileOf pool6 2 #[] #[] 1537 4 #[] #[])
  fields := #[]
  methods := #[]
  instanceTypes := #[]
  staticTypes := #[]
  resolved := Array.replicate 8 none
  statics := none }

/-- the primitive byte -/
def k7 : Class := { plain "byte" none with kind := .primitive 'B', accessFlags := 0x411 }
/-- [B -/
def k8 : Class := { plain "[B" (some 0) with kind := .array 7 .byte, interfaces := #[5, 6], accessFlags := 1041 }

/-- the primitive int -/
def k9 : Class := { plain "int" none with kind := .primitive 'I', accessFlags := 0x411 }
/-- [I -/
def k10 : Class := { plain "[I" (some 0) with kind := .array 9 .int, interfaces := #[5, 6], accessFlags := 1041 }

def heap : Heap := #[]
def classes : Array Class := #[k0, k1, k2, k3, k4, k5, k6, k7, k8, k9, k10]
def interned : List (Array UInt16 × Addr) := []
def slotsUsed : Nat := 0
def theMethod : MethodId := ⟨1, 1⟩
def args0 : Array Value := #[.long 5, .long 5, .long 5, .long 5, .long 5, .long 5]
def aboutOver (below : List Frame) : State where
  vm := { classes := classes, interned := interned.toArray }
  heap := heap
  slotsUsed := slotsUsed
  threads := #[{ frames := .invoking theMethod args0 :: below }]
def below0 : List Frame := [.native { method := ⟨0, 0⟩, args := #[] }]
def about1 : State := aboutOver below0
def p0 : Program := .bare "" "" ""
def e0 : Env := launch0.env 0 0 0
theorem w_frames : about1.frames = Frame.invoking theMethod args0 :: below0 := rfl
set_option maxRecDepth 65536 in
theorem w_args : argsFit about1.vm theMethod args0 = true := by decide +kernel
set_option maxRecDepth 65536 in
theorem w_heap : heapFits about1 = true := by decide +kernel
set_option maxRecDepth 65536 in
theorem w_runnable : about1.curStatus? = some .runnable := by decide +kernel
set_option maxRecDepth 65536 in
theorem w_alone : about1.alone = true := by decide +kernel
set_option maxRecDepth 65536 in
theorem w_named : about1.methodNamed? x = some theMethod := by decide +kernel
set_option maxRecDepth 65536 in
theorem w_hears : about1.hears theMethod below0 = true := by decide +kernel
set_option maxRecDepth 65536 in
theorem w_ripe : about1.ripe theMethod args0 below0 = true := by decide +kernel
theorem w_running : about1.status = .running := rfl
set_option maxRecDepth 65536 in
theorem w_room : about1.hasRoom e0.platform room_1 = true :=
  launch0.hasRoom_least _ room_1 (by decide +kernel) (by decide +kernel) (by decide +kernel) (by decide +kernel) (by decide +kernel) (by decide +kernel)
theorem allAtoms_all (ts : List Jvm.Cond) (a : Array Jvm.Value) (st : Jvm.State) : (allAtoms ts).before a st = ts.all (fun c => c.before a st) := by
  induction ts with
  | nil => rfl
  | cons c t ih =>
    show (Jvm.Cond.and c (allAtoms t)).before a st = _
    rw [Jvm.Cond.before_and, ih, List.all_cons]
def words1 : List Jvm.Cond := Jvm.Cond.code x code maxLocals ret :: tables_1
/-- a 'code' word, met by the world's own term for the bytes: nothing is compared byte by byte -/
theorem code_word {y : MethodName} {bytes : ByteArray} {mx : Nat} {rt : Option FieldType} {a : Array Value} {s : State} {m : MethodId} {meth : Method} {c : Code} (h1 : s.methodNamed? y = some m) (h2 : s.vm.method? m = some meth) (h3 : meth.code = some c) (h4 : c.code = bytes)
    (h5 : (c.maxLocals == mx && c.exceptionTable.isEmpty && decide (c.maxStack ≤ mostOperands) && decide (meth.sig.returnType = rt) && !meth.locks && decide (parseMethodDescriptor y.desc = some meth.sig)) = true) : (Jvm.Cond.code y bytes mx rt).before a s = true := by
  simp only [Bool.and_eq_true, beq_iff_eq, Bool.not_eq_true', decide_eq_true_eq] at h5
  obtain ⟨⟨⟨⟨⟨g1, g2⟩, g3⟩, g4⟩, g5⟩, g6⟩ := h5
  simp [Cond.before, Cond.holds, Cond.value, h1, h2, h3, h4, g1, g2, g3, g4, g5, g6]
def isCode : Jvm.Cond → Bool
  | .code _ _ _ _ => true
  | _ => false
theorem all_split {L : List Jvm.Cond} {P : Jvm.Cond → Bool} (h1 : L.all (fun c => isCode c || P c) = true) (h2 : ∀ c ∈ L.filter isCode, P c = true) : L.all P = true := by
  refine List.all_eq_true.mpr fun c hc => ?_
  have h := List.all_eq_true.mp h1 c hc
  rcases Bool.eq_false_or_eq_true (isCode c) with hi | hi
  · exact h2 c (List.mem_filter.mpr ⟨hc, hi⟩)
  · simpa [hi] using h
set_option maxRecDepth 65536 in
theorem w_c0 : (Jvm.Cond.code x code maxLocals ret).before args0 about1 = true := code_word (m := ⟨1, 1⟩) (meth := k1m1) (c := k1c1) (by decide +kernel) rfl rfl rfl (by decide +kernel)
set_option maxRecDepth 65536 in
theorem w_c1 : (Jvm.Cond.code ({ cls := "java/lang/Math", name := "min", desc := "(JJ)J" } : Jvm.MethodName) jdk_29_method_70_code (4 : Nat) (Option.some Jvm.ClassFile.FieldType.long)).before args0 about1 = true := code_word (m := ⟨2, 2⟩) (meth := k2m2) (c := k2c2) (by decide +kernel) rfl rfl rfl (by decide +kernel)
set_option maxRecDepth 65536 in
theorem w_c2 : (Jvm.Cond.code ({ cls := "java/lang/Math", name := "max", desc := "(JJ)J" } : Jvm.MethodName) jdk_29_method_66_code (4 : Nat) (Option.some Jvm.ClassFile.FieldType.long)).before args0 about1 = true := code_word (m := ⟨2, 1⟩) (meth := k2m1) (c := k2c1) (by decide +kernel) rfl rfl rfl (by decide +kernel)
set_option maxRecDepth 65536 in
theorem w_c3 : (Jvm.Cond.code ({ cls := "com/example/knotwork/knotwork/evaluation/PairwiseScore", name := "<init>", desc := "(JJJJ)V" } : Jvm.MethodName) prog_11_method_1_code (9 : Nat) (Option.none : Option Jvm.ClassFile.FieldType)).before args0 about1 = true := code_word (m := ⟨4, 0⟩) (meth := k4m0) (c := k4c0) (by decide +kernel) rfl rfl rfl (by decide +kernel)
set_option maxRecDepth 65536 in
theorem w_c4 : (Jvm.Cond.code ({ cls := "java/lang/Record", name := "<init>", desc := "()V" } : Jvm.MethodName) jdk_30_method_1_code (1 : Nat) (Option.none : Option Jvm.ClassFile.FieldType)).before args0 about1 = true := code_word (m := ⟨3, 0⟩) (meth := k3m0) (c := k3c0) (by decide +kernel) rfl rfl rfl (by decide +kernel)
set_option maxRecDepth 65536 in
theorem w_c5 : (Jvm.Cond.code ({ cls := "java/lang/Object", name := "<init>", desc := "()V" } : Jvm.MethodName) object_method_1_code (1 : Nat) (Option.none : Option Jvm.ClassFile.FieldType)).before args0 about1 = true := code_word (m := ⟨0, 0⟩) (meth := k0m0) (c := k0c0) (by decide +kernel) rfl rfl rfl (by decide +kernel)
set_option maxRecDepth 65536 in
theorem w_c6 : (Jvm.Cond.code ({ cls := "com/example/knotwork/knotwork/evaluation/PairwiseScore", name := "precision", desc := "()D" } : Jvm.MethodName) prog_11_method_4_code (1 : Nat) (Option.some Jvm.ClassFile.FieldType.double)).before args0 about1 = true := code_word (m := ⟨4, 1⟩) (meth := k4m1) (c := k4c1) (by decide +kernel) rfl rfl rfl (by decide +kernel)
def codes1 : List Jvm.Cond := [Jvm.Cond.code x code maxLocals ret, Jvm.Cond.code ({ cls := "java/lang/Math", name := "min", desc := "(JJ)J" } : Jvm.MethodName) jdk_29_method_70_code (4 : Nat) (Option.some Jvm.ClassFile.FieldType.long), Jvm.Cond.code ({ cls := "java/lang/Math", name := "max", desc := "(JJ)J" } : Jvm.MethodName) jdk_29_method_66_code (4 : Nat) (Option.some Jvm.ClassFile.FieldType.long), Jvm.Cond.code ({ cls := "com/example/knotwork/knotwork/evaluation/PairwiseScore", name := "<init>", desc := "(JJJJ)V" } : Jvm.MethodName) prog_11_method_1_code (9 : Nat) (Option.none : Option Jvm.ClassFile.FieldType), Jvm.Cond.code ({ cls := "java/lang/Record", name := "<init>", desc := "()V" } : Jvm.MethodName) jdk_30_method_1_code (1 : Nat) (Option.none : Option Jvm.ClassFile.FieldType), Jvm.Cond.code ({ cls := "java/lang/Object", name := "<init>", desc := "()V" } : Jvm.MethodName) object_method_1_code (1 : Nat) (Option.none : Option Jvm.ClassFile.FieldType), Jvm.Cond.code ({ cls := "com/example/knotwork/knotwork/evaluation/PairwiseScore", name := "precision", desc := "()D" } : Jvm.MethodName) prog_11_method_4_code (1 : Nat) (Option.some Jvm.ClassFile.FieldType.double)]
set_option maxRecDepth 65536 in
theorem codes_eq : words1.filter isCode = codes1 := rfl
theorem w_codes : ∀ c ∈ words1.filter isCode, c.before args0 about1 = true := by
  rw [codes_eq]
  intro c hc
  simp only [codes1, List.mem_cons, List.not_mem_nil, or_false] at hc
  rcases hc with rfl | rfl | rfl | rfl | rfl | rfl | rfl
  · exact w_c0
  · exact w_c1
  · exact w_c2
  · exact w_c3
  · exact w_c4
  · exact w_c5
  · exact w_c6
set_option maxRecDepth 65536 in
theorem w_t1 : (words1.take 24).all (fun c => isCode c || c.before args0 about1) = true := by decide +kernel
set_option maxRecDepth 65536 in
theorem w_t2 : (words1.drop 24).all (fun c => isCode c || c.before args0 about1) = true := by decide +kernel
theorem w_tables : (allAtoms (Jvm.Cond.code x code maxLocals ret :: tables_1)).before args0 about1 = true := by
  rw [allAtoms_all]
  show words1.all (fun c => c.before args0 about1) = true
  refine all_split ?_ w_codes
  rw [← List.take_append_drop 24 words1, List.all_append, w_t1, w_t2]
  rfl
set_option maxRecDepth 65536 in
theorem w_case : (Jvm.Cond.and given_1 narrow_1).before args0 about1 = true := by decide +kernel
theorem w_applies : (headSpec (Jvm.Cond.code x code maxLocals ret :: tables_1) room_1).applies x e0.platform about1 = true :=
  (Spec.applies_iff w_frames).mpr ⟨w_running, w_runnable, w_alone, w_named, w_hears, w_ripe, w_room, w_tables⟩
theorem atStart : AtStart classFile x code maxLocals ret World_1 tables_1 room_1 Calls_1 rest_1 Pre_1 launch0 p0 e0 about1 theMethod args0 below0 :=
  ⟨lists_1, trivial, launch0.admits_env _ _ _, launch0.least_env, fairChoices_fair.cas, fairChoices_fair.clock, w_frames, w_args, w_heap, w_applies, trivial, trivial, w_case⟩
end start1
theorem witness_1 : WitnessClaimed_1 := ⟨start1.p0, start1.e0, start1.about1, start1.theMethod, start1.args0, start1.below0, start1.atStart⟩
end Jvm.Pilot.@@N@@
