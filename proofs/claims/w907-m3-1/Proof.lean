import JvmDerived
import JvmDerived.Pilot.@@N@@Statement
import JvmDerived.Pilot.@@N@@Code
set_option linter.unusedVariables false
set_option linter.unusedSimpArgs false
namespace Jvm.OwnW
open Sem ClassFile Op Lib Jvm.Stand Jvm.Free Jvm.LawKit Jvm.RoadKit
/-- false: nothing may have been interned; true: the wide word -/
def Md (w : Bool) (s : State) (vm0 : Vm) (n : Nat) : Prop := (w = false → vm0 = s.vm) ∧ ∃ k0, s.Since vm0 k0 ∧ k0 ≤ n
theorem Md.mono {w : Bool} {s : State} {vm0 : Vm} {n n' : Nat} (h : Md w s vm0 n) (q : n ≤ n') : Md w s vm0 n' := ⟨h.1, h.2.imp fun _ r => ⟨r.1, Nat.le_trans r.2 q⟩⟩
theorem Md.start (w : Bool) (s : State) (n : Nat) : Md w s s.vm n := ⟨fun _ => rfl, 0, (State.WarmedH.refl s).since 0, Nat.zero_le _⟩
def EndF (w : Bool) (s : State) (o : Outcome) (t : State) (L : List Loc) (k n : Nat) : Prop := match w with
  | false => FrameEnd s o t L k n
  | true => ReturnedEndW s o t L k n
abbrev Kx : Type := Bool × Program × Launch × Env × Room × State × MethodId × Array Value × List Frame × Method × Code × State × String × Nat × (Option Value → Heap → Prop)
abbrev Kx.w (κ : Kx) : Bool := κ.1
abbrev Kx.p (κ : Kx) : Program := κ.2.1
abbrev Kx.l (κ : Kx) : Launch := κ.2.2.1
abbrev Kx.e (κ : Kx) : Env := κ.2.2.2.1
abbrev Kx.R (κ : Kx) : Room := κ.2.2.2.2.1
abbrev Kx.s (κ : Kx) : State := κ.2.2.2.2.2.1
abbrev Kx.m (κ : Kx) : MethodId := κ.2.2.2.2.2.2.1
abbrev Kx.a (κ : Kx) : Array Value := κ.2.2.2.2.2.2.2.1
abbrev Kx.below (κ : Kx) : List Frame := κ.2.2.2.2.2.2.2.2.1
abbrev Kx.meth (κ : Kx) : Method := κ.2.2.2.2.2.2.2.2.2.1
abbrev Kx.c (κ : Kx) : Code := κ.2.2.2.2.2.2.2.2.2.2.1
abbrev Kx.Z (κ : Kx) : State := κ.2.2.2.2.2.2.2.2.2.2.2.1
abbrev Kx.own (κ : Kx) : String := κ.2.2.2.2.2.2.2.2.2.2.2.2.1
abbrev Kx.n0 (κ : Kx) : Nat := κ.2.2.2.2.2.2.2.2.2.2.2.2.2.1
abbrev Kx.Q (κ : Kx) : Option Value → Heap → Prop := κ.2.2.2.2.2.2.2.2.2.2.2.2.2.2
/-- the body's run from T with the frame g ends as κ.Q says -/
def Ends (κ : Kx) (T : State) (g : JFrame) : Prop := ∃ (t : State) (o : Outcome), Steps κ.p.tables κ.e κ.below (T.setTop g) t ∧ t.status = .running ∧ Ended t κ.below o ∧ ∃ v L, o = .returned v ∧ (κ.Q v t.heap ∧ Fr κ.n0 L) ∧ EndF κ.w κ.s o t L κ.R.cells κ.R.slots
def WP (κ : Kx) (h : Heap) (k n : Nat) (g : JFrame) : Prop :=
  ∀ (T : State) (locs : List Loc) (vm0 : Vm), Stand κ.p κ.l κ.e κ.R (κ.s.setVm vm0) κ.m κ.a κ.below κ.meth κ.c T locs k n → T.heap = h → Md κ.w κ.s vm0 h.size → κ.Z.Warmed39 vm0 → vm0.findClass κ.own = some κ.m.cls → Fr κ.n0 locs → Ends κ T g
/-- what stands fast through a body's walk -/
def Cx (κ : Kx) (w : Bool) (l : Launch) (Z : State) (own : String) (n0 : Nat) (rm : Room) (bytes : ByteArray) (maxL : Nat) (ret : Option FieldType) (nm : String) (Q : Option Value → Heap → Prop) : Prop :=
  κ.p.tables.exec = Jvm.exec ∧ κ.c.code = bytes ∧ κ.c.maxLocals = maxL ∧ κ.meth.sig.returnType = ret ∧ κ.meth.locks = false ∧ κ.meth.name = nm ∧ κ.w = w ∧ κ.l = l ∧ κ.Z = Z ∧ κ.own = own ∧ κ.n0 = n0 ∧ κ.R = rm ∧ κ.Q = Q
/-- a body's contract -/
def Met (w : Bool) (l : Launch) (Z : State) (y : MethodName) (bytes : ByteArray) (maxL : Nat) (ret : Option FieldType) (ws : List Cond) (rm : Room) (as' : Array Value) (h0 : Heap) (n0 : Nat) (Q : Option Value → Heap → Prop) : Prop :=
  MetFree l y (head1 (Cond.code y bytes maxL ret :: ws) rm) (fun a U => a = as' ∧ Z.Warmed39 U.vm ∧ U.heap = h0) (fun _ _ _ _ _ => True) (fun _ U o U' => ∃ v L, o = .returned v ∧ (Q v U'.heap ∧ Fr n0 L) ∧ EndF w U o U' L rm.cells rm.slots)
theorem Met.of {w : Bool} {l : Launch} {Z : State} {y : MethodName} {bytes : ByteArray} {maxL : Nat} {ret : Option FieldType} {ws : List Cond} {rm : Room} {as' : Array Value} {h0 : Heap} {n0 : Nat} {Q : Option Value → Heap → Prop} (hp : plainFor y = true)
    (body : ∀ κ : Kx, Cx κ w l Z y.cls n0 rm bytes maxL ret y.name Q → WP κ h0 0 0 (entryFrame κ.m as' maxL)) : Met w l Z y bytes maxL ret ws rm as' h0 n0 Q := by
  refine MetFree.of_bodySF hp hisR ?_
  intro p e s m args below meth c s₁ Bd hml0 hP hK
  obtain ⟨rfl, hZ, hh⟩ := hP
  exact body (w, p, l, e, rm, s, m, args, below, meth, c, Z, y.cls, n0, Q) ⟨Bd.exec, Bd.bytes, hml0, Bd.returns, Bd.notSynchronized, (name_of_methodNamed Bd.named Bd.method).1, rfl, rfl, rfl, rfl, rfl, rfl, rfl⟩ s₁ [] s.vm (Stand.of_body Bd) (by rw [← hh, Bd.state]; rfl) (Md.start _ _ _) hZ (findClass_of_methodNamed Bd.named) (Fr.nil n0)
theorem EndF.widen {w : Bool} {s : State} {o : Outcome} {t : State} {L : List Loc} {k n : Nat} (h : EndF w s o t L k n) : ReturnedEndW s o t L k n := by
  cases w
  · exact ReturnedEndW.of_narrow h.1 h.2.1 h.2.2
  · exact h
section Rules
variable {κ : Kx} {w : Bool} {l : Launch} {Z : State} {own nm : String} {n0 : Nat} {rm : Room} {bytes : ByteArray} {maxL : Nat} {ret : Option FieldType} {Q : Option Value → Heap → Prop} {h h' : Heap} {k n k' n' : Nat} {pc pc' : Nat} {L L' : Array Slot} {S : List Value} {a0 : Array Value}
theorem WP.go {g g' : JFrame} (st : ∀ (T : State) (locs : List Loc) (vm0 : Vm), Stand κ.p κ.l κ.e κ.R (κ.s.setVm vm0) κ.m κ.a κ.below κ.meth κ.c T locs k n → T.heap = h → κ.Z.Warmed39 vm0 → vm0.findClass κ.own = some κ.m.cls → ∀ t, Steps κ.p.tables κ.e κ.below (T.setTop g') t → Steps κ.p.tables κ.e κ.below (T.setTop g) t)
    (H : WP κ h k n g') : WP κ h k n g := fun T locs vm0 X e M hZ ho N => by
  obtain ⟨t, o, h1, r⟩ := H T locs vm0 X e M hZ ho N
  exact ⟨t, o, st T locs vm0 X e hZ ho t h1, r⟩
theorem WP.frame {g g' : JFrame} (q : g = g') (H : WP κ h k n g') : WP κ h k n g := q ▸ H
theorem WP.more {g : JFrame} (H : WP κ h k' n' g) (hk : k ≤ k') (hn : n ≤ n') : WP κ h k n g := fun T locs vm0 X e M hZ ho N => H T locs vm0 (X.mono hk hn) e M hZ ho N
/-- a pure stretch with several roads that meet again -/
theorem WP.meet {g g' : JFrame} (H : WP κ h k n g' → WP κ h k n g) (K : WP κ h k n g') : WP κ h k n g := H K
theorem WP.iadd (K : Cx κ w l Z own n0 rm bytes maxL ret nm Q) {x y : Int32} (hd : decode bytes pc = .ok (.iadd, 1))  (hp : pc + 1 = pc') (H : WP κ h k n (mkF κ.m pc' L (.int (x + y) :: S))) : WP κ h k n (mkF κ.m pc L (.int y :: .int x :: S)) := by
  obtain ⟨hx, hby, -⟩ := K
  subst hp
  exact WP.go (fun T locs vm0 X e hZ ho t k => XS.iadd X.here hx rfl (hb hby hd) rfl k) H
theorem WP.isub (K : Cx κ w l Z own n0 rm bytes maxL ret nm Q) {x y : Int32} (hd : decode bytes pc = .ok (.isub, 1))  (hp : pc + 1 = pc') (H : WP κ h k n (mkF κ.m pc' L (.int (x - y) :: S))) : WP κ h k n (mkF κ.m pc L (.int y :: .int x :: S)) := by
  obtain ⟨hx, hby, -⟩ := K
  subst hp
  exact WP.go (fun T locs vm0 X e hZ ho t k => XS.isub X.here hx rfl (hb hby hd) rfl k) H
theorem WP.imul (K : Cx κ w l Z own n0 rm bytes maxL ret nm Q) {x y : Int32} (hd : decode bytes pc = .ok (.imul, 1))  (hp : pc + 1 = pc') (H : WP κ h k n (mkF κ.m pc' L (.int (x * y) :: S))) : WP κ h k n (mkF κ.m pc L (.int y :: .int x :: S)) := by
  obtain ⟨hx, hby, -⟩ := K
  subst hp
  exact WP.go (fun T locs vm0 X e hZ ho t k => XS.imul X.here hx rfl (hb hby hd) rfl k) H
theorem WP.iand (K : Cx κ w l Z own n0 rm bytes maxL ret nm Q) {x y : Int32} (hd : decode bytes pc = .ok (.iand, 1))  (hp : pc + 1 = pc') (H : WP κ h k n (mkF κ.m pc' L (.int (x &&& y) :: S))) : WP κ h k n (mkF κ.m pc L (.int y :: .int x :: S)) := by
  obtain ⟨hx, hby, -⟩ := K
  subst hp
  exact WP.go (fun T locs vm0 X e hZ ho t k => XS.iand X.here hx rfl (hb hby hd) rfl k) H
theorem WP.ixor (K : Cx κ w l Z own n0 rm bytes maxL ret nm Q) {x y : Int32} (hd : decode bytes pc = .ok (.ixor, 1))  (hp : pc + 1 = pc') (H : WP κ h k n (mkF κ.m pc' L (.int (x ^^^ y) :: S))) : WP κ h k n (mkF κ.m pc L (.int y :: .int x :: S)) := by
  obtain ⟨hx, hby, -⟩ := K
  subst hp
  exact WP.go (fun T locs vm0 X e hZ ho t k => XS.ixor X.here hx rfl (hb hby hd) rfl k) H
theorem WP.ior (K : Cx κ w l Z own n0 rm bytes maxL ret nm Q) {x y : Int32} (hd : decode bytes pc = .ok (.ior, 1))  (hp : pc + 1 = pc') (H : WP κ h k n (mkF κ.m pc' L (.int (x ||| y) :: S))) : WP κ h k n (mkF κ.m pc L (.int y :: .int x :: S)) := by
  obtain ⟨hx, hby, -⟩ := K
  subst hp
  exact WP.go (fun T locs vm0 X e hZ ho t k => XS.ior X.here hx rfl (hb hby hd) rfl k) H
theorem WP.ishl (K : Cx κ w l Z own n0 rm bytes maxL ret nm Q) {x y : Int32} (hd : decode bytes pc = .ok (.ishl, 1))  (hp : pc + 1 = pc') (H : WP κ h k n (mkF κ.m pc' L (.int (x <<< (y &&& 31)) :: S))) : WP κ h k n (mkF κ.m pc L (.int y :: .int x :: S)) := by
  obtain ⟨hx, hby, -⟩ := K
  subst hp
  exact WP.go (fun T locs vm0 X e hZ ho t k => XS.ishl X.here hx rfl (hb hby hd) rfl k) H
theorem WP.ishr (K : Cx κ w l Z own n0 rm bytes maxL ret nm Q) {x y : Int32} (hd : decode bytes pc = .ok (.ishr, 1))  (hp : pc + 1 = pc') (H : WP κ h k n (mkF κ.m pc' L (.int (x >>> (y &&& 31)) :: S))) : WP κ h k n (mkF κ.m pc L (.int y :: .int x :: S)) := by
  obtain ⟨hx, hby, -⟩ := K
  subst hp
  exact WP.go (fun T locs vm0 X e hZ ho t k => XS.ishr X.here hx rfl (hb hby hd) rfl k) H
theorem WP.iushr (K : Cx κ w l Z own n0 rm bytes maxL ret nm Q) {x y : Int32} (hd : decode bytes pc = .ok (.iushr, 1))  (hp : pc + 1 = pc') (H : WP κ h k n (mkF κ.m pc' L (.int ((x.toUInt32 >>> (y &&& 31).toUInt32).toInt32) :: S))) : WP κ h k n (mkF κ.m pc L (.int y :: .int x :: S)) := by
  obtain ⟨hx, hby, -⟩ := K
  subst hp
  exact WP.go (fun T locs vm0 X e hZ ho t k => XS.iushr X.here hx rfl (hb hby hd) rfl k) H
theorem WP.ladd (K : Cx κ w l Z own n0 rm bytes maxL ret nm Q) {x y : Int64} (hd : decode bytes pc = .ok (.ladd, 1))  (hp : pc + 1 = pc') (H : WP κ h k n (mkF κ.m pc' L (.long (x + y) :: S))) : WP κ h k n (mkF κ.m pc L (.long y :: .long x :: S)) := by
  obtain ⟨hx, hby, -⟩ := K
  subst hp
  exact WP.go (fun T locs vm0 X e hZ ho t k => XS.ladd X.here hx rfl (hb hby hd) rfl k) H
theorem WP.lsub (K : Cx κ w l Z own n0 rm bytes maxL ret nm Q) {x y : Int64} (hd : decode bytes pc = .ok (.lsub, 1))  (hp : pc + 1 = pc') (H : WP κ h k n (mkF κ.m pc' L (.long (x - y) :: S))) : WP κ h k n (mkF κ.m pc L (.long y :: .long x :: S)) := by
  obtain ⟨hx, hby, -⟩ := K
  subst hp
  exact WP.go (fun T locs vm0 X e hZ ho t k => XS.lsub X.here hx rfl (hb hby hd) rfl k) H
theorem WP.lmul (K : Cx κ w l Z own n0 rm bytes maxL ret nm Q) {x y : Int64} (hd : decode bytes pc = .ok (.lmul, 1))  (hp : pc + 1 = pc') (H : WP κ h k n (mkF κ.m pc' L (.long (x * y) :: S))) : WP κ h k n (mkF κ.m pc L (.long y :: .long x :: S)) := by
  obtain ⟨hx, hby, -⟩ := K
  subst hp
  exact WP.go (fun T locs vm0 X e hZ ho t k => XS.lmul X.here hx rfl (hb hby hd) rfl k) H
theorem WP.land (K : Cx κ w l Z own n0 rm bytes maxL ret nm Q) {x y : Int64} (hd : decode bytes pc = .ok (.land, 1))  (hp : pc + 1 = pc') (H : WP κ h k n (mkF κ.m pc' L (.long (x &&& y) :: S))) : WP κ h k n (mkF κ.m pc L (.long y :: .long x :: S)) := by
  obtain ⟨hx, hby, -⟩ := K
  subst hp
  exact WP.go (fun T locs vm0 X e hZ ho t k => XS.land X.here hx rfl (hb hby hd) rfl k) H
theorem WP.lor (K : Cx κ w l Z own n0 rm bytes maxL ret nm Q) {x y : Int64} (hd : decode bytes pc = .ok (.lor, 1))  (hp : pc + 1 = pc') (H : WP κ h k n (mkF κ.m pc' L (.long (x ||| y) :: S))) : WP κ h k n (mkF κ.m pc L (.long y :: .long x :: S)) := by
  obtain ⟨hx, hby, -⟩ := K
  subst hp
  exact WP.go (fun T locs vm0 X e hZ ho t k => XS.lor X.here hx rfl (hb hby hd) rfl k) H
theorem WP.lxor (K : Cx κ w l Z own n0 rm bytes maxL ret nm Q) {x y : Int64} (hd : decode bytes pc = .ok (.lxor, 1))  (hp : pc + 1 = pc') (H : WP κ h k n (mkF κ.m pc' L (.long (x ^^^ y) :: S))) : WP κ h k n (mkF κ.m pc L (.long y :: .long x :: S)) := by
  obtain ⟨hx, hby, -⟩ := K
  subst hp
  exact WP.go (fun T locs vm0 X e hZ ho t k => XS.lxor X.here hx rfl (hb hby hd) rfl k) H
theorem WP.idiv (K : Cx κ w l Z own n0 rm bytes maxL ret nm Q) {x y : Int32} (hd : decode bytes pc = .ok (.idiv, 1)) (hy : y ≠ 0) (hp : pc + 1 = pc') (H : WP κ h k n (mkF κ.m pc' L (.int (x / y) :: S))) : WP κ h k n (mkF κ.m pc L (.int y :: .int x :: S)) := by
  obtain ⟨hx, hby, -⟩ := K
  subst hp
  exact WP.go (fun T locs vm0 X e hZ ho t k => XS.idiv X.here hx rfl (hb hby hd) rfl hy k) H
theorem WP.irem (K : Cx κ w l Z own n0 rm bytes maxL ret nm Q) {x y : Int32} (hd : decode bytes pc = .ok (.irem, 1)) (hy : y ≠ 0) (hp : pc + 1 = pc') (H : WP κ h k n (mkF κ.m pc' L (.int (x % y) :: S))) : WP κ h k n (mkF κ.m pc L (.int y :: .int x :: S)) := by
  obtain ⟨hx, hby, -⟩ := K
  subst hp
  exact WP.go (fun T locs vm0 X e hZ ho t k => iremM X hx rfl (hb hby hd) rfl hy k) H
theorem WP.ldiv (K : Cx κ w l Z own n0 rm bytes maxL ret nm Q) {x y : Int64} (hd : decode bytes pc = .ok (.ldiv, 1)) (hy : y ≠ 0) (hp : pc + 1 = pc') (H : WP κ h k n (mkF κ.m pc' L (.long (x / y) :: S))) : WP κ h k n (mkF κ.m pc L (.long y :: .long x :: S)) := by
  obtain ⟨hx, hby, -⟩ := K
  subst hp
  exact WP.go (fun T locs vm0 X e hZ ho t k => XT.ldiv X.here hx rfl (hb hby hd) rfl hy k) H
theorem WP.lrem (K : Cx κ w l Z own n0 rm bytes maxL ret nm Q) {x y : Int64} (hd : decode bytes pc = .ok (.lrem, 1)) (hy : y ≠ 0) (hp : pc + 1 = pc') (H : WP κ h k n (mkF κ.m pc' L (.long (x % y) :: S))) : WP κ h k n (mkF κ.m pc L (.long y :: .long x :: S)) := by
  obtain ⟨hx, hby, -⟩ := K
  subst hp
  exact WP.go (fun T locs vm0 X e hZ ho t k => XT.lrem X.here hx rfl (hb hby hd) rfl hy (by rw [lrem_mod]; exact k)) H
theorem WP.ineg (K : Cx κ w l Z own n0 rm bytes maxL ret nm Q) {x : Int32} (hd : decode bytes pc = .ok (.ineg, 1))  (hp : pc + 1 = pc') (H : WP κ h k n (mkF κ.m pc' L (.int (-x) :: S))) : WP κ h k n (mkF κ.m pc L (.int x :: S)) := by
  obtain ⟨hx, hby, -⟩ := K
  subst hp
  exact WP.go (fun T locs vm0 X e hZ ho t k => XS.ineg X.here hx rfl (hb hby hd) rfl k) H
theorem WP.lneg (K : Cx κ w l Z own n0 rm bytes maxL ret nm Q) {x : Int64} (hd : decode bytes pc = .ok (.lneg, 1))  (hp : pc + 1 = pc') (H : WP κ h k n (mkF κ.m pc' L (.long (-x) :: S))) : WP κ h k n (mkF κ.m pc L (.long x :: S)) := by
  obtain ⟨hx, hby, -⟩ := K
  subst hp
  exact WP.go (fun T locs vm0 X e hZ ho t k => XT.lneg X.here hx rfl (hb hby hd) rfl k) H
theorem WP.lshl (K : Cx κ w l Z own n0 rm bytes maxL ret nm Q) {x : Int64} {y : Int32} (hd : decode bytes pc = .ok (.lshl, 1))  (hp : pc + 1 = pc') (H : WP κ h k n (mkF κ.m pc' L (.long (x <<< (y &&& 0x3f).toInt64) :: S))) : WP κ h k n (mkF κ.m pc L (.int y :: .long x :: S)) := by
  obtain ⟨hx, hby, -⟩ := K
  subst hp
  exact WP.go (fun T locs vm0 X e hZ ho t k => XS.lshl X.here hx rfl (hb hby hd) rfl k) H
theorem WP.lshr (K : Cx κ w l Z own n0 rm bytes maxL ret nm Q) {x : Int64} {y : Int32} (hd : decode bytes pc = .ok (.lshr, 1))  (hp : pc + 1 = pc') (H : WP κ h k n (mkF κ.m pc' L (.long (x >>> (y &&& 0x3f).toInt64) :: S))) : WP κ h k n (mkF κ.m pc L (.int y :: .long x :: S)) := by
  obtain ⟨hx, hby, -⟩ := K
  subst hp
  exact WP.go (fun T locs vm0 X e hZ ho t k => XS.lshr X.here hx rfl (hb hby hd) rfl k) H
theorem WP.lushr (K : Cx κ w l Z own n0 rm bytes maxL ret nm Q) {x : Int64} {y : Int32} (hd : decode bytes pc = .ok (.lushr, 1))  (hp : pc + 1 = pc') (H : WP κ h k n (mkF κ.m pc' L (.long ((x.toUInt64 >>> (y &&& 0x3f).toInt64.toUInt64).toInt64) :: S))) : WP κ h k n (mkF κ.m pc L (.int y :: .long x :: S)) := by
  obtain ⟨hx, hby, -⟩ := K
  subst hp
  exact WP.go (fun T locs vm0 X e hZ ho t k => XS.lushr X.here hx rfl (hb hby hd) rfl k) H
theorem WP.i2l (K : Cx κ w l Z own n0 rm bytes maxL ret nm Q) {x : Int32} (hd : decode bytes pc = .ok (.i2l, 1))  (hp : pc + 1 = pc') (H : WP κ h k n (mkF κ.m pc' L (.long (x.toInt64) :: S))) : WP κ h k n (mkF κ.m pc L (.int x :: S)) := by
  obtain ⟨hx, hby, -⟩ := K
  subst hp
  exact WP.go (fun T locs vm0 X e hZ ho t k => XS.i2l X.here hx rfl (hb hby hd) rfl k) H
theorem WP.l2i (K : Cx κ w l Z own n0 rm bytes maxL ret nm Q) {x : Int64} (hd : decode bytes pc = .ok (.l2i, 1))  (hp : pc + 1 = pc') (H : WP κ h k n (mkF κ.m pc' L (.int (x.toInt32) :: S))) : WP κ h k n (mkF κ.m pc L (.long x :: S)) := by
  obtain ⟨hx, hby, -⟩ := K
  subst hp
  exact WP.go (fun T locs vm0 X e hZ ho t k => XS.l2i X.here hx rfl (hb hby hd) rfl k) H
theorem WP.i2b (K : Cx κ w l Z own n0 rm bytes maxL ret nm Q) {x : Int32} (hd : decode bytes pc = .ok (.i2b, 1))  (hp : pc + 1 = pc') (H : WP κ h k n (mkF κ.m pc' L (.int (x.toInt8.toInt32) :: S))) : WP κ h k n (mkF κ.m pc L (.int x :: S)) := by
  obtain ⟨hx, hby, -⟩ := K
  subst hp
  exact WP.go (fun T locs vm0 X e hZ ho t k => XS.i2b X.here hx rfl (hb hby hd) rfl k) H
theorem WP.i2c (K : Cx κ w l Z own n0 rm bytes maxL ret nm Q) {x : Int32} (hd : decode bytes pc = .ok (.i2c, 1))  (hp : pc + 1 = pc') (H : WP κ h k n (mkF κ.m pc' L (.int (x.toUInt32.toUInt16.toUInt32.toInt32) :: S))) : WP κ h k n (mkF κ.m pc L (.int x :: S)) := by
  obtain ⟨hx, hby, -⟩ := K
  subst hp
  exact WP.go (fun T locs vm0 X e hZ ho t k => XS.i2c X.here hx rfl (hb hby hd) rfl k) H
theorem WP.i2s (K : Cx κ w l Z own n0 rm bytes maxL ret nm Q) {x : Int32} (hd : decode bytes pc = .ok (.i2s, 1))  (hp : pc + 1 = pc') (H : WP κ h k n (mkF κ.m pc' L (.int (x.toInt16.toInt32) :: S))) : WP κ h k n (mkF κ.m pc L (.int x :: S)) := by
  obtain ⟨hx, hby, -⟩ := K
  subst hp
  exact WP.go (fun T locs vm0 X e hZ ho t k => XS.i2s X.here hx rfl (hb hby hd) rfl k) H
theorem WP.lcmp (K : Cx κ w l Z own n0 rm bytes maxL ret nm Q) {x y : Int64} (hd : decode bytes pc = .ok (.lcmp, 1))  (hp : pc + 1 = pc') (H : WP κ h k n (mkF κ.m pc' L (.int (lcmpW x y) :: S))) : WP κ h k n (mkF κ.m pc L (.long y :: .long x :: S)) := by
  obtain ⟨hx, hby, -⟩ := K
  subst hp
  exact WP.go (fun T locs vm0 X e hZ ho t k => XS.lcmp X.here hx rfl (hb hby hd) rfl k) H
theorem WP.iconst (K : Cx κ w l Z own n0 rm bytes maxL ret nm Q) {i : Int} {v : Int32} (hd : decode bytes pc = .ok (.iconst i, 1)) (hv : Int32.ofInt i = v) (hp : pc + 1 = pc') (H : WP κ h k n (mkF κ.m pc' L (.int v :: S))) : WP κ h k n (mkF κ.m pc L (S)) := by
  obtain ⟨hx, hby, -⟩ := K
  subst hp
  exact WP.go (fun T locs vm0 X e hZ ho t k => XT.iconstV X.here hx rfl v (hb hby hd) hv k) H
theorem WP.bipush (K : Cx κ w l Z own n0 rm bytes maxL ret nm Q) {i : Int} {v : Int32} (hd : decode bytes pc = .ok (.bipush i, 2)) (hv : (Int8.ofInt i).toInt32 = v) (hp : pc + 2 = pc') (H : WP κ h k n (mkF κ.m pc' L (.int v :: S))) : WP κ h k n (mkF κ.m pc L (S)) := by
  obtain ⟨hx, hby, -⟩ := K
  subst hp
  exact WP.go (fun T locs vm0 X e hZ ho t k => XT.bipushV X.here hx rfl v (hb hby hd) hv k) H
theorem WP.sipush (K : Cx κ w l Z own n0 rm bytes maxL ret nm Q) {i : Int} {v : Int32} (hd : decode bytes pc = .ok (.sipush i, 3)) (hv : (Int16.ofInt i).toInt32 = v) (hp : pc + 3 = pc') (H : WP κ h k n (mkF κ.m pc' L (.int v :: S))) : WP κ h k n (mkF κ.m pc L (S)) := by
  obtain ⟨hx, hby, -⟩ := K
  subst hp
  exact WP.go (fun T locs vm0 X e hZ ho t k => XT.sipushV X.here hx rfl v (hb hby hd) hv k) H
theorem WP.lconst (K : Cx κ w l Z own n0 rm bytes maxL ret nm Q) {i : Fin 2} {v : Int64} (hd : decode bytes pc = .ok (.lconst i, 1)) (hv : Int64.ofNat i = v) (hp : pc + 1 = pc') (H : WP κ h k n (mkF κ.m pc' L (.long v :: S))) : WP κ h k n (mkF κ.m pc L (S)) := by
  obtain ⟨hx, hby, -⟩ := K
  subst hp
  exact WP.go (fun T locs vm0 X e hZ ho t k => XT.lconstV X.here hx rfl v (hb hby hd) hv k) H
theorem WP.aconst_null (K : Cx κ w l Z own n0 rm bytes maxL ret nm Q)  (hd : decode bytes pc = .ok (.aconst_null, 1))  (hp : pc + 1 = pc') (H : WP κ h k n (mkF κ.m pc' L (.null :: S))) : WP κ h k n (mkF κ.m pc L (S)) := by
  obtain ⟨hx, hby, -⟩ := K
  subst hp
  exact WP.go (fun T locs vm0 X e hZ ho t k => XS.aconstNull X.here hx rfl (hb hby hd) k) H
theorem WP.iloadN (K : Cx κ w l Z own n0 rm bytes maxL ret nm Q) {j : Fin 4} {v : Int32} (hd : decode bytes pc = .ok (.iload_n j, 1)) (hl : L[j.val]? = some (.val (.int v))) (hp : pc + 1 = pc') (H : WP κ h k n (mkF κ.m pc' L (.int v :: S))) : WP κ h k n (mkF κ.m pc L (S)) := by
  obtain ⟨hx, hby, -⟩ := K
  subst hp
  exact WP.go (fun T locs vm0 X e hZ ho t k => XS.iloadN X.here hx rfl (hb hby hd) hl k) H
theorem WP.iload (K : Cx κ w l Z own n0 rm bytes maxL ret nm Q) {j : Nat} {v : Int32} (hd : decode bytes pc = .ok (.iload j, 2)) (hl : L[j]? = some (.val (.int v))) (hp : pc + 2 = pc') (H : WP κ h k n (mkF κ.m pc' L (.int v :: S))) : WP κ h k n (mkF κ.m pc L (S)) := by
  obtain ⟨hx, hby, -⟩ := K
  subst hp
  exact WP.go (fun T locs vm0 X e hZ ho t k => XS.iload X.here hx rfl (hb hby hd) hl k) H
theorem WP.lloadN (K : Cx κ w l Z own n0 rm bytes maxL ret nm Q) {j : Fin 4} {v : Int64} (hd : decode bytes pc = .ok (.lload_n j, 1)) (hl : L[j.val]? = some (.val (.long v))) (hp : pc + 1 = pc') (H : WP κ h k n (mkF κ.m pc' L (.long v :: S))) : WP κ h k n (mkF κ.m pc L (S)) := by
  obtain ⟨hx, hby, -⟩ := K
  subst hp
  exact WP.go (fun T locs vm0 X e hZ ho t k => XT.lloadN X.here hx rfl (hb hby hd) hl k) H
theorem WP.lload (K : Cx κ w l Z own n0 rm bytes maxL ret nm Q) {j : Nat} {v : Int64} (hd : decode bytes pc = .ok (.lload j, 2)) (hl : L[j]? = some (.val (.long v))) (hp : pc + 2 = pc') (H : WP κ h k n (mkF κ.m pc' L (.long v :: S))) : WP κ h k n (mkF κ.m pc L (S)) := by
  obtain ⟨hx, hby, -⟩ := K
  subst hp
  exact WP.go (fun T locs vm0 X e hZ ho t k => XT.lload X.here hx rfl (hb hby hd) hl k) H
theorem WP.aloadN (K : Cx κ w l Z own n0 rm bytes maxL ret nm Q) {j : Fin 4} {v : Value} (hd : decode bytes pc = .ok (.aload_n j, 1)) (hl : L[j.val]? = some (.val v)) (hv : v.isRef = true) (hp : pc + 1 = pc') (H : WP κ h k n (mkF κ.m pc' L (v :: S))) : WP κ h k n (mkF κ.m pc L (S)) := by
  obtain ⟨hx, hby, -⟩ := K
  subst hp
  exact WP.go (fun T locs vm0 X e hZ ho t k => XS.aloadN X.here hx rfl (hb hby hd) hl hv k) H
theorem WP.aload (K : Cx κ w l Z own n0 rm bytes maxL ret nm Q) {j : Nat} {v : Value} (hd : decode bytes pc = .ok (.aload j, 2)) (hl : L[j]? = some (.val v)) (hv : v.isRef = true) (hp : pc + 2 = pc') (H : WP κ h k n (mkF κ.m pc' L (v :: S))) : WP κ h k n (mkF κ.m pc L (S)) := by
  obtain ⟨hx, hby, -⟩ := K
  subst hp
  exact WP.go (fun T locs vm0 X e hZ ho t k => XS.aload X.here hx rfl (hb hby hd) hl hv k) H
theorem WP.dloadN (K : Cx κ w l Z own n0 rm bytes maxL ret nm Q) {j : Fin 4} {v : UInt64} (hd : decode bytes pc = .ok (.dload_n j, 1)) (hl : L[j.val]? = some (.val (.double v))) (hp : pc + 1 = pc') (H : WP κ h k n (mkF κ.m pc' L (.double v :: S))) : WP κ h k n (mkF κ.m pc L (S)) := by
  obtain ⟨hx, hby, -⟩ := K
  subst hp
  exact WP.go (fun T locs vm0 X e hZ ho t k => XT.dloadN X.here hx rfl (hb hby hd) hl k) H
theorem WP.dload (K : Cx κ w l Z own n0 rm bytes maxL ret nm Q) {j : Nat} {v : UInt64} (hd : decode bytes pc = .ok (.dload j, 2)) (hl : L[j]? = some (.val (.double v))) (hp : pc + 2 = pc') (H : WP κ h k n (mkF κ.m pc' L (.double v :: S))) : WP κ h k n (mkF κ.m pc L (S)) := by
  obtain ⟨hx, hby, -⟩ := K
  subst hp
  exact WP.go (fun T locs vm0 X e hZ ho t k => XT.dload X.here hx rfl (hb hby hd) hl k) H
theorem WP.dup (K : Cx κ w l Z own n0 rm bytes maxL ret nm Q) {x : Value} (hd : decode bytes pc = .ok (.dup, 1)) (hc : x.category = 1) (hp : pc + 1 = pc') (H : WP κ h k n (mkF κ.m pc' L (x :: x :: S))) : WP κ h k n (mkF κ.m pc L (x :: S)) := by
  obtain ⟨hx, hby, -⟩ := K
  subst hp
  exact WP.go (fun T locs vm0 X e hZ ho t k => XS.dup X.here hx rfl (hb hby hd) rfl hc k) H
theorem WP.pop (K : Cx κ w l Z own n0 rm bytes maxL ret nm Q) {x : Value} (hd : decode bytes pc = .ok (.pop, 1)) (hc : x.category = 1) (hp : pc + 1 = pc') (H : WP κ h k n (mkF κ.m pc' L (S))) : WP κ h k n (mkF κ.m pc L (x :: S)) := by
  obtain ⟨hx, hby, -⟩ := K
  subst hp
  exact WP.go (fun T locs vm0 X e hZ ho t k => XT.pop X.here hx rfl (hb hby hd) rfl hc k) H
theorem WP.dup_x1 (K : Cx κ w l Z own n0 rm bytes maxL ret nm Q) {x y : Value} (hd : decode bytes pc = .ok (.dup_x1, 1)) (hc : x.category = 1) (hc' : y.category = 1) (hp : pc + 1 = pc') (H : WP κ h k n (mkF κ.m pc' L (x :: y :: x :: S))) : WP κ h k n (mkF κ.m pc L (x :: y :: S)) := by
  obtain ⟨hx, hby, -⟩ := K
  subst hp
  exact WP.go (fun T locs vm0 X e hZ ho t k => XT.dupX1 X.here hx rfl (hb hby hd) rfl hc hc' k) H
theorem WP.dup2 (K : Cx κ w l Z own n0 rm bytes maxL ret nm Q) {x y : Value} (hd : decode bytes pc = .ok (.dup2, 1)) (hc : x.category = 1) (hc' : y.category = 1) (hp : pc + 1 = pc') (H : WP κ h k n (mkF κ.m pc' L (x :: y :: x :: y :: S))) : WP κ h k n (mkF κ.m pc L (x :: y :: S)) := by
  obtain ⟨hx, hby, -⟩ := K
  subst hp
  exact WP.go (fun T locs vm0 X e hZ ho t k => XT.dup2 X.here hx rfl (hb hby hd) rfl hc hc' k) H
theorem WP.dup2L (K : Cx κ w l Z own n0 rm bytes maxL ret nm Q) {x : Int64} (hd : decode bytes pc = .ok (.dup2, 1))  (hp : pc + 1 = pc') (H : WP κ h k n (mkF κ.m pc' L (.long x :: .long x :: S))) : WP κ h k n (mkF κ.m pc L (.long x :: S)) := by
  obtain ⟨hx, hby, -⟩ := K
  subst hp
  exact WP.go (fun T locs vm0 X e hZ ho t k => XT.dup2L X.here hx rfl (hb hby hd) rfl k) H
theorem WP.i2d (K : Cx κ w l Z own n0 rm bytes maxL ret nm Q) {x : Int32} (hd : decode bytes pc = .ok (.i2d, 1))  (hp : pc + 1 = pc') (H : WP κ h k n (mkF κ.m pc' L (.double (FP.i2d x) :: S))) : WP κ h k n (mkF κ.m pc L (.int x :: S)) := by
  obtain ⟨hx, hby, -⟩ := K
  subst hp
  exact WP.go (fun T locs vm0 X e hZ ho t k => Jvm.Free.XS.i2dS X.here hx rfl (hb hby hd) rfl rfl k) H
theorem WP.l2d (K : Cx κ w l Z own n0 rm bytes maxL ret nm Q) {x : Int64} (hd : decode bytes pc = .ok (.l2d, 1))  (hp : pc + 1 = pc') (H : WP κ h k n (mkF κ.m pc' L (.double (FP.l2d x) :: S))) : WP κ h k n (mkF κ.m pc L (.long x :: S)) := by
  obtain ⟨hx, hby, -⟩ := K
  subst hp
  exact WP.go (fun T locs vm0 X e hZ ho t k => Jvm.Free.XS.l2dS X.here hx rfl (hb hby hd) rfl rfl k) H
theorem WP.dcmp (K : Cx κ w l Z own n0 rm bytes maxL ret nm Q) {o : CmpOp} {x y : UInt64} (hd : decode bytes pc = .ok (.dcmp o, 1))  (hp : pc + 1 = pc') (H : WP κ h k n (mkF κ.m pc' L (.int (cmpValue (FP.dcmp x y) o) :: S))) : WP κ h k n (mkF κ.m pc L (.double y :: .double x :: S)) := by
  obtain ⟨hx, hby, -⟩ := K
  subst hp
  exact WP.go (fun T locs vm0 X e hZ ho t k => Jvm.Free.XS.dcmpS X.here hx rfl (hb hby hd) rfl rfl k) H
theorem WP.istoreN (K : Cx κ w l Z own n0 rm bytes maxL ret nm Q) {j : Fin 4} {x : Int32} (hd : decode bytes pc = .ok (.istore_n j, 1))  (hl : storeLocals L j.val (.int x) = some L') (hp : pc + 1 = pc') (H : WP κ h k n (mkF κ.m pc' L' S)) : WP κ h k n (mkF κ.m pc L ((.int x) :: S)) := by
  obtain ⟨hx, hby, -⟩ := K
  subst hp
  exact WP.go (fun T locs vm0 X e hZ ho t k => XS.istoreN X.here hx rfl (hb hby hd) rfl hl k) H
theorem WP.istore (K : Cx κ w l Z own n0 rm bytes maxL ret nm Q) {j : Nat} {x : Int32} (hd : decode bytes pc = .ok (.istore j, 2))  (hl : storeLocals L j (.int x) = some L') (hp : pc + 2 = pc') (H : WP κ h k n (mkF κ.m pc' L' S)) : WP κ h k n (mkF κ.m pc L ((.int x) :: S)) := by
  obtain ⟨hx, hby, -⟩ := K
  subst hp
  exact WP.go (fun T locs vm0 X e hZ ho t k => XS.istore X.here hx rfl (hb hby hd) rfl hl k) H
theorem WP.lstoreN (K : Cx κ w l Z own n0 rm bytes maxL ret nm Q) {j : Fin 4} {x : Int64} (hd : decode bytes pc = .ok (.lstore_n j, 1))  (hl : storeLocals L j.val (.long x) = some L') (hp : pc + 1 = pc') (H : WP κ h k n (mkF κ.m pc' L' S)) : WP κ h k n (mkF κ.m pc L ((.long x) :: S)) := by
  obtain ⟨hx, hby, -⟩ := K
  subst hp
  exact WP.go (fun T locs vm0 X e hZ ho t k => XT.lstoreN X.here hx rfl (hb hby hd) rfl hl k) H
theorem WP.lstore (K : Cx κ w l Z own n0 rm bytes maxL ret nm Q) {j : Nat} {x : Int64} (hd : decode bytes pc = .ok (.lstore j, 2))  (hl : storeLocals L j (.long x) = some L') (hp : pc + 2 = pc') (H : WP κ h k n (mkF κ.m pc' L' S)) : WP κ h k n (mkF κ.m pc L ((.long x) :: S)) := by
  obtain ⟨hx, hby, -⟩ := K
  subst hp
  exact WP.go (fun T locs vm0 X e hZ ho t k => XT.lstore X.here hx rfl (hb hby hd) rfl hl k) H
theorem WP.astoreN (K : Cx κ w l Z own n0 rm bytes maxL ret nm Q) {j : Fin 4} {x : Value} (hd : decode bytes pc = .ok (.astore_n j, 1)) (hv : x.isRef = true) (hl : storeLocals L j.val x = some L') (hp : pc + 1 = pc') (H : WP κ h k n (mkF κ.m pc' L' S)) : WP κ h k n (mkF κ.m pc L (x :: S)) := by
  obtain ⟨hx, hby, -⟩ := K
  subst hp
  exact WP.go (fun T locs vm0 X e hZ ho t k => XS.astoreN X.here hx rfl (hb hby hd) rfl hv hl k) H
theorem WP.astore (K : Cx κ w l Z own n0 rm bytes maxL ret nm Q) {j : Nat} {x : Value} (hd : decode bytes pc = .ok (.astore j, 2)) (hv : x.isRef = true) (hl : storeLocals L j x = some L') (hp : pc + 2 = pc') (H : WP κ h k n (mkF κ.m pc' L' S)) : WP κ h k n (mkF κ.m pc L (x :: S)) := by
  obtain ⟨hx, hby, -⟩ := K
  subst hp
  exact WP.go (fun T locs vm0 X e hZ ho t k => XS.astore X.here hx rfl (hb hby hd) rfl hv hl k) H
theorem WP.dstoreN (K : Cx κ w l Z own n0 rm bytes maxL ret nm Q) {j : Fin 4} {x : UInt64} (hd : decode bytes pc = .ok (.dstore_n j, 1))  (hl : storeLocals L j.val (.double x) = some L') (hp : pc + 1 = pc') (H : WP κ h k n (mkF κ.m pc' L' S)) : WP κ h k n (mkF κ.m pc L ((.double x) :: S)) := by
  obtain ⟨hx, hby, -⟩ := K
  subst hp
  exact WP.go (fun T locs vm0 X e hZ ho t k => Jvm.Free.XS.dstoreN X.here hx rfl (hb hby hd) rfl hl k) H
theorem WP.dstore (K : Cx κ w l Z own n0 rm bytes maxL ret nm Q) {j : Nat} {x : UInt64} (hd : decode bytes pc = .ok (.dstore j, 2))  (hl : storeLocals L j (.double x) = some L') (hp : pc + 2 = pc') (H : WP κ h k n (mkF κ.m pc' L' S)) : WP κ h k n (mkF κ.m pc L ((.double x) :: S)) := by
  obtain ⟨hx, hby, -⟩ := K
  subst hp
  exact WP.go (fun T locs vm0 X e hZ ho t k => Jvm.Free.XS.dstore X.here hx rfl (hb hby hd) rfl hl k) H
theorem WP.iinc (K : Cx κ w l Z own n0 rm bytes maxL ret nm Q) {j : Nat} {cst : Int} {x v : Int32} (hd : decode bytes pc = .ok (.iinc j cst, 3)) (hv : Int32.ofInt cst = v) (hl : L[j]? = some (.val (.int x))) (hl' : storeLocals L j (.int (x + v)) = some L') (hp : pc + 3 = pc') (H : WP κ h k n (mkF κ.m pc' L' S)) : WP κ h k n (mkF κ.m pc L S) := by
  obtain ⟨hx, hby, -⟩ := K
  subst hp
  exact WP.go (fun T locs vm0 X e hZ ho t k => XT.iincV X.here hx rfl v (hb hby hd) hv hl hl' k) H
theorem WP.goto (K : Cx κ w l Z own n0 rm bytes maxL ret nm Q) {o : Int} (hd : decode bytes pc = .ok (.goto o, 3)) (ho : 0 ≤ (pc : Int) + o) (hp : ((pc : Int) + o).toNat = pc') (H : WP κ h k n (mkF κ.m pc' L S)) : WP κ h k n (mkF κ.m pc L S) := by
  obtain ⟨hx, hby, -⟩ := K
  exact WP.go (fun T locs vm0 X e hZ ho' t k => XS.goto X.here hx rfl rfl (hb hby hd) ho hp k) H
theorem WP.if0T (K : Cx κ w l Z own n0 rm bytes maxL ret nm Q) {cd : ClassFile.Cond} {x : Int32} {o : Int} (hd : decode bytes pc = .ok (.ifCond cd o, 3)) (hc : ifCond.holds cd x = true) (ho : 0 ≤ (pc : Int) + o) (hp : ((pc : Int) + o).toNat = pc') (H : WP κ h k n (mkF κ.m pc' L S)) : WP κ h k n (mkF κ.m pc L (.int x :: S)) := by
  obtain ⟨hx, hby, -⟩ := K
  exact WP.go (fun T locs vm0 X e hZ ho' t k => XS.ifYes X.here hx rfl rfl (hb hby hd) rfl hc ho hp k) H
theorem WP.if0F (K : Cx κ w l Z own n0 rm bytes maxL ret nm Q) {cd : ClassFile.Cond} {x : Int32} {o : Int} (hd : decode bytes pc = .ok (.ifCond cd o, 3)) (hc : ifCond.holds cd x = false) (hp : pc + 3 = pc') (H : WP κ h k n (mkF κ.m pc' L S)) : WP κ h k n (mkF κ.m pc L (.int x :: S)) := by
  obtain ⟨hx, hby, -⟩ := K
  subst hp
  exact WP.go (fun T locs vm0 X e hZ ho' t k => XS.ifNo X.here hx rfl (hb hby hd) rfl hc k) H
theorem WP.icmpT (K : Cx κ w l Z own n0 rm bytes maxL ret nm Q) {cd : ClassFile.Cond} {x y : Int32} {o : Int} (hd : decode bytes pc = .ok (.if_icmp cd o, 3)) (hc : if_icmp.holds cd x y = true) (ho : 0 ≤ (pc : Int) + o) (hp : ((pc : Int) + o).toNat = pc') (H : WP κ h k n (mkF κ.m pc' L S)) : WP κ h k n (mkF κ.m pc L (.int y :: .int x :: S)) := by
  obtain ⟨hx, hby, -⟩ := K
  exact WP.go (fun T locs vm0 X e hZ ho' t k => XS.icmpYes X.here hx rfl rfl (hb hby hd) rfl hc ho hp k) H
theorem WP.icmpF (K : Cx κ w l Z own n0 rm bytes maxL ret nm Q) {cd : ClassFile.Cond} {x y : Int32} {o : Int} (hd : decode bytes pc = .ok (.if_icmp cd o, 3)) (hc : if_icmp.holds cd x y = false) (hp : pc + 3 = pc') (H : WP κ h k n (mkF κ.m pc' L S)) : WP κ h k n (mkF κ.m pc L (.int y :: .int x :: S)) := by
  obtain ⟨hx, hby, -⟩ := K
  subst hp
  exact WP.go (fun T locs vm0 X e hZ ho' t k => XS.icmpNo X.here hx rfl (hb hby hd) rfl hc k) H
theorem WP.acmpT (K : Cx κ w l Z own n0 rm bytes maxL ret nm Q) {cd : ClassFile.ACond} {x y : Value} {o : Int} (hd : decode bytes pc = .ok (.if_acmp cd o, 3)) (h1 : x.isRef = true) (h2 : y.isRef = true) (hc : XT.acmp cd x y = true) (ho : 0 ≤ (pc : Int) + o) (hp : ((pc : Int) + o).toNat = pc') (H : WP κ h k n (mkF κ.m pc' L S)) : WP κ h k n (mkF κ.m pc L (y :: x :: S)) := by
  obtain ⟨hx, hby, -⟩ := K
  exact WP.go (fun T locs vm0 X e hZ ho' t k => XT.acmpYes X.here hx rfl rfl (hb hby hd) rfl h1 h2 hc ho hp k) H
theorem WP.acmpF (K : Cx κ w l Z own n0 rm bytes maxL ret nm Q) {cd : ClassFile.ACond} {x y : Value} {o : Int} (hd : decode bytes pc = .ok (.if_acmp cd o, 3)) (h1 : x.isRef = true) (h2 : y.isRef = true) (hc : XT.acmp cd x y = false) (hp : pc + 3 = pc') (H : WP κ h k n (mkF κ.m pc' L S)) : WP κ h k n (mkF κ.m pc L (y :: x :: S)) := by
  obtain ⟨hx, hby, -⟩ := K
  subst hp
  exact WP.go (fun T locs vm0 X e hZ ho' t k => XT.acmpNo X.here hx rfl (hb hby hd) rfl h1 h2 hc k) H
theorem WP.ifnullT (K : Cx κ w l Z own n0 rm bytes maxL ret nm Q) {o : Int} {b : Addr} (hd : decode bytes pc = .ok (.ifnull o, 3)) (ho : 0 ≤ (pc : Int) + o) (hp : ((pc : Int) + o).toNat = pc') (H : WP κ h k n (mkF κ.m pc' L S)) : WP κ h k n (mkF κ.m pc L (.null :: S)) := by
  obtain ⟨hx, hby, -⟩ := K
  exact WP.go (fun T locs vm0 X e hZ ho' t k => XS.ifnullYes X.here hx rfl rfl (hb hby hd) rfl ho hp k) H
theorem WP.ifnullF (K : Cx κ w l Z own n0 rm bytes maxL ret nm Q) {o : Int} {b : Addr} (hd : decode bytes pc = .ok (.ifnull o, 3)) (hp : pc + 3 = pc') (H : WP κ h k n (mkF κ.m pc' L S)) : WP κ h k n (mkF κ.m pc L (.ref b :: S)) := by
  obtain ⟨hx, hby, -⟩ := K
  subst hp
  exact WP.go (fun T locs vm0 X e hZ ho' t k => XS.ifnullNo X.here hx rfl (hb hby hd) rfl k) H
theorem WP.ifnonnullT (K : Cx κ w l Z own n0 rm bytes maxL ret nm Q) {o : Int} {b : Addr} (hd : decode bytes pc = .ok (.ifnonnull o, 3)) (ho : 0 ≤ (pc : Int) + o) (hp : ((pc : Int) + o).toNat = pc') (H : WP κ h k n (mkF κ.m pc' L S)) : WP κ h k n (mkF κ.m pc L (.ref b :: S)) := by
  obtain ⟨hx, hby, -⟩ := K
  exact WP.go (fun T locs vm0 X e hZ ho' t k => XT.ifnonnullYes X.here hx rfl rfl (hb hby hd) rfl ho hp k) H
theorem WP.ifnonnullF (K : Cx κ w l Z own n0 rm bytes maxL ret nm Q) {o : Int} {b : Addr} (hd : decode bytes pc = .ok (.ifnonnull o, 3)) (hp : pc + 3 = pc') (H : WP κ h k n (mkF κ.m pc' L S)) : WP κ h k n (mkF κ.m pc L (.null :: S)) := by
  obtain ⟨hx, hby, -⟩ := K
  subst hp
  exact WP.go (fun T locs vm0 X e hZ ho' t k => XT.ifnonnullNo X.here hx rfl (hb hby hd) rfl k) H
theorem WP.ldcI (K : Cx κ w l Z own n0 rm bytes maxL ret nm Q) {i : Nat} {v : Int32} (wc : (Cond.constant own i v).before a0 Z = true) (hd : decode bytes pc = .ok (.ldc i, 2)) (hp : pc + 2 = pc') (H : WP κ h k n (mkF κ.m pc' L (.int v :: S))) : WP κ h k n (mkF κ.m pc L S) := by
  obtain ⟨hx, hby, -, -, -, -, -, -, rfl, rfl, -⟩ := K
  subst hp
  exact WP.go (fun T locs vm0 X e hZ ho t k => X.ldcInt hx (own := κ.own) ho (mvT (args := κ.a) (s := κ.s.setVm vm0) hZ wc) (g := mkF κ.m pc L S) rfl (hb hby hd) t k) H
theorem WP.ldcwI (K : Cx κ w l Z own n0 rm bytes maxL ret nm Q) {i : Nat} {v : Int32} (wc : (Cond.constant own i v).before a0 Z = true) (hd : decode bytes pc = .ok (.ldc_w i, 3)) (hp : pc + 3 = pc') (H : WP κ h k n (mkF κ.m pc' L (.int v :: S))) : WP κ h k n (mkF κ.m pc L S) := by
  obtain ⟨hx, hby, -, -, -, -, -, -, rfl, rfl, -⟩ := K
  subst hp
  exact WP.go (fun T locs vm0 X e hZ ho t k => X.ldcwInt hx (own := κ.own) ho (mvT (args := κ.a) (s := κ.s.setVm vm0) hZ wc) (g := mkF κ.m pc L S) rfl (hb hby hd) t k) H
theorem WP.ldc2J (K : Cx κ w l Z own n0 rm bytes maxL ret nm Q) {i : Nat} {v : Int64} (wc : (Cond.constantLong own i v).before a0 Z = true) (hd : decode bytes pc = .ok (.ldc2_w i, 3)) (hp : pc + 3 = pc') (H : WP κ h k n (mkF κ.m pc' L (.long v :: S))) : WP κ h k n (mkF κ.m pc L S) := by
  obtain ⟨hx, hby, -, -, -, -, -, -, rfl, rfl, -⟩ := K
  subst hp
  exact WP.go (fun T locs vm0 X e hZ ho t k => X.ldc2Long hx (own := κ.own) ho (mvT (args := κ.a) (s := κ.s.setVm vm0) hZ wc) (g := mkF κ.m pc L S) rfl (hb hby hd) t k) H
theorem Ends.of {T : State} {locs : List Loc} {vm0 : Vm} {v : Option Value} {g : JFrame} (X : Stand κ.p κ.l κ.e κ.R (κ.s.setVm vm0) κ.m κ.a κ.below κ.meth κ.c T locs k n) (M : Md κ.w κ.s vm0 T.heap.size) (N : Fr κ.n0 locs) (hv : κ.meth.sig.returnType = none → v = none) (hlk : κ.meth.locks = false) (hk : k ≤ κ.R.cells) (hn : n ≤ κ.R.slots) (hq : κ.Q v T.heap)
    (st : ∀ fs, (∀ (f : JFrame) (acts : List Action), f.method = κ.m → f.locked = none → f.entered = [] → (doReturn κ.e (T.setTop f) acts v).1 = T.setFrames fs) → Steps κ.p.tables κ.e κ.below (T.setTop g) (T.setFrames fs)) : Ends κ T g := by
  obtain ⟨k0, hS, hk0⟩ := M.2
  by_cases hw : κ.w = true
  · obtain ⟨fs, h1, h2, h3, h4⟩ := (X.mono hk hn).leaveW hS hk0 hv hlk
    exact ⟨_, _, st fs h1, h2, h3, v, locs, rfl, ⟨hq, N⟩, by rw [hw]; exact h4⟩
  · have hw' : κ.w = false := by simpa using hw
    have e := M.1 hw'
    subst e
    obtain ⟨fs, h1, h2, h3, h4, h5⟩ := (X.mono hk hn).leave hv hlk
    exact ⟨_, _, st fs h1, h2, h3, v, locs, rfl, ⟨hq, N⟩, by rw [hw']; exact ⟨⟨v, rfl⟩, h4, h5⟩⟩
theorem WP.ret0 (K : Cx κ w l Z own n0 rm bytes maxL none nm Q) (hd : decode bytes pc = .ok (.return_, 1)) (hk : k ≤ rm.cells) (hn : n ≤ rm.slots) (hq : Q none h) : WP κ h k n (mkF κ.m pc L ([])) := by
  obtain ⟨hx, hby, -, hr, hlk, -, -, -, rfl, rfl, rfl, rfl, rfl⟩ := K
  intro T locs vm0 X e M hZ ho N
  subst e
  exact Ends.of X M N (fun _ => rfl) hlk hk hn hq fun fs hl => X.returnOut hx hr (hb hby hd) hl
theorem WP.retI (K : Cx κ w l Z own n0 rm bytes maxL (some .int) nm Q) {z : Int32} (hd : decode bytes pc = .ok (.ireturn, 1)) (hk : k ≤ rm.cells) (hn : n ≤ rm.slots) (hq : Q (some (.int z)) h) : WP κ h k n (mkF κ.m pc L (.int z :: S)) := by
  obtain ⟨hx, hby, -, hr, hlk, -, -, -, rfl, rfl, rfl, rfl, rfl⟩ := K
  intro T locs vm0 X e M hZ ho N
  subst e
  exact Ends.of X M N (fun q => by rw [hr] at q; cases q) hlk hk hn hq fun fs hl => retOut X hx hr rfl (Or.inl ⟨rfl, Or.inl rfl, z, rfl⟩) (hb hby hd) hl
theorem WP.retJ (K : Cx κ w l Z own n0 rm bytes maxL (some .long) nm Q) {z : Int64} (hd : decode bytes pc = .ok (.lreturn, 1)) (hk : k ≤ rm.cells) (hn : n ≤ rm.slots) (hq : Q (some (.long z)) h) : WP κ h k n (mkF κ.m pc L (.long z :: S)) := by
  obtain ⟨hx, hby, -, hr, hlk, -, -, -, rfl, rfl, rfl, rfl, rfl⟩ := K
  intro T locs vm0 X e M hZ ho N
  subst e
  exact Ends.of X M N (fun q => by rw [hr] at q; cases q) hlk hk hn hq fun fs hl => retOut X hx hr rfl (Or.inr (Or.inl ⟨rfl, rfl, z, rfl⟩)) (hb hby hd) hl
theorem WP.retD (K : Cx κ w l Z own n0 rm bytes maxL (some .double) nm Q) {z : UInt64} (hd : decode bytes pc = .ok (.dreturn, 1)) (hk : k ≤ rm.cells) (hn : n ≤ rm.slots) (hq : Q (some (.double z)) h) : WP κ h k n (mkF κ.m pc L (.double z :: S)) := by
  obtain ⟨hx, hby, -, hr, hlk, -, -, -, rfl, rfl, rfl, rfl, rfl⟩ := K
  intro T locs vm0 X e M hZ ho N
  subst e
  exact Ends.of X M N (fun q => by rw [hr] at q; cases q) hlk hk hn hq fun fs hl => retOut X hx hr rfl (Or.inr (Or.inr (Or.inl ⟨rfl, rfl, z, rfl⟩))) (hb hby hd) hl
theorem WP.retR {ty : FieldType} (K : Cx κ w l Z own n0 rm bytes maxL (some ty) nm Q) {v : Value} (ht : ty.isReference = true) (hv : v.isRef = true) (hd : decode bytes pc = .ok (.areturn, 1)) (hk : k ≤ rm.cells) (hn : n ≤ rm.slots) (hq : Q (some v) h) : WP κ h k n (mkF κ.m pc L (v :: S)) := by
  obtain ⟨hx, hby, -, hr, hlk, -, -, -, rfl, rfl, rfl, rfl, rfl⟩ := K
  intro T locs vm0 X e M hZ ho N
  subst e
  exact Ends.of X M N (fun q => by rw [hr] at q; cases q) hlk hk hn hq fun fs hl => retOut X hx hr (by cases ty <;> first | rfl | (cases ht) | (rcases ref_cases hv with rfl | ⟨_, rfl⟩ <;> rfl)) (Or.inr (Or.inr (Or.inr (Or.inr ⟨rfl, ht, hv⟩)))) (hb hby hd) hl
theorem WP.retN {ty : FieldType} (K : Cx κ w l Z own n0 rm bytes maxL (some ty) nm Q) {z : Int32} (ht : ty = .boolean ∨ ty = .byte ∨ ty = .char ∨ ty = .short) (hd : decode bytes pc = .ok (.ireturn, 1)) (hk : k ≤ rm.cells) (hn : n ≤ rm.slots) (hq : Q (some (.int (nar ty z))) h) : WP κ h k n (mkF κ.m pc L (.int z :: S)) := by
  obtain ⟨hx, hby, -, hr, hlk, -, -, -, rfl, rfl, rfl, rfl, rfl⟩ := K
  intro T locs vm0 X e M hZ ho N
  subst e
  exact Ends.of X M N (fun q => by rw [hr] at q; cases q) hlk hk hn hq fun fs hl => RoadKit.retN X hx hr ht (hb hby hd) hl
theorem WP.getF (K : Cx κ w l Z own n0 rm bytes maxL ret nm Q) {i : Nat} {R0 O f d : String} {a : Addr} {v : Value} (wl : (Cond.fieldLink own i R0 f d).before a0 Z = true) (via : Via Z R0 O f d) (F : Fld Z h a O f d v) (hd : decode bytes pc = .ok (.getfield i, 3)) (hp : pc + 3 = pc') (H : WP κ h k n (mkF κ.m pc' L (v :: S))) : WP κ h k n (mkF κ.m pc L (.ref a :: S)) := by
  obtain ⟨hx, hby, -, -, -, hnm, -, -, rfl, rfl, rfl, rfl, -⟩ := K
  subst hp
  intro T locs vm0 X e M hZ ho N
  obtain ⟨T', X', e', st⟩ := RoadKit.getF X hx (s := κ.s.setVm vm0) hZ ho (host := "") (Or.inl wl) via e F (g := mkF κ.m pc L (.ref a :: S)) rfl rfl (hb hby hd)
  obtain ⟨t, o, h1, r⟩ := H T' locs vm0 X' e' M hZ ho N
  exact ⟨t, o, st _ h1, r⟩
theorem WP.getS (K : Cx κ w l Z own n0 rm bytes maxL ret nm Q) {i : Nat} {R0 O f d : String} {v : Value} (wl : (Cond.fieldLink own i R0 f d).before a0 Z = true) (via : Via Z R0 O f d) (F : Sta Z h O f d v) (hd : decode bytes pc = .ok (.getstatic i, 3)) (hp : pc + 3 = pc') (H : WP κ h k n (mkF κ.m pc' L (v :: S))) : WP κ h k n (mkF κ.m pc L S) := by
  obtain ⟨hx, hby, -, -, -, hnm, -, -, rfl, rfl, rfl, rfl, -⟩ := K
  subst hp
  intro T locs vm0 X e M hZ ho N
  obtain ⟨T', X', e', st⟩ := RoadKit.getS (host := "") X hx (s := κ.s.setVm vm0) hZ ho wl via e F (g := mkF κ.m pc L S) rfl (hb hby hd)
  obtain ⟨t, o, h1, r⟩ := H T' locs vm0 X' e' M hZ ho N
  exact ⟨t, o, st _ h1, r⟩
theorem WP.putF (K : Cx κ w l Z own n0 rm bytes maxL ret nm Q) {i kk : Nat} {R0 O f d C : String} {ty : FieldType} {a : Addr} {v old : Value} (wl : (Cond.fieldLink own i R0 f d).before a0 Z = true) (via : Via Z R0 O f d) (F : Fld Z h a O f d old) (E : Exa Z h a C) (la : (Cond.lays C O f d).before a0 Z = true ∨ ((Cond.laysFinal C O f d).before a0 Z = true ∧ own = O ∧ nm = "<init>")) (wi : (Cond.instantiable C kk).before a0 Z = true)
    (hty : parseFieldDescriptor d = some ty) (hn1 : narrow ty v = v) (hf : fits ty v = true) (ha : n0 ≤ a) (hd : decode bytes pc = .ok (.putfield i, 3)) (hp : pc + 3 = pc') (H : ∀ h', Wr h h' a (Jvm.RoadKit.slotOf Z O f d) v → WP κ h' k n (mkF κ.m pc' L S)) : WP κ h k n (mkF κ.m pc L (v :: .ref a :: S)) := by
  obtain ⟨hx, hby, -, -, -, hnm, -, -, rfl, rfl, rfl, rfl, -⟩ := K
  subst hp
  intro T locs vm0 X e M hZ ho N
  obtain ⟨T', h', X', e', W, st⟩ := RoadKit.putF X hx (s := κ.s.setVm vm0) hZ ho (host := "") (Or.inl wl) via e F E (la.imp id fun q => ⟨q.1, q.2.1, hnm.trans q.2.2⟩) wi hty hn1 hf (g := mkF κ.m pc L (v :: .ref a :: S)) rfl rfl (hb hby hd)
  obtain ⟨t, o, h1, r⟩ := H h' W T' _ vm0 X' e' (M.mono (Nat.le_of_eq W.size.symm)) hZ ho (Fr.snoc X' N ha)
  exact ⟨t, o, st _ h1, r⟩
theorem WP.putFN (K : Cx κ w l Z own n0 rm bytes maxL ret nm Q) {i kk : Nat} {R0 O f d C : String} {ty : FieldType} {a : Addr} {v v' old : Value} (wl : (Cond.fieldLink own i R0 f d).before a0 Z = true) (via : Via Z R0 O f d) (F : Fld Z h a O f d old) (E : Exa Z h a C) (la : (Cond.lays C O f d).before a0 Z = true ∨ ((Cond.laysFinal C O f d).before a0 Z = true ∧ own = O ∧ nm = "<init>")) (wi : (Cond.instantiable C kk).before a0 Z = true)
    (hty : parseFieldDescriptor d = some ty) (hn1 : narrow ty v = v') (hf : fits ty v' = true) (ha : n0 ≤ a) (hd : decode bytes pc = .ok (.putfield i, 3)) (hp : pc + 3 = pc') (H : ∀ h', Wr h h' a (Jvm.RoadKit.slotOf Z O f d) v' → WP κ h' k n (mkF κ.m pc' L S)) : WP κ h k n (mkF κ.m pc L (v :: .ref a :: S)) := by
  obtain ⟨hx, hby, -, -, -, hnm, -, -, rfl, rfl, rfl, rfl, -⟩ := K
  subst hp
  intro T locs vm0 X e M hZ ho N
  obtain ⟨T', h', X', e', W, st⟩ := RoadKit.putFN X hx (s := κ.s.setVm vm0) hZ ho wl via e F E (la.imp id fun q => ⟨q.1, q.2.1, hnm.trans q.2.2⟩) wi hty hn1 hf (g := mkF κ.m pc L (v :: .ref a :: S)) rfl rfl (hb hby hd)
  obtain ⟨t, o, h1, r⟩ := H h' W T' _ vm0 X' e' (M.mono (Nat.le_of_eq W.size.symm)) hZ ho (Fr.snoc X' N ha)
  exact ⟨t, o, st _ h1, r⟩
theorem WP.new (K : Cx κ w l Z own n0 rm bytes maxL ret nm Q) {i sl : Nat} {C : String} (w1 : (Cond.classLink own i C).before a0 Z = true) (w2 : (Cond.instantiable C sl).before a0 Z = true) (w3 : (Cond.initialized C).before a0 Z = true) (hd : decode bytes pc = .ok (.new i, 3)) (hk : k + 1 = k') (hn : n + sl = n') (hk' : k' ≤ rm.cells) (hn' : n' ≤ rm.slots) (hp : pc + 3 = pc')
    (H : ∀ (h' : Heap) (a : Addr), @Eq Nat h.size a → Ext h h' → Exa Z h' a C → (∀ {O f d : String} {ty : FieldType}, Laid Z a0 C O f d → parseFieldDescriptor d = some ty → Fld Z h' a O f d (defaultValue ty)) → WP κ h' k' n' (mkF κ.m pc' L (.ref a :: S))) : WP κ h k n (mkF κ.m pc L S) := by
  obtain ⟨hx, hby, -, -, -, hnm, -, -, rfl, rfl, rfl, rfl, -⟩ := K
  subst hp hk hn
  intro T locs vm0 X e M hZ ho N
  obtain ⟨T', h', X', e', E, A, D, -, st⟩ := newO X hx (s := κ.s.setVm vm0) hZ ho w1 w2 w3 e (g := mkF κ.m pc L S) rfl (hb hby hd) hk' hn'
  obtain ⟨t, o, h1, r⟩ := H h' _ rfl E A D T' _ vm0 X' e' (M.mono E.1) hZ ho N
  exact ⟨t, o, st _ h1, r⟩
theorem WP.initO (K : Cx κ w l Z own n0 rm bytes maxL ret nm Q) {i W : Nat} {a : Addr} (w1 : (Cond.methodLink own i Lib.objectInit).before a0 Z = true) (w2 : (Cond.instanceMethod Lib.objectInit).before a0 Z = true) (w3 : (Cond.code Lib.objectInit ⟨#[0xb1]⟩ 1 none).before a0 Z = true) (hd : decode bytes pc = .ok (.invokespecial i, 3)) (hL : L.size = maxL) (hf : 1 ≤ rm.frames) (hW : (S.map fun v => v.category).sum = W) (hl : W + 12 ≤ rm.locals) (hp : pc + 3 = pc')
    (H : WP κ h k n (mkF κ.m pc' L S)) : WP κ h k n (mkF κ.m pc L (.ref a :: S)) := by
  obtain ⟨hx, hby, hml, -, -, -, -, -, rfl, rfl, rfl, rfl, -⟩ := K
  subst hp
  intro T locs vm0 X e M hZ ho N
  obtain ⟨T', X', e', st⟩ := RoadKit.initO X hx (s := κ.s.setVm vm0) hZ ho w1 w2 w3 e (g := mkF κ.m pc L (.ref a :: S)) rfl (hL.trans hml.symm) rfl (hb hby hd) hf (W := W) (by show 2 * 0 + _ ≤ _; omega) hl
  obtain ⟨t, o, h1, r⟩ := H T' locs vm0 X' e' M hZ ho N
  exact ⟨t, o, st _ h1, r⟩
/-- an array: its class, its kind of component, its length, its components -/
def Ary (Z : State) (h : Heap) (a : Addr) (kA : ClassId) (ty : FieldType) (N : Nat) (f : Nat → Value) : Prop := ∃ c : Cell, Arr Z h a c ty ∧ c.cls = kA ∧ c.slots.size = N ∧ N < 2 ^ 31 ∧ (∀ i, i < N → c.slots[i]? = some (f i)) ∧ ∀ i, i < N → fits ty (f i) = true
def upd (f : Nat → Value) (i : Nat) (v : Value) : Nat → Value := fun j => if j = i then v else f j
theorem upd_same (f : Nat → Value) (i : Nat) (v : Value) : upd f i v i = v := if_pos rfl
theorem upd_ne (f : Nat → Value) {i j : Nat} (v : Value) (q : j ≠ i) : upd f i v j = f j := if_neg q
def fset {α : Type} (f : Nat → α) (i : Nat) (v : α) : Nat → α := fun j => if j = i then v else f j
theorem fset_same {α : Type} (f : Nat → α) (i : Nat) (v : α) : fset f i v i = v := if_pos rfl
theorem fset_ne {α : Type} (f : Nat → α) {i j : Nat} (v : α) (q : j ≠ i) : fset f i v j = f j := if_neg q
theorem upd_int (F : Nat → Int32) (i : Nat) (v : Int32) : upd (fun j => .int (F j)) i (.int v) = fun j => .int (fset F i v j) := by funext j; unfold upd fset; split <;> rfl
theorem upd_long (F : Nat → Int64) (i : Nat) (v : Int64) : upd (fun j => .long (F j)) i (.long v) = fun j => .long (fset F i v j) := by funext j; unfold upd fset; split <;> rfl
theorem upd_double (F : Nat → UInt64) (i : Nat) (v : UInt64) : upd (fun j => .double (F j)) i (.double v) = fun j => .double (fset F i v j) := by funext j; unfold upd fset; split <;> rfl
section Arrays
variable {a b : Addr} {kA : ClassId} {ty : FieldType} {N : Nat} {f f' : Nat → Value} {sl : Nat} {v : Value} {ws : List Addr}
theorem Ary.lt (A : Ary Z h a kA ty N f) : a < h.size := by obtain ⟨c, q, -⟩ := A; exact q.lt
theorem Ary.len (A : Ary Z h a kA ty N f) : N < 2 ^ 31 := by obtain ⟨c, -, -, -, q, -⟩ := A; exact q
theorem Ary.ext (E : Ext h h') (A : Ary Z h a kA ty N f) : Ary Z h' a kA ty N f := by obtain ⟨c, q, r⟩ := A; exact ⟨c, q.ext E, r⟩
theorem Ary.other (W : Wr h h' b sl v) (A : Ary Z h a kA ty N f) (q : a ≠ b) : Ary Z h' a kA ty N f := by obtain ⟨c, A, r⟩ := A; exact ⟨c, A.other W q, r⟩
theorem Ary.keep (K : Keep h h' ws) (A : Ary Z h a kA ty N f) (q : a ∉ ws) : Ary Z h' a kA ty N f := by obtain ⟨c, A, r⟩ := A; exact ⟨c, ⟨K.2.1 a c A.1 q, A.2⟩, r⟩
theorem Ary.congr (A : Ary Z h a kA ty N f) (q : ∀ i, i < N → f i = f' i) : Ary Z h a kA ty N f' := by obtain ⟨c, A, r1, r2, r3, r4, r5⟩ := A; exact ⟨c, A, r1, r2, r3, fun i hi => by rw [← q i hi]; exact r4 i hi, fun i hi => by rw [← q i hi]; exact r5 i hi⟩
theorem Ary.fits (A : Ary Z h a kA ty N f) {i : Nat} (hi : i < N) : Jvm.fits ty (f i) = true := by obtain ⟨c, -, -, -, -, -, q⟩ := A; exact q i hi
theorem Ary.set (W : Wr h h' a sl v) (A : Ary Z h a kA ty N f) (hv : Jvm.fits ty v = true) : Ary Z h' a kA ty N (upd f sl v) := by
  obtain ⟨c, A, r1, r2, r3, r4, r5⟩ := A
  refine ⟨_, A.same W, r1, by rw [sz_set]; exact r2, r3, fun i hi => ?_, fun i hi => ?_⟩
  · by_cases q : i = sl
    · subst q; rw [upd_same]; simp [Cell.setSlot, r2, hi]
    · rw [upd_ne f v q]; simp only [Cell.setSlot]; rw [Array.getElem?_setIfInBounds_ne (Ne.symm q)]; exact r4 i hi
  · by_cases q : i = sl
    · subst q; rw [upd_same]; exact hv
    · rw [upd_ne f v q]; exact r5 i hi
theorem Ary.ints (A : Ary Z h a kA ty N f) (ht : ty = .int ∨ ty = .boolean ∨ ty = .byte ∨ ty = .char ∨ ty = .short) : ∃ F : Nat → Int32, Ary Z h a kA ty N (fun i => .int (F i)) := by
  refine ⟨fun i => match f i with | .int x => x | _ => 0, A.congr fun i hi => ?_⟩
  obtain ⟨x, e⟩ := fit_I (A.fits hi) ht
  simp only [e]
theorem Ary.doubles (A : Ary Z h a kA .double N f) : ∃ F : Nat → UInt64, Ary Z h a kA .double N (fun i => .double (F i)) := by
  refine ⟨fun i => match f i with | .double x => x | _ => 0, A.congr fun i hi => ?_⟩
  obtain ⟨x, e⟩ := fit_D (A.fits hi)
  simp only [e]
theorem Ary.longs (A : Ary Z h a kA .long N f) : ∃ F : Nat → Int64, Ary Z h a kA .long N (fun i => .long (F i)) := by
  refine ⟨fun i => match f i with | .long x => x | _ => 0, A.congr fun i hi => ?_⟩
  obtain ⟨x, e⟩ := fit_J (A.fits hi)
  simp only [e]
theorem static_ary {s : State} {args : Array Value} {C nm d : String} {z : Int32} (hf : Fit s) (wl : (Cond.laysStatic C nm d).before args s = true) (wi : (Cond.initialized C).before args s = true) (hd : parseFieldDescriptor d = some (.array ty))
    (hA : (Cond.arrayOf (Term.static C nm d) ty).value args s none s [] = some true) (hL : (Cond.eq (Term.length (Term.static C nm d)) (Term.int z)).value args s none s [] = some true) (hz : z.toInt = (N : Int)) :
    ∃ (a : Addr) (kA : ClassId) (f : Nat → Value), Sta s s.heap C nm d (.ref a) ∧ Ary s s.heap a kA ty N f ∧ ∀ (i : Nat) (j v : Int32), j.toInt = (i : Int) → i < N → (Cond.eq (Term.elem (Term.static C nm d) (Term.int j)) (Term.int v)).value args s none s [] = some true → f i = .int v := by
  obtain ⟨v, ev, hv⟩ := static_fit hf wl hd
  have hr := fit_R hv rfl
  rcases ref_cases hr with rfl | ⟨a, rfl⟩
  · exfalso; simp [Cond.value, ev] at hA
  obtain ⟨c, A⟩ := Arr.start ev hA
  have hc := A.fin (Vm.Alike.refl _)
  have hs : c.slots.size < 2 ^ 31 ∧ c.slots.size.toInt32 = z := by
    obtain ⟨x, y, ex, ey⟩ := cmp_v (Or.inl hL)
    obtain ⟨a', c', ea, hc', rfl, q⟩ := Jvm.Free.SB.Term.length_small ex
    cases ev.symm.trans ea
    cases hc.symm.trans hc'
    exact ⟨q, by simpa [Cond.value, ex, Term.int_eval] using hL⟩
  have hN : c.slots.size = N := by have e := len_toInt hs.1; rw [hs.2, hz] at e; omega
  refine ⟨a, c.cls, fun i => c.slots.getD i .null, Sta.start ev (Or.inr ⟨wi, wl⟩), ⟨c, A, rfl, hN, by omega, fun i hi => ?_, fun i hi => ?_⟩, fun i j v hj hi he => ?_⟩
  · simp [Array.getD, hN, hi]
  · have q := hf A.1 (i := i) (by omega)
    obtain ⟨hst, k, hk, comp, hkind⟩ := A.2.1
    have e : s.slotType? c.cls c.vm i = some ty := by
      cases hq : c.vm <;> first | exact absurd hq (hst _) | simp [State.slotType?, hk, hkind]
    have hi' : i < c.slots.size := by omega
    simpa [State.fitsSlot, e, Array.getD, hi'] using q
  · have hi' : i < c.slots.size := by omega
    have hn : j.toNatClampNeg = i := by simp only [Int32.toNatClampNeg, hj]; omega
    obtain ⟨x, y, ex, ey⟩ := cmp_v (Or.inl he)
    obtain ⟨a', j', c', ea, ej, hc', -, hx⟩ := Term.elem_spec ex
    cases ev.symm.trans ea
    cases hc.symm.trans hc'
    cases (Term.int_eval j).symm.trans ej
    rw [hn] at hx
    have q : x = .int v := by
      have r := hf A.1 (i := i) hi'
      simp only [Cond.value, ex, Term.int_eval] at he
      cases x <;> simp at he
      rw [he]
    simp only [Array.getD, hi', dif_pos]
    rw [Array.getElem?_eq_getElem hi'] at hx
    exact (Option.some.inj hx).trans q
theorem Ary.of_new {cA : ClassId} {z : Int32} (A : Arr Z h a (newA cA ty z) ty) (hz : z.toInt = (N : Int)) : Ary Z h a cA ty N (fun _ => defaultValue ty) := by
  have e : z.toNatClampNeg = N := by simp only [Int32.toNatClampNeg]; omega
  have q := z.toInt_lt
  refine ⟨_, A, rfl, by rw [sz_new, e], by omega, fun i hi => ?_, fun i _ => by cases ty <;> rfl⟩
  simp [newA, e, hi]
theorem Ary.ne {a0 : Array Value} {C : String} {m : Nat} (E : Exa Z h b C) (A : Ary Z h a kA ty N f) (w : (Cond.instantiable C m).before a0 Z = true) : b ≠ a := by obtain ⟨c, q, -⟩ := A; exact ne_arr E w q
theorem in_of {c : Cell} {j : Int32} {i N : Nat} (S : c.slots.size = N) (hj : j.toInt = (i : Int)) (hi : i < N) : ¬ (j < 0 ∨ c.slots.size ≤ j.toNatClampNeg) := by
  rw [S, Int32.lt_iff_toInt_lt]; simp only [Int32.toNatClampNeg, hj]; have : (0 : Int32).toInt = 0 := rfl; omega
theorem nat_of {j : Int32} {i : Nat} (hj : j.toInt = (i : Int)) : j.toNatClampNeg = i := by simp only [Int32.toNatClampNeg, hj]; omega
end Arrays
theorem WP.iaload (K : Cx κ w l Z own n0 rm bytes maxL ret nm Q) {a : Addr} {kA : ClassId} {N i : Nat} {f : Nat → Value} {j : Int32} {v : Value} (A : Ary Z h a kA .int N f) (hj : j.toInt = (i : Int)) (hi : i < N) (hv : f i = v) (hd : decode bytes pc = .ok (.iaload, 1)) (hp : pc + 1 = pc') (H : WP κ h k n (mkF κ.m pc' L (v :: S))) : WP κ h k n (mkF κ.m pc L (.int j :: .ref a :: S)) := by
  obtain ⟨hx, hby, -, -, -, -, -, -, rfl, rfl, -⟩ := K
  subst hp hv
  obtain ⟨c, A, -, r2, -, r4, -⟩ := A
  refine WP.go (fun T locs vm0 X e hZ ho t k => ?_) H
  exact X.iaload hx (by rw [e]; exact A.1) (State.isArrayOf_alike (T := κ.s.setVm vm0) hZ.alike A.2.1) A.2.2 (in_of r2 hj hi) (by rw [nat_of hj]; exact r4 i hi) (g := mkF κ.m pc L (.int j :: .ref a :: S)) rfl rfl (hb hby hd) t k
theorem WP.laload (K : Cx κ w l Z own n0 rm bytes maxL ret nm Q) {a : Addr} {kA : ClassId} {N i : Nat} {f : Nat → Value} {j : Int32} {v : Value} (A : Ary Z h a kA .long N f) (hj : j.toInt = (i : Int)) (hi : i < N) (hv : f i = v) (hd : decode bytes pc = .ok (.laload, 1)) (hp : pc + 1 = pc') (H : WP κ h k n (mkF κ.m pc' L (v :: S))) : WP κ h k n (mkF κ.m pc L (.int j :: .ref a :: S)) := by
  obtain ⟨hx, hby, -, -, -, -, -, -, rfl, rfl, -⟩ := K
  subst hp hv
  obtain ⟨c, A, -, r2, -, r4, -⟩ := A
  refine WP.go (fun T locs vm0 X e hZ ho t k => ?_) H
  exact X.laload hx (by rw [e]; exact A.1) (State.isArrayOf_alike (T := κ.s.setVm vm0) hZ.alike A.2.1) A.2.2 (in_of r2 hj hi) (by rw [nat_of hj]; exact r4 i hi) (g := mkF κ.m pc L (.int j :: .ref a :: S)) rfl rfl (hb hby hd) t k
theorem WP.caload (K : Cx κ w l Z own n0 rm bytes maxL ret nm Q) {a : Addr} {kA : ClassId} {N i : Nat} {f : Nat → Value} {j : Int32} {v : Value} (A : Ary Z h a kA .char N f) (hj : j.toInt = (i : Int)) (hi : i < N) (hv : f i = v) (hd : decode bytes pc = .ok (.caload, 1)) (hp : pc + 1 = pc') (H : WP κ h k n (mkF κ.m pc' L (v :: S))) : WP κ h k n (mkF κ.m pc L (.int j :: .ref a :: S)) := by
  obtain ⟨hx, hby, -, -, -, -, -, -, rfl, rfl, -⟩ := K
  subst hp hv
  obtain ⟨c, A, -, r2, -, r4, -⟩ := A
  refine WP.go (fun T locs vm0 X e hZ ho t k => ?_) H
  exact X.caload hx (by rw [e]; exact A.1) (State.isArrayOf_alike (T := κ.s.setVm vm0) hZ.alike A.2.1) A.2.2 (in_of r2 hj hi) (by rw [nat_of hj]; exact r4 i hi) (g := mkF κ.m pc L (.int j :: .ref a :: S)) rfl rfl (hb hby hd) t k
theorem WP.baload (K : Cx κ w l Z own n0 rm bytes maxL ret nm Q) {a : Addr} {kA : ClassId} {N i : Nat} {f : Nat → Value} {j : Int32} {v : Value} (A : Ary Z h a kA .byte N f) (hj : j.toInt = (i : Int)) (hi : i < N) (hv : f i = v) (hd : decode bytes pc = .ok (.baload, 1)) (hp : pc + 1 = pc') (H : WP κ h k n (mkF κ.m pc' L (v :: S))) : WP κ h k n (mkF κ.m pc L (.int j :: .ref a :: S)) := by
  obtain ⟨hx, hby, -, -, -, -, -, -, rfl, rfl, -⟩ := K
  subst hp hv
  obtain ⟨c, A, -, r2, -, r4, -⟩ := A
  refine WP.go (fun T locs vm0 X e hZ ho t k => ?_) H
  exact X.baloadBytes hx (by rw [e]; exact A.1) (State.isArrayOf_alike (T := κ.s.setVm vm0) hZ.alike A.2.1) A.2.2 (in_of r2 hj hi) (by rw [nat_of hj]; exact r4 i hi) (g := mkF κ.m pc L (.int j :: .ref a :: S)) rfl rfl (hb hby hd) t k
theorem WP.baloadZ (K : Cx κ w l Z own n0 rm bytes maxL ret nm Q) {a : Addr} {kA : ClassId} {N i : Nat} {f : Nat → Value} {j : Int32} {v : Value} (A : Ary Z h a kA .boolean N f) (hj : j.toInt = (i : Int)) (hi : i < N) (hv : f i = v) (hd : decode bytes pc = .ok (.baload, 1)) (hp : pc + 1 = pc') (H : WP κ h k n (mkF κ.m pc' L (v :: S))) : WP κ h k n (mkF κ.m pc L (.int j :: .ref a :: S)) := by
  obtain ⟨hx, hby, -, -, -, -, -, -, rfl, rfl, -⟩ := K
  subst hp hv
  obtain ⟨c, A, -, r2, -, r4, -⟩ := A
  refine WP.go (fun T locs vm0 X e hZ ho t k => ?_) H
  exact X.baloadBooleans hx (by rw [e]; exact A.1) (State.isArrayOf_alike (T := κ.s.setVm vm0) hZ.alike A.2.1) A.2.2 (in_of r2 hj hi) (by rw [nat_of hj]; exact r4 i hi) (g := mkF κ.m pc L (.int j :: .ref a :: S)) rfl rfl (hb hby hd) t k
theorem WP.daload (K : Cx κ w l Z own n0 rm bytes maxL ret nm Q) {a : Addr} {kA : ClassId} {N i : Nat} {f : Nat → Value} {j : Int32} {v : Value} (A : Ary Z h a kA .double N f) (hj : j.toInt = (i : Int)) (hi : i < N) (hv : f i = v) (hd : decode bytes pc = .ok (.daload, 1)) (hp : pc + 1 = pc') (H : WP κ h k n (mkF κ.m pc' L (v :: S))) : WP κ h k n (mkF κ.m pc L (.int j :: .ref a :: S)) := by
  obtain ⟨hx, hby, -, -, -, -, -, -, rfl, rfl, -⟩ := K
  subst hp hv
  obtain ⟨c, A, -, r2, -, r4, -⟩ := A
  refine WP.go (fun T locs vm0 X e hZ ho t k => ?_) H
  exact X.daload hx (by rw [e]; exact A.1) (State.isArrayOf_alike (T := κ.s.setVm vm0) hZ.alike A.2.1) A.2.2 (in_of r2 hj hi) (by rw [nat_of hj]; exact r4 i hi) (g := mkF κ.m pc L (.int j :: .ref a :: S)) rfl rfl (hb hby hd) t k
theorem WP.aaload (K : Cx κ w l Z own n0 rm bytes maxL ret nm Q) {a : Addr} {kA : ClassId} {N i : Nat} {f : Nat → Value} {j : Int32} {v : Value} {ty : FieldType} (ht : ty.isReference = true) (A : Ary Z h a kA ty N f) (hj : j.toInt = (i : Int)) (hi : i < N) (hv : f i = v) (hd : decode bytes pc = .ok (.aaload, 1)) (hp : pc + 1 = pc') (H : WP κ h k n (mkF κ.m pc' L (v :: S))) : WP κ h k n (mkF κ.m pc L (.int j :: .ref a :: S)) := by
  obtain ⟨hx, hby, -, -, -, -, -, -, rfl, rfl, -⟩ := K
  subst hp hv
  obtain ⟨c, A, -, r2, -, r4, -⟩ := A
  refine WP.go (fun T locs vm0 X e hZ ho t k => ?_) H
  exact X.aaload hx (by rw [e]; exact A.1) (State.isArrayOf_alike (T := κ.s.setVm vm0) hZ.alike A.2.1) ht A.2.2 (in_of r2 hj hi) (by rw [nat_of hj]; exact r4 i hi) (g := mkF κ.m pc L (.int j :: .ref a :: S)) rfl rfl (hb hby hd) t k
theorem WP.arraylength (K : Cx κ w l Z own n0 rm bytes maxL ret nm Q) {a : Addr} {kA : ClassId} {ty : FieldType} {N : Nat} {f : Nat → Value} (A : Ary Z h a kA ty N f) (hd : decode bytes pc = .ok (.arraylength, 1)) (hp : pc + 1 = pc') (H : WP κ h k n (mkF κ.m pc' L (.int (Int32.ofNat N) :: S))) : WP κ h k n (mkF κ.m pc L (.ref a :: S)) := by
  obtain ⟨hx, hby, -, -, -, -, -, -, rfl, rfl, -⟩ := K
  subst hp
  obtain ⟨c, A, -, r2, -⟩ := A
  refine WP.go (fun T locs vm0 X e hZ ho t k => ?_) H
  exact X.arraylength hx (by rw [e]; exact A.1) (State.isArrayOf_alike (T := κ.s.setVm vm0) hZ.alike A.2.1) (g := mkF κ.m pc L (.ref a :: S)) rfl rfl (hb hby hd) t (by rw [r2]; exact k)
theorem WP.iastore (K : Cx κ w l Z own n0 rm bytes maxL ret nm Q) {a : Addr} {kA : ClassId} {N i : Nat} {f : Nat → Value} {j : Int32} {x : Int32} (A : Ary Z h a kA .int N f) (hj : j.toInt = (i : Int)) (hi : i < N) (ha : n0 ≤ a) (hd : decode bytes pc = .ok (.iastore, 1)) (hp : pc + 1 = pc')
    (H : ∀ h', Wr h h' a i (.int x) → Ary Z h' a kA .int N (upd f i (.int x)) → WP κ h' k n (mkF κ.m pc' L S)) : WP κ h k n (mkF κ.m pc L (.int x :: .int j :: .ref a :: S)) := by
  obtain ⟨hx, hby, -, -, -, hnm, -, -, rfl, rfl, rfl, rfl, -⟩ := K
  subst hp
  have A0 := A
  obtain ⟨c, A, -, r2, -⟩ := A
  intro T locs vm0 X e M hZ ho N
  obtain ⟨T', h', X', e', W, st⟩ := RoadKit.stI X hx (s := κ.s.setVm vm0) hZ e A (in_of r2 hj hi) (g := mkF κ.m pc L (.int x :: .int j :: .ref a :: S)) rfl rfl (hb hby hd)
  rw [nat_of hj] at W
  obtain ⟨t, o, h1, r⟩ := H h' W (A0.set W rfl) T' _ vm0 X' e' (M.mono (Nat.le_of_eq W.size.symm)) hZ ho (Fr.snoc X' N ha)
  exact ⟨t, o, st _ h1, r⟩
theorem WP.lastore (K : Cx κ w l Z own n0 rm bytes maxL ret nm Q) {a : Addr} {kA : ClassId} {N i : Nat} {f : Nat → Value} {j : Int32} {x : Int64} (A : Ary Z h a kA .long N f) (hj : j.toInt = (i : Int)) (hi : i < N) (ha : n0 ≤ a) (hd : decode bytes pc = .ok (.lastore, 1)) (hp : pc + 1 = pc')
    (H : ∀ h', Wr h h' a i (.long x) → Ary Z h' a kA .long N (upd f i (.long x)) → WP κ h' k n (mkF κ.m pc' L S)) : WP κ h k n (mkF κ.m pc L (.long x :: .int j :: .ref a :: S)) := by
  obtain ⟨hx, hby, -, -, -, hnm, -, -, rfl, rfl, rfl, rfl, -⟩ := K
  subst hp
  have A0 := A
  obtain ⟨c, A, -, r2, -⟩ := A
  intro T locs vm0 X e M hZ ho N
  obtain ⟨T', h', X', e', W, st⟩ := RoadKit.stJ X hx (s := κ.s.setVm vm0) hZ e A (in_of r2 hj hi) (g := mkF κ.m pc L (.long x :: .int j :: .ref a :: S)) rfl rfl (hb hby hd)
  rw [nat_of hj] at W
  obtain ⟨t, o, h1, r⟩ := H h' W (A0.set W rfl) T' _ vm0 X' e' (M.mono (Nat.le_of_eq W.size.symm)) hZ ho (Fr.snoc X' N ha)
  exact ⟨t, o, st _ h1, r⟩
theorem WP.castore (K : Cx κ w l Z own n0 rm bytes maxL ret nm Q) {a : Addr} {kA : ClassId} {N i : Nat} {f : Nat → Value} {j : Int32} {x : Int32} (A : Ary Z h a kA .char N f) (hj : j.toInt = (i : Int)) (hi : i < N) (ha : n0 ≤ a) (hd : decode bytes pc = .ok (.castore, 1)) (hp : pc + 1 = pc')
    (H : ∀ h', Wr h h' a i (.int (nar .char x)) → Ary Z h' a kA .char N (upd f i (.int (nar .char x))) → WP κ h' k n (mkF κ.m pc' L S)) : WP κ h k n (mkF κ.m pc L (.int x :: .int j :: .ref a :: S)) := by
  obtain ⟨hx, hby, -, -, -, hnm, -, -, rfl, rfl, rfl, rfl, -⟩ := K
  subst hp
  have A0 := A
  obtain ⟨c, A, -, r2, -⟩ := A
  intro T locs vm0 X e M hZ ho N
  obtain ⟨T', h', X', e', W, st⟩ := RoadKit.stC X hx (s := κ.s.setVm vm0) hZ e A (in_of r2 hj hi) (g := mkF κ.m pc L (.int x :: .int j :: .ref a :: S)) rfl rfl (hb hby hd)
  rw [nat_of hj] at W
  obtain ⟨t, o, h1, r⟩ := H h' W (A0.set W (fits_nar_char x)) T' _ vm0 X' e' (M.mono (Nat.le_of_eq W.size.symm)) hZ ho (Fr.snoc X' N ha)
  exact ⟨t, o, st _ h1, r⟩
theorem WP.bastore (K : Cx κ w l Z own n0 rm bytes maxL ret nm Q) {a : Addr} {kA : ClassId} {N i : Nat} {f : Nat → Value} {j : Int32} {x : Int32} (A : Ary Z h a kA .byte N f) (hj : j.toInt = (i : Int)) (hi : i < N) (ha : n0 ≤ a) (hd : decode bytes pc = .ok (.bastore, 1)) (hp : pc + 1 = pc')
    (H : ∀ h', Wr h h' a i (.int (nar .byte x)) → Ary Z h' a kA .byte N (upd f i (.int (nar .byte x))) → WP κ h' k n (mkF κ.m pc' L S)) : WP κ h k n (mkF κ.m pc L (.int x :: .int j :: .ref a :: S)) := by
  obtain ⟨hx, hby, -, -, -, hnm, -, -, rfl, rfl, rfl, rfl, -⟩ := K
  subst hp
  have A0 := A
  obtain ⟨c, A, -, r2, -⟩ := A
  intro T locs vm0 X e M hZ ho N
  obtain ⟨T', h', X', e', W, st⟩ := RoadKit.stB X hx (s := κ.s.setVm vm0) hZ e A (in_of r2 hj hi) (g := mkF κ.m pc L (.int x :: .int j :: .ref a :: S)) rfl rfl (hb hby hd)
  rw [nat_of hj] at W
  obtain ⟨t, o, h1, r⟩ := H h' W (A0.set W (fits_nar_byte x)) T' _ vm0 X' e' (M.mono (Nat.le_of_eq W.size.symm)) hZ ho (Fr.snoc X' N ha)
  exact ⟨t, o, st _ h1, r⟩
theorem WP.bastoreZ (K : Cx κ w l Z own n0 rm bytes maxL ret nm Q) {a : Addr} {kA : ClassId} {N i : Nat} {f : Nat → Value} {j : Int32} {x : Int32} (A : Ary Z h a kA .boolean N f) (hj : j.toInt = (i : Int)) (hi : i < N) (ha : n0 ≤ a) (hd : decode bytes pc = .ok (.bastore, 1)) (hp : pc + 1 = pc')
    (H : ∀ h', Wr h h' a i (.int (nar .boolean x)) → Ary Z h' a kA .boolean N (upd f i (.int (nar .boolean x))) → WP κ h' k n (mkF κ.m pc' L S)) : WP κ h k n (mkF κ.m pc L (.int x :: .int j :: .ref a :: S)) := by
  obtain ⟨hx, hby, -, -, -, hnm, -, -, rfl, rfl, rfl, rfl, -⟩ := K
  subst hp
  have A0 := A
  obtain ⟨c, A, -, r2, -⟩ := A
  intro T locs vm0 X e M hZ ho N
  obtain ⟨T', h', X', e', W, st⟩ := RoadKit.stZ X hx (s := κ.s.setVm vm0) hZ e A (in_of r2 hj hi) (g := mkF κ.m pc L (.int x :: .int j :: .ref a :: S)) rfl rfl (hb hby hd)
  rw [nat_of hj] at W
  obtain ⟨t, o, h1, r⟩ := H h' W (A0.set W (fits_nar_bool x)) T' _ vm0 X' e' (M.mono (Nat.le_of_eq W.size.symm)) hZ ho (Fr.snoc X' N ha)
  exact ⟨t, o, st _ h1, r⟩
theorem WP.dastore (K : Cx κ w l Z own n0 rm bytes maxL ret nm Q) {a : Addr} {kA : ClassId} {N i : Nat} {f : Nat → Value} {j : Int32} {x : UInt64} (A : Ary Z h a kA .double N f) (hj : j.toInt = (i : Int)) (hi : i < N) (ha : n0 ≤ a) (hd : decode bytes pc = .ok (.dastore, 1)) (hp : pc + 1 = pc')
    (H : ∀ h', Wr h h' a i (.double x) → Ary Z h' a kA .double N (upd f i (.double x)) → WP κ h' k n (mkF κ.m pc' L S)) : WP κ h k n (mkF κ.m pc L (.double x :: .int j :: .ref a :: S)) := by
  obtain ⟨hx, hby, -, -, -, hnm, -, -, rfl, rfl, rfl, rfl, -⟩ := K
  subst hp
  have A0 := A
  obtain ⟨c, A, -, r2, -⟩ := A
  intro T locs vm0 X e M hZ ho N
  obtain ⟨T', h', X', e', W, st⟩ := RoadKit.stD X hx (s := κ.s.setVm vm0) hZ e A (in_of r2 hj hi) (g := mkF κ.m pc L (.double x :: .int j :: .ref a :: S)) rfl rfl (hb hby hd)
  rw [nat_of hj] at W
  obtain ⟨t, o, h1, r⟩ := H h' W (A0.set W rfl) T' _ vm0 X' e' (M.mono (Nat.le_of_eq W.size.symm)) hZ ho (Fr.snoc X' N ha)
  exact ⟨t, o, st _ h1, r⟩
theorem WP.newarray (K : Cx κ w l Z own n0 rm bytes maxL ret nm Q) {aty : ArrayType} {z : Int32} {N cap : Nat} (w1 : (Cond.arrayClass (newarray.typeOf aty)).before a0 Z = true) (hd : decode bytes pc = .ok (.newarray aty, 2)) (hz : z.toInt = (N : Int)) (hcap : N ≤ cap) (hbig : cap * 8 ≤ 536870912) (hk : k + 1 = k') (hn : n + cap = n') (hk' : k' ≤ rm.cells) (hn' : n' ≤ rm.slots) (hp : pc + 2 = pc')
    (H : ∀ (h' : Heap) (a : Addr) (kA : ClassId), @Eq Nat h.size a → Ext h h' → Ary Z h' a kA (newarray.typeOf aty) N (fun _ => defaultValue (newarray.typeOf aty)) → WP κ h' k' n' (mkF κ.m pc' L (.ref a :: S))) : WP κ h k n (mkF κ.m pc L (.int z :: S)) := by
  obtain ⟨hx, hby, -, -, -, hnm, -, -, rfl, rfl, rfl, rfl, -⟩ := K
  subst hp hk hn
  intro T locs vm0 X e M hZ ho N
  obtain ⟨T', h', cA, X', e', E, A, st⟩ := newP X hx (s := κ.s.setVm vm0) hZ w1 e (g := mkF κ.m pc L (.int z :: S)) rfl (hb hby hd) rfl (by rw [Int32.lt_iff_toInt_lt, hz]; show ¬ _ < (0 : Int); omega) (cap := cap) (by rw [nat_of hz]; exact hcap) hbig hk' hn'
  obtain ⟨t, o, h1, r⟩ := H h' _ cA rfl E (Ary.of_new A hz) T' _ vm0 X' e' (M.mono E.1) hZ ho N
  exact ⟨t, o, st _ h1, r⟩
/-- what a call's law hands back, in both modes -/
theorem Met.back {y : MethodName} {by' : ByteArray} {mL' : Nat} {rt' : Option FieldType} {rm' : Room} {as' : Array Value} {Q' : Option Value → Heap → Prop} {len W : Nat} {R : Room} {p : Program} {e : Env} {below : List Frame} {s : State} {args : Array Value}
    (hM : Met false l Z y by' mL' rt' [] rm' as' h n0 Q') (hZ : Z.Warmed39 s.vm) (wc : (Cond.code y by' mL' rt').before a0 Z = true) (wz : (Cond.initialized y.cls).before a0 Z = true) (hf : rm'.frames + 1 ≤ R.frames) (hl : W + (mL' + 11) + rm'.locals ≤ R.locals) :
    Back l R p e below s args y len W (fun A a => a = as' ∧ A.U.heap = h ∧ A.cells + rm'.cells ≤ R.cells ∧ A.slots + rm'.slots ≤ R.slots) (fun A _ v B => ∃ L, (Q' v B.U.heap ∧ Fr n0 L) ∧ B.locs = A.locs ++ L ∧ B.cells = A.cells + rm'.cells ∧ B.slots = A.slots + rm'.slots) :=
  backOf (Q := fun v h L => Q' v h ∧ Fr n0 L) hM hZ wc wz hf hl
theorem Met.backW {y : MethodName} {by' : ByteArray} {mL' : Nat} {rt' : Option FieldType} {rm' : Room} {as' : Array Value} {Q' : Option Value → Heap → Prop} {len W : Nat} {R : Room} {p : Program} {e : Env} {below : List Frame} {s : State} {args : Array Value}
    (hM : Met true l Z y by' mL' rt' [] rm' as' h n0 Q') (hZ : Z.Warmed39 s.vm) (wc : (Cond.code y by' mL' rt').before a0 Z = true) (wz : (Cond.initialized y.cls).before a0 Z = true) (hf : rm'.frames + 1 ≤ R.frames) (hl : W + (mL' + 11) + rm'.locals ≤ R.locals) :
    BackS l R p e below s args y len W (fun A a => a = as' ∧ A.U.heap = h ∧ A.cells + rm'.cells ≤ R.cells ∧ A.slots + rm'.slots ≤ R.slots) (fun A _ v B => ∃ L, (Q' v B.U.heap ∧ Fr n0 L) ∧ B.locs = A.locs ++ L ∧ B.cells = A.cells + rm'.cells ∧ B.slots = A.slots + rm'.slots) :=
  backOfS (Q := fun v h L => Q' v h ∧ Fr n0 L) hM hZ wc wz hf hl
theorem Ends.call {T : State} {locs : List Loc} {vm0 : Vm} {g g' : JFrame} {rm' : Room} {Q' : Option Value → Heap → Prop} {T1 B : Pt} {v : Option Value} (M : Md κ.w κ.s vm0 h.size) (N : Fr κ.n0 locs) (hc : T1 = ⟨T1.1, locs, k, n⟩)
    (hpost : ∃ L, (Q' v B.U.heap ∧ Fr κ.n0 L) ∧ B.locs = T1.locs ++ L ∧ B.cells = T1.cells + rm'.cells ∧ B.slots = T1.slots + rm'.slots) (hk : k + rm'.cells = k') (hn : n + rm'.slots = n') {vm1 : Vm}
    (X' : Stand κ.p κ.l κ.e κ.R (κ.s.setVm vm1) κ.m κ.a κ.below κ.meth κ.c B.U B.locs B.cells B.slots) (M' : Md κ.w κ.s vm1 B.U.heap.size) (hZ : κ.Z.Warmed39 vm1) (ho : vm1.findClass κ.own = some κ.m.cls) (st : Steps κ.p.tables κ.e κ.below (T.setTop g) (B.U.setTop g'))
    (H : ∀ h', Q' v h' → WP κ h' k' n' g') : Ends κ T g := by
  obtain ⟨Lc, ⟨hQ, hN⟩, l1, l2, l3⟩ := hpost
  rw [hc] at l1 l2 l3
  dsimp only [Pt.U, Pt.locs, Pt.cells, Pt.slots] at l1 l2 l3 X' hQ M' st
  subst hk hn
  rw [l1, l2, l3] at X'
  obtain ⟨t, o, h1, r⟩ := H _ hQ _ _ vm1 X' rfl M' hZ ho (Fr.app N hN)
  exact ⟨t, o, st.trans h1, r⟩
theorem WP.callS (K : Cx κ w l Z own n0 rm bytes maxL ret nm Q) {y : MethodName} {by' : ByteArray} {mL' : Nat} {rt' : Option FieldType} {rm' : Room} {Q' : Option Value → Heap → Prop} {i W : Nat} {argsL : List Value} {S' : List Value} (w1 : (Cond.methodLink own i y).before a0 Z = true) (w2 : (Cond.static y).before a0 Z = true) (hM : Met w l Z y by' mL' rt' [] rm' argsL.toArray h n0 Q') (wc : (Cond.code y by' mL' rt').before a0 Z = true) (wz : (Cond.initialized y.cls).before a0 Z = true) (hy : y.cls ≠ "java/lang/invoke/MethodHandle" ∧ y.cls ≠ "java/lang/invoke/VarHandle")
    (hL : L.size = maxL) (hlen : ∀ sig, parseMethodDescriptor y.desc = some sig → argsL.length = sig.parameters.length) (hS : S' = argsL.reverse ++ S) (hW : (S.map fun v => v.category).sum = W) (hf : rm'.frames + 1 ≤ rm.frames) (hl : W + (mL' + 11) + rm'.locals ≤ rm.locals) (hk : k + rm'.cells = k') (hn : n + rm'.slots = n') (hk' : k' ≤ rm.cells) (hn' : n' ≤ rm.slots) (hd : decode bytes pc = .ok (.invokestatic i, 3)) (hp : pc + 3 = pc')
    (H : ∀ (v : Option Value) (h' : Heap), Q' v h' → WP κ h' k' n' (mkF κ.m pc' L (v.toList ++ S))) : WP κ h k n (mkF κ.m pc L S') := by
  obtain ⟨hx, hby, hml, -, -, -, rfl, rfl, rfl, rfl, rfl, rfl, -⟩ := K
  subst hp hS
  intro T locs vm0 X e M hZ ho N
  by_cases hw : κ.w = true
  · rw [hw] at hM
    obtain ⟨v, vm₁, B, -, X', hSi, hgr, hpost, st⟩ := callSS X hx (y := y) ho (mvT (s := κ.s.setVm vm0) hZ w1) (mvT (s := κ.s.setVm vm0) hZ w2) (mvT (s := κ.s.setVm vm0) hZ wz) (mvT (s := κ.s.setVm vm0) hZ wc) hy (Met.backW (s := κ.s.setVm vm0) hM hZ wc wz hf hl) (g := mkF κ.m pc L (argsL.reverse ++ S)) rfl (hL.trans hml.symm) (argsL := argsL) (rest := S) hlen rfl (by show 2 * 0 + _ ≤ _; omega) (hb hby hd) (fun _ _ => ⟨rfl, e, by rw [← hk] at hk'; exact hk', by rw [← hn] at hn'; exact hn'⟩)
    obtain ⟨k0, hS0, hk0⟩ := M.2
    obtain ⟨X'', hS1, hZ1, ho1⟩ := rebS hS0 hk0 X' hSi (e ▸ hgr) hZ ho
    exact Ends.call (Q' := Q') (T1 := ⟨T.setVm vm₁, locs, k, n⟩) M N rfl hpost hk hn X'' ⟨fun q => (by rw [hw] at q; cases q), _, hS1, Nat.le_refl _⟩ hZ1 ho1 st (H v)
  · have hw' : κ.w = false := by simpa using hw
    rw [hw'] at hM
    obtain ⟨v, vm₁, B, -, X', hpost, st⟩ := Jvm.LawKit.callS X hx (y := y) ho (mvT (s := κ.s.setVm vm0) hZ w1) (mvT (s := κ.s.setVm vm0) hZ w2) (mvT (s := κ.s.setVm vm0) hZ wz) (mvT (s := κ.s.setVm vm0) hZ wc) hy (Met.back (s := κ.s.setVm vm0) hM hZ wc wz hf hl) (g := mkF κ.m pc L (argsL.reverse ++ S)) rfl (hL.trans hml.symm) (argsL := argsL) (rest := S) hlen rfl (by show 2 * 0 + _ ≤ _; omega) (hb hby hd) (fun _ _ => ⟨rfl, e, by rw [← hk] at hk'; exact hk', by rw [← hn] at hn'; exact hn'⟩)
    refine Ends.call (Q' := Q') (T1 := ⟨T.setVm vm₁, locs, k, n⟩) M N rfl hpost hk hn X' ?_ hZ ho (st _ (Steps.refl _)) (H v)
    have e0 := M.1 hw'
    subst e0
    exact Md.start _ _ _
theorem WP.callI (K : Cx κ w l Z own n0 rm bytes maxL ret nm Q) {y : MethodName} {by' : ByteArray} {mL' : Nat}  {rm' : Room} {Q' : Option Value → Heap → Prop} {i W : Nat} {argsL : List Value} {S' : List Value} {a : Addr} (hy1 : y.name = "<init>") (w1 : (Cond.methodLink own i y).before a0 Z = true) (w2 : (Cond.instanceMethod y).before a0 Z = true) (hM : Met w l Z y by' mL' none [] rm' (.ref a :: argsL).toArray h n0 Q') (wc : (Cond.code y by' mL' none).before a0 Z = true) (wz : (Cond.initialized y.cls).before a0 Z = true) (hy : y.cls ≠ "java/lang/invoke/MethodHandle" ∧ y.cls ≠ "java/lang/invoke/VarHandle")
    (hL : L.size = maxL) (hlen : ∀ sig, parseMethodDescriptor y.desc = some sig → argsL.length = sig.parameters.length) (hS : S' = argsL.reverse ++ .ref a :: S) (hW : (S.map fun v => v.category).sum = W) (hf : rm'.frames + 1 ≤ rm.frames) (hl : W + (mL' + 11) + rm'.locals ≤ rm.locals) (hk : k + rm'.cells = k') (hn : n + rm'.slots = n') (hk' : k' ≤ rm.cells) (hn' : n' ≤ rm.slots) (hd : decode bytes pc = .ok (.invokespecial i, 3)) (hp : pc + 3 = pc')
    (H : ∀ (v : Option Value) (h' : Heap), Q' v h' → WP κ h' k' n' (mkF κ.m pc' L (v.toList ++ S))) : WP κ h k n (mkF κ.m pc L S') := by
  obtain ⟨hx, hby, hml, -, -, -, rfl, rfl, rfl, rfl, rfl, rfl, -⟩ := K
  subst hp hS
  intro T locs vm0 X e M hZ ho N
  by_cases hw : κ.w = true
  · rw [hw] at hM
    obtain ⟨v, vm₁, B, -, X', hSi, hgr, hpost, st⟩ := X.specialBackS hx (y := y) hy1 ho (mvT (s := κ.s.setVm vm0) hZ w1) (mvT (s := κ.s.setVm vm0) hZ w2) (mvT (s := κ.s.setVm vm0) hZ wc) hy (Met.backW (s := κ.s.setVm vm0) hM hZ wc wz hf hl) (g := mkF κ.m pc L (argsL.reverse ++ .ref a :: S)) rfl (hL.trans hml.symm) (Steps.refl _) (a := a) (argsL := argsL) (rest := S) hlen rfl (by show 2 * 0 + _ ≤ _; omega) (hb hby hd) (fun _ _ => ⟨rfl, e, by rw [← hk] at hk'; exact hk', by rw [← hn] at hn'; exact hn'⟩)
    obtain ⟨k0, hS0, hk0⟩ := M.2
    obtain ⟨X'', hS1, hZ1, ho1⟩ := rebS hS0 hk0 X' hSi (e ▸ hgr) hZ ho
    exact Ends.call (Q' := Q') (T1 := ⟨T.setVm vm₁, locs, k, n⟩) M N rfl hpost hk hn X'' ⟨fun q => (by rw [hw] at q; cases q), _, hS1, Nat.le_refl _⟩ hZ1 ho1 st (H v)
  · have hw' : κ.w = false := by simpa using hw
    rw [hw'] at hM
    obtain ⟨v, vm₁, B, -, X', hpost, st⟩ := X.specialBack hx (y := y) hy1 ho (mvT (s := κ.s.setVm vm0) hZ w1) (mvT (s := κ.s.setVm vm0) hZ w2) (mvT (s := κ.s.setVm vm0) hZ wc) hy (Met.back (s := κ.s.setVm vm0) hM hZ wc wz hf hl) (g := mkF κ.m pc L (argsL.reverse ++ .ref a :: S)) rfl (hL.trans hml.symm) (Steps.refl _) (a := a) (argsL := argsL) (rest := S) hlen rfl (by show 2 * 0 + _ ≤ _; omega) (hb hby hd) (fun _ _ => ⟨rfl, e, by rw [← hk] at hk'; exact hk', by rw [← hn] at hn'; exact hn'⟩)
    refine Ends.call (Q' := Q') (T1 := ⟨T.setVm vm₁, locs, k, n⟩) M N rfl hpost hk hn X' ?_ hZ ho st (H v)
    have e0 := M.1 hw'
    subst e0
    exact Md.start _ _ _
theorem WP.callV (K : Cx κ w l Z own n0 rm bytes maxL ret nm Q) {x y : MethodName} {by' : ByteArray} {mL' : Nat} {rt' : Option FieldType} {rm' : Room} {Q' : Option Value → Heap → Prop} {i W : Nat} {argsL : List Value} {S' : List Value} {a : Addr} {C : String} (w1 : (Cond.methodLink own i x).before a0 Z = true) (w2 : (Cond.declares x).before a0 Z = true) (nf : ∀ vm0 : Vm, Z.Warmed39 vm0 → NotFace (κ.s.setVm vm0) x) (w3 : (Cond.selects C x y).before a0 Z = true) (w4 : (Cond.instanceMethod y).before a0 Z = true) (hx' : x.cls ≠ "java/lang/invoke/MethodHandle" ∧ x.cls ≠ "java/lang/invoke/VarHandle") (E : Exa Z h a C) (hM : Met w l Z y by' mL' rt' [] rm' (.ref a :: argsL).toArray h n0 Q') (wc : (Cond.code y by' mL' rt').before a0 Z = true) (wz : (Cond.initialized y.cls).before a0 Z = true) (hy : y.cls ≠ "java/lang/invoke/MethodHandle" ∧ y.cls ≠ "java/lang/invoke/VarHandle")
    (hL : L.size = maxL) (hlen : ∀ sig, parseMethodDescriptor x.desc = some sig → argsL.length = sig.parameters.length) (hS : S' = argsL.reverse ++ .ref a :: S) (hW : (S.map fun v => v.category).sum = W) (hf : rm'.frames + 1 ≤ rm.frames) (hl : W + (mL' + 11) + rm'.locals ≤ rm.locals) (hk : k + rm'.cells = k') (hn : n + rm'.slots = n') (hk' : k' ≤ rm.cells) (hn' : n' ≤ rm.slots) (hd : decode bytes pc = .ok (.invokevirtual i, 3)) (hp : pc + 3 = pc')
    (H : ∀ (v : Option Value) (h' : Heap), Q' v h' → WP κ h' k' n' (mkF κ.m pc' L (v.toList ++ S))) : WP κ h k n (mkF κ.m pc L S') := by
  obtain ⟨hx, hby, hml, -, -, -, rfl, rfl, rfl, rfl, rfl, rfl, -⟩ := K
  subst hp hS
  intro T locs vm0 X e M hZ ho N
  obtain ⟨cB, kB, q1, q2, q3⟩ := isOf (s := κ.s.setVm vm0) hZ e E
  by_cases hw : κ.w = true
  · rw [hw] at hM
    obtain ⟨v, vm₁, B, -, X', hSi, hgr, hpost, st⟩ := X.virtualBackS hx (y := x) (z := y) ho (mvT (s := κ.s.setVm vm0) hZ w1) (mvT (s := κ.s.setVm vm0) hZ w2) (nf vm0 hZ) (mvT (s := κ.s.setVm vm0) hZ w3) (mvT (s := κ.s.setVm vm0) hZ w4) hx' (Met.backW (s := κ.s.setVm vm0) hM hZ wc wz hf hl) q1 q3 (g := mkF κ.m pc L (argsL.reverse ++ .ref a :: S)) rfl (hL.trans hml.symm) (Steps.refl _) (argsL := argsL) (rest := S) hlen rfl (by show 2 * 0 + _ ≤ _; omega) (hb hby hd) (fun _ _ => ⟨rfl, e, by rw [← hk] at hk'; exact hk', by rw [← hn] at hn'; exact hn'⟩)
    obtain ⟨k0, hS0, hk0⟩ := M.2
    obtain ⟨X'', hS1, hZ1, ho1⟩ := rebS hS0 hk0 X' hSi (e ▸ hgr) hZ ho
    exact Ends.call (Q' := Q') (T1 := ⟨T.setVm vm₁, locs, k, n⟩) M N rfl hpost hk hn X'' ⟨fun q => (by rw [hw] at q; cases q), _, hS1, Nat.le_refl _⟩ hZ1 ho1 st (H v)
  · have hw' : κ.w = false := by simpa using hw
    rw [hw'] at hM
    obtain ⟨v, vm₁, B, -, X', hpost, st⟩ := X.virtualBack hx (y := x) (z := y) ho (mvT (s := κ.s.setVm vm0) hZ w1) (mvT (s := κ.s.setVm vm0) hZ w2) (nf vm0 hZ) (mvT (s := κ.s.setVm vm0) hZ w3) (mvT (s := κ.s.setVm vm0) hZ w4) hx' (Met.back (s := κ.s.setVm vm0) hM hZ wc wz hf hl) q1 q3 (g := mkF κ.m pc L (argsL.reverse ++ .ref a :: S)) rfl (hL.trans hml.symm) (Steps.refl _) (argsL := argsL) (rest := S) hlen rfl (by show 2 * 0 + _ ≤ _; omega) (hb hby hd) (fun _ _ => ⟨rfl, e, by rw [← hk] at hk'; exact hk', by rw [← hn] at hn'; exact hn'⟩)
    refine Ends.call (Q' := Q') (T1 := ⟨T.setVm vm₁, locs, k, n⟩) M N rfl hpost hk hn X' ?_ hZ ho st (H v)
    have e0 := M.1 hw'
    subst e0
    exact Md.start _ _ _
theorem WP.callP (K : Cx κ w l Z own n0 rm bytes maxL ret nm Q) {y : MethodName} {by' : ByteArray} {mL' : Nat} {rt' : Option FieldType} {rm' : Room} {Q' : Option Value → Heap → Prop} {i W : Nat} {argsL : List Value} {S' : List Value} {a : Addr} {nI : Nat} {C : String} (w1 : (Cond.methodLink own i y).before a0 Z = true) (w2 : (Cond.instanceMethod y).before a0 Z = true) (wi : (Cond.instantiable y.cls nI).before a0 Z = true) (w3 : (Cond.privateMethod y).before a0 Z = true) (E : Exa Z h a C) (hM : Met w l Z y by' mL' rt' [] rm' (.ref a :: argsL).toArray h n0 Q') (wc : (Cond.code y by' mL' rt').before a0 Z = true) (wz : (Cond.initialized y.cls).before a0 Z = true) (hy : y.cls ≠ "java/lang/invoke/MethodHandle" ∧ y.cls ≠ "java/lang/invoke/VarHandle")
    (hL : L.size = maxL) (hlen : ∀ sig, parseMethodDescriptor y.desc = some sig → argsL.length = sig.parameters.length) (hS : S' = argsL.reverse ++ .ref a :: S) (hW : (S.map fun v => v.category).sum = W) (hf : rm'.frames + 1 ≤ rm.frames) (hl : W + (mL' + 11) + rm'.locals ≤ rm.locals) (hk : k + rm'.cells = k') (hn : n + rm'.slots = n') (hk' : k' ≤ rm.cells) (hn' : n' ≤ rm.slots) (hd : decode bytes pc = .ok (.invokevirtual i, 3)) (hp : pc + 3 = pc')
    (H : ∀ (v : Option Value) (h' : Heap), Q' v h' → WP κ h' k' n' (mkF κ.m pc' L (v.toList ++ S))) : WP κ h k n (mkF κ.m pc L S') := by
  obtain ⟨hx, hby, hml, -, -, -, rfl, rfl, rfl, rfl, rfl, rfl, -⟩ := K
  subst hp hS
  intro T locs vm0 X e M hZ ho N
  obtain ⟨cell, e1, e2⟩ := E.cell
  have hpr : (κ.s.setVm vm0).PrivateAt y := Cond.privateMethod_at (mvP (s := κ.s.setVm vm0) hZ w3 (args := #[]))
  have hsel : (Cond.selects y.cls y y).before κ.a (κ.s.setVm vm0) = true := by
    obtain ⟨c1, k1, i1, i2, i3, i4, -⟩ := Cond.instantiable_spec (mvT (args := κ.a) (s := κ.s.setVm vm0) hZ wi)
    rw [Bool.or_eq_false_iff] at i4
    exact Jvm.Stand.selects_self_of_private i1 i2 i4.1 hpr (mvT (s := κ.s.setVm vm0) hZ w2) hy
  by_cases hw : κ.w = true
  · rw [hw] at hM
    obtain ⟨v, vm₁, B, -, X', hSi, hgr, hpost, st⟩ := X.privateBackS hx (y := y) ho (mvT (s := κ.s.setVm vm0) hZ w1) (mvT (s := κ.s.setVm vm0) hZ w2) hsel hpr (mvT (s := κ.s.setVm vm0) hZ wc) hy (Met.backW (s := κ.s.setVm vm0) hM hZ wc wz hf hl) (g := mkF κ.m pc L (argsL.reverse ++ .ref a :: S)) rfl (hL.trans hml.symm) (Steps.refl _) (a := a) (by rw [e]; exact e1) e2 (argsL := argsL) (rest := S) hlen rfl (by show 2 * 0 + _ ≤ _; omega) (hb hby hd) (fun _ _ => ⟨rfl, e, by rw [← hk] at hk'; exact hk', by rw [← hn] at hn'; exact hn'⟩)
    obtain ⟨k0, hS0, hk0⟩ := M.2
    obtain ⟨X'', hS1, hZ1, ho1⟩ := rebS hS0 hk0 X' hSi (e ▸ hgr) hZ ho
    exact Ends.call (Q' := Q') (T1 := ⟨T.setVm vm₁, locs, k, n⟩) M N rfl hpost hk hn X'' ⟨fun q => (by rw [hw] at q; cases q), _, hS1, Nat.le_refl _⟩ hZ1 ho1 st (H v)
  · have hw' : κ.w = false := by simpa using hw
    rw [hw'] at hM
    obtain ⟨v, vm₁, B, -, X', hpost, st⟩ := X.privateBack hx (y := y) ho (mvT (s := κ.s.setVm vm0) hZ w1) (mvT (s := κ.s.setVm vm0) hZ w2) hsel hpr (mvT (s := κ.s.setVm vm0) hZ wc) hy (Met.back (s := κ.s.setVm vm0) hM hZ wc wz hf hl) (g := mkF κ.m pc L (argsL.reverse ++ .ref a :: S)) rfl (hL.trans hml.symm) (Steps.refl _) (a := a) (by rw [e]; exact e1) e2 (argsL := argsL) (rest := S) hlen rfl (by show 2 * 0 + _ ≤ _; omega) (hb hby hd) (fun _ _ => ⟨rfl, e, by rw [← hk] at hk'; exact hk', by rw [← hn] at hn'; exact hn'⟩)
    refine Ends.call (Q' := Q') (T1 := ⟨T.setVm vm₁, locs, k, n⟩) M N rfl hpost hk hn X' ?_ hZ ho st (H v)
    have e0 := M.1 hw'
    subst e0
    exact Md.start _ _ _
theorem Ary.arv {a : Addr} {kA : ClassId} {ty : FieldType} {N : Nat} {f : Nat → Value} (A : Ary Z h a kA ty N f) (dv : Value) : Arv Z h a kA ty (Int32.ofNat N) ((List.range N).map f) dv := by
  obtain ⟨c, A, r1, r2, r3, r4, r5⟩ := A
  have e : (Int32.ofNat N).toNatClampNeg = N := by simp only [Int32.toNatClampNeg, Int32.toInt_ofNat_small r3]; omega
  have g : ∀ i, i < N → ((List.range N).map f).getD i dv = f i := fun i hi => by simp [List.getD_eq_getElem?_getD, hi]
  refine ⟨c, A, r1, by rw [e]; exact r2, ?_, fun i hi => ?_, fun i hi => ?_⟩
  · rw [Int32.lt_iff_toInt_lt, Int32.toInt_ofNat_small r3]; show ¬ (N : Int) < 0; omega
  · rw [g i (by omega)]; exact r4 i (by omega)
  · rw [g i (by omega)]; exact r5 i (by omega)
theorem Arv.ary {a : Addr} {kA : ClassId} {ty : FieldType} {N : Nat} {vs : List Value} {dv : Value} (r3 : N < 2 ^ 31) (A : Arv Z h a kA ty (Int32.ofNat N) vs dv) : Ary Z h a kA ty N (fun i => vs.getD i dv) := by
  obtain ⟨c, A, r1, r2, -, H, G⟩ := A
  have e : (Int32.ofNat N).toNatClampNeg = N := by simp only [Int32.toNatClampNeg, Int32.toInt_ofNat_small r3]; omega
  rw [e] at r2
  exact ⟨c, A, r1, r2, r3, fun i hi => H i (by omega), fun i hi => G i (by omega)⟩
theorem cp_get {f g : Nat → Value} {N i j m : Nat} {dv : Value} (hj : j + m ≤ N) {x : Nat} (hx : x < N) : (((List.range N).map g).take j ++ ((List.range m).map fun t => f (i + t)) ++ ((List.range N).map g).drop (j + m)).getD x dv = if j ≤ x ∧ x < j + m then f (i + (x - j)) else g x := by
  simp only [List.getD_eq_getElem?_getD]
  by_cases h1 : x < j
  · rw [List.append_assoc, List.getElem?_append_left (by simp; omega), if_neg (by omega)]
    simp [List.getElem?_take, h1, hx]
  · by_cases h2 : x < j + m
    · rw [List.append_assoc, List.getElem?_append_right (by simp; omega), if_pos ⟨by omega, h2⟩]
      have e : (((List.range N).map g).take j).length = j := by simp; omega
      rw [e, List.getElem?_append_left (by simp; omega)]
      simp [show x - j < m by omega]
    · rw [List.getElem?_append_right (by simp; omega), if_neg (by omega)]
      have e : (((List.range N).map g).take j ++ ((List.range m).map fun t => f (i + t))).length = j + m := by simp; omega
      rw [e]
      simp [List.getElem?_drop, show j + m + (x - (j + m)) = x by omega, hx]
theorem WP.arraycopy (K : Cx κ w l Z own n0 rm bytes maxL ret nm Q) {i0 W : Nat} {a b : Addr} {kA kB : ClassId} {ty : FieldType} {N M i j m : Nat} {f g : Nat → Value} {sp dp nn : Int32} (w1 : (Cond.methodLink own i0 Jvm.Stand.acN).before a0 Z = true) (w2 : (Cond.native Jvm.Stand.acN).before a0 Z = true) (w3 : (Cond.static Jvm.Stand.acN).before a0 Z = true) (w4 : (Cond.initialized "java/lang/System").before a0 Z = true)
    (A : Ary Z h a kA ty N f) (B : Ary Z h b kB ty M g) (hp : refKind ty = false) (hsp : sp.toInt = (i : Int)) (hdp : dp.toInt = (j : Int)) (hnn : nn.toInt = (m : Int)) (h1 : i + m ≤ N) (h2 : j + m ≤ M) (ha : n0 ≤ b) (hd : decode bytes pc = .ok (.invokestatic i0, 3)) (hL : L.size = maxL) (hf : 1 ≤ rm.frames) (hW : (S.map fun v => v.category).sum = W) (hl : W + (nativeFrameWords "java/lang/System" "arraycopy" 5 + 11) ≤ rm.locals) (hpc : pc + 3 = pc')
    (H : ∀ h', Keep h h' [b] → Ary Z h' b kB ty M (fun x => if j ≤ x ∧ x < j + m then f (i + (x - j)) else g x) → WP κ h' k n (mkF κ.m pc' L S)) : WP κ h k n (mkF κ.m pc L (.int nn :: .int dp :: .ref b :: .int sp :: .ref a :: S)) := by
  obtain ⟨hx, hby, hml, -, -, hnm, -, -, rfl, rfl, rfl, rfl, -⟩ := K
  subst hpc
  intro T locs vm0 X e M' hZ ho N'
  have nA := A.len; have nB := B.len
  have eA : (Int32.ofNat N).toNatClampNeg = N := by simp only [Int32.toNatClampNeg, Int32.toInt_ofNat_small nA]; omega
  have eB : (Int32.ofNat M).toNatClampNeg = M := by simp only [Int32.toNatClampNeg, Int32.toInt_ofNat_small nB]; omega
  have nn0 : ∀ {z : Int32} {q : Nat}, z.toInt = (q : Int) → ¬ z < 0 := fun {z q} hz => by rw [Int32.lt_iff_toInt_lt, hz]; show ¬ (q : Int) < 0; omega
  obtain ⟨T', h', L', X', e', NF, K', A', st⟩ := cpA X hx (s := κ.s.setVm vm0) hZ ho w1 w2 w3 w4 e (A.arv .null) (B.arv .null) (Or.inl ⟨rfl, hp⟩) (nn0 hsp) (nn0 hdp) (nn0 hnn) (by rw [nat_of hsp, nat_of hnn, eA]; exact h1) (by rw [nat_of hdp, nat_of hnn, eB]; exact h2) rfl (by rw [nat_of hdp, nat_of hnn]; simpa using h2) N' ha (g := mkF κ.m pc L (.int nn :: .int dp :: .ref b :: .int sp :: .ref a :: S)) rfl (hL.trans hml.symm) rfl (hb hby hd) hf (W := W) (by show 2 * 0 + _ ≤ _; omega) hl
  have A2 := (Arv.ary nB A').congr (f' := fun x => if j ≤ x ∧ x < j + m then f (i + (x - j)) else g x) (fun x hx' => by
    rw [nat_of hdp, nat_of hnn, nat_of hsp]
    have q : (List.map (fun t => ((List.range N).map f).getD (i + t) Value.null) (List.range m)) = (List.range m).map fun t => f (i + t) := List.map_congr_left fun t ht => by
      have := List.mem_range.mp ht
      simp [List.getD_eq_getElem?_getD, show i + t < N by omega]
    rw [q]
    exact cp_get h2 hx')
  obtain ⟨t, o, h1', r⟩ := H h' K' A2 T' _ vm0 X' e' (M'.mono K'.1) hZ ho NF
  exact ⟨t, o, st _ h1', r⟩
end Rules
end Jvm.OwnW
namespace Jvm.Pilot.@@N@@
open Jvm Jvm.ClassFile Sem Op Lib Jvm.Free Jvm.Stand Jvm.LawKit Jvm.RoadKit Bundle Jvm.OwnW Jvm.Pilot.@@N@@.Jvm.D

def own_max (x y : Int32) : Int32 := if x < y then y else x
def own_min (x y : Int32) : Int32 := if y < x then y else x
def own_spread (x : Int64) : Int32 := ((((((x * (-7046029254386353131 : Int64))).toUInt64 >>> ((32 : Int32) &&& 0x3f).toInt64.toUInt64).toInt64)).toInt32)
def own_fnd (F : Nat → Int32) (k1 : Int32) : Nat → Nat → Nat
  | 0, s => s
  | f + 1, s => if F (4 * s) = (0 : Int32) ∨ F (4 * s) = k1 then s else own_fnd F k1 f ((s + 1) % 8)
theorem own_fnd_lt (F : Nat → Int32) (k1 : Int32) : ∀ f s, s < 8 → own_fnd F k1 f s < 8 := by
  intro f
  induction f with
  | zero => intro s h; exact h
  | succ f ih => intro s h; rw [own_fnd]; split
                 · exact h
                 · exact ih _ (by omega)
theorem own_add2 {x y : Int32} {n k : Nat} (h : x.toInt = (n : Int)) (hy : y.toInt = (k : Int)) (hn : n + k < 2147483648) : (x + y).toInt = ((n + k : Nat) : Int) := by
  have q := c_iadd x y
  have r2 := rng32 (x + y)
  omega
theorem own_mul4 {x y : Int32} {n c : Nat} (hc : y.toInt = (c : Int)) (h : x.toInt = (n : Int)) (hn : c * n < 2147483648) : (y * x).toInt = ((c * n : Nat) : Int) := by
  have q := c_imul y x
  have r2 := rng32 (y * x)
  rw [hc, h] at q
  have e : ((c * n : Nat) : Int) = (c : Int) * (n : Int) := by simp
  omega
theorem own_and7 {x : Int32} {n : Nat} (h : x.toInt = (n : Int)) (hn : n < 100) : (x &&& (7 : Int32)).toInt = ((n % 8 : Nat) : Int) := by
  have e : (x &&& (7 : Int32)).toInt = x.toInt % 8 := c_mask x 7 3 (by decide) (by decide)
  rw [e, h]; omega
def own_home (key : Int32) : Nat := ((own_spread key.toInt64 &&& (7 : Int32)).toInt).toNat
theorem own_home_e (key : Int32) : (own_spread key.toInt64 &&& (7 : Int32)).toInt = (own_home key : Int) ∧ own_home key < 8 := by
  have e : (own_spread key.toInt64 &&& (7 : Int32)).toInt = (own_spread key.toInt64).toInt % 8 := c_mask _ 7 3 (by decide) (by decide)
  unfold own_home
  omega
def own_fill (F : Nat → Int32) (i t : Nat) (v : Int32) : Nat → Int32 := fun j => if i ≤ j ∧ j < t then v else F j
theorem own_fill_step {F : Nat → Int32} {i k : Nat} {v : Int32} (h : i ≤ k) : fset (own_fill F i k v) k v = own_fill F i (k + 1) v := by
  funext j; unfold fset own_fill
  by_cases q : j = k
  · subst q; rw [if_pos rfl, if_pos ⟨h, by omega⟩]
  · rw [if_neg q]
    by_cases r : i ≤ j ∧ j < k
    · rw [if_pos r, if_pos ⟨r.1, by omega⟩]
    · rw [if_neg r, if_neg (fun z => r ⟨z.1, by omega⟩)]
theorem own_fill_0 (F : Nat → Int32) (i : Nat) (v : Int32) : own_fill F i i v = F := by funext j; unfold own_fill; rw [if_neg (by omega)]

theorem own_maxv (x y : Int32) : (own_max x y).toInt = max x.toInt y.toInt := by
  unfold own_max
  split
  · rename_i h; rw [Int32.lt_iff_toInt_lt] at h; omega
  · rename_i h; rw [Int32.lt_iff_toInt_lt] at h; omega
theorem own_thr {x y z : Int32} {n : Int} (hz : z.toInt = n) (h : n ≤ x.toInt) (h1 : x.toInt < 2147483647) (h2 : y.toInt < 2147483647) : z < own_max x y + (1 : Int32) := by
  have e := own_maxv x y
  have q := c_iadd (own_max x y) 1
  have r := rng32 (own_max x y + 1)
  have r2 := rng32 (own_max x y)
  have e1 : (1 : Int32).toInt = 1 := by decide
  rw [e1] at q
  rw [Int32.lt_iff_toInt_lt]; omega
def own_put (F : Nat → Int32) (r : Nat) (k1 i : Int32) : Nat → Int32 := own_fill (fset (fset F (4 * r) k1) (4 * r + 1) i) (4 * r + 2) (4 * r + 4) (-1)
theorem own_put0 (F : Nat → Int32) (r : Nat) (k1 i : Int32) : own_put F r k1 i (4 * r) = k1 := by unfold own_put own_fill fset; rw [if_neg (by omega), if_neg (by omega), if_pos rfl]
theorem own_put1 (F : Nat → Int32) (r : Nat) (k1 i : Int32) : own_put F r k1 i (4 * r + 1) = i := by unfold own_put own_fill fset; rw [if_neg (by omega), if_pos rfl]
theorem own_put2 (F : Nat → Int32) (r : Nat) (k1 i : Int32) : own_put F r k1 i (4 * r + 2) = -1 := by unfold own_put own_fill; rw [if_pos (by omega)]
theorem own_put3 (F : Nat → Int32) (r : Nat) (k1 i : Int32) : own_put F r k1 i (4 * r + 3) = -1 := by unfold own_put own_fill; rw [if_pos (by omega)]
theorem own_putn (F : Nat → Int32) {r s : Nat} (k1 i : Int32) {j : Nat} (hj : j < 4) (hs : s ≠ r) : own_put F r k1 i (4 * s + j) = F (4 * s + j) := by unfold own_put own_fill fset; rw [if_neg (by omega), if_neg (by omega), if_neg (by omega)]
theorem own_putz (F : Nat → Int32) {r s : Nat} (k1 i : Int32) (hs : s ≠ r) : own_put F r k1 i (4 * s) = F (4 * s) := by unfold own_put own_fill fset; rw [if_neg (by omega), if_neg (by omega), if_neg (by omega)]
theorem own_fndz (k1 : Int32) (s : Nat) : own_fnd (fun _ => (0 : Int32)) k1 8 s = s := by rw [own_fnd, if_pos (Or.inl rfl)]
theorem own_fndk {F : Nat → Int32} {k1 : Int32} {s : Nat} (h : F (4 * s) = k1) : own_fnd F k1 8 s = s := by rw [own_fnd, if_pos (Or.inr h)]
theorem own_snd {F : Nat → Int32} {k1 k2 : Int32} {r s : Nat} (hr : r < 8) (hs : s < 8) (h0 : F (4 * r) = k1) (hk : ¬ k1 = 0) (hkk : ¬ k1 = k2) (hz : ∀ t, t ≠ r → F (4 * t) = 0) : own_fnd F k2 8 s ≠ r ∧ F (4 * own_fnd F k2 8 s) = 0 := by
  by_cases e : s = r
  · subst e
    have h1 : own_fnd F k2 8 s = (s + 1) % 8 := by
      rw [own_fnd, if_neg (by rw [h0]; exact fun z => z.elim hk hkk), own_fnd, if_pos (Or.inl (hz _ (by omega)))]
    rw [h1]
    exact ⟨by omega, hz _ (by omega)⟩
  · have h1 : own_fnd F k2 8 s = s := by rw [own_fnd, if_pos (Or.inl (hz _ e))]
    rw [h1]
    exact ⟨e, hz _ e⟩
theorem own_keya (k : Int32) : 4 ≤ ((4 : Int32) + (k &&& (1073741823 : Int32))).toInt ∧ ((4 : Int32) + (k &&& (1073741823 : Int32))).toInt ≤ 1073741827 := by
  have e : (k &&& (1073741823 : Int32)).toInt = k.toInt % 1073741824 := c_mask k 1073741823 30 (by decide) (by decide)
  have q := c_iadd 4 (k &&& (1073741823 : Int32))
  have r := rng32 ((4 : Int32) + (k &&& (1073741823 : Int32)))
  have e4 : (4 : Int32).toInt = 4 := by decide
  omega
theorem own_keyb {a : Int32} (j : Int32) (h : 4 ≤ a.toInt ∧ a.toInt ≤ 1073741827) : a.toInt < ((a + (1 : Int32)) + (j &&& (255 : Int32))).toInt ∧ ((a + (1 : Int32)) + (j &&& (255 : Int32))).toInt ≤ 1073742100 := by
  have e : (j &&& (255 : Int32)).toInt = j.toInt % 256 := c_mask j 255 8 (by decide) (by decide)
  have q0 := c_iadd a 1
  have r0 := rng32 (a + 1)
  have e1 : (1 : Int32).toInt = 1 := by decide
  rw [e1] at q0
  have q := c_iadd (a + 1) (j &&& (255 : Int32))
  have r := rng32 ((a + (1 : Int32)) + (j &&& (255 : Int32)))
  omega
theorem own_succ {a : Int32} (h : a.toInt ≤ 1073742100) (h0 : 0 ≤ a.toInt) : (a + (1 : Int32)).toInt = a.toInt + 1 := by
  have q0 := c_iadd a 1
  have r0 := rng32 (a + 1)
  have e1 : (1 : Int32).toInt = 1 := by decide
  omega
theorem own_ne0 {a : Int32} (h : a.toInt ≤ 1073742100) (h0 : 0 ≤ a.toInt) : ¬ a + (1 : Int32) = 0 := fun z => by
  have e := own_succ h h0
  rw [z] at e
  have e0 : (0 : Int32).toInt = 0 := rfl
  omega
theorem own_nab {a b : Int32} (h : a.toInt ≤ 1073742100) (h0 : 0 ≤ a.toInt) (hb : b.toInt ≤ 1073742100) (hb0 : a.toInt < b.toInt) : ¬ a + (1 : Int32) = b + (1 : Int32) := fun z => by
  have e := own_succ h h0
  have e' := own_succ hb (by omega)
  rw [z] at e
  omega
theorem own_ia (m : Int32) : ¬ (m &&& (65535 : Int32)) = (-1 : Int32) := fun z => by
  have e : (m &&& (65535 : Int32)).toInt = m.toInt % 65536 := c_mask m 65535 16 (by decide) (by decide)
  rw [z] at e
  have e0 : (-1 : Int32).toInt = -1 := by decide
  omega
theorem own_ib (m : Int32) : ¬ (((m).toUInt32 >>> ((16 : Int32) &&& 31).toUInt32).toInt32) = (-1 : Int32) := fun z => by
  have e := c_iushr m 16 16 (by decide) (by decide)
  have r := rng32 m
  rw [z] at e
  have e0 : (-1 : Int32).toInt = -1 := by decide
  omega
theorem own_mod3 (p : Int32) : ((p &&& (2147483647 : Int32)) % (3 : Int32)) = 0 ∨ ((p &&& (2147483647 : Int32)) % (3 : Int32)) = 1 ∨ ((p &&& (2147483647 : Int32)) % (3 : Int32)) = 2 := by
  have e1 : (p &&& (2147483647 : Int32)).toInt = p.toInt % 2147483648 := c_mask p 2147483647 31 (by decide) (by decide)
  have e2 := (c_irem (p &&& (2147483647 : Int32)) 3 3 (by decide)).1 (by omega)
  have h : ((p &&& (2147483647 : Int32)) % (3 : Int32)).toInt = 0 ∨ ((p &&& (2147483647 : Int32)) % (3 : Int32)).toInt = 1 ∨ ((p &&& (2147483647 : Int32)) % (3 : Int32)).toInt = 2 := by omega
  rcases h with h | h | h
  · exact Or.inl (Int32.toInt_inj.mp h)
  · exact Or.inr (Or.inl (Int32.toInt_inj.mp h))
  · exact Or.inr (Or.inr (Int32.toInt_inj.mp h))
theorem own_bit (p : Int32) : (p &&& (1 : Int32)) = 0 ∨ (p &&& (1 : Int32)) = 1 := and_one p
theorem w_0 {Z : State} {a0 : Array Value} (hw : ∀ d ∈ tables_1, d.before a0 Z = true) : (Jvm.Cond.constant "com/example/weir/weir/engine/IntIntMapSetValuePinLaw" (8 : Nat) (65535 : Int32)).before a0 Z = true := hw _ (List.mem_of_getElem? (i := 0) rfl)
theorem w_1 {Z : State} {a0 : Array Value} (hw : ∀ d ∈ tables_1, d.before a0 Z = true) : (Jvm.Cond.constant "com/example/weir/weir/engine/IntIntMapSetValuePinLaw" (9 : Nat) (2147483647 : Int32)).before a0 Z = true := hw _ (List.mem_of_getElem? (i := 1) rfl)
theorem w_2 {Z : State} {a0 : Array Value} (hw : ∀ d ∈ tables_1, d.before a0 Z = true) : (Jvm.Cond.classLink "com/example/weir/weir/engine/IntIntMapSetValuePinLaw" (10 : Nat) "com/example/weir/weir/engine/IntIntMap").before a0 Z = true := hw _ (List.mem_of_getElem? (i := 2) rfl)
theorem w_3 {Z : State} {a0 : Array Value} (hw : ∀ d ∈ tables_1, d.before a0 Z = true) : (Jvm.Cond.instantiable "com/example/weir/weir/engine/IntIntMap" (9 : Nat)).before a0 Z = true := hw _ (List.mem_of_getElem? (i := 3) rfl)
theorem w_4 {Z : State} {a0 : Array Value} (hw : ∀ d ∈ tables_1, d.before a0 Z = true) : (Jvm.Cond.initialized "com/example/weir/weir/engine/IntIntMap").before a0 Z = true := hw _ (List.mem_of_getElem? (i := 4) rfl)
theorem w_5 {Z : State} {a0 : Array Value} (hw : ∀ d ∈ tables_1, d.before a0 Z = true) : (Jvm.Cond.methodLink "com/example/weir/weir/engine/IntIntMapSetValuePinLaw" (12 : Nat) ({ cls := "com/example/weir/weir/engine/IntIntMap", name := "<init>", desc := "(I)V" } : Jvm.MethodName)).before a0 Z = true := hw _ (List.mem_of_getElem? (i := 5) rfl)
theorem w_6 {Z : State} {a0 : Array Value} (hw : ∀ d ∈ tables_1, d.before a0 Z = true) : (Jvm.Cond.instanceMethod ({ cls := "com/example/weir/weir/engine/IntIntMap", name := "<init>", desc := "(I)V" } : Jvm.MethodName)).before a0 Z = true := hw _ (List.mem_of_getElem? (i := 6) rfl)
theorem w_7 {Z : State} {a0 : Array Value} (hw : ∀ d ∈ tables_1, d.before a0 Z = true) : (Jvm.Cond.code ({ cls := "com/example/weir/weir/engine/IntIntMap", name := "<init>", desc := "(I)V" } : Jvm.MethodName) prog_26_method_2_code (2 : Nat) (Option.none : Option Jvm.ClassFile.FieldType)).before a0 Z = true := hw _ (List.mem_of_getElem? (i := 7) rfl)
theorem w_8 {Z : State} {a0 : Array Value} (hw : ∀ d ∈ tables_1, d.before a0 Z = true) : (Jvm.Cond.methodLink "com/example/weir/weir/engine/IntIntMap" (7 : Nat) ({ cls := "java/lang/Object", name := "<init>", desc := "()V" } : Jvm.MethodName)).before a0 Z = true := hw _ (List.mem_of_getElem? (i := 8) rfl)
theorem w_9 {Z : State} {a0 : Array Value} (hw : ∀ d ∈ tables_1, d.before a0 Z = true) : (Jvm.Cond.instanceMethod ({ cls := "java/lang/Object", name := "<init>", desc := "()V" } : Jvm.MethodName)).before a0 Z = true := hw _ (List.mem_of_getElem? (i := 9) rfl)
theorem w_10 {Z : State} {a0 : Array Value} (hw : ∀ d ∈ tables_1, d.before a0 Z = true) : (Jvm.Cond.code ({ cls := "java/lang/Object", name := "<init>", desc := "()V" } : Jvm.MethodName) object_method_1_code (1 : Nat) (Option.none : Option Jvm.ClassFile.FieldType)).before a0 Z = true := hw _ (List.mem_of_getElem? (i := 10) rfl)
theorem w_11 {Z : State} {a0 : Array Value} (hw : ∀ d ∈ tables_1, d.before a0 Z = true) : (Jvm.Cond.fieldLink "com/example/weir/weir/engine/IntIntMap" (12 : Nat) "com/example/weir/weir/engine/IntIntMap" "width" "I").before a0 Z = true := hw _ (List.mem_of_getElem? (i := 11) rfl)
theorem w_12 {Z : State} {a0 : Array Value} (hw : ∀ d ∈ tables_1, d.before a0 Z = true) : (Jvm.Cond.laysFinal "com/example/weir/weir/engine/IntIntMap" "com/example/weir/weir/engine/IntIntMap" "width" "I").before a0 Z = true := hw _ (List.mem_of_getElem? (i := 12) rfl)
theorem w_13 {Z : State} {a0 : Array Value} (hw : ∀ d ∈ tables_1, d.before a0 Z = true) : (Jvm.Cond.fieldLink "com/example/weir/weir/engine/IntIntMap" (16 : Nat) "com/example/weir/weir/engine/IntIntMap" "stride" "I").before a0 Z = true := hw _ (List.mem_of_getElem? (i := 13) rfl)
theorem w_14 {Z : State} {a0 : Array Value} (hw : ∀ d ∈ tables_1, d.before a0 Z = true) : (Jvm.Cond.laysFinal "com/example/weir/weir/engine/IntIntMap" "com/example/weir/weir/engine/IntIntMap" "stride" "I").before a0 Z = true := hw _ (List.mem_of_getElem? (i := 14) rfl)
theorem w_15 {Z : State} {a0 : Array Value} (hw : ∀ d ∈ tables_1, d.before a0 Z = true) : (Jvm.Cond.methodLink "com/example/weir/weir/engine/IntIntMap" (19 : Nat) ({ cls := "com/example/weir/weir/engine/IntIntMap", name := "emptyTable", desc := "(IZ)V" } : Jvm.MethodName)).before a0 Z = true := hw _ (List.mem_of_getElem? (i := 15) rfl)
theorem w_16 {Z : State} {a0 : Array Value} (hw : ∀ d ∈ tables_1, d.before a0 Z = true) : (Jvm.Cond.instanceMethod ({ cls := "com/example/weir/weir/engine/IntIntMap", name := "emptyTable", desc := "(IZ)V" } : Jvm.MethodName)).before a0 Z = true := hw _ (List.mem_of_getElem? (i := 16) rfl)
theorem w_17 {Z : State} {a0 : Array Value} (hw : ∀ d ∈ tables_1, d.before a0 Z = true) : (Jvm.Cond.privateMethod ({ cls := "com/example/weir/weir/engine/IntIntMap", name := "emptyTable", desc := "(IZ)V" } : Jvm.MethodName)).before a0 Z = true := hw _ (List.mem_of_getElem? (i := 17) rfl)
theorem w_18 {Z : State} {a0 : Array Value} (hw : ∀ d ∈ tables_1, d.before a0 Z = true) : (Jvm.Cond.code ({ cls := "com/example/weir/weir/engine/IntIntMap", name := "emptyTable", desc := "(IZ)V" } : Jvm.MethodName) prog_26_method_22_code (3 : Nat) (Option.none : Option Jvm.ClassFile.FieldType)).before a0 Z = true := hw _ (List.mem_of_getElem? (i := 18) rfl)
theorem w_19 {Z : State} {a0 : Array Value} (hw : ∀ d ∈ tables_1, d.before a0 Z = true) : (Jvm.Cond.arrayClass Jvm.ClassFile.FieldType.int).before a0 Z = true := hw _ (List.mem_of_getElem? (i := 19) rfl)
theorem w_20 {Z : State} {a0 : Array Value} (hw : ∀ d ∈ tables_1, d.before a0 Z = true) : (Jvm.Cond.fieldLink "com/example/weir/weir/engine/IntIntMap" (30 : Nat) "com/example/weir/weir/engine/IntIntMap" "entries" "[I").before a0 Z = true := hw _ (List.mem_of_getElem? (i := 20) rfl)
theorem w_21 {Z : State} {a0 : Array Value} (hw : ∀ d ∈ tables_1, d.before a0 Z = true) : (Jvm.Cond.lays "com/example/weir/weir/engine/IntIntMap" "com/example/weir/weir/engine/IntIntMap" "entries" "[I").before a0 Z = true := hw _ (List.mem_of_getElem? (i := 21) rfl)
theorem w_22 {Z : State} {a0 : Array Value} (hw : ∀ d ∈ tables_1, d.before a0 Z = true) : (Jvm.Cond.fieldLink "com/example/weir/weir/engine/IntIntMap" (68 : Nat) "com/example/weir/weir/engine/IntIntMap" "slots" "I").before a0 Z = true := hw _ (List.mem_of_getElem? (i := 22) rfl)
theorem w_23 {Z : State} {a0 : Array Value} (hw : ∀ d ∈ tables_1, d.before a0 Z = true) : (Jvm.Cond.lays "com/example/weir/weir/engine/IntIntMap" "com/example/weir/weir/engine/IntIntMap" "slots" "I").before a0 Z = true := hw _ (List.mem_of_getElem? (i := 23) rfl)
theorem w_24 {Z : State} {a0 : Array Value} (hw : ∀ d ∈ tables_1, d.before a0 Z = true) : (Jvm.Cond.fieldLink "com/example/weir/weir/engine/IntIntMap" (80 : Nat) "com/example/weir/weir/engine/IntIntMap" "objects" "[Ljava/lang/Object;").before a0 Z = true := hw _ (List.mem_of_getElem? (i := 24) rfl)
theorem w_25 {Z : State} {a0 : Array Value} (hw : ∀ d ∈ tables_1, d.before a0 Z = true) : (Jvm.Cond.lays "com/example/weir/weir/engine/IntIntMap" "com/example/weir/weir/engine/IntIntMap" "objects" "[Ljava/lang/Object;").before a0 Z = true := hw _ (List.mem_of_getElem? (i := 25) rfl)
theorem w_26 {Z : State} {a0 : Array Value} (hw : ∀ d ∈ tables_1, d.before a0 Z = true) : (Jvm.Cond.fieldLink "com/example/weir/weir/engine/IntIntMap" (54 : Nat) "com/example/weir/weir/engine/IntIntMap" "greatestKey" "I").before a0 Z = true := hw _ (List.mem_of_getElem? (i := 26) rfl)
theorem w_27 {Z : State} {a0 : Array Value} (hw : ∀ d ∈ tables_1, d.before a0 Z = true) : (Jvm.Cond.lays "com/example/weir/weir/engine/IntIntMap" "com/example/weir/weir/engine/IntIntMap" "greatestKey" "I").before a0 Z = true := hw _ (List.mem_of_getElem? (i := 27) rfl)
theorem w_28 {Z : State} {a0 : Array Value} (hw : ∀ d ∈ tables_1, d.before a0 Z = true) : (Jvm.Cond.methodLink "com/example/weir/weir/engine/IntIntMapSetValuePinLaw" (15 : Nat) ({ cls := "com/example/weir/weir/engine/IntIntMap", name := "add", desc := "(II)I" } : Jvm.MethodName)).before a0 Z = true := hw _ (List.mem_of_getElem? (i := 28) rfl)
theorem w_29 {Z : State} {a0 : Array Value} (hw : ∀ d ∈ tables_1, d.before a0 Z = true) : (Jvm.Cond.declares ({ cls := "com/example/weir/weir/engine/IntIntMap", name := "add", desc := "(II)I" } : Jvm.MethodName)).before a0 Z = true := hw _ (List.mem_of_getElem? (i := 29) rfl)
theorem w_30 {Z : State} {a0 : Array Value} (hw : ∀ d ∈ tables_1, d.before a0 Z = true) : (Jvm.Cond.instanceMethod ({ cls := "com/example/weir/weir/engine/IntIntMap", name := "add", desc := "(II)I" } : Jvm.MethodName)).before a0 Z = true := hw _ (List.mem_of_getElem? (i := 30) rfl)
theorem w_31 {Z : State} {a0 : Array Value} (hw : ∀ d ∈ tables_1, d.before a0 Z = true) : (Jvm.Cond.selects "com/example/weir/weir/engine/IntIntMap" ({ cls := "com/example/weir/weir/engine/IntIntMap", name := "add", desc := "(II)I" } : Jvm.MethodName) ({ cls := "com/example/weir/weir/engine/IntIntMap", name := "add", desc := "(II)I" } : Jvm.MethodName)).before a0 Z = true := hw _ (List.mem_of_getElem? (i := 31) rfl)
theorem w_32 {Z : State} {a0 : Array Value} (hw : ∀ d ∈ tables_1, d.before a0 Z = true) : (Jvm.Cond.code ({ cls := "com/example/weir/weir/engine/IntIntMap", name := "add", desc := "(II)I" } : Jvm.MethodName) prog_26_method_8_code (5 : Nat) (Option.some Jvm.ClassFile.FieldType.int)).before a0 Z = true := hw _ (List.mem_of_getElem? (i := 32) rfl)
theorem w_33 {Z : State} {a0 : Array Value} (hw : ∀ d ∈ tables_1, d.before a0 Z = true) : (Jvm.Cond.fieldLink "com/example/weir/weir/engine/IntIntMap" (26 : Nat) "com/example/weir/weir/engine/IntIntMap" "values" "[I").before a0 Z = true := hw _ (List.mem_of_getElem? (i := 33) rfl)
theorem w_34 {Z : State} {a0 : Array Value} (hw : ∀ d ∈ tables_1, d.before a0 Z = true) : (Jvm.Cond.lays "com/example/weir/weir/engine/IntIntMap" "com/example/weir/weir/engine/IntIntMap" "values" "[I").before a0 Z = true := hw _ (List.mem_of_getElem? (i := 34) rfl)
theorem w_35 {Z : State} {a0 : Array Value} (hw : ∀ d ∈ tables_1, d.before a0 Z = true) : (Jvm.Cond.fieldLink "com/example/weir/weir/engine/IntIntMap" (23 : Nat) "com/example/weir/weir/engine/IntIntMap" "size" "I").before a0 Z = true := hw _ (List.mem_of_getElem? (i := 35) rfl)
theorem w_36 {Z : State} {a0 : Array Value} (hw : ∀ d ∈ tables_1, d.before a0 Z = true) : (Jvm.Cond.lays "com/example/weir/weir/engine/IntIntMap" "com/example/weir/weir/engine/IntIntMap" "size" "I").before a0 Z = true := hw _ (List.mem_of_getElem? (i := 36) rfl)
theorem w_37 {Z : State} {a0 : Array Value} (hw : ∀ d ∈ tables_1, d.before a0 Z = true) : (Jvm.Cond.methodLink "com/example/weir/weir/engine/IntIntMap" (57 : Nat) ({ cls := "java/lang/Math", name := "max", desc := "(II)I" } : Jvm.MethodName)).before a0 Z = true := hw _ (List.mem_of_getElem? (i := 37) rfl)
theorem w_38 {Z : State} {a0 : Array Value} (hw : ∀ d ∈ tables_1, d.before a0 Z = true) : (Jvm.Cond.static ({ cls := "java/lang/Math", name := "max", desc := "(II)I" } : Jvm.MethodName)).before a0 Z = true := hw _ (List.mem_of_getElem? (i := 38) rfl)
theorem w_39 {Z : State} {a0 : Array Value} (hw : ∀ d ∈ tables_1, d.before a0 Z = true) : (Jvm.Cond.initialized "java/lang/Math").before a0 Z = true := hw _ (List.mem_of_getElem? (i := 39) rfl)
theorem w_40 {Z : State} {a0 : Array Value} (hw : ∀ d ∈ tables_1, d.before a0 Z = true) : (Jvm.Cond.code ({ cls := "java/lang/Math", name := "max", desc := "(II)I" } : Jvm.MethodName) jdk_29_method_65_code (2 : Nat) (Option.some Jvm.ClassFile.FieldType.int)).before a0 Z = true := hw _ (List.mem_of_getElem? (i := 40) rfl)
theorem w_41 {Z : State} {a0 : Array Value} (hw : ∀ d ∈ tables_1, d.before a0 Z = true) : (Jvm.Cond.methodLink "com/example/weir/weir/engine/IntIntMap" (62 : Nat) ({ cls := "com/example/weir/weir/engine/IntIntMap", name := "toArray", desc := "(I)V" } : Jvm.MethodName)).before a0 Z = true := hw _ (List.mem_of_getElem? (i := 41) rfl)
theorem w_42 {Z : State} {a0 : Array Value} (hw : ∀ d ∈ tables_1, d.before a0 Z = true) : (Jvm.Cond.instanceMethod ({ cls := "com/example/weir/weir/engine/IntIntMap", name := "toArray", desc := "(I)V" } : Jvm.MethodName)).before a0 Z = true := hw _ (List.mem_of_getElem? (i := 42) rfl)
theorem w_43 {Z : State} {a0 : Array Value} (hw : ∀ d ∈ tables_1, d.before a0 Z = true) : (Jvm.Cond.privateMethod ({ cls := "com/example/weir/weir/engine/IntIntMap", name := "toArray", desc := "(I)V" } : Jvm.MethodName)).before a0 Z = true := hw _ (List.mem_of_getElem? (i := 43) rfl)
theorem w_44 {Z : State} {a0 : Array Value} (hw : ∀ d ∈ tables_1, d.before a0 Z = true) : (Jvm.Cond.code ({ cls := "com/example/weir/weir/engine/IntIntMap", name := "toArray", desc := "(I)V" } : Jvm.MethodName) prog_26_method_24_code (5 : Nat) (Option.none : Option Jvm.ClassFile.FieldType)).before a0 Z = true := hw _ (List.mem_of_getElem? (i := 44) rfl)
theorem w_45 {Z : State} {a0 : Array Value} (hw : ∀ d ∈ tables_1, d.before a0 Z = true) : (Jvm.Cond.fieldLink "com/example/weir/weir/engine/IntIntMap" (33 : Nat) "com/example/weir/weir/engine/IntIntMap" "keys" "I").before a0 Z = true := hw _ (List.mem_of_getElem? (i := 45) rfl)
theorem w_46 {Z : State} {a0 : Array Value} (hw : ∀ d ∈ tables_1, d.before a0 Z = true) : (Jvm.Cond.lays "com/example/weir/weir/engine/IntIntMap" "com/example/weir/weir/engine/IntIntMap" "keys" "I").before a0 Z = true := hw _ (List.mem_of_getElem? (i := 46) rfl)
theorem w_47 {Z : State} {a0 : Array Value} (hw : ∀ d ∈ tables_1, d.before a0 Z = true) : (Jvm.Cond.methodLink "com/example/weir/weir/engine/IntIntMap" (133 : Nat) ({ cls := "java/util/Arrays", name := "fill", desc := "([II)V" } : Jvm.MethodName)).before a0 Z = true := hw _ (List.mem_of_getElem? (i := 47) rfl)
theorem w_48 {Z : State} {a0 : Array Value} (hw : ∀ d ∈ tables_1, d.before a0 Z = true) : (Jvm.Cond.static ({ cls := "java/util/Arrays", name := "fill", desc := "([II)V" } : Jvm.MethodName)).before a0 Z = true := hw _ (List.mem_of_getElem? (i := 48) rfl)
theorem w_49 {Z : State} {a0 : Array Value} (hw : ∀ d ∈ tables_1, d.before a0 Z = true) : (Jvm.Cond.initialized "java/util/Arrays").before a0 Z = true := hw _ (List.mem_of_getElem? (i := 49) rfl)
theorem w_50 {Z : State} {a0 : Array Value} (hw : ∀ d ∈ tables_1, d.before a0 Z = true) : (Jvm.Cond.code ({ cls := "java/util/Arrays", name := "fill", desc := "([II)V" } : Jvm.MethodName) jdk_65_method_103_code (4 : Nat) (Option.none : Option Jvm.ClassFile.FieldType)).before a0 Z = true := hw _ (List.mem_of_getElem? (i := 50) rfl)
theorem w_51 {Z : State} {a0 : Array Value} (hw : ∀ d ∈ tables_1, d.before a0 Z = true) : (Jvm.Cond.methodLink "com/example/weir/weir/engine/IntIntMapSetValuePinLaw" (19 : Nat) ({ cls := "com/example/weir/weir/engine/IntIntMap", name := "place", desc := "(I)I" } : Jvm.MethodName)).before a0 Z = true := hw _ (List.mem_of_getElem? (i := 51) rfl)
theorem w_52 {Z : State} {a0 : Array Value} (hw : ∀ d ∈ tables_1, d.before a0 Z = true) : (Jvm.Cond.declares ({ cls := "com/example/weir/weir/engine/IntIntMap", name := "place", desc := "(I)I" } : Jvm.MethodName)).before a0 Z = true := hw _ (List.mem_of_getElem? (i := 52) rfl)
theorem w_53 {Z : State} {a0 : Array Value} (hw : ∀ d ∈ tables_1, d.before a0 Z = true) : (Jvm.Cond.instanceMethod ({ cls := "com/example/weir/weir/engine/IntIntMap", name := "place", desc := "(I)I" } : Jvm.MethodName)).before a0 Z = true := hw _ (List.mem_of_getElem? (i := 53) rfl)
theorem w_54 {Z : State} {a0 : Array Value} (hw : ∀ d ∈ tables_1, d.before a0 Z = true) : (Jvm.Cond.selects "com/example/weir/weir/engine/IntIntMap" ({ cls := "com/example/weir/weir/engine/IntIntMap", name := "place", desc := "(I)I" } : Jvm.MethodName) ({ cls := "com/example/weir/weir/engine/IntIntMap", name := "place", desc := "(I)I" } : Jvm.MethodName)).before a0 Z = true := hw _ (List.mem_of_getElem? (i := 54) rfl)
theorem w_55 {Z : State} {a0 : Array Value} (hw : ∀ d ∈ tables_1, d.before a0 Z = true) : (Jvm.Cond.code ({ cls := "com/example/weir/weir/engine/IntIntMap", name := "place", desc := "(I)I" } : Jvm.MethodName) prog_26_method_7_code (3 : Nat) (Option.some Jvm.ClassFile.FieldType.int)).before a0 Z = true := hw _ (List.mem_of_getElem? (i := 55) rfl)
theorem w_56 {Z : State} {a0 : Array Value} (hw : ∀ d ∈ tables_1, d.before a0 Z = true) : (Jvm.Cond.methodLink "com/example/weir/weir/engine/IntIntMapSetValuePinLaw" (23 : Nat) ({ cls := "com/example/weir/weir/engine/IntIntMap", name := "setValue", desc := "(III)V" } : Jvm.MethodName)).before a0 Z = true := hw _ (List.mem_of_getElem? (i := 56) rfl)
theorem w_57 {Z : State} {a0 : Array Value} (hw : ∀ d ∈ tables_1, d.before a0 Z = true) : (Jvm.Cond.declares ({ cls := "com/example/weir/weir/engine/IntIntMap", name := "setValue", desc := "(III)V" } : Jvm.MethodName)).before a0 Z = true := hw _ (List.mem_of_getElem? (i := 57) rfl)
theorem w_58 {Z : State} {a0 : Array Value} (hw : ∀ d ∈ tables_1, d.before a0 Z = true) : (Jvm.Cond.instanceMethod ({ cls := "com/example/weir/weir/engine/IntIntMap", name := "setValue", desc := "(III)V" } : Jvm.MethodName)).before a0 Z = true := hw _ (List.mem_of_getElem? (i := 58) rfl)
theorem w_59 {Z : State} {a0 : Array Value} (hw : ∀ d ∈ tables_1, d.before a0 Z = true) : (Jvm.Cond.selects "com/example/weir/weir/engine/IntIntMap" ({ cls := "com/example/weir/weir/engine/IntIntMap", name := "setValue", desc := "(III)V" } : Jvm.MethodName) ({ cls := "com/example/weir/weir/engine/IntIntMap", name := "setValue", desc := "(III)V" } : Jvm.MethodName)).before a0 Z = true := hw _ (List.mem_of_getElem? (i := 59) rfl)
theorem w_60 {Z : State} {a0 : Array Value} (hw : ∀ d ∈ tables_1, d.before a0 Z = true) : (Jvm.Cond.code ({ cls := "com/example/weir/weir/engine/IntIntMap", name := "setValue", desc := "(III)V" } : Jvm.MethodName) prog_26_method_10_code (4 : Nat) (Option.none : Option Jvm.ClassFile.FieldType)).before a0 Z = true := hw _ (List.mem_of_getElem? (i := 60) rfl)
theorem w_61 {Z : State} {a0 : Array Value} (hw : ∀ d ∈ tables_1, d.before a0 Z = true) : (Jvm.Cond.methodLink "com/example/weir/weir/engine/IntIntMapSetValuePinLaw" (27 : Nat) ({ cls := "com/example/weir/weir/engine/IntIntMapSetValuePinLaw", name := "holds", desc := "(Lcom/example/weir/weir/engine/IntIntMap;IIII)Z" } : Jvm.MethodName)).before a0 Z = true := hw _ (List.mem_of_getElem? (i := 61) rfl)
theorem w_62 {Z : State} {a0 : Array Value} (hw : ∀ d ∈ tables_1, d.before a0 Z = true) : (Jvm.Cond.static ({ cls := "com/example/weir/weir/engine/IntIntMapSetValuePinLaw", name := "holds", desc := "(Lcom/example/weir/weir/engine/IntIntMap;IIII)Z" } : Jvm.MethodName)).before a0 Z = true := hw _ (List.mem_of_getElem? (i := 62) rfl)
theorem w_63 {Z : State} {a0 : Array Value} (hw : ∀ d ∈ tables_1, d.before a0 Z = true) : (Jvm.Cond.initialized "com/example/weir/weir/engine/IntIntMapSetValuePinLaw").before a0 Z = true := hw _ (List.mem_of_getElem? (i := 63) rfl)
theorem w_64 {Z : State} {a0 : Array Value} (hw : ∀ d ∈ tables_1, d.before a0 Z = true) : (Jvm.Cond.code ({ cls := "com/example/weir/weir/engine/IntIntMapSetValuePinLaw", name := "holds", desc := "(Lcom/example/weir/weir/engine/IntIntMap;IIII)Z" } : Jvm.MethodName) method_3_code (5 : Nat) (Option.some Jvm.ClassFile.FieldType.boolean)).before a0 Z = true := hw _ (List.mem_of_getElem? (i := 64) rfl)
theorem w_65 {Z : State} {a0 : Array Value} (hw : ∀ d ∈ tables_1, d.before a0 Z = true) : (Jvm.Cond.methodLink "com/example/weir/weir/engine/IntIntMapSetValuePinLaw" (33 : Nat) ({ cls := "com/example/weir/weir/engine/IntIntMap", name := "value", desc := "(II)I" } : Jvm.MethodName)).before a0 Z = true := hw _ (List.mem_of_getElem? (i := 65) rfl)
theorem w_66 {Z : State} {a0 : Array Value} (hw : ∀ d ∈ tables_1, d.before a0 Z = true) : (Jvm.Cond.declares ({ cls := "com/example/weir/weir/engine/IntIntMap", name := "value", desc := "(II)I" } : Jvm.MethodName)).before a0 Z = true := hw _ (List.mem_of_getElem? (i := 66) rfl)
theorem w_67 {Z : State} {a0 : Array Value} (hw : ∀ d ∈ tables_1, d.before a0 Z = true) : (Jvm.Cond.instanceMethod ({ cls := "com/example/weir/weir/engine/IntIntMap", name := "value", desc := "(II)I" } : Jvm.MethodName)).before a0 Z = true := hw _ (List.mem_of_getElem? (i := 67) rfl)
theorem w_68 {Z : State} {a0 : Array Value} (hw : ∀ d ∈ tables_1, d.before a0 Z = true) : (Jvm.Cond.selects "com/example/weir/weir/engine/IntIntMap" ({ cls := "com/example/weir/weir/engine/IntIntMap", name := "value", desc := "(II)I" } : Jvm.MethodName) ({ cls := "com/example/weir/weir/engine/IntIntMap", name := "value", desc := "(II)I" } : Jvm.MethodName)).before a0 Z = true := hw _ (List.mem_of_getElem? (i := 68) rfl)
theorem w_69 {Z : State} {a0 : Array Value} (hw : ∀ d ∈ tables_1, d.before a0 Z = true) : (Jvm.Cond.code ({ cls := "com/example/weir/weir/engine/IntIntMap", name := "value", desc := "(II)I" } : Jvm.MethodName) prog_26_method_9_code (3 : Nat) (Option.some Jvm.ClassFile.FieldType.int)).before a0 Z = true := hw _ (List.mem_of_getElem? (i := 69) rfl)
theorem w_70 {Z : State} {a0 : Array Value} (hw : ∀ d ∈ tables_1, d.before a0 Z = true) : (Jvm.Cond.methodLink "com/example/weir/weir/engine/IntIntMap" (65 : Nat) ({ cls := "com/example/weir/weir/engine/IntIntMap", name := "growArray", desc := "(I)V" } : Jvm.MethodName)).before a0 Z = true := hw _ (List.mem_of_getElem? (i := 70) rfl)
theorem w_71 {Z : State} {a0 : Array Value} (hw : ∀ d ∈ tables_1, d.before a0 Z = true) : (Jvm.Cond.instanceMethod ({ cls := "com/example/weir/weir/engine/IntIntMap", name := "growArray", desc := "(I)V" } : Jvm.MethodName)).before a0 Z = true := hw _ (List.mem_of_getElem? (i := 71) rfl)
theorem w_72 {Z : State} {a0 : Array Value} (hw : ∀ d ∈ tables_1, d.before a0 Z = true) : (Jvm.Cond.privateMethod ({ cls := "com/example/weir/weir/engine/IntIntMap", name := "growArray", desc := "(I)V" } : Jvm.MethodName)).before a0 Z = true := hw _ (List.mem_of_getElem? (i := 72) rfl)
theorem w_73 {Z : State} {a0 : Array Value} (hw : ∀ d ∈ tables_1, d.before a0 Z = true) : (Jvm.Cond.code ({ cls := "com/example/weir/weir/engine/IntIntMap", name := "growArray", desc := "(I)V" } : Jvm.MethodName) prog_26_method_25_code (2 : Nat) (Option.none : Option Jvm.ClassFile.FieldType)).before a0 Z = true := hw _ (List.mem_of_getElem? (i := 73) rfl)
theorem w_74 {Z : State} {a0 : Array Value} (hw : ∀ d ∈ tables_1, d.before a0 Z = true) : (Jvm.Cond.methodLink "com/example/weir/weir/engine/IntIntMap" (104 : Nat) ({ cls := "java/util/Arrays", name := "copyOf", desc := "([II)[I" } : Jvm.MethodName)).before a0 Z = true := hw _ (List.mem_of_getElem? (i := 74) rfl)
theorem w_75 {Z : State} {a0 : Array Value} (hw : ∀ d ∈ tables_1, d.before a0 Z = true) : (Jvm.Cond.static ({ cls := "java/util/Arrays", name := "copyOf", desc := "([II)[I" } : Jvm.MethodName)).before a0 Z = true := hw _ (List.mem_of_getElem? (i := 75) rfl)
theorem w_76 {Z : State} {a0 : Array Value} (hw : ∀ d ∈ tables_1, d.before a0 Z = true) : (Jvm.Cond.code ({ cls := "java/util/Arrays", name := "copyOf", desc := "([II)[I" } : Jvm.MethodName) jdk_65_method_123_code (3 : Nat) (Option.some (Jvm.ClassFile.FieldType.array Jvm.ClassFile.FieldType.int))).before a0 Z = true := hw _ (List.mem_of_getElem? (i := 76) rfl)
theorem w_77 {Z : State} {a0 : Array Value} (hw : ∀ d ∈ tables_1, d.before a0 Z = true) : (Jvm.Cond.methodLink "java/util/Arrays" (304 : Nat) ({ cls := "java/lang/Math", name := "min", desc := "(II)I" } : Jvm.MethodName)).before a0 Z = true := hw _ (List.mem_of_getElem? (i := 77) rfl)
theorem w_78 {Z : State} {a0 : Array Value} (hw : ∀ d ∈ tables_1, d.before a0 Z = true) : (Jvm.Cond.static ({ cls := "java/lang/Math", name := "min", desc := "(II)I" } : Jvm.MethodName)).before a0 Z = true := hw _ (List.mem_of_getElem? (i := 78) rfl)
theorem w_79 {Z : State} {a0 : Array Value} (hw : ∀ d ∈ tables_1, d.before a0 Z = true) : (Jvm.Cond.code ({ cls := "java/lang/Math", name := "min", desc := "(II)I" } : Jvm.MethodName) jdk_29_method_69_code (2 : Nat) (Option.some Jvm.ClassFile.FieldType.int)).before a0 Z = true := hw _ (List.mem_of_getElem? (i := 79) rfl)
theorem w_80 {Z : State} {a0 : Array Value} (hw : ∀ d ∈ tables_1, d.before a0 Z = true) : (Jvm.Cond.methodLink "java/util/Arrays" (150 : Nat) ({ cls := "java/lang/System", name := "arraycopy", desc := "(Ljava/lang/Object;ILjava/lang/Object;II)V" } : Jvm.MethodName)).before a0 Z = true := hw _ (List.mem_of_getElem? (i := 80) rfl)
theorem w_81 {Z : State} {a0 : Array Value} (hw : ∀ d ∈ tables_1, d.before a0 Z = true) : (Jvm.Cond.static ({ cls := "java/lang/System", name := "arraycopy", desc := "(Ljava/lang/Object;ILjava/lang/Object;II)V" } : Jvm.MethodName)).before a0 Z = true := hw _ (List.mem_of_getElem? (i := 81) rfl)
theorem w_82 {Z : State} {a0 : Array Value} (hw : ∀ d ∈ tables_1, d.before a0 Z = true) : (Jvm.Cond.initialized "java/lang/System").before a0 Z = true := hw _ (List.mem_of_getElem? (i := 82) rfl)
theorem w_83 {Z : State} {a0 : Array Value} (hw : ∀ d ∈ tables_1, d.before a0 Z = true) : (Jvm.Cond.native ({ cls := "java/lang/System", name := "arraycopy", desc := "(Ljava/lang/Object;ILjava/lang/Object;II)V" } : Jvm.MethodName)).before a0 Z = true := hw _ (List.mem_of_getElem? (i := 83) rfl)
theorem w_84 {Z : State} {a0 : Array Value} (hw : ∀ d ∈ tables_1, d.before a0 Z = true) : (Jvm.Cond.methodLink "com/example/weir/weir/engine/IntIntMap" (74 : Nat) ({ cls := "java/util/Arrays", name := "fill", desc := "([IIII)V" } : Jvm.MethodName)).before a0 Z = true := hw _ (List.mem_of_getElem? (i := 84) rfl)
theorem w_85 {Z : State} {a0 : Array Value} (hw : ∀ d ∈ tables_1, d.before a0 Z = true) : (Jvm.Cond.static ({ cls := "java/util/Arrays", name := "fill", desc := "([IIII)V" } : Jvm.MethodName)).before a0 Z = true := hw _ (List.mem_of_getElem? (i := 85) rfl)
theorem w_86 {Z : State} {a0 : Array Value} (hw : ∀ d ∈ tables_1, d.before a0 Z = true) : (Jvm.Cond.code ({ cls := "java/util/Arrays", name := "fill", desc := "([IIII)V" } : Jvm.MethodName) jdk_65_method_104_code (5 : Nat) (Option.none : Option Jvm.ClassFile.FieldType)).before a0 Z = true := hw _ (List.mem_of_getElem? (i := 86) rfl)
theorem w_87 {Z : State} {a0 : Array Value} (hw : ∀ d ∈ tables_1, d.before a0 Z = true) : (Jvm.Cond.methodLink "java/util/Arrays" (13 : Nat) ({ cls := "java/util/Arrays", name := "rangeCheck", desc := "(III)V" } : Jvm.MethodName)).before a0 Z = true := hw _ (List.mem_of_getElem? (i := 87) rfl)
theorem w_88 {Z : State} {a0 : Array Value} (hw : ∀ d ∈ tables_1, d.before a0 Z = true) : (Jvm.Cond.static ({ cls := "java/util/Arrays", name := "rangeCheck", desc := "(III)V" } : Jvm.MethodName)).before a0 Z = true := hw _ (List.mem_of_getElem? (i := 88) rfl)
theorem w_89 {Z : State} {a0 : Array Value} (hw : ∀ d ∈ tables_1, d.before a0 Z = true) : (Jvm.Cond.code ({ cls := "java/util/Arrays", name := "rangeCheck", desc := "(III)V" } : Jvm.MethodName) jdk_65_method_30_code (3 : Nat) (Option.none : Option Jvm.ClassFile.FieldType)).before a0 Z = true := hw _ (List.mem_of_getElem? (i := 89) rfl)
theorem w_90 {Z : State} {a0 : Array Value} (hw : ∀ d ∈ tables_1, d.before a0 Z = true) : (Jvm.Cond.constant "com/example/weir/weir/engine/IntIntMapSetValuePinLaw" (7 : Nat) (1073741823 : Int32)).before a0 Z = true := hw _ (List.mem_of_getElem? (i := 90) rfl)
theorem w_91 {Z : State} {a0 : Array Value} (hw : ∀ d ∈ tables_1, d.before a0 Z = true) : (Jvm.Cond.methodLink "com/example/weir/weir/engine/IntIntMap" (36 : Nat) ({ cls := "com/example/weir/weir/engine/IntIntMap", name := "find", desc := "(I)I" } : Jvm.MethodName)).before a0 Z = true := hw _ (List.mem_of_getElem? (i := 91) rfl)
theorem w_92 {Z : State} {a0 : Array Value} (hw : ∀ d ∈ tables_1, d.before a0 Z = true) : (Jvm.Cond.instanceMethod ({ cls := "com/example/weir/weir/engine/IntIntMap", name := "find", desc := "(I)I" } : Jvm.MethodName)).before a0 Z = true := hw _ (List.mem_of_getElem? (i := 92) rfl)
theorem w_93 {Z : State} {a0 : Array Value} (hw : ∀ d ∈ tables_1, d.before a0 Z = true) : (Jvm.Cond.privateMethod ({ cls := "com/example/weir/weir/engine/IntIntMap", name := "find", desc := "(I)I" } : Jvm.MethodName)).before a0 Z = true := hw _ (List.mem_of_getElem? (i := 93) rfl)
theorem w_94 {Z : State} {a0 : Array Value} (hw : ∀ d ∈ tables_1, d.before a0 Z = true) : (Jvm.Cond.code ({ cls := "com/example/weir/weir/engine/IntIntMap", name := "find", desc := "(I)I" } : Jvm.MethodName) prog_26_method_20_code (4 : Nat) (Option.some Jvm.ClassFile.FieldType.int)).before a0 Z = true := hw _ (List.mem_of_getElem? (i := 94) rfl)
theorem w_95 {Z : State} {a0 : Array Value} (hw : ∀ d ∈ tables_1, d.before a0 Z = true) : (Jvm.Cond.methodLink "com/example/weir/weir/engine/IntIntMap" (88 : Nat) ({ cls := "com/example/weir/weir/engine/LinearProbing", name := "spread", desc := "(J)I" } : Jvm.MethodName)).before a0 Z = true := hw _ (List.mem_of_getElem? (i := 95) rfl)
theorem w_96 {Z : State} {a0 : Array Value} (hw : ∀ d ∈ tables_1, d.before a0 Z = true) : (Jvm.Cond.static ({ cls := "com/example/weir/weir/engine/LinearProbing", name := "spread", desc := "(J)I" } : Jvm.MethodName)).before a0 Z = true := hw _ (List.mem_of_getElem? (i := 96) rfl)
theorem w_97 {Z : State} {a0 : Array Value} (hw : ∀ d ∈ tables_1, d.before a0 Z = true) : (Jvm.Cond.initialized "com/example/weir/weir/engine/LinearProbing").before a0 Z = true := hw _ (List.mem_of_getElem? (i := 97) rfl)
theorem w_98 {Z : State} {a0 : Array Value} (hw : ∀ d ∈ tables_1, d.before a0 Z = true) : (Jvm.Cond.code ({ cls := "com/example/weir/weir/engine/LinearProbing", name := "spread", desc := "(J)I" } : Jvm.MethodName) prog_29_method_2_code (2 : Nat) (Option.some Jvm.ClassFile.FieldType.int)).before a0 Z = true := hw _ (List.mem_of_getElem? (i := 98) rfl)
theorem w_99 {Z : State} {a0 : Array Value} (hw : ∀ d ∈ tables_1, d.before a0 Z = true) : (Jvm.Cond.constantLong "com/example/weir/weir/engine/LinearProbing" (7 : Nat) (-7046029254386353131 : Int64)).before a0 Z = true := hw _ (List.mem_of_getElem? (i := 99) rfl)
theorem pd_0 : parseMethodDescriptor "(IZ)V" = some ⟨[.int, .boolean], none⟩ := by decide +kernel
theorem pd_1 : parseMethodDescriptor "(J)I" = some ⟨[.long], some .int⟩ := by decide +kernel
theorem pd_2 : parseMethodDescriptor "(III)V" = some ⟨[.int, .int, .int], none⟩ := by decide +kernel
theorem pd_3 : parseMethodDescriptor "(II)I" = some ⟨[.int, .int], some .int⟩ := by decide +kernel
theorem pd_4 : parseMethodDescriptor "(I)I" = some ⟨[.int], some .int⟩ := by decide +kernel
theorem pd_5 : parseMethodDescriptor "([IIII)V" = some ⟨[(.array .int), .int, .int, .int], none⟩ := by decide +kernel
theorem pd_6 : parseMethodDescriptor "([II)V" = some ⟨[(.array .int), .int], none⟩ := by decide +kernel
theorem pd_7 : parseMethodDescriptor "([II)[I" = some ⟨[(.array .int), .int], some (.array .int)⟩ := by decide +kernel
theorem pd_8 : parseMethodDescriptor "(I)V" = some ⟨[.int], none⟩ := by decide +kernel
theorem pd_9 : parseMethodDescriptor "(Lcom/example/weir/weir/engine/IntIntMap;IIII)Z" = some ⟨[(.object "com/example/weir/weir/engine/IntIntMap"), .int, .int, .int, .int], some .boolean⟩ := by decide +kernel
theorem d10_0 : decode method_3_code 0 = .ok (.aload_n 0, 1) := by decide +kernel
theorem d10_1 : decode method_3_code 1 = .ok (.iload_n 1, 1) := by decide +kernel
theorem d10_10 : decode method_3_code 10 = .ok (.aload_n 0, 1) := by decide +kernel
theorem d10_11 : decode method_3_code 11 = .ok (.iload_n 1, 1) := by decide +kernel
theorem d10_12 : decode method_3_code 12 = .ok (.iconst 1, 1) := by decide +kernel
theorem d10_13 : decode method_3_code 13 = .ok (.invokevirtual 33, 3) := by decide +kernel
theorem d10_16 : decode method_3_code 16 = .ok (.iload_n 3, 1) := by decide +kernel
theorem d10_17 : decode method_3_code 17 = .ok (.if_icmp .ne 18, 3) := by decide +kernel
theorem d10_2 : decode method_3_code 2 = .ok (.iconst 0, 1) := by decide +kernel
theorem d10_20 : decode method_3_code 20 = .ok (.aload_n 0, 1) := by decide +kernel
theorem d10_21 : decode method_3_code 21 = .ok (.iload_n 1, 1) := by decide +kernel
theorem d10_22 : decode method_3_code 22 = .ok (.iconst 2, 1) := by decide +kernel
theorem d10_23 : decode method_3_code 23 = .ok (.invokevirtual 33, 3) := by decide +kernel
theorem d10_26 : decode method_3_code 26 = .ok (.iload 4, 2) := by decide +kernel
theorem d10_28 : decode method_3_code 28 = .ok (.if_icmp .ne 7, 3) := by decide +kernel
theorem d10_3 : decode method_3_code 3 = .ok (.invokevirtual 33, 3) := by decide +kernel
theorem d10_31 : decode method_3_code 31 = .ok (.iconst 1, 1) := by decide +kernel
theorem d10_32 : decode method_3_code 32 = .ok (.goto 4, 3) := by decide +kernel
theorem d10_36 : decode method_3_code 36 = .ok (.ireturn, 1) := by decide +kernel
theorem d10_6 : decode method_3_code 6 = .ok (.iload_n 2, 1) := by decide +kernel
theorem d10_7 : decode method_3_code 7 = .ok (.if_icmp .ne 28, 3) := by decide +kernel
theorem d11_0 : decode prog_26_method_9_code 0 = .ok (.aload_n 0, 1) := by decide +kernel
theorem d11_1 : decode prog_26_method_9_code 1 = .ok (.getfield 26, 3) := by decide +kernel
theorem d11_11 : decode prog_26_method_9_code 11 = .ok (.aload_n 0, 1) := by decide +kernel
theorem d11_12 : decode prog_26_method_9_code 12 = .ok (.getfield 12, 3) := by decide +kernel
theorem d11_15 : decode prog_26_method_9_code 15 = .ok (.iload_n 1, 1) := by decide +kernel
theorem d11_16 : decode prog_26_method_9_code 16 = .ok (.imul, 1) := by decide +kernel
theorem d11_17 : decode prog_26_method_9_code 17 = .ok (.iload_n 2, 1) := by decide +kernel
theorem d11_18 : decode prog_26_method_9_code 18 = .ok (.iadd, 1) := by decide +kernel
theorem d11_19 : decode prog_26_method_9_code 19 = .ok (.iaload, 1) := by decide +kernel
theorem d11_20 : decode prog_26_method_9_code 20 = .ok (.goto 18, 3) := by decide +kernel
theorem d11_23 : decode prog_26_method_9_code 23 = .ok (.aload_n 0, 1) := by decide +kernel
theorem d11_24 : decode prog_26_method_9_code 24 = .ok (.getfield 30, 3) := by decide +kernel
theorem d11_27 : decode prog_26_method_9_code 27 = .ok (.aload_n 0, 1) := by decide +kernel
theorem d11_28 : decode prog_26_method_9_code 28 = .ok (.getfield 16, 3) := by decide +kernel
theorem d11_31 : decode prog_26_method_9_code 31 = .ok (.iload_n 1, 1) := by decide +kernel
theorem d11_32 : decode prog_26_method_9_code 32 = .ok (.imul, 1) := by decide +kernel
theorem d11_33 : decode prog_26_method_9_code 33 = .ok (.iconst 1, 1) := by decide +kernel
theorem d11_34 : decode prog_26_method_9_code 34 = .ok (.iadd, 1) := by decide +kernel
theorem d11_35 : decode prog_26_method_9_code 35 = .ok (.iload_n 2, 1) := by decide +kernel
theorem d11_36 : decode prog_26_method_9_code 36 = .ok (.iadd, 1) := by decide +kernel
theorem d11_37 : decode prog_26_method_9_code 37 = .ok (.iaload, 1) := by decide +kernel
theorem d11_38 : decode prog_26_method_9_code 38 = .ok (.ireturn, 1) := by decide +kernel
theorem d11_4 : decode prog_26_method_9_code 4 = .ok (.ifnull 19, 3) := by decide +kernel
theorem d11_7 : decode prog_26_method_9_code 7 = .ok (.aload_n 0, 1) := by decide +kernel
theorem d11_8 : decode prog_26_method_9_code 8 = .ok (.getfield 26, 3) := by decide +kernel
theorem d12_0 : decode prog_26_method_25_code 0 = .ok (.aload_n 0, 1) := by decide +kernel
theorem d12_1 : decode prog_26_method_25_code 1 = .ok (.aload_n 0, 1) := by decide +kernel
theorem d12_10 : decode prog_26_method_25_code 10 = .ok (.imul, 1) := by decide +kernel
theorem d12_11 : decode prog_26_method_25_code 11 = .ok (.invokestatic 104, 3) := by decide +kernel
theorem d12_14 : decode prog_26_method_25_code 14 = .ok (.putfield 26, 3) := by decide +kernel
theorem d12_17 : decode prog_26_method_25_code 17 = .ok (.aload_n 0, 1) := by decide +kernel
theorem d12_18 : decode prog_26_method_25_code 18 = .ok (.getfield 26, 3) := by decide +kernel
theorem d12_2 : decode prog_26_method_25_code 2 = .ok (.getfield 26, 3) := by decide +kernel
theorem d12_21 : decode prog_26_method_25_code 21 = .ok (.aload_n 0, 1) := by decide +kernel
theorem d12_22 : decode prog_26_method_25_code 22 = .ok (.getfield 12, 3) := by decide +kernel
theorem d12_25 : decode prog_26_method_25_code 25 = .ok (.aload_n 0, 1) := by decide +kernel
theorem d12_26 : decode prog_26_method_25_code 26 = .ok (.getfield 33, 3) := by decide +kernel
theorem d12_29 : decode prog_26_method_25_code 29 = .ok (.imul, 1) := by decide +kernel
theorem d12_30 : decode prog_26_method_25_code 30 = .ok (.aload_n 0, 1) := by decide +kernel
theorem d12_31 : decode prog_26_method_25_code 31 = .ok (.getfield 26, 3) := by decide +kernel
theorem d12_34 : decode prog_26_method_25_code 34 = .ok (.arraylength, 1) := by decide +kernel
theorem d12_35 : decode prog_26_method_25_code 35 = .ok (.iconst (-1), 1) := by decide +kernel
theorem d12_36 : decode prog_26_method_25_code 36 = .ok (.invokestatic 74, 3) := by decide +kernel
theorem d12_39 : decode prog_26_method_25_code 39 = .ok (.aload_n 0, 1) := by decide +kernel
theorem d12_40 : decode prog_26_method_25_code 40 = .ok (.getfield 80, 3) := by decide +kernel
theorem d12_43 : decode prog_26_method_25_code 43 = .ok (.ifnull 15, 3) := by decide +kernel
theorem d12_5 : decode prog_26_method_25_code 5 = .ok (.aload_n 0, 1) := by decide +kernel
theorem d12_58 : decode prog_26_method_25_code 58 = .ok (.aload_n 0, 1) := by decide +kernel
theorem d12_59 : decode prog_26_method_25_code 59 = .ok (.iload_n 1, 1) := by decide +kernel
theorem d12_6 : decode prog_26_method_25_code 6 = .ok (.getfield 12, 3) := by decide +kernel
theorem d12_60 : decode prog_26_method_25_code 60 = .ok (.putfield 33, 3) := by decide +kernel
theorem d12_63 : decode prog_26_method_25_code 63 = .ok (.return_, 1) := by decide +kernel
theorem d12_9 : decode prog_26_method_25_code 9 = .ok (.iload_n 1, 1) := by decide +kernel
theorem d13_0 : decode jdk_65_method_123_code 0 = .ok (.iload_n 1, 1) := by decide +kernel
theorem d13_1 : decode jdk_65_method_123_code 1 = .ok (.aload_n 0, 1) := by decide +kernel
theorem d13_14 : decode jdk_65_method_123_code 14 = .ok (.iload_n 1, 1) := by decide +kernel
theorem d13_15 : decode jdk_65_method_123_code 15 = .ok (.newarray .int, 2) := by decide +kernel
theorem d13_17 : decode jdk_65_method_123_code 17 = .ok (.astore_n 2, 1) := by decide +kernel
theorem d13_18 : decode jdk_65_method_123_code 18 = .ok (.aload_n 0, 1) := by decide +kernel
theorem d13_19 : decode jdk_65_method_123_code 19 = .ok (.iconst 0, 1) := by decide +kernel
theorem d13_2 : decode jdk_65_method_123_code 2 = .ok (.arraylength, 1) := by decide +kernel
theorem d13_20 : decode jdk_65_method_123_code 20 = .ok (.aload_n 2, 1) := by decide +kernel
theorem d13_21 : decode jdk_65_method_123_code 21 = .ok (.iconst 0, 1) := by decide +kernel
theorem d13_22 : decode jdk_65_method_123_code 22 = .ok (.aload_n 0, 1) := by decide +kernel
theorem d13_23 : decode jdk_65_method_123_code 23 = .ok (.arraylength, 1) := by decide +kernel
theorem d13_24 : decode jdk_65_method_123_code 24 = .ok (.iload_n 1, 1) := by decide +kernel
theorem d13_25 : decode jdk_65_method_123_code 25 = .ok (.invokestatic 304, 3) := by decide +kernel
theorem d13_28 : decode jdk_65_method_123_code 28 = .ok (.invokestatic 150, 3) := by decide +kernel
theorem d13_3 : decode jdk_65_method_123_code 3 = .ok (.if_icmp .ne 11, 3) := by decide +kernel
theorem d13_31 : decode jdk_65_method_123_code 31 = .ok (.aload_n 2, 1) := by decide +kernel
theorem d13_32 : decode jdk_65_method_123_code 32 = .ok (.areturn, 1) := by decide +kernel
theorem d14_0 : decode jdk_29_method_69_code 0 = .ok (.iload_n 0, 1) := by decide +kernel
theorem d14_1 : decode jdk_29_method_69_code 1 = .ok (.iload_n 1, 1) := by decide +kernel
theorem d14_10 : decode jdk_29_method_69_code 10 = .ok (.ireturn, 1) := by decide +kernel
theorem d14_2 : decode jdk_29_method_69_code 2 = .ok (.if_icmp .gt 7, 3) := by decide +kernel
theorem d14_5 : decode jdk_29_method_69_code 5 = .ok (.iload_n 0, 1) := by decide +kernel
theorem d14_6 : decode jdk_29_method_69_code 6 = .ok (.goto 4, 3) := by decide +kernel
theorem d14_9 : decode jdk_29_method_69_code 9 = .ok (.iload_n 1, 1) := by decide +kernel
theorem d15_0 : decode jdk_65_method_104_code 0 = .ok (.aload_n 0, 1) := by decide +kernel
theorem d15_1 : decode jdk_65_method_104_code 1 = .ok (.arraylength, 1) := by decide +kernel
theorem d15_10 : decode jdk_65_method_104_code 10 = .ok (.iload 4, 2) := by decide +kernel
theorem d15_12 : decode jdk_65_method_104_code 12 = .ok (.iload_n 2, 1) := by decide +kernel
theorem d15_13 : decode jdk_65_method_104_code 13 = .ok (.if_icmp .ge 14, 3) := by decide +kernel
theorem d15_16 : decode jdk_65_method_104_code 16 = .ok (.aload_n 0, 1) := by decide +kernel
theorem d15_17 : decode jdk_65_method_104_code 17 = .ok (.iload 4, 2) := by decide +kernel
theorem d15_19 : decode jdk_65_method_104_code 19 = .ok (.iload_n 3, 1) := by decide +kernel
theorem d15_2 : decode jdk_65_method_104_code 2 = .ok (.iload_n 1, 1) := by decide +kernel
theorem d15_20 : decode jdk_65_method_104_code 20 = .ok (.iastore, 1) := by decide +kernel
theorem d15_21 : decode jdk_65_method_104_code 21 = .ok (.iinc 4 1, 3) := by decide +kernel
theorem d15_24 : decode jdk_65_method_104_code 24 = .ok (.goto (-14), 3) := by decide +kernel
theorem d15_27 : decode jdk_65_method_104_code 27 = .ok (.return_, 1) := by decide +kernel
theorem d15_3 : decode jdk_65_method_104_code 3 = .ok (.iload_n 2, 1) := by decide +kernel
theorem d15_4 : decode jdk_65_method_104_code 4 = .ok (.invokestatic 13, 3) := by decide +kernel
theorem d15_7 : decode jdk_65_method_104_code 7 = .ok (.iload_n 1, 1) := by decide +kernel
theorem d15_8 : decode jdk_65_method_104_code 8 = .ok (.istore 4, 2) := by decide +kernel
theorem d16_0 : decode jdk_65_method_30_code 0 = .ok (.iload_n 1, 1) := by decide +kernel
theorem d16_1 : decode jdk_65_method_30_code 1 = .ok (.iload_n 2, 1) := by decide +kernel
theorem d16_2 : decode jdk_65_method_30_code 2 = .ok (.if_icmp .le 44, 3) := by decide +kernel
theorem d16_46 : decode jdk_65_method_30_code 46 = .ok (.iload_n 1, 1) := by decide +kernel
theorem d16_47 : decode jdk_65_method_30_code 47 = .ok (.ifCond .ge 12, 3) := by decide +kernel
theorem d16_59 : decode jdk_65_method_30_code 59 = .ok (.iload_n 2, 1) := by decide +kernel
theorem d16_60 : decode jdk_65_method_30_code 60 = .ok (.iload_n 0, 1) := by decide +kernel
theorem d16_61 : decode jdk_65_method_30_code 61 = .ok (.if_icmp .le 12, 3) := by decide +kernel
theorem d16_73 : decode jdk_65_method_30_code 73 = .ok (.return_, 1) := by decide +kernel
theorem d17_0 : decode prog_26_method_20_code 0 = .ok (.aload_n 0, 1) := by decide +kernel
theorem d17_1 : decode prog_26_method_20_code 1 = .ok (.getfield 68, 3) := by decide +kernel
theorem d17_12 : decode prog_26_method_20_code 12 = .ok (.iload_n 2, 1) := by decide +kernel
theorem d17_13 : decode prog_26_method_20_code 13 = .ok (.iand, 1) := by decide +kernel
theorem d17_14 : decode prog_26_method_20_code 14 = .ok (.istore_n 3, 1) := by decide +kernel
theorem d17_15 : decode prog_26_method_20_code 15 = .ok (.aload_n 0, 1) := by decide +kernel
theorem d17_16 : decode prog_26_method_20_code 16 = .ok (.getfield 30, 3) := by decide +kernel
theorem d17_19 : decode prog_26_method_20_code 19 = .ok (.aload_n 0, 1) := by decide +kernel
theorem d17_20 : decode prog_26_method_20_code 20 = .ok (.getfield 16, 3) := by decide +kernel
theorem d17_23 : decode prog_26_method_20_code 23 = .ok (.iload_n 3, 1) := by decide +kernel
theorem d17_24 : decode prog_26_method_20_code 24 = .ok (.imul, 1) := by decide +kernel
theorem d17_25 : decode prog_26_method_20_code 25 = .ok (.iaload, 1) := by decide +kernel
theorem d17_26 : decode prog_26_method_20_code 26 = .ok (.ifCond .eq 29, 3) := by decide +kernel
theorem d17_29 : decode prog_26_method_20_code 29 = .ok (.aload_n 0, 1) := by decide +kernel
theorem d17_30 : decode prog_26_method_20_code 30 = .ok (.getfield 30, 3) := by decide +kernel
theorem d17_33 : decode prog_26_method_20_code 33 = .ok (.aload_n 0, 1) := by decide +kernel
theorem d17_34 : decode prog_26_method_20_code 34 = .ok (.getfield 16, 3) := by decide +kernel
theorem d17_37 : decode prog_26_method_20_code 37 = .ok (.iload_n 3, 1) := by decide +kernel
theorem d17_38 : decode prog_26_method_20_code 38 = .ok (.imul, 1) := by decide +kernel
theorem d17_39 : decode prog_26_method_20_code 39 = .ok (.iaload, 1) := by decide +kernel
theorem d17_4 : decode prog_26_method_20_code 4 = .ok (.iconst 1, 1) := by decide +kernel
theorem d17_40 : decode prog_26_method_20_code 40 = .ok (.iload_n 1, 1) := by decide +kernel
theorem d17_41 : decode prog_26_method_20_code 41 = .ok (.iconst 1, 1) := by decide +kernel
theorem d17_42 : decode prog_26_method_20_code 42 = .ok (.iadd, 1) := by decide +kernel
theorem d17_43 : decode prog_26_method_20_code 43 = .ok (.if_icmp .eq 12, 3) := by decide +kernel
theorem d17_46 : decode prog_26_method_20_code 46 = .ok (.iload_n 3, 1) := by decide +kernel
theorem d17_47 : decode prog_26_method_20_code 47 = .ok (.iconst 1, 1) := by decide +kernel
theorem d17_48 : decode prog_26_method_20_code 48 = .ok (.iadd, 1) := by decide +kernel
theorem d17_49 : decode prog_26_method_20_code 49 = .ok (.iload_n 2, 1) := by decide +kernel
theorem d17_5 : decode prog_26_method_20_code 5 = .ok (.isub, 1) := by decide +kernel
theorem d17_50 : decode prog_26_method_20_code 50 = .ok (.iand, 1) := by decide +kernel
theorem d17_51 : decode prog_26_method_20_code 51 = .ok (.istore_n 3, 1) := by decide +kernel
theorem d17_52 : decode prog_26_method_20_code 52 = .ok (.goto (-37), 3) := by decide +kernel
theorem d17_55 : decode prog_26_method_20_code 55 = .ok (.iload_n 3, 1) := by decide +kernel
theorem d17_56 : decode prog_26_method_20_code 56 = .ok (.ireturn, 1) := by decide +kernel
theorem d17_6 : decode prog_26_method_20_code 6 = .ok (.istore_n 2, 1) := by decide +kernel
theorem d17_7 : decode prog_26_method_20_code 7 = .ok (.iload_n 1, 1) := by decide +kernel
theorem d17_8 : decode prog_26_method_20_code 8 = .ok (.i2l, 1) := by decide +kernel
theorem d17_9 : decode prog_26_method_20_code 9 = .ok (.invokestatic 88, 3) := by decide +kernel
theorem d18_0 : decode prog_29_method_2_code 0 = .ok (.lload_n 0, 1) := by decide +kernel
theorem d18_1 : decode prog_29_method_2_code 1 = .ok (.ldc2_w 7, 3) := by decide +kernel
theorem d18_4 : decode prog_29_method_2_code 4 = .ok (.lmul, 1) := by decide +kernel
theorem d18_5 : decode prog_29_method_2_code 5 = .ok (.bipush 32, 2) := by decide +kernel
theorem d18_7 : decode prog_29_method_2_code 7 = .ok (.lushr, 1) := by decide +kernel
theorem d18_8 : decode prog_29_method_2_code 8 = .ok (.l2i, 1) := by decide +kernel
theorem d18_9 : decode prog_29_method_2_code 9 = .ok (.ireturn, 1) := by decide +kernel
theorem d1_0 : decode prog_26_method_2_code 0 = .ok (.aload_n 0, 1) := by decide +kernel
theorem d1_1 : decode prog_26_method_2_code 1 = .ok (.invokespecial 7, 3) := by decide +kernel
theorem d1_10 : decode prog_26_method_2_code 10 = .ok (.iload_n 1, 1) := by decide +kernel
theorem d1_11 : decode prog_26_method_2_code 11 = .ok (.iconst 1, 1) := by decide +kernel
theorem d1_12 : decode prog_26_method_2_code 12 = .ok (.iadd, 1) := by decide +kernel
theorem d1_13 : decode prog_26_method_2_code 13 = .ok (.putfield 16, 3) := by decide +kernel
theorem d1_16 : decode prog_26_method_2_code 16 = .ok (.aload_n 0, 1) := by decide +kernel
theorem d1_17 : decode prog_26_method_2_code 17 = .ok (.bipush 8, 2) := by decide +kernel
theorem d1_19 : decode prog_26_method_2_code 19 = .ok (.iconst 0, 1) := by decide +kernel
theorem d1_20 : decode prog_26_method_2_code 20 = .ok (.invokevirtual 19, 3) := by decide +kernel
theorem d1_23 : decode prog_26_method_2_code 23 = .ok (.return_, 1) := by decide +kernel
theorem d1_4 : decode prog_26_method_2_code 4 = .ok (.aload_n 0, 1) := by decide +kernel
theorem d1_5 : decode prog_26_method_2_code 5 = .ok (.iload_n 1, 1) := by decide +kernel
theorem d1_6 : decode prog_26_method_2_code 6 = .ok (.putfield 12, 3) := by decide +kernel
theorem d1_9 : decode prog_26_method_2_code 9 = .ok (.aload_n 0, 1) := by decide +kernel
theorem d3_0 : decode prog_26_method_22_code 0 = .ok (.aload_n 0, 1) := by decide +kernel
theorem d3_1 : decode prog_26_method_22_code 1 = .ok (.aload_n 0, 1) := by decide +kernel
theorem d3_12 : decode prog_26_method_22_code 12 = .ok (.aload_n 0, 1) := by decide +kernel
theorem d3_13 : decode prog_26_method_22_code 13 = .ok (.iload_n 1, 1) := by decide +kernel
theorem d3_14 : decode prog_26_method_22_code 14 = .ok (.putfield 68, 3) := by decide +kernel
theorem d3_17 : decode prog_26_method_22_code 17 = .ok (.aload_n 0, 1) := by decide +kernel
theorem d3_18 : decode prog_26_method_22_code 18 = .ok (.iload_n 2, 1) := by decide +kernel
theorem d3_19 : decode prog_26_method_22_code 19 = .ok (.ifCond .eq 10, 3) := by decide +kernel
theorem d3_2 : decode prog_26_method_22_code 2 = .ok (.getfield 16, 3) := by decide +kernel
theorem d3_29 : decode prog_26_method_22_code 29 = .ok (.aconst_null, 1) := by decide +kernel
theorem d3_30 : decode prog_26_method_22_code 30 = .ok (.putfield 80, 3) := by decide +kernel
theorem d3_33 : decode prog_26_method_22_code 33 = .ok (.aload_n 0, 1) := by decide +kernel
theorem d3_34 : decode prog_26_method_22_code 34 = .ok (.iconst 0, 1) := by decide +kernel
theorem d3_35 : decode prog_26_method_22_code 35 = .ok (.putfield 54, 3) := by decide +kernel
theorem d3_38 : decode prog_26_method_22_code 38 = .ok (.return_, 1) := by decide +kernel
theorem d3_5 : decode prog_26_method_22_code 5 = .ok (.iload_n 1, 1) := by decide +kernel
theorem d3_6 : decode prog_26_method_22_code 6 = .ok (.imul, 1) := by decide +kernel
theorem d3_7 : decode prog_26_method_22_code 7 = .ok (.newarray .int, 2) := by decide +kernel
theorem d3_9 : decode prog_26_method_22_code 9 = .ok (.putfield 30, 3) := by decide +kernel
theorem d4_0 : decode prog_26_method_8_code 0 = .ok (.aload_n 0, 1) := by decide +kernel
theorem d4_1 : decode prog_26_method_8_code 1 = .ok (.getfield 26, 3) := by decide +kernel
theorem d4_100 : decode prog_26_method_8_code 100 = .ok (.if_icmp .lt 24, 3) := by decide +kernel
theorem d4_103 : decode prog_26_method_8_code 103 = .ok (.aload_n 0, 1) := by decide +kernel
theorem d4_104 : decode prog_26_method_8_code 104 = .ok (.iload_n 1, 1) := by decide +kernel
theorem d4_105 : decode prog_26_method_8_code 105 = .ok (.iconst 1, 1) := by decide +kernel
theorem d4_106 : decode prog_26_method_8_code 106 = .ok (.iadd, 1) := by decide +kernel
theorem d4_107 : decode prog_26_method_8_code 107 = .ok (.aload_n 0, 1) := by decide +kernel
theorem d4_108 : decode prog_26_method_8_code 108 = .ok (.getfield 33, 3) := by decide +kernel
theorem d4_111 : decode prog_26_method_8_code 111 = .ok (.aload_n 0, 1) := by decide +kernel
theorem d4_112 : decode prog_26_method_8_code 112 = .ok (.getfield 33, 3) := by decide +kernel
theorem d4_115 : decode prog_26_method_8_code 115 = .ok (.iconst 2, 1) := by decide +kernel
theorem d4_116 : decode prog_26_method_8_code 116 = .ok (.idiv, 1) := by decide +kernel
theorem d4_117 : decode prog_26_method_8_code 117 = .ok (.iadd, 1) := by decide +kernel
theorem d4_118 : decode prog_26_method_8_code 118 = .ok (.invokestatic 57, 3) := by decide +kernel
theorem d4_12 : decode prog_26_method_8_code 12 = .ok (.if_icmp .lt 24, 3) := by decide +kernel
theorem d4_121 : decode prog_26_method_8_code 121 = .ok (.invokevirtual 65, 3) := by decide +kernel
theorem d4_124 : decode prog_26_method_8_code 124 = .ok (.aload_n 0, 1) := by decide +kernel
theorem d4_125 : decode prog_26_method_8_code 125 = .ok (.getfield 26, 3) := by decide +kernel
theorem d4_128 : decode prog_26_method_8_code 128 = .ok (.aload_n 0, 1) := by decide +kernel
theorem d4_129 : decode prog_26_method_8_code 129 = .ok (.getfield 12, 3) := by decide +kernel
theorem d4_132 : decode prog_26_method_8_code 132 = .ok (.iload_n 1, 1) := by decide +kernel
theorem d4_133 : decode prog_26_method_8_code 133 = .ok (.imul, 1) := by decide +kernel
theorem d4_134 : decode prog_26_method_8_code 134 = .ok (.iload_n 2, 1) := by decide +kernel
theorem d4_135 : decode prog_26_method_8_code 135 = .ok (.iastore, 1) := by decide +kernel
theorem d4_136 : decode prog_26_method_8_code 136 = .ok (.iload_n 1, 1) := by decide +kernel
theorem d4_137 : decode prog_26_method_8_code 137 = .ok (.ireturn, 1) := by decide +kernel
theorem d4_138 : decode prog_26_method_8_code 138 = .ok (.iconst 2, 1) := by decide +kernel
theorem d4_139 : decode prog_26_method_8_code 139 = .ok (.aload_n 0, 1) := by decide +kernel
theorem d4_140 : decode prog_26_method_8_code 140 = .ok (.getfield 23, 3) := by decide +kernel
theorem d4_143 : decode prog_26_method_8_code 143 = .ok (.imul, 1) := by decide +kernel
theorem d4_144 : decode prog_26_method_8_code 144 = .ok (.aload_n 0, 1) := by decide +kernel
theorem d4_145 : decode prog_26_method_8_code 145 = .ok (.getfield 68, 3) := by decide +kernel
theorem d4_148 : decode prog_26_method_8_code 148 = .ok (.if_icmp .le 13, 3) := by decide +kernel
theorem d4_15 : decode prog_26_method_8_code 15 = .ok (.iconst 4, 1) := by decide +kernel
theorem d4_16 : decode prog_26_method_8_code 16 = .ok (.aload_n 0, 1) := by decide +kernel
theorem d4_161 : decode prog_26_method_8_code 161 = .ok (.aload_n 0, 1) := by decide +kernel
theorem d4_162 : decode prog_26_method_8_code 162 = .ok (.iload_n 1, 1) := by decide +kernel
theorem d4_163 : decode prog_26_method_8_code 163 = .ok (.invokevirtual 36, 3) := by decide +kernel
theorem d4_166 : decode prog_26_method_8_code 166 = .ok (.istore_n 3, 1) := by decide +kernel
theorem d4_167 : decode prog_26_method_8_code 167 = .ok (.aload_n 0, 1) := by decide +kernel
theorem d4_168 : decode prog_26_method_8_code 168 = .ok (.getfield 16, 3) := by decide +kernel
theorem d4_17 : decode prog_26_method_8_code 17 = .ok (.getfield 23, 3) := by decide +kernel
theorem d4_171 : decode prog_26_method_8_code 171 = .ok (.iload_n 3, 1) := by decide +kernel
theorem d4_172 : decode prog_26_method_8_code 172 = .ok (.imul, 1) := by decide +kernel
theorem d4_173 : decode prog_26_method_8_code 173 = .ok (.istore 4, 2) := by decide +kernel
theorem d4_175 : decode prog_26_method_8_code 175 = .ok (.aload_n 0, 1) := by decide +kernel
theorem d4_176 : decode prog_26_method_8_code 176 = .ok (.getfield 30, 3) := by decide +kernel
theorem d4_179 : decode prog_26_method_8_code 179 = .ok (.iload 4, 2) := by decide +kernel
theorem d4_181 : decode prog_26_method_8_code 181 = .ok (.iload_n 1, 1) := by decide +kernel
theorem d4_182 : decode prog_26_method_8_code 182 = .ok (.iconst 1, 1) := by decide +kernel
theorem d4_183 : decode prog_26_method_8_code 183 = .ok (.iadd, 1) := by decide +kernel
theorem d4_184 : decode prog_26_method_8_code 184 = .ok (.iastore, 1) := by decide +kernel
theorem d4_185 : decode prog_26_method_8_code 185 = .ok (.aload_n 0, 1) := by decide +kernel
theorem d4_186 : decode prog_26_method_8_code 186 = .ok (.getfield 30, 3) := by decide +kernel
theorem d4_189 : decode prog_26_method_8_code 189 = .ok (.iload 4, 2) := by decide +kernel
theorem d4_191 : decode prog_26_method_8_code 191 = .ok (.iconst 1, 1) := by decide +kernel
theorem d4_192 : decode prog_26_method_8_code 192 = .ok (.iadd, 1) := by decide +kernel
theorem d4_193 : decode prog_26_method_8_code 193 = .ok (.iload_n 2, 1) := by decide +kernel
theorem d4_194 : decode prog_26_method_8_code 194 = .ok (.iastore, 1) := by decide +kernel
theorem d4_195 : decode prog_26_method_8_code 195 = .ok (.aload_n 0, 1) := by decide +kernel
theorem d4_196 : decode prog_26_method_8_code 196 = .ok (.getfield 30, 3) := by decide +kernel
theorem d4_199 : decode prog_26_method_8_code 199 = .ok (.iload 4, 2) := by decide +kernel
theorem d4_20 : decode prog_26_method_8_code 20 = .ok (.iconst 1, 1) := by decide +kernel
theorem d4_201 : decode prog_26_method_8_code 201 = .ok (.iconst 2, 1) := by decide +kernel
theorem d4_202 : decode prog_26_method_8_code 202 = .ok (.iadd, 1) := by decide +kernel
theorem d4_203 : decode prog_26_method_8_code 203 = .ok (.iload 4, 2) := by decide +kernel
theorem d4_205 : decode prog_26_method_8_code 205 = .ok (.aload_n 0, 1) := by decide +kernel
theorem d4_206 : decode prog_26_method_8_code 206 = .ok (.getfield 16, 3) := by decide +kernel
theorem d4_209 : decode prog_26_method_8_code 209 = .ok (.iadd, 1) := by decide +kernel
theorem d4_21 : decode prog_26_method_8_code 21 = .ok (.iadd, 1) := by decide +kernel
theorem d4_210 : decode prog_26_method_8_code 210 = .ok (.iconst (-1), 1) := by decide +kernel
theorem d4_211 : decode prog_26_method_8_code 211 = .ok (.invokestatic 74, 3) := by decide +kernel
theorem d4_214 : decode prog_26_method_8_code 214 = .ok (.aload_n 0, 1) := by decide +kernel
theorem d4_215 : decode prog_26_method_8_code 215 = .ok (.aload_n 0, 1) := by decide +kernel
theorem d4_216 : decode prog_26_method_8_code 216 = .ok (.getfield 54, 3) := by decide +kernel
theorem d4_219 : decode prog_26_method_8_code 219 = .ok (.iload_n 1, 1) := by decide +kernel
theorem d4_22 : decode prog_26_method_8_code 22 = .ok (.imul, 1) := by decide +kernel
theorem d4_220 : decode prog_26_method_8_code 220 = .ok (.invokestatic 57, 3) := by decide +kernel
theorem d4_223 : decode prog_26_method_8_code 223 = .ok (.putfield 54, 3) := by decide +kernel
theorem d4_226 : decode prog_26_method_8_code 226 = .ok (.iload_n 3, 1) := by decide +kernel
theorem d4_227 : decode prog_26_method_8_code 227 = .ok (.ireturn, 1) := by decide +kernel
theorem d4_23 : decode prog_26_method_8_code 23 = .ok (.iload_n 1, 1) := by decide +kernel
theorem d4_24 : decode prog_26_method_8_code 24 = .ok (.iconst 1, 1) := by decide +kernel
theorem d4_25 : decode prog_26_method_8_code 25 = .ok (.iadd, 1) := by decide +kernel
theorem d4_26 : decode prog_26_method_8_code 26 = .ok (.if_icmp .ge 10, 3) := by decide +kernel
theorem d4_36 : decode prog_26_method_8_code 36 = .ok (.aload_n 0, 1) := by decide +kernel
theorem d4_37 : decode prog_26_method_8_code 37 = .ok (.getfield 26, 3) := by decide +kernel
theorem d4_4 : decode prog_26_method_8_code 4 = .ok (.ifnull 32, 3) := by decide +kernel
theorem d4_40 : decode prog_26_method_8_code 40 = .ok (.ifnonnull 38, 3) := by decide +kernel
theorem d4_43 : decode prog_26_method_8_code 43 = .ok (.iconst 2, 1) := by decide +kernel
theorem d4_44 : decode prog_26_method_8_code 44 = .ok (.aload_n 0, 1) := by decide +kernel
theorem d4_45 : decode prog_26_method_8_code 45 = .ok (.getfield 23, 3) := by decide +kernel
theorem d4_48 : decode prog_26_method_8_code 48 = .ok (.iconst 1, 1) := by decide +kernel
theorem d4_49 : decode prog_26_method_8_code 49 = .ok (.iadd, 1) := by decide +kernel
theorem d4_50 : decode prog_26_method_8_code 50 = .ok (.imul, 1) := by decide +kernel
theorem d4_51 : decode prog_26_method_8_code 51 = .ok (.iload_n 1, 1) := by decide +kernel
theorem d4_52 : decode prog_26_method_8_code 52 = .ok (.aload_n 0, 1) := by decide +kernel
theorem d4_53 : decode prog_26_method_8_code 53 = .ok (.getfield 54, 3) := by decide +kernel
theorem d4_56 : decode prog_26_method_8_code 56 = .ok (.invokestatic 57, 3) := by decide +kernel
theorem d4_59 : decode prog_26_method_8_code 59 = .ok (.iconst 1, 1) := by decide +kernel
theorem d4_60 : decode prog_26_method_8_code 60 = .ok (.iadd, 1) := by decide +kernel
theorem d4_61 : decode prog_26_method_8_code 61 = .ok (.if_icmp .lt 17, 3) := by decide +kernel
theorem d4_64 : decode prog_26_method_8_code 64 = .ok (.aload_n 0, 1) := by decide +kernel
theorem d4_65 : decode prog_26_method_8_code 65 = .ok (.iload_n 1, 1) := by decide +kernel
theorem d4_66 : decode prog_26_method_8_code 66 = .ok (.aload_n 0, 1) := by decide +kernel
theorem d4_67 : decode prog_26_method_8_code 67 = .ok (.getfield 54, 3) := by decide +kernel
theorem d4_7 : decode prog_26_method_8_code 7 = .ok (.iload_n 1, 1) := by decide +kernel
theorem d4_70 : decode prog_26_method_8_code 70 = .ok (.invokestatic 57, 3) := by decide +kernel
theorem d4_73 : decode prog_26_method_8_code 73 = .ok (.iconst 1, 1) := by decide +kernel
theorem d4_74 : decode prog_26_method_8_code 74 = .ok (.iadd, 1) := by decide +kernel
theorem d4_75 : decode prog_26_method_8_code 75 = .ok (.invokevirtual 62, 3) := by decide +kernel
theorem d4_78 : decode prog_26_method_8_code 78 = .ok (.aload_n 0, 1) := by decide +kernel
theorem d4_79 : decode prog_26_method_8_code 79 = .ok (.dup, 1) := by decide +kernel
theorem d4_8 : decode prog_26_method_8_code 8 = .ok (.aload_n 0, 1) := by decide +kernel
theorem d4_80 : decode prog_26_method_8_code 80 = .ok (.getfield 23, 3) := by decide +kernel
theorem d4_83 : decode prog_26_method_8_code 83 = .ok (.iconst 1, 1) := by decide +kernel
theorem d4_84 : decode prog_26_method_8_code 84 = .ok (.iadd, 1) := by decide +kernel
theorem d4_85 : decode prog_26_method_8_code 85 = .ok (.putfield 23, 3) := by decide +kernel
theorem d4_88 : decode prog_26_method_8_code 88 = .ok (.aload_n 0, 1) := by decide +kernel
theorem d4_89 : decode prog_26_method_8_code 89 = .ok (.getfield 26, 3) := by decide +kernel
theorem d4_9 : decode prog_26_method_8_code 9 = .ok (.getfield 33, 3) := by decide +kernel
theorem d4_92 : decode prog_26_method_8_code 92 = .ok (.ifnull 46, 3) := by decide +kernel
theorem d4_95 : decode prog_26_method_8_code 95 = .ok (.iload_n 1, 1) := by decide +kernel
theorem d4_96 : decode prog_26_method_8_code 96 = .ok (.aload_n 0, 1) := by decide +kernel
theorem d4_97 : decode prog_26_method_8_code 97 = .ok (.getfield 33, 3) := by decide +kernel
theorem d5_0 : decode jdk_29_method_65_code 0 = .ok (.iload_n 0, 1) := by decide +kernel
theorem d5_1 : decode jdk_29_method_65_code 1 = .ok (.iload_n 1, 1) := by decide +kernel
theorem d5_10 : decode jdk_29_method_65_code 10 = .ok (.ireturn, 1) := by decide +kernel
theorem d5_2 : decode jdk_29_method_65_code 2 = .ok (.if_icmp .lt 7, 3) := by decide +kernel
theorem d5_5 : decode jdk_29_method_65_code 5 = .ok (.iload_n 0, 1) := by decide +kernel
theorem d5_6 : decode jdk_29_method_65_code 6 = .ok (.goto 4, 3) := by decide +kernel
theorem d5_9 : decode jdk_29_method_65_code 9 = .ok (.iload_n 1, 1) := by decide +kernel
theorem d6_0 : decode prog_26_method_24_code 0 = .ok (.aload_n 0, 1) := by decide +kernel
theorem d6_1 : decode prog_26_method_24_code 1 = .ok (.getfield 80, 3) := by decide +kernel
theorem d6_10 : decode prog_26_method_24_code 10 = .ok (.iload_n 1, 1) := by decide +kernel
theorem d6_11 : decode prog_26_method_24_code 11 = .ok (.imul, 1) := by decide +kernel
theorem d6_12 : decode prog_26_method_24_code 12 = .ok (.newarray .int, 2) := by decide +kernel
theorem d6_124 : decode prog_26_method_24_code 124 = .ok (.iinc 3 1, 3) := by decide +kernel
theorem d6_127 : decode prog_26_method_24_code 127 = .ok (.goto (-79), 3) := by decide +kernel
theorem d6_130 : decode prog_26_method_24_code 130 = .ok (.aload_n 0, 1) := by decide +kernel
theorem d6_131 : decode prog_26_method_24_code 131 = .ok (.aconst_null, 1) := by decide +kernel
theorem d6_132 : decode prog_26_method_24_code 132 = .ok (.putfield 30, 3) := by decide +kernel
theorem d6_135 : decode prog_26_method_24_code 135 = .ok (.aload_n 0, 1) := by decide +kernel
theorem d6_136 : decode prog_26_method_24_code 136 = .ok (.iconst 0, 1) := by decide +kernel
theorem d6_137 : decode prog_26_method_24_code 137 = .ok (.putfield 68, 3) := by decide +kernel
theorem d6_14 : decode prog_26_method_24_code 14 = .ok (.putfield 26, 3) := by decide +kernel
theorem d6_140 : decode prog_26_method_24_code 140 = .ok (.return_, 1) := by decide +kernel
theorem d6_17 : decode prog_26_method_24_code 17 = .ok (.aload_n 0, 1) := by decide +kernel
theorem d6_18 : decode prog_26_method_24_code 18 = .ok (.iload_n 1, 1) := by decide +kernel
theorem d6_19 : decode prog_26_method_24_code 19 = .ok (.putfield 33, 3) := by decide +kernel
theorem d6_22 : decode prog_26_method_24_code 22 = .ok (.aload_n 0, 1) := by decide +kernel
theorem d6_23 : decode prog_26_method_24_code 23 = .ok (.getfield 26, 3) := by decide +kernel
theorem d6_26 : decode prog_26_method_24_code 26 = .ok (.iconst (-1), 1) := by decide +kernel
theorem d6_27 : decode prog_26_method_24_code 27 = .ok (.invokestatic 133, 3) := by decide +kernel
theorem d6_30 : decode prog_26_method_24_code 30 = .ok (.aload_n 0, 1) := by decide +kernel
theorem d6_31 : decode prog_26_method_24_code 31 = .ok (.aload_n 2, 1) := by decide +kernel
theorem d6_32 : decode prog_26_method_24_code 32 = .ok (.ifnonnull 7, 3) := by decide +kernel
theorem d6_35 : decode prog_26_method_24_code 35 = .ok (.aconst_null, 1) := by decide +kernel
theorem d6_36 : decode prog_26_method_24_code 36 = .ok (.goto 7, 3) := by decide +kernel
theorem d6_4 : decode prog_26_method_24_code 4 = .ok (.astore_n 2, 1) := by decide +kernel
theorem d6_43 : decode prog_26_method_24_code 43 = .ok (.putfield 80, 3) := by decide +kernel
theorem d6_46 : decode prog_26_method_24_code 46 = .ok (.iconst 0, 1) := by decide +kernel
theorem d6_47 : decode prog_26_method_24_code 47 = .ok (.istore_n 3, 1) := by decide +kernel
theorem d6_48 : decode prog_26_method_24_code 48 = .ok (.iload_n 3, 1) := by decide +kernel
theorem d6_49 : decode prog_26_method_24_code 49 = .ok (.aload_n 0, 1) := by decide +kernel
theorem d6_5 : decode prog_26_method_24_code 5 = .ok (.aload_n 0, 1) := by decide +kernel
theorem d6_50 : decode prog_26_method_24_code 50 = .ok (.getfield 68, 3) := by decide +kernel
theorem d6_53 : decode prog_26_method_24_code 53 = .ok (.if_icmp .ge 77, 3) := by decide +kernel
theorem d6_56 : decode prog_26_method_24_code 56 = .ok (.aload_n 0, 1) := by decide +kernel
theorem d6_57 : decode prog_26_method_24_code 57 = .ok (.getfield 30, 3) := by decide +kernel
theorem d6_6 : decode prog_26_method_24_code 6 = .ok (.aload_n 0, 1) := by decide +kernel
theorem d6_60 : decode prog_26_method_24_code 60 = .ok (.aload_n 0, 1) := by decide +kernel
theorem d6_61 : decode prog_26_method_24_code 61 = .ok (.getfield 16, 3) := by decide +kernel
theorem d6_64 : decode prog_26_method_24_code 64 = .ok (.iload_n 3, 1) := by decide +kernel
theorem d6_65 : decode prog_26_method_24_code 65 = .ok (.imul, 1) := by decide +kernel
theorem d6_66 : decode prog_26_method_24_code 66 = .ok (.iaload, 1) := by decide +kernel
theorem d6_67 : decode prog_26_method_24_code 67 = .ok (.iconst 1, 1) := by decide +kernel
theorem d6_68 : decode prog_26_method_24_code 68 = .ok (.isub, 1) := by decide +kernel
theorem d6_69 : decode prog_26_method_24_code 69 = .ok (.istore 4, 2) := by decide +kernel
theorem d6_7 : decode prog_26_method_24_code 7 = .ok (.getfield 12, 3) := by decide +kernel
theorem d6_71 : decode prog_26_method_24_code 71 = .ok (.iload 4, 2) := by decide +kernel
theorem d6_73 : decode prog_26_method_24_code 73 = .ok (.iconst (-1), 1) := by decide +kernel
theorem d6_74 : decode prog_26_method_24_code 74 = .ok (.if_icmp .eq 50, 3) := by decide +kernel
theorem d7_0 : decode jdk_65_method_103_code 0 = .ok (.iconst 0, 1) := by decide +kernel
theorem d7_1 : decode jdk_65_method_103_code 1 = .ok (.istore_n 2, 1) := by decide +kernel
theorem d7_10 : decode jdk_65_method_103_code 10 = .ok (.aload_n 0, 1) := by decide +kernel
theorem d7_11 : decode jdk_65_method_103_code 11 = .ok (.iload_n 2, 1) := by decide +kernel
theorem d7_12 : decode jdk_65_method_103_code 12 = .ok (.iload_n 1, 1) := by decide +kernel
theorem d7_13 : decode jdk_65_method_103_code 13 = .ok (.iastore, 1) := by decide +kernel
theorem d7_14 : decode jdk_65_method_103_code 14 = .ok (.iinc 2 1, 3) := by decide +kernel
theorem d7_17 : decode jdk_65_method_103_code 17 = .ok (.goto (-12), 3) := by decide +kernel
theorem d7_2 : decode jdk_65_method_103_code 2 = .ok (.aload_n 0, 1) := by decide +kernel
theorem d7_20 : decode jdk_65_method_103_code 20 = .ok (.return_, 1) := by decide +kernel
theorem d7_3 : decode jdk_65_method_103_code 3 = .ok (.arraylength, 1) := by decide +kernel
theorem d7_4 : decode jdk_65_method_103_code 4 = .ok (.istore_n 3, 1) := by decide +kernel
theorem d7_5 : decode jdk_65_method_103_code 5 = .ok (.iload_n 2, 1) := by decide +kernel
theorem d7_6 : decode jdk_65_method_103_code 6 = .ok (.iload_n 3, 1) := by decide +kernel
theorem d7_7 : decode jdk_65_method_103_code 7 = .ok (.if_icmp .ge 13, 3) := by decide +kernel
theorem d8_0 : decode prog_26_method_7_code 0 = .ok (.aload_n 0, 1) := by decide +kernel
theorem d8_1 : decode prog_26_method_7_code 1 = .ok (.getfield 26, 3) := by decide +kernel
theorem d8_12 : decode prog_26_method_7_code 12 = .ok (.if_icmp .ge 22, 3) := by decide +kernel
theorem d8_15 : decode prog_26_method_7_code 15 = .ok (.aload_n 0, 1) := by decide +kernel
theorem d8_16 : decode prog_26_method_7_code 16 = .ok (.getfield 26, 3) := by decide +kernel
theorem d8_19 : decode prog_26_method_7_code 19 = .ok (.aload_n 0, 1) := by decide +kernel
theorem d8_20 : decode prog_26_method_7_code 20 = .ok (.getfield 12, 3) := by decide +kernel
theorem d8_23 : decode prog_26_method_7_code 23 = .ok (.iload_n 1, 1) := by decide +kernel
theorem d8_24 : decode prog_26_method_7_code 24 = .ok (.imul, 1) := by decide +kernel
theorem d8_25 : decode prog_26_method_7_code 25 = .ok (.iaload, 1) := by decide +kernel
theorem d8_26 : decode prog_26_method_7_code 26 = .ok (.iconst (-1), 1) := by decide +kernel
theorem d8_27 : decode prog_26_method_7_code 27 = .ok (.if_icmp .eq 7, 3) := by decide +kernel
theorem d8_30 : decode prog_26_method_7_code 30 = .ok (.iload_n 1, 1) := by decide +kernel
theorem d8_31 : decode prog_26_method_7_code 31 = .ok (.goto 4, 3) := by decide +kernel
theorem d8_35 : decode prog_26_method_7_code 35 = .ok (.ireturn, 1) := by decide +kernel
theorem d8_36 : decode prog_26_method_7_code 36 = .ok (.aload_n 0, 1) := by decide +kernel
theorem d8_37 : decode prog_26_method_7_code 37 = .ok (.iload_n 1, 1) := by decide +kernel
theorem d8_38 : decode prog_26_method_7_code 38 = .ok (.invokevirtual 36, 3) := by decide +kernel
theorem d8_4 : decode prog_26_method_7_code 4 = .ok (.ifnull 32, 3) := by decide +kernel
theorem d8_41 : decode prog_26_method_7_code 41 = .ok (.istore_n 2, 1) := by decide +kernel
theorem d8_42 : decode prog_26_method_7_code 42 = .ok (.aload_n 0, 1) := by decide +kernel
theorem d8_43 : decode prog_26_method_7_code 43 = .ok (.getfield 30, 3) := by decide +kernel
theorem d8_46 : decode prog_26_method_7_code 46 = .ok (.aload_n 0, 1) := by decide +kernel
theorem d8_47 : decode prog_26_method_7_code 47 = .ok (.getfield 16, 3) := by decide +kernel
theorem d8_50 : decode prog_26_method_7_code 50 = .ok (.iload_n 2, 1) := by decide +kernel
theorem d8_51 : decode prog_26_method_7_code 51 = .ok (.imul, 1) := by decide +kernel
theorem d8_52 : decode prog_26_method_7_code 52 = .ok (.iaload, 1) := by decide +kernel
theorem d8_53 : decode prog_26_method_7_code 53 = .ok (.ifCond .ne 7, 3) := by decide +kernel
theorem d8_60 : decode prog_26_method_7_code 60 = .ok (.iload_n 2, 1) := by decide +kernel
theorem d8_61 : decode prog_26_method_7_code 61 = .ok (.ireturn, 1) := by decide +kernel
theorem d8_7 : decode prog_26_method_7_code 7 = .ok (.iload_n 1, 1) := by decide +kernel
theorem d8_8 : decode prog_26_method_7_code 8 = .ok (.aload_n 0, 1) := by decide +kernel
theorem d8_9 : decode prog_26_method_7_code 9 = .ok (.getfield 33, 3) := by decide +kernel
theorem d9_0 : decode prog_26_method_10_code 0 = .ok (.aload_n 0, 1) := by decide +kernel
theorem d9_1 : decode prog_26_method_10_code 1 = .ok (.getfield 26, 3) := by decide +kernel
theorem d9_11 : decode prog_26_method_10_code 11 = .ok (.aload_n 0, 1) := by decide +kernel
theorem d9_12 : decode prog_26_method_10_code 12 = .ok (.getfield 12, 3) := by decide +kernel
theorem d9_15 : decode prog_26_method_10_code 15 = .ok (.iload_n 1, 1) := by decide +kernel
theorem d9_16 : decode prog_26_method_10_code 16 = .ok (.imul, 1) := by decide +kernel
theorem d9_17 : decode prog_26_method_10_code 17 = .ok (.iload_n 2, 1) := by decide +kernel
theorem d9_18 : decode prog_26_method_10_code 18 = .ok (.iadd, 1) := by decide +kernel
theorem d9_19 : decode prog_26_method_10_code 19 = .ok (.iload_n 3, 1) := by decide +kernel
theorem d9_20 : decode prog_26_method_10_code 20 = .ok (.iastore, 1) := by decide +kernel
theorem d9_21 : decode prog_26_method_10_code 21 = .ok (.goto 19, 3) := by decide +kernel
theorem d9_24 : decode prog_26_method_10_code 24 = .ok (.aload_n 0, 1) := by decide +kernel
theorem d9_25 : decode prog_26_method_10_code 25 = .ok (.getfield 30, 3) := by decide +kernel
theorem d9_28 : decode prog_26_method_10_code 28 = .ok (.aload_n 0, 1) := by decide +kernel
theorem d9_29 : decode prog_26_method_10_code 29 = .ok (.getfield 16, 3) := by decide +kernel
theorem d9_32 : decode prog_26_method_10_code 32 = .ok (.iload_n 1, 1) := by decide +kernel
theorem d9_33 : decode prog_26_method_10_code 33 = .ok (.imul, 1) := by decide +kernel
theorem d9_34 : decode prog_26_method_10_code 34 = .ok (.iconst 1, 1) := by decide +kernel
theorem d9_35 : decode prog_26_method_10_code 35 = .ok (.iadd, 1) := by decide +kernel
theorem d9_36 : decode prog_26_method_10_code 36 = .ok (.iload_n 2, 1) := by decide +kernel
theorem d9_37 : decode prog_26_method_10_code 37 = .ok (.iadd, 1) := by decide +kernel
theorem d9_38 : decode prog_26_method_10_code 38 = .ok (.iload_n 3, 1) := by decide +kernel
theorem d9_39 : decode prog_26_method_10_code 39 = .ok (.iastore, 1) := by decide +kernel
theorem d9_4 : decode prog_26_method_10_code 4 = .ok (.ifnull 20, 3) := by decide +kernel
theorem d9_40 : decode prog_26_method_10_code 40 = .ok (.return_, 1) := by decide +kernel
theorem d9_7 : decode prog_26_method_10_code 7 = .ok (.aload_n 0, 1) := by decide +kernel
theorem d9_8 : decode prog_26_method_10_code 8 = .ok (.getfield 26, 3) := by decide +kernel
/-- an object of class com/example/weir/weir/engine/IntIntMap, and what its fields hold -/
def IsMap (Z : State) (h : Heap) (a : Addr) (v_width v_stride v_entries v_slots v_objects v_greatestKey v_values v_size v_keys : Value) : Prop := Exa Z h a "com/example/weir/weir/engine/IntIntMap" ∧ Fld Z h a "com/example/weir/weir/engine/IntIntMap" "width" "I" v_width ∧ Fld Z h a "com/example/weir/weir/engine/IntIntMap" "stride" "I" v_stride ∧ Fld Z h a "com/example/weir/weir/engine/IntIntMap" "entries" "[I" v_entries ∧ Fld Z h a "com/example/weir/weir/engine/IntIntMap" "slots" "I" v_slots ∧ Fld Z h a "com/example/weir/weir/engine/IntIntMap" "objects" "[Ljava/lang/Object;" v_objects ∧ Fld Z h a "com/example/weir/weir/engine/IntIntMap" "greatestKey" "I" v_greatestKey ∧ Fld Z h a "com/example/weir/weir/engine/IntIntMap" "values" "[I" v_values ∧ Fld Z h a "com/example/weir/weir/engine/IntIntMap" "size" "I" v_size ∧ Fld Z h a "com/example/weir/weir/engine/IntIntMap" "keys" "I" v_keys
theorem IsMap.exa {Z : State} {h : Heap} {a : Addr} {v_width v_stride v_entries v_slots v_objects v_greatestKey v_values v_size v_keys : Value} (O : IsMap Z h a v_width v_stride v_entries v_slots v_objects v_greatestKey v_values v_size v_keys) : Exa Z h a "com/example/weir/weir/engine/IntIntMap" := O.1
theorem IsMap.lt {Z : State} {h : Heap} {a : Addr} {v_width v_stride v_entries v_slots v_objects v_greatestKey v_values v_size v_keys : Value} (O : IsMap Z h a v_width v_stride v_entries v_slots v_objects v_greatestKey v_values v_size v_keys) : a < h.size := (IsMap.exa O).lt
theorem IsMap.f_width {Z : State} {h : Heap} {a : Addr} {v_width v_stride v_entries v_slots v_objects v_greatestKey v_values v_size v_keys : Value} (O : IsMap Z h a v_width v_stride v_entries v_slots v_objects v_greatestKey v_values v_size v_keys) : Fld Z h a "com/example/weir/weir/engine/IntIntMap" "width" "I" v_width := O.2.1
theorem IsMap.f_stride {Z : State} {h : Heap} {a : Addr} {v_width v_stride v_entries v_slots v_objects v_greatestKey v_values v_size v_keys : Value} (O : IsMap Z h a v_width v_stride v_entries v_slots v_objects v_greatestKey v_values v_size v_keys) : Fld Z h a "com/example/weir/weir/engine/IntIntMap" "stride" "I" v_stride := O.2.2.1
theorem IsMap.f_entries {Z : State} {h : Heap} {a : Addr} {v_width v_stride v_entries v_slots v_objects v_greatestKey v_values v_size v_keys : Value} (O : IsMap Z h a v_width v_stride v_entries v_slots v_objects v_greatestKey v_values v_size v_keys) : Fld Z h a "com/example/weir/weir/engine/IntIntMap" "entries" "[I" v_entries := O.2.2.2.1
theorem IsMap.f_slots {Z : State} {h : Heap} {a : Addr} {v_width v_stride v_entries v_slots v_objects v_greatestKey v_values v_size v_keys : Value} (O : IsMap Z h a v_width v_stride v_entries v_slots v_objects v_greatestKey v_values v_size v_keys) : Fld Z h a "com/example/weir/weir/engine/IntIntMap" "slots" "I" v_slots := O.2.2.2.2.1
theorem IsMap.f_objects {Z : State} {h : Heap} {a : Addr} {v_width v_stride v_entries v_slots v_objects v_greatestKey v_values v_size v_keys : Value} (O : IsMap Z h a v_width v_stride v_entries v_slots v_objects v_greatestKey v_values v_size v_keys) : Fld Z h a "com/example/weir/weir/engine/IntIntMap" "objects" "[Ljava/lang/Object;" v_objects := O.2.2.2.2.2.1
theorem IsMap.f_greatestKey {Z : State} {h : Heap} {a : Addr} {v_width v_stride v_entries v_slots v_objects v_greatestKey v_values v_size v_keys : Value} (O : IsMap Z h a v_width v_stride v_entries v_slots v_objects v_greatestKey v_values v_size v_keys) : Fld Z h a "com/example/weir/weir/engine/IntIntMap" "greatestKey" "I" v_greatestKey := O.2.2.2.2.2.2.1
theorem IsMap.f_values {Z : State} {h : Heap} {a : Addr} {v_width v_stride v_entries v_slots v_objects v_greatestKey v_values v_size v_keys : Value} (O : IsMap Z h a v_width v_stride v_entries v_slots v_objects v_greatestKey v_values v_size v_keys) : Fld Z h a "com/example/weir/weir/engine/IntIntMap" "values" "[I" v_values := O.2.2.2.2.2.2.2.1
theorem IsMap.f_size {Z : State} {h : Heap} {a : Addr} {v_width v_stride v_entries v_slots v_objects v_greatestKey v_values v_size v_keys : Value} (O : IsMap Z h a v_width v_stride v_entries v_slots v_objects v_greatestKey v_values v_size v_keys) : Fld Z h a "com/example/weir/weir/engine/IntIntMap" "size" "I" v_size := O.2.2.2.2.2.2.2.2.1
theorem IsMap.f_keys {Z : State} {h : Heap} {a : Addr} {v_width v_stride v_entries v_slots v_objects v_greatestKey v_values v_size v_keys : Value} (O : IsMap Z h a v_width v_stride v_entries v_slots v_objects v_greatestKey v_values v_size v_keys) : Fld Z h a "com/example/weir/weir/engine/IntIntMap" "keys" "I" v_keys := O.2.2.2.2.2.2.2.2.2
theorem IsMap.ext {Z : State} {h h' : Heap} {a : Addr} {v_width v_stride v_entries v_slots v_objects v_greatestKey v_values v_size v_keys : Value} (E : Ext h h') (O : IsMap Z h a v_width v_stride v_entries v_slots v_objects v_greatestKey v_values v_size v_keys) : IsMap Z h' a v_width v_stride v_entries v_slots v_objects v_greatestKey v_values v_size v_keys := ⟨(O.1).ext E, (O.2.1).ext E, (O.2.2.1).ext E, (O.2.2.2.1).ext E, (O.2.2.2.2.1).ext E, (O.2.2.2.2.2.1).ext E, (O.2.2.2.2.2.2.1).ext E, (O.2.2.2.2.2.2.2.1).ext E, (O.2.2.2.2.2.2.2.2.1).ext E, (O.2.2.2.2.2.2.2.2.2).ext E⟩
theorem IsMap.keep {Z : State} {h h' : Heap} {a : Addr} {v_width v_stride v_entries v_slots v_objects v_greatestKey v_values v_size v_keys : Value} {ws : List Addr} (K : Keep h h' ws) (O : IsMap Z h a v_width v_stride v_entries v_slots v_objects v_greatestKey v_values v_size v_keys) (q : a ∉ ws) : IsMap Z h' a v_width v_stride v_entries v_slots v_objects v_greatestKey v_values v_size v_keys := ⟨(O.1).keep K, (O.2.1).keep K q, (O.2.2.1).keep K q, (O.2.2.2.1).keep K q, (O.2.2.2.2.1).keep K q, (O.2.2.2.2.2.1).keep K q, (O.2.2.2.2.2.2.1).keep K q, (O.2.2.2.2.2.2.2.1).keep K q, (O.2.2.2.2.2.2.2.2.1).keep K q, (O.2.2.2.2.2.2.2.2.2).keep K q⟩
theorem IsMap.other {Z : State} {h h' : Heap} {a b : Addr} {v_width v_stride v_entries v_slots v_objects v_greatestKey v_values v_size v_keys : Value} {sl : Nat} {v : Value} (W : Wr h h' b sl v) (O : IsMap Z h a v_width v_stride v_entries v_slots v_objects v_greatestKey v_values v_size v_keys) (q : a ≠ b) : IsMap Z h' a v_width v_stride v_entries v_slots v_objects v_greatestKey v_values v_size v_keys := ⟨(O.1).wr W, (O.2.1).other W (Or.inl q), (O.2.2.1).other W (Or.inl q), (O.2.2.2.1).other W (Or.inl q), (O.2.2.2.2.1).other W (Or.inl q), (O.2.2.2.2.2.1).other W (Or.inl q), (O.2.2.2.2.2.2.1).other W (Or.inl q), (O.2.2.2.2.2.2.2.1).other W (Or.inl q), (O.2.2.2.2.2.2.2.2.1).other W (Or.inl q), (O.2.2.2.2.2.2.2.2.2).other W (Or.inl q)⟩
theorem IsMap.s_width {Z : State} {h h' : Heap} {a : Addr} {v_width v_stride v_entries v_slots v_objects v_greatestKey v_values v_size v_keys : Value} {v : Value} {a0 : Array Value} (hw : ∀ d ∈ tables_1, d.before a0 Z = true) (W : Wr h h' a (RoadKit.slotOf Z "com/example/weir/weir/engine/IntIntMap" "width" "I") v) (O : IsMap Z h a v_width v_stride v_entries v_slots v_objects v_greatestKey v_values v_size v_keys) : IsMap Z h' a v v_stride v_entries v_slots v_objects v_greatestKey v_values v_size v_keys := ⟨(O.1).wr W, (O.2.1).same W, (O.2.2.1).other W (Or.inr (slot_ne (a0 := a0) (C := "com/example/weir/weir/engine/IntIntMap") (Or.inr (w_14 hw)) (Or.inr (w_12 hw)) (by decide) (t := .int) (t' := .int) (by decide) (by decide))), (O.2.2.2.1).other W (Or.inr (slot_ne (a0 := a0) (C := "com/example/weir/weir/engine/IntIntMap") (Or.inl (w_21 hw)) (Or.inr (w_12 hw)) (by decide) (t := (.array .int)) (t' := .int) (by decide) (by decide))), (O.2.2.2.2.1).other W (Or.inr (slot_ne (a0 := a0) (C := "com/example/weir/weir/engine/IntIntMap") (Or.inl (w_23 hw)) (Or.inr (w_12 hw)) (by decide) (t := .int) (t' := .int) (by decide) (by decide))), (O.2.2.2.2.2.1).other W (Or.inr (slot_ne (a0 := a0) (C := "com/example/weir/weir/engine/IntIntMap") (Or.inl (w_25 hw)) (Or.inr (w_12 hw)) (by decide) (t := (.array (.object "java/lang/Object"))) (t' := .int) (by decide) (by decide))), (O.2.2.2.2.2.2.1).other W (Or.inr (slot_ne (a0 := a0) (C := "com/example/weir/weir/engine/IntIntMap") (Or.inl (w_27 hw)) (Or.inr (w_12 hw)) (by decide) (t := .int) (t' := .int) (by decide) (by decide))), (O.2.2.2.2.2.2.2.1).other W (Or.inr (slot_ne (a0 := a0) (C := "com/example/weir/weir/engine/IntIntMap") (Or.inl (w_34 hw)) (Or.inr (w_12 hw)) (by decide) (t := (.array .int)) (t' := .int) (by decide) (by decide))), (O.2.2.2.2.2.2.2.2.1).other W (Or.inr (slot_ne (a0 := a0) (C := "com/example/weir/weir/engine/IntIntMap") (Or.inl (w_36 hw)) (Or.inr (w_12 hw)) (by decide) (t := .int) (t' := .int) (by decide) (by decide))), (O.2.2.2.2.2.2.2.2.2).other W (Or.inr (slot_ne (a0 := a0) (C := "com/example/weir/weir/engine/IntIntMap") (Or.inl (w_46 hw)) (Or.inr (w_12 hw)) (by decide) (t := .int) (t' := .int) (by decide) (by decide)))⟩
theorem IsMap.s_stride {Z : State} {h h' : Heap} {a : Addr} {v_width v_stride v_entries v_slots v_objects v_greatestKey v_values v_size v_keys : Value} {v : Value} {a0 : Array Value} (hw : ∀ d ∈ tables_1, d.before a0 Z = true) (W : Wr h h' a (RoadKit.slotOf Z "com/example/weir/weir/engine/IntIntMap" "stride" "I") v) (O : IsMap Z h a v_width v_stride v_entries v_slots v_objects v_greatestKey v_values v_size v_keys) : IsMap Z h' a v_width v v_entries v_slots v_objects v_greatestKey v_values v_size v_keys := ⟨(O.1).wr W, (O.2.1).other W (Or.inr (slot_ne (a0 := a0) (C := "com/example/weir/weir/engine/IntIntMap") (Or.inr (w_12 hw)) (Or.inr (w_14 hw)) (by decide) (t := .int) (t' := .int) (by decide) (by decide))), (O.2.2.1).same W, (O.2.2.2.1).other W (Or.inr (slot_ne (a0 := a0) (C := "com/example/weir/weir/engine/IntIntMap") (Or.inl (w_21 hw)) (Or.inr (w_14 hw)) (by decide) (t := (.array .int)) (t' := .int) (by decide) (by decide))), (O.2.2.2.2.1).other W (Or.inr (slot_ne (a0 := a0) (C := "com/example/weir/weir/engine/IntIntMap") (Or.inl (w_23 hw)) (Or.inr (w_14 hw)) (by decide) (t := .int) (t' := .int) (by decide) (by decide))), (O.2.2.2.2.2.1).other W (Or.inr (slot_ne (a0 := a0) (C := "com/example/weir/weir/engine/IntIntMap") (Or.inl (w_25 hw)) (Or.inr (w_14 hw)) (by decide) (t := (.array (.object "java/lang/Object"))) (t' := .int) (by decide) (by decide))), (O.2.2.2.2.2.2.1).other W (Or.inr (slot_ne (a0 := a0) (C := "com/example/weir/weir/engine/IntIntMap") (Or.inl (w_27 hw)) (Or.inr (w_14 hw)) (by decide) (t := .int) (t' := .int) (by decide) (by decide))), (O.2.2.2.2.2.2.2.1).other W (Or.inr (slot_ne (a0 := a0) (C := "com/example/weir/weir/engine/IntIntMap") (Or.inl (w_34 hw)) (Or.inr (w_14 hw)) (by decide) (t := (.array .int)) (t' := .int) (by decide) (by decide))), (O.2.2.2.2.2.2.2.2.1).other W (Or.inr (slot_ne (a0 := a0) (C := "com/example/weir/weir/engine/IntIntMap") (Or.inl (w_36 hw)) (Or.inr (w_14 hw)) (by decide) (t := .int) (t' := .int) (by decide) (by decide))), (O.2.2.2.2.2.2.2.2.2).other W (Or.inr (slot_ne (a0 := a0) (C := "com/example/weir/weir/engine/IntIntMap") (Or.inl (w_46 hw)) (Or.inr (w_14 hw)) (by decide) (t := .int) (t' := .int) (by decide) (by decide)))⟩
theorem IsMap.s_entries {Z : State} {h h' : Heap} {a : Addr} {v_width v_stride v_entries v_slots v_objects v_greatestKey v_values v_size v_keys : Value} {v : Value} {a0 : Array Value} (hw : ∀ d ∈ tables_1, d.before a0 Z = true) (W : Wr h h' a (RoadKit.slotOf Z "com/example/weir/weir/engine/IntIntMap" "entries" "[I") v) (O : IsMap Z h a v_width v_stride v_entries v_slots v_objects v_greatestKey v_values v_size v_keys) : IsMap Z h' a v_width v_stride v v_slots v_objects v_greatestKey v_values v_size v_keys := ⟨(O.1).wr W, (O.2.1).other W (Or.inr (slot_ne (a0 := a0) (C := "com/example/weir/weir/engine/IntIntMap") (Or.inr (w_12 hw)) (Or.inl (w_21 hw)) (by decide) (t := .int) (t' := (.array .int)) (by decide) (by decide))), (O.2.2.1).other W (Or.inr (slot_ne (a0 := a0) (C := "com/example/weir/weir/engine/IntIntMap") (Or.inr (w_14 hw)) (Or.inl (w_21 hw)) (by decide) (t := .int) (t' := (.array .int)) (by decide) (by decide))), (O.2.2.2.1).same W, (O.2.2.2.2.1).other W (Or.inr (slot_ne (a0 := a0) (C := "com/example/weir/weir/engine/IntIntMap") (Or.inl (w_23 hw)) (Or.inl (w_21 hw)) (by decide) (t := .int) (t' := (.array .int)) (by decide) (by decide))), (O.2.2.2.2.2.1).other W (Or.inr (slot_ne (a0 := a0) (C := "com/example/weir/weir/engine/IntIntMap") (Or.inl (w_25 hw)) (Or.inl (w_21 hw)) (by decide) (t := (.array (.object "java/lang/Object"))) (t' := (.array .int)) (by decide) (by decide))), (O.2.2.2.2.2.2.1).other W (Or.inr (slot_ne (a0 := a0) (C := "com/example/weir/weir/engine/IntIntMap") (Or.inl (w_27 hw)) (Or.inl (w_21 hw)) (by decide) (t := .int) (t' := (.array .int)) (by decide) (by decide))), (O.2.2.2.2.2.2.2.1).other W (Or.inr (slot_ne (a0 := a0) (C := "com/example/weir/weir/engine/IntIntMap") (Or.inl (w_34 hw)) (Or.inl (w_21 hw)) (by decide) (t := (.array .int)) (t' := (.array .int)) (by decide) (by decide))), (O.2.2.2.2.2.2.2.2.1).other W (Or.inr (slot_ne (a0 := a0) (C := "com/example/weir/weir/engine/IntIntMap") (Or.inl (w_36 hw)) (Or.inl (w_21 hw)) (by decide) (t := .int) (t' := (.array .int)) (by decide) (by decide))), (O.2.2.2.2.2.2.2.2.2).other W (Or.inr (slot_ne (a0 := a0) (C := "com/example/weir/weir/engine/IntIntMap") (Or.inl (w_46 hw)) (Or.inl (w_21 hw)) (by decide) (t := .int) (t' := (.array .int)) (by decide) (by decide)))⟩
theorem IsMap.s_slots {Z : State} {h h' : Heap} {a : Addr} {v_width v_stride v_entries v_slots v_objects v_greatestKey v_values v_size v_keys : Value} {v : Value} {a0 : Array Value} (hw : ∀ d ∈ tables_1, d.before a0 Z = true) (W : Wr h h' a (RoadKit.slotOf Z "com/example/weir/weir/engine/IntIntMap" "slots" "I") v) (O : IsMap Z h a v_width v_stride v_entries v_slots v_objects v_greatestKey v_values v_size v_keys) : IsMap Z h' a v_width v_stride v_entries v v_objects v_greatestKey v_values v_size v_keys := ⟨(O.1).wr W, (O.2.1).other W (Or.inr (slot_ne (a0 := a0) (C := "com/example/weir/weir/engine/IntIntMap") (Or.inr (w_12 hw)) (Or.inl (w_23 hw)) (by decide) (t := .int) (t' := .int) (by decide) (by decide))), (O.2.2.1).other W (Or.inr (slot_ne (a0 := a0) (C := "com/example/weir/weir/engine/IntIntMap") (Or.inr (w_14 hw)) (Or.inl (w_23 hw)) (by decide) (t := .int) (t' := .int) (by decide) (by decide))), (O.2.2.2.1).other W (Or.inr (slot_ne (a0 := a0) (C := "com/example/weir/weir/engine/IntIntMap") (Or.inl (w_21 hw)) (Or.inl (w_23 hw)) (by decide) (t := (.array .int)) (t' := .int) (by decide) (by decide))), (O.2.2.2.2.1).same W, (O.2.2.2.2.2.1).other W (Or.inr (slot_ne (a0 := a0) (C := "com/example/weir/weir/engine/IntIntMap") (Or.inl (w_25 hw)) (Or.inl (w_23 hw)) (by decide) (t := (.array (.object "java/lang/Object"))) (t' := .int) (by decide) (by decide))), (O.2.2.2.2.2.2.1).other W (Or.inr (slot_ne (a0 := a0) (C := "com/example/weir/weir/engine/IntIntMap") (Or.inl (w_27 hw)) (Or.inl (w_23 hw)) (by decide) (t := .int) (t' := .int) (by decide) (by decide))), (O.2.2.2.2.2.2.2.1).other W (Or.inr (slot_ne (a0 := a0) (C := "com/example/weir/weir/engine/IntIntMap") (Or.inl (w_34 hw)) (Or.inl (w_23 hw)) (by decide) (t := (.array .int)) (t' := .int) (by decide) (by decide))), (O.2.2.2.2.2.2.2.2.1).other W (Or.inr (slot_ne (a0 := a0) (C := "com/example/weir/weir/engine/IntIntMap") (Or.inl (w_36 hw)) (Or.inl (w_23 hw)) (by decide) (t := .int) (t' := .int) (by decide) (by decide))), (O.2.2.2.2.2.2.2.2.2).other W (Or.inr (slot_ne (a0 := a0) (C := "com/example/weir/weir/engine/IntIntMap") (Or.inl (w_46 hw)) (Or.inl (w_23 hw)) (by decide) (t := .int) (t' := .int) (by decide) (by decide)))⟩
theorem IsMap.s_objects {Z : State} {h h' : Heap} {a : Addr} {v_width v_stride v_entries v_slots v_objects v_greatestKey v_values v_size v_keys : Value} {v : Value} {a0 : Array Value} (hw : ∀ d ∈ tables_1, d.before a0 Z = true) (W : Wr h h' a (RoadKit.slotOf Z "com/example/weir/weir/engine/IntIntMap" "objects" "[Ljava/lang/Object;") v) (O : IsMap Z h a v_width v_stride v_entries v_slots v_objects v_greatestKey v_values v_size v_keys) : IsMap Z h' a v_width v_stride v_entries v_slots v v_greatestKey v_values v_size v_keys := ⟨(O.1).wr W, (O.2.1).other W (Or.inr (slot_ne (a0 := a0) (C := "com/example/weir/weir/engine/IntIntMap") (Or.inr (w_12 hw)) (Or.inl (w_25 hw)) (by decide) (t := .int) (t' := (.array (.object "java/lang/Object"))) (by decide) (by decide))), (O.2.2.1).other W (Or.inr (slot_ne (a0 := a0) (C := "com/example/weir/weir/engine/IntIntMap") (Or.inr (w_14 hw)) (Or.inl (w_25 hw)) (by decide) (t := .int) (t' := (.array (.object "java/lang/Object"))) (by decide) (by decide))), (O.2.2.2.1).other W (Or.inr (slot_ne (a0 := a0) (C := "com/example/weir/weir/engine/IntIntMap") (Or.inl (w_21 hw)) (Or.inl (w_25 hw)) (by decide) (t := (.array .int)) (t' := (.array (.object "java/lang/Object"))) (by decide) (by decide))), (O.2.2.2.2.1).other W (Or.inr (slot_ne (a0 := a0) (C := "com/example/weir/weir/engine/IntIntMap") (Or.inl (w_23 hw)) (Or.inl (w_25 hw)) (by decide) (t := .int) (t' := (.array (.object "java/lang/Object"))) (by decide) (by decide))), (O.2.2.2.2.2.1).same W, (O.2.2.2.2.2.2.1).other W (Or.inr (slot_ne (a0 := a0) (C := "com/example/weir/weir/engine/IntIntMap") (Or.inl (w_27 hw)) (Or.inl (w_25 hw)) (by decide) (t := .int) (t' := (.array (.object "java/lang/Object"))) (by decide) (by decide))), (O.2.2.2.2.2.2.2.1).other W (Or.inr (slot_ne (a0 := a0) (C := "com/example/weir/weir/engine/IntIntMap") (Or.inl (w_34 hw)) (Or.inl (w_25 hw)) (by decide) (t := (.array .int)) (t' := (.array (.object "java/lang/Object"))) (by decide) (by decide))), (O.2.2.2.2.2.2.2.2.1).other W (Or.inr (slot_ne (a0 := a0) (C := "com/example/weir/weir/engine/IntIntMap") (Or.inl (w_36 hw)) (Or.inl (w_25 hw)) (by decide) (t := .int) (t' := (.array (.object "java/lang/Object"))) (by decide) (by decide))), (O.2.2.2.2.2.2.2.2.2).other W (Or.inr (slot_ne (a0 := a0) (C := "com/example/weir/weir/engine/IntIntMap") (Or.inl (w_46 hw)) (Or.inl (w_25 hw)) (by decide) (t := .int) (t' := (.array (.object "java/lang/Object"))) (by decide) (by decide)))⟩
theorem IsMap.s_greatestKey {Z : State} {h h' : Heap} {a : Addr} {v_width v_stride v_entries v_slots v_objects v_greatestKey v_values v_size v_keys : Value} {v : Value} {a0 : Array Value} (hw : ∀ d ∈ tables_1, d.before a0 Z = true) (W : Wr h h' a (RoadKit.slotOf Z "com/example/weir/weir/engine/IntIntMap" "greatestKey" "I") v) (O : IsMap Z h a v_width v_stride v_entries v_slots v_objects v_greatestKey v_values v_size v_keys) : IsMap Z h' a v_width v_stride v_entries v_slots v_objects v v_values v_size v_keys := ⟨(O.1).wr W, (O.2.1).other W (Or.inr (slot_ne (a0 := a0) (C := "com/example/weir/weir/engine/IntIntMap") (Or.inr (w_12 hw)) (Or.inl (w_27 hw)) (by decide) (t := .int) (t' := .int) (by decide) (by decide))), (O.2.2.1).other W (Or.inr (slot_ne (a0 := a0) (C := "com/example/weir/weir/engine/IntIntMap") (Or.inr (w_14 hw)) (Or.inl (w_27 hw)) (by decide) (t := .int) (t' := .int) (by decide) (by decide))), (O.2.2.2.1).other W (Or.inr (slot_ne (a0 := a0) (C := "com/example/weir/weir/engine/IntIntMap") (Or.inl (w_21 hw)) (Or.inl (w_27 hw)) (by decide) (t := (.array .int)) (t' := .int) (by decide) (by decide))), (O.2.2.2.2.1).other W (Or.inr (slot_ne (a0 := a0) (C := "com/example/weir/weir/engine/IntIntMap") (Or.inl (w_23 hw)) (Or.inl (w_27 hw)) (by decide) (t := .int) (t' := .int) (by decide) (by decide))), (O.2.2.2.2.2.1).other W (Or.inr (slot_ne (a0 := a0) (C := "com/example/weir/weir/engine/IntIntMap") (Or.inl (w_25 hw)) (Or.inl (w_27 hw)) (by decide) (t := (.array (.object "java/lang/Object"))) (t' := .int) (by decide) (by decide))), (O.2.2.2.2.2.2.1).same W, (O.2.2.2.2.2.2.2.1).other W (Or.inr (slot_ne (a0 := a0) (C := "com/example/weir/weir/engine/IntIntMap") (Or.inl (w_34 hw)) (Or.inl (w_27 hw)) (by decide) (t := (.array .int)) (t' := .int) (by decide) (by decide))), (O.2.2.2.2.2.2.2.2.1).other W (Or.inr (slot_ne (a0 := a0) (C := "com/example/weir/weir/engine/IntIntMap") (Or.inl (w_36 hw)) (Or.inl (w_27 hw)) (by decide) (t := .int) (t' := .int) (by decide) (by decide))), (O.2.2.2.2.2.2.2.2.2).other W (Or.inr (slot_ne (a0 := a0) (C := "com/example/weir/weir/engine/IntIntMap") (Or.inl (w_46 hw)) (Or.inl (w_27 hw)) (by decide) (t := .int) (t' := .int) (by decide) (by decide)))⟩
theorem IsMap.s_values {Z : State} {h h' : Heap} {a : Addr} {v_width v_stride v_entries v_slots v_objects v_greatestKey v_values v_size v_keys : Value} {v : Value} {a0 : Array Value} (hw : ∀ d ∈ tables_1, d.before a0 Z = true) (W : Wr h h' a (RoadKit.slotOf Z "com/example/weir/weir/engine/IntIntMap" "values" "[I") v) (O : IsMap Z h a v_width v_stride v_entries v_slots v_objects v_greatestKey v_values v_size v_keys) : IsMap Z h' a v_width v_stride v_entries v_slots v_objects v_greatestKey v v_size v_keys := ⟨(O.1).wr W, (O.2.1).other W (Or.inr (slot_ne (a0 := a0) (C := "com/example/weir/weir/engine/IntIntMap") (Or.inr (w_12 hw)) (Or.inl (w_34 hw)) (by decide) (t := .int) (t' := (.array .int)) (by decide) (by decide))), (O.2.2.1).other W (Or.inr (slot_ne (a0 := a0) (C := "com/example/weir/weir/engine/IntIntMap") (Or.inr (w_14 hw)) (Or.inl (w_34 hw)) (by decide) (t := .int) (t' := (.array .int)) (by decide) (by decide))), (O.2.2.2.1).other W (Or.inr (slot_ne (a0 := a0) (C := "com/example/weir/weir/engine/IntIntMap") (Or.inl (w_21 hw)) (Or.inl (w_34 hw)) (by decide) (t := (.array .int)) (t' := (.array .int)) (by decide) (by decide))), (O.2.2.2.2.1).other W (Or.inr (slot_ne (a0 := a0) (C := "com/example/weir/weir/engine/IntIntMap") (Or.inl (w_23 hw)) (Or.inl (w_34 hw)) (by decide) (t := .int) (t' := (.array .int)) (by decide) (by decide))), (O.2.2.2.2.2.1).other W (Or.inr (slot_ne (a0 := a0) (C := "com/example/weir/weir/engine/IntIntMap") (Or.inl (w_25 hw)) (Or.inl (w_34 hw)) (by decide) (t := (.array (.object "java/lang/Object"))) (t' := (.array .int)) (by decide) (by decide))), (O.2.2.2.2.2.2.1).other W (Or.inr (slot_ne (a0 := a0) (C := "com/example/weir/weir/engine/IntIntMap") (Or.inl (w_27 hw)) (Or.inl (w_34 hw)) (by decide) (t := .int) (t' := (.array .int)) (by decide) (by decide))), (O.2.2.2.2.2.2.2.1).same W, (O.2.2.2.2.2.2.2.2.1).other W (Or.inr (slot_ne (a0 := a0) (C := "com/example/weir/weir/engine/IntIntMap") (Or.inl (w_36 hw)) (Or.inl (w_34 hw)) (by decide) (t := .int) (t' := (.array .int)) (by decide) (by decide))), (O.2.2.2.2.2.2.2.2.2).other W (Or.inr (slot_ne (a0 := a0) (C := "com/example/weir/weir/engine/IntIntMap") (Or.inl (w_46 hw)) (Or.inl (w_34 hw)) (by decide) (t := .int) (t' := (.array .int)) (by decide) (by decide)))⟩
theorem IsMap.s_size {Z : State} {h h' : Heap} {a : Addr} {v_width v_stride v_entries v_slots v_objects v_greatestKey v_values v_size v_keys : Value} {v : Value} {a0 : Array Value} (hw : ∀ d ∈ tables_1, d.before a0 Z = true) (W : Wr h h' a (RoadKit.slotOf Z "com/example/weir/weir/engine/IntIntMap" "size" "I") v) (O : IsMap Z h a v_width v_stride v_entries v_slots v_objects v_greatestKey v_values v_size v_keys) : IsMap Z h' a v_width v_stride v_entries v_slots v_objects v_greatestKey v_values v v_keys := ⟨(O.1).wr W, (O.2.1).other W (Or.inr (slot_ne (a0 := a0) (C := "com/example/weir/weir/engine/IntIntMap") (Or.inr (w_12 hw)) (Or.inl (w_36 hw)) (by decide) (t := .int) (t' := .int) (by decide) (by decide))), (O.2.2.1).other W (Or.inr (slot_ne (a0 := a0) (C := "com/example/weir/weir/engine/IntIntMap") (Or.inr (w_14 hw)) (Or.inl (w_36 hw)) (by decide) (t := .int) (t' := .int) (by decide) (by decide))), (O.2.2.2.1).other W (Or.inr (slot_ne (a0 := a0) (C := "com/example/weir/weir/engine/IntIntMap") (Or.inl (w_21 hw)) (Or.inl (w_36 hw)) (by decide) (t := (.array .int)) (t' := .int) (by decide) (by decide))), (O.2.2.2.2.1).other W (Or.inr (slot_ne (a0 := a0) (C := "com/example/weir/weir/engine/IntIntMap") (Or.inl (w_23 hw)) (Or.inl (w_36 hw)) (by decide) (t := .int) (t' := .int) (by decide) (by decide))), (O.2.2.2.2.2.1).other W (Or.inr (slot_ne (a0 := a0) (C := "com/example/weir/weir/engine/IntIntMap") (Or.inl (w_25 hw)) (Or.inl (w_36 hw)) (by decide) (t := (.array (.object "java/lang/Object"))) (t' := .int) (by decide) (by decide))), (O.2.2.2.2.2.2.1).other W (Or.inr (slot_ne (a0 := a0) (C := "com/example/weir/weir/engine/IntIntMap") (Or.inl (w_27 hw)) (Or.inl (w_36 hw)) (by decide) (t := .int) (t' := .int) (by decide) (by decide))), (O.2.2.2.2.2.2.2.1).other W (Or.inr (slot_ne (a0 := a0) (C := "com/example/weir/weir/engine/IntIntMap") (Or.inl (w_34 hw)) (Or.inl (w_36 hw)) (by decide) (t := (.array .int)) (t' := .int) (by decide) (by decide))), (O.2.2.2.2.2.2.2.2.1).same W, (O.2.2.2.2.2.2.2.2.2).other W (Or.inr (slot_ne (a0 := a0) (C := "com/example/weir/weir/engine/IntIntMap") (Or.inl (w_46 hw)) (Or.inl (w_36 hw)) (by decide) (t := .int) (t' := .int) (by decide) (by decide)))⟩
theorem IsMap.s_keys {Z : State} {h h' : Heap} {a : Addr} {v_width v_stride v_entries v_slots v_objects v_greatestKey v_values v_size v_keys : Value} {v : Value} {a0 : Array Value} (hw : ∀ d ∈ tables_1, d.before a0 Z = true) (W : Wr h h' a (RoadKit.slotOf Z "com/example/weir/weir/engine/IntIntMap" "keys" "I") v) (O : IsMap Z h a v_width v_stride v_entries v_slots v_objects v_greatestKey v_values v_size v_keys) : IsMap Z h' a v_width v_stride v_entries v_slots v_objects v_greatestKey v_values v_size v := ⟨(O.1).wr W, (O.2.1).other W (Or.inr (slot_ne (a0 := a0) (C := "com/example/weir/weir/engine/IntIntMap") (Or.inr (w_12 hw)) (Or.inl (w_46 hw)) (by decide) (t := .int) (t' := .int) (by decide) (by decide))), (O.2.2.1).other W (Or.inr (slot_ne (a0 := a0) (C := "com/example/weir/weir/engine/IntIntMap") (Or.inr (w_14 hw)) (Or.inl (w_46 hw)) (by decide) (t := .int) (t' := .int) (by decide) (by decide))), (O.2.2.2.1).other W (Or.inr (slot_ne (a0 := a0) (C := "com/example/weir/weir/engine/IntIntMap") (Or.inl (w_21 hw)) (Or.inl (w_46 hw)) (by decide) (t := (.array .int)) (t' := .int) (by decide) (by decide))), (O.2.2.2.2.1).other W (Or.inr (slot_ne (a0 := a0) (C := "com/example/weir/weir/engine/IntIntMap") (Or.inl (w_23 hw)) (Or.inl (w_46 hw)) (by decide) (t := .int) (t' := .int) (by decide) (by decide))), (O.2.2.2.2.2.1).other W (Or.inr (slot_ne (a0 := a0) (C := "com/example/weir/weir/engine/IntIntMap") (Or.inl (w_25 hw)) (Or.inl (w_46 hw)) (by decide) (t := (.array (.object "java/lang/Object"))) (t' := .int) (by decide) (by decide))), (O.2.2.2.2.2.2.1).other W (Or.inr (slot_ne (a0 := a0) (C := "com/example/weir/weir/engine/IntIntMap") (Or.inl (w_27 hw)) (Or.inl (w_46 hw)) (by decide) (t := .int) (t' := .int) (by decide) (by decide))), (O.2.2.2.2.2.2.2.1).other W (Or.inr (slot_ne (a0 := a0) (C := "com/example/weir/weir/engine/IntIntMap") (Or.inl (w_34 hw)) (Or.inl (w_46 hw)) (by decide) (t := (.array .int)) (t' := .int) (by decide) (by decide))), (O.2.2.2.2.2.2.2.2.1).other W (Or.inr (slot_ne (a0 := a0) (C := "com/example/weir/weir/engine/IntIntMap") (Or.inl (w_36 hw)) (Or.inl (w_46 hw)) (by decide) (t := .int) (t' := .int) (by decide) (by decide))), (O.2.2.2.2.2.2.2.2.2).same W⟩
set_option maxRecDepth 65536 in
set_option maxHeartbeats 40000000 in
theorem rm_max (w : Bool) (l : Launch) (Z : State) (a0 : Array Value) (hw : ∀ d ∈ tables_1, d.before a0 Z = true) (x y : Int32) (h0 : Heap) (n0 : Nat) (Z0 : n0 ≤ h0.size)  :
    Met w l Z (⟨"java/lang/Math", "max", "(II)I"⟩ : MethodName) jdk_29_method_65_code 2 (some .int) [] ({ frames := 0, cells := 0, slots := 0, locals := 0 } : Room) #[(.int x), (.int y)] h0 n0 (fun v h => v = some (.int (own_max x y)) ∧ h0 = h) := by
  refine Met.of (Jvm.Free.JP.mathPlain rfl (by decide +kernel)) fun κ K => ?_
  refine WP.frame (g' := (mkF κ.m 0 #[.val (.int x), .val (.int y)] [])) (by first | (simp [entryFrame, mkF, argsToLocals, Value.category]; done) | rfl) ?_
  refine WP.meet (g' := (mkF κ.m 10 #[.val (.int x), .val (.int y)] [(.int (if x < y then y else x))])) (fun HJ => ?_) ?_
  · refine WP.iloadN K d5_0 rfl (pc' := 1) rfl ?_
    refine WP.iloadN K d5_1 rfl (pc' := 2) rfl ?_
    by_cases c1 : x < y
    · try simp only [if_pos c1] at HJ
      refine WP.icmpT K d5_2 (tlt c1).1 (by decide) (pc' := 9) (by decide) ?_
      refine WP.iloadN K d5_9 rfl (pc' := 10) rfl ?_
      exact HJ
    · try simp only [if_neg c1] at HJ
      refine WP.icmpF K d5_2 (flt c1).1 (pc' := 5) rfl ?_
      refine WP.iloadN K d5_5 rfl (pc' := 6) rfl ?_
      refine WP.goto K d5_6 (by decide) (pc' := 10) (by decide) ?_
      exact HJ
  · skip
    exact WP.retI K d5_10 (by decide) (by decide) ⟨rfl, rfl⟩
set_option maxRecDepth 65536 in
set_option maxHeartbeats 40000000 in
theorem rm_min (w : Bool) (l : Launch) (Z : State) (a0 : Array Value) (hw : ∀ d ∈ tables_1, d.before a0 Z = true) (x y : Int32) (h0 : Heap) (n0 : Nat) (Z0 : n0 ≤ h0.size)  :
    Met w l Z (⟨"java/lang/Math", "min", "(II)I"⟩ : MethodName) jdk_29_method_69_code 2 (some .int) [] ({ frames := 0, cells := 0, slots := 0, locals := 0 } : Room) #[(.int x), (.int y)] h0 n0 (fun v h => v = some (.int (own_min x y)) ∧ h0 = h) := by
  refine Met.of (Jvm.Free.JP.mathPlain rfl (by decide +kernel)) fun κ K => ?_
  refine WP.frame (g' := (mkF κ.m 0 #[.val (.int x), .val (.int y)] [])) (by first | (simp [entryFrame, mkF, argsToLocals, Value.category]; done) | rfl) ?_
  refine WP.meet (g' := (mkF κ.m 10 #[.val (.int x), .val (.int y)] [(.int (if y < x then y else x))])) (fun HJ => ?_) ?_
  · refine WP.iloadN K d14_0 rfl (pc' := 1) rfl ?_
    refine WP.iloadN K d14_1 rfl (pc' := 2) rfl ?_
    by_cases c2 : y < x
    · try simp only [if_pos c2] at HJ
      refine WP.icmpT K d14_2 (tlt c2).2.2.1 (by decide) (pc' := 9) (by decide) ?_
      refine WP.iloadN K d14_9 rfl (pc' := 10) rfl ?_
      exact HJ
    · try simp only [if_neg c2] at HJ
      refine WP.icmpF K d14_2 (flt c2).2.2.1 (pc' := 5) rfl ?_
      refine WP.iloadN K d14_5 rfl (pc' := 6) rfl ?_
      refine WP.goto K d14_6 (by decide) (pc' := 10) (by decide) ?_
      exact HJ
  · skip
    exact WP.retI K d14_10 (by decide) (by decide) ⟨rfl, rfl⟩
set_option maxRecDepth 65536 in
set_option maxHeartbeats 40000000 in
theorem rm_spread (w : Bool) (l : Launch) (Z : State) (a0 : Array Value) (hw : ∀ d ∈ tables_1, d.before a0 Z = true) (x : Int64) (h0 : Heap) (n0 : Nat) (Z0 : n0 ≤ h0.size)  :
    Met w l Z (⟨"com/example/weir/weir/engine/LinearProbing", "spread", "(J)I"⟩ : MethodName) prog_29_method_2_code 2 (some .int) [] ({ frames := 0, cells := 0, slots := 0, locals := 0 } : Room) #[(.long x)] h0 n0 (fun v h => v = some (.int (own_spread x)) ∧ h0 = h) := by
  refine Met.of (plainFor_of_name (by first | (simp [plainName, overriddenIn]; done) | decide +kernel)) fun κ K => ?_
  refine WP.frame (g' := (mkF κ.m 0 #[.val (.long x), .second] [])) (by first | (simp [entryFrame, mkF, argsToLocals, Value.category]; done) | rfl) ?_
  refine WP.lloadN K d18_0 rfl (pc' := 1) rfl ?_
  refine WP.ldc2J K (w_99 hw) d18_1 (pc' := 4) rfl ?_
  refine WP.lmul K d18_4 (pc' := 5) rfl ?_
  refine WP.bipush K d18_5 (v := (32 : Int32)) rfl (pc' := 7) rfl ?_
  refine WP.lushr K d18_7 (pc' := 8) rfl ?_
  refine WP.l2i K d18_8 (pc' := 9) rfl ?_
  exact WP.retI K d18_9 (by decide) (by decide) ⟨rfl, rfl⟩
set_option maxRecDepth 65536 in
set_option maxHeartbeats 40000000 in
theorem rm_empty (w : Bool) (l : Launch) (Z : State) (a0 : Array Value) (hw : ∀ d ∈ tables_1, d.before a0 Z = true) (mp : Addr) (u_entries u_slots u_objects u_greatestKey u_values u_size u_keys : Value) (h0 : Heap) (n0 : Nat) (Z0 : n0 ≤ h0.size) (O_mp : IsMap Z h0 mp (.int (3 : Int32)) (.int (4 : Int32)) u_entries u_slots u_objects u_greatestKey u_values u_size u_keys) (old_mp : n0 ≤ mp) :
    Met w l Z (⟨"com/example/weir/weir/engine/IntIntMap", "emptyTable", "(IZ)V"⟩ : MethodName) prog_26_method_22_code 3 none [] ({ frames := 0, cells := 1, slots := 32, locals := 0 } : Room) #[(.ref mp), (.int (8 : Int32)), (.int (0 : Int32))] h0 n0 (fun v h => v = none ∧ Keep h0 h [mp] ∧ ∃ (en : Addr) (kE : ClassId), h0.size ≤ en ∧ IsMap Z h mp (.int (3 : Int32)) (.int (4 : Int32)) (.ref en) (.int (8 : Int32)) .null (.int (0 : Int32)) u_values u_size u_keys ∧ Ary Z h en kE .int 32 (fun j => .int ((fun _ => (0 : Int32)) j))) := by
  refine Met.of (plainFor_of_name (by first | (simp [plainName, overriddenIn]; done) | decide +kernel)) fun κ K => ?_
  refine WP.frame (g' := (mkF κ.m 0 #[.val (.ref mp), .val (.int (8 : Int32)), .val (.int (0 : Int32))] [])) (by first | (simp [entryFrame, mkF, argsToLocals, Value.category]; done) | rfl) ?_
  have KP := Keep.refl h0 [mp]
  refine WP.aloadN K d3_0 rfl rfl (pc' := 1) rfl ?_
  refine WP.aloadN K d3_1 rfl rfl (pc' := 2) rfl ?_
  refine WP.getF K (w_13 hw) Via.refl (IsMap.f_stride O_mp) d3_2 (pc' := 5) rfl ?_
  refine WP.iloadN K d3_5 rfl (pc' := 6) rfl ?_
  refine WP.imul K d3_6 (pc' := 7) rfl ?_
  show WP κ h0 0 0 (mkF κ.m 7 #[.val (.ref mp), .val (.int (8 : Int32)), .val (.int (0 : Int32))] [(.int (32 : Int32)), (.ref mp)])
  refine WP.newarray (aty := .int) K (w_19 hw) d3_7 (N := 32) (cap := 32) rfl (Nat.le_refl _) (by decide) (k' := 1) (n' := 32) rfl rfl (by decide) (by decide) (pc' := 9) rfl fun h3 en kA_en g3 E3 A_en => ?_
  have ne_mp_en : mp ≠ en := fun z_ => by have q_ : @LT.lt Nat _ mp h0.size := (IsMap.lt O_mp); have r_ : @Eq Nat mp en := z_; omega
  have old_en : n0 ≤ en := by have q_ := Z0; omega
  have osz_en : h0.size ≤ en := by have q_ := KP.1; omega
  have O_mp := IsMap.ext E3 O_mp
  have KP := Keep.ext KP E3
  have Z0 := Nat.le_trans Z0 E3.1
  refine WP.putF K (w_20 hw) Via.refl (IsMap.f_entries O_mp) (IsMap.exa O_mp) (Or.inl (w_21 hw)) (w_3 hw) (ty := (.array .int)) (by decide) rfl rfl old_mp d3_9 (pc' := 12) rfl fun h4 W4 => ?_
  have A_en := Ary.other W4 A_en (Ne.symm ne_mp_en)
  have KP := Keep.wr KP W4 (Or.inl (List.mem_of_getElem? (i := 0) rfl))
  have Z0 := Nat.le_trans Z0 (Nat.le_of_eq W4.size.symm)
  have O_mp := IsMap.s_entries hw W4 O_mp
  refine WP.aloadN K d3_12 rfl rfl (pc' := 13) rfl ?_
  refine WP.iloadN K d3_13 rfl (pc' := 14) rfl ?_
  refine WP.putF K (w_22 hw) Via.refl (IsMap.f_slots O_mp) (IsMap.exa O_mp) (Or.inl (w_23 hw)) (w_3 hw) (ty := .int) (by decide) rfl rfl old_mp d3_14 (pc' := 17) rfl fun h5 W5 => ?_
  have A_en := Ary.other W5 A_en (Ne.symm ne_mp_en)
  have KP := Keep.wr KP W5 (Or.inl (List.mem_of_getElem? (i := 0) rfl))
  have Z0 := Nat.le_trans Z0 (Nat.le_of_eq W5.size.symm)
  have O_mp := IsMap.s_slots hw W5 O_mp
  refine WP.aloadN K d3_17 rfl rfl (pc' := 18) rfl ?_
  refine WP.iloadN K d3_18 rfl (pc' := 19) rfl ?_
  refine WP.if0T K d3_19 (by decide) (by decide) (pc' := 29) (by decide) ?_
  refine WP.aconst_null K d3_29 (pc' := 30) rfl ?_
  refine WP.putF K (w_24 hw) Via.refl (IsMap.f_objects O_mp) (IsMap.exa O_mp) (Or.inl (w_25 hw)) (w_3 hw) (ty := (.array (.object "java/lang/Object"))) (by decide) rfl rfl old_mp d3_30 (pc' := 33) rfl fun h6 W6 => ?_
  have A_en := Ary.other W6 A_en (Ne.symm ne_mp_en)
  have KP := Keep.wr KP W6 (Or.inl (List.mem_of_getElem? (i := 0) rfl))
  have Z0 := Nat.le_trans Z0 (Nat.le_of_eq W6.size.symm)
  have O_mp := IsMap.s_objects hw W6 O_mp
  refine WP.aloadN K d3_33 rfl rfl (pc' := 34) rfl ?_
  refine WP.iconst K d3_34 (v := (0 : Int32)) rfl (pc' := 35) rfl ?_
  refine WP.putF K (w_26 hw) Via.refl (IsMap.f_greatestKey O_mp) (IsMap.exa O_mp) (Or.inl (w_27 hw)) (w_3 hw) (ty := .int) (by decide) rfl rfl old_mp d3_35 (pc' := 38) rfl fun h7 W7 => ?_
  have A_en := Ary.other W7 A_en (Ne.symm ne_mp_en)
  have KP := Keep.wr KP W7 (Or.inl (List.mem_of_getElem? (i := 0) rfl))
  have Z0 := Nat.le_trans Z0 (Nat.le_of_eq W7.size.symm)
  have O_mp := IsMap.s_greatestKey hw W7 O_mp
  exact WP.ret0 K d3_38 (by decide) (by decide) ⟨rfl, KP, en, kA_en, osz_en, O_mp, A_en⟩
set_option maxRecDepth 65536 in
set_option maxHeartbeats 40000000 in
theorem rm_minit (w : Bool) (l : Launch) (Z : State) (a0 : Array Value) (hw : ∀ d ∈ tables_1, d.before a0 Z = true) (mp : Addr) (u_width u_stride u_entries u_slots u_objects u_greatestKey u_values u_size u_keys : Value) (h0 : Heap) (n0 : Nat) (Z0 : n0 ≤ h0.size) (O_mp : IsMap Z h0 mp u_width u_stride u_entries u_slots u_objects u_greatestKey u_values u_size u_keys) (old_mp : n0 ≤ mp) :
    Met w l Z (⟨"com/example/weir/weir/engine/IntIntMap", "<init>", "(I)V"⟩ : MethodName) prog_26_method_2_code 2 none [] ({ frames := 1, cells := 1, slots := 32, locals := 14 } : Room) #[(.ref mp), (.int (3 : Int32))] h0 n0 (fun v h => v = none ∧ Keep h0 h [mp] ∧ ∃ (en : Addr) (kE : ClassId), h0.size ≤ en ∧ IsMap Z h mp (.int (3 : Int32)) (.int (4 : Int32)) (.ref en) (.int (8 : Int32)) .null (.int (0 : Int32)) u_values u_size u_keys ∧ Ary Z h en kE .int 32 (fun j => .int ((fun _ => (0 : Int32)) j))) := by
  refine Met.of (plainFor_of_name (by first | (simp [plainName, overriddenIn]; done) | decide +kernel)) fun κ K => ?_
  refine WP.frame (g' := (mkF κ.m 0 #[.val (.ref mp), .val (.int (3 : Int32))] [])) (by first | (simp [entryFrame, mkF, argsToLocals, Value.category]; done) | rfl) ?_
  have KP := Keep.refl h0 [mp]
  refine WP.aloadN K d1_0 rfl rfl (pc' := 1) rfl ?_
  refine WP.initO K (w_8 hw) (w_9 hw) (w_10 hw) d1_1 rfl (by decide) (W := 0) rfl (by decide) (pc' := 4) rfl ?_
  refine WP.aloadN K d1_4 rfl rfl (pc' := 5) rfl ?_
  refine WP.iloadN K d1_5 rfl (pc' := 6) rfl ?_
  refine WP.putF K (w_11 hw) Via.refl (IsMap.f_width O_mp) (IsMap.exa O_mp) (Or.inr ⟨(w_12 hw), rfl, rfl⟩) (w_3 hw) (ty := .int) (by decide) rfl rfl old_mp d1_6 (pc' := 9) rfl fun h8 W8 => ?_
  have KP := Keep.wr KP W8 (Or.inl (List.mem_of_getElem? (i := 0) rfl))
  have Z0 := Nat.le_trans Z0 (Nat.le_of_eq W8.size.symm)
  have O_mp := IsMap.s_width hw W8 O_mp
  refine WP.aloadN K d1_9 rfl rfl (pc' := 10) rfl ?_
  refine WP.iloadN K d1_10 rfl (pc' := 11) rfl ?_
  refine WP.iconst K d1_11 (v := (1 : Int32)) rfl (pc' := 12) rfl ?_
  refine WP.iadd K d1_12 (pc' := 13) rfl ?_
  show WP κ h8 0 0 (mkF κ.m 13 #[.val (.ref mp), .val (.int (3 : Int32))] [(.int (4 : Int32)), (.ref mp)])
  refine WP.putF K (w_13 hw) Via.refl (IsMap.f_stride O_mp) (IsMap.exa O_mp) (Or.inr ⟨(w_14 hw), rfl, rfl⟩) (w_3 hw) (ty := .int) (by decide) rfl rfl old_mp d1_13 (pc' := 16) rfl fun h9 W9 => ?_
  have KP := Keep.wr KP W9 (Or.inl (List.mem_of_getElem? (i := 0) rfl))
  have Z0 := Nat.le_trans Z0 (Nat.le_of_eq W9.size.symm)
  have O_mp := IsMap.s_stride hw W9 O_mp
  refine WP.aloadN K d1_16 rfl rfl (pc' := 17) rfl ?_
  refine WP.bipush K d1_17 (v := (8 : Int32)) rfl (pc' := 19) rfl ?_
  refine WP.iconst K d1_19 (v := (0 : Int32)) rfl (pc' := 20) rfl ?_
  have hz0 : h0.size ≤ h9.size := KP.1
  refine WP.callP K (a := mp) (argsL := [(.int (8 : Int32)), (.int (0 : Int32))]) (S := []) (w_15 hw) (w_16 hw) (w_3 hw) (w_17 hw) (IsMap.exa O_mp) (rm_empty w l Z a0 hw mp u_entries u_slots u_objects u_greatestKey u_values u_size u_keys h9 n0 Z0 O_mp old_mp) (w_18 hw) (w_4 hw) (by decide) rfl (lenOf pd_0 rfl) rfl (W := 0) rfl (by decide) (by decide) (k' := 1) (n' := 32) rfl rfl (by decide) (by decide) d1_20 (pc' := 23) rfl fun v h10 hq => ?_
  obtain ⟨rfl, K1, en, kE, s_en, O_mp, A_en⟩ := hq
  have KP := Keep.trans KP K1 (allS (Or.inl (List.mem_of_getElem? (i := 0) rfl)) all0)
  have Z0 := Nat.le_trans Z0 K1.1
  show WP κ h10 1 32 (mkF κ.m 23 #[.val (.ref mp), .val (.int (3 : Int32))] [])
  exact WP.ret0 K d1_23 (by decide) (by decide) ⟨rfl, KP, en, kE, Nat.le_trans hz0 s_en, O_mp, A_en⟩
set_option maxRecDepth 65536 in
set_option maxHeartbeats 40000000 in
theorem rm_find (w : Bool) (l : Launch) (Z : State) (a0 : Array Value) (hw : ∀ d ∈ tables_1, d.before a0 Z = true) (F : Nat → Int32) (mp en : Addr) (kE : ClassId) (key : Int32) (u_objects u_greatestKey u_values u_size u_keys : Value) (h0 : Heap) (n0 : Nat) (Z0 : n0 ≤ h0.size) (O_mp : IsMap Z h0 mp (.int (3 : Int32)) (.int (4 : Int32)) (.ref en) (.int (8 : Int32)) u_objects u_greatestKey u_values u_size u_keys) (A_en : Ary Z h0 en kE .int 32 (fun j => .int (F j))) (hstop : F (4 * own_fnd F (key + (1 : Int32)) 8 (own_home key)) = (0 : Int32) ∨ F (4 * own_fnd F (key + (1 : Int32)) 8 (own_home key)) = key + (1 : Int32)) :
    Met w l Z (⟨"com/example/weir/weir/engine/IntIntMap", "find", "(I)I"⟩ : MethodName) prog_26_method_20_code 4 (some .int) [] ({ frames := 1, cells := 0, slots := 0, locals := 13 } : Room) #[(.ref mp), (.int key)] h0 n0 (fun v h => (∃ z : Int32, v = some (.int z) ∧ z.toInt = ((own_fnd F (key + (1 : Int32)) 8 (own_home key) : Nat) : Int)) ∧ h0 = h) := by
  refine Met.of (plainFor_of_name (by first | (simp [plainName, overriddenIn]; done) | decide +kernel)) fun κ K => ?_
  refine WP.frame (g' := (mkF κ.m 0 #[.val (.ref mp), .val (.int key), .unset, .unset] [])) (by first | (simp [entryFrame, mkF, argsToLocals, Value.category]; done) | rfl) ?_
  refine WP.aloadN K d17_0 rfl rfl (pc' := 1) rfl ?_
  refine WP.getF K (w_22 hw) Via.refl (IsMap.f_slots O_mp) d17_1 (pc' := 4) rfl ?_
  refine WP.iconst K d17_4 (v := (1 : Int32)) rfl (pc' := 5) rfl ?_
  refine WP.isub K d17_5 (pc' := 6) rfl ?_
  show WP κ h0 0 0 (mkF κ.m 6 #[.val (.ref mp), .val (.int key), .unset, .unset] [(.int (7 : Int32))])
  refine WP.istoreN K d17_6 (L' := #[.val (.ref mp), .val (.int key), .val (.int (7 : Int32)), .unset]) rfl (pc' := 7) rfl ?_
  refine WP.iloadN K d17_7 rfl (pc' := 8) rfl ?_
  refine WP.i2l K d17_8 (pc' := 9) rfl ?_
  refine WP.callS K (argsL := [(.long ((key).toInt64))]) (S := []) (w_95 hw) (w_96 hw) (rm_spread w l Z a0 hw (key.toInt64) h0 n0 Z0) (w_98 hw) (w_97 hw) (by decide) rfl (lenOf pd_1 rfl) rfl (W := 0) rfl (by decide) (by decide) (k' := 0) (n' := 0) rfl rfl (by decide) (by decide) d17_9 (pc' := 12) rfl fun v h11 hq => ?_
  obtain ⟨rfl, rfl⟩ := hq
  show WP κ h0 0 0 (mkF κ.m 12 #[.val (.ref mp), .val (.int key), .val (.int (7 : Int32)), .unset] [(.int (own_spread key.toInt64))])
  refine WP.iloadN K d17_12 rfl (pc' := 13) rfl ?_
  refine WP.iand K d17_13 (pc' := 14) rfl ?_
  refine WP.istoreN K d17_14 (L' := #[.val (.ref mp), .val (.int key), .val (.int (7 : Int32)), .val (.int ((own_spread key.toInt64) &&& (7 : Int32)))]) rfl (pc' := 15) rfl ?_
  obtain ⟨hh, hh8⟩ := own_home_e key
  have LOOP : ∀ (f s : Nat) (x : Int32), x.toInt = (s : Int) → s < 8 → own_fnd F (key + (1 : Int32)) f s = own_fnd F (key + (1 : Int32)) 8 (own_home key) → WP κ h0 0 0 (mkF κ.m 15 #[.val (.ref mp), .val (.int key), .val (.int (7 : Int32)), .val (.int x)] []) := by
    intro f
    induction f with
    | zero =>
      intro s x hx h8 hr
      rw [own_fnd] at hr
      have m4 := own_mul4 (y := (4 : Int32)) (c := 4) rfl hx (by omega)
      refine WP.aloadN K d17_15 rfl rfl (pc' := 16) rfl ?_
      refine WP.getF K (w_20 hw) Via.refl (IsMap.f_entries O_mp) d17_16 (pc' := 19) rfl ?_
      refine WP.aloadN K d17_19 rfl rfl (pc' := 20) rfl ?_
      refine WP.getF K (w_13 hw) Via.refl (IsMap.f_stride O_mp) d17_20 (pc' := 23) rfl ?_
      refine WP.iloadN K d17_23 rfl (pc' := 24) rfl ?_
      refine WP.imul K d17_24 (pc' := 25) rfl ?_
      refine WP.iaload K (i := (4 * s)) A_en m4 (by omega) (v := (.int (F (4 * s)))) rfl d17_25 (pc' := 26) rfl ?_
      by_cases c1 : (F (4 * s)) = (0 : Int32)
      · refine WP.if0T K d17_26 ((if0 _ _).trans (teq c1).1) (by decide) (pc' := 55) (by decide) ?_
        refine WP.iloadN K d17_55 rfl (pc' := 56) rfl ?_
        exact WP.retI K d17_56 (by decide) (by decide) ⟨⟨x, rfl, by rw [← hr]; exact hx⟩, rfl⟩
      · refine WP.if0F K d17_26 ((if0 _ _).trans (feq c1).1) (pc' := 29) rfl ?_
        refine WP.aloadN K d17_29 rfl rfl (pc' := 30) rfl ?_
        refine WP.getF K (w_20 hw) Via.refl (IsMap.f_entries O_mp) d17_30 (pc' := 33) rfl ?_
        refine WP.aloadN K d17_33 rfl rfl (pc' := 34) rfl ?_
        refine WP.getF K (w_13 hw) Via.refl (IsMap.f_stride O_mp) d17_34 (pc' := 37) rfl ?_
        refine WP.iloadN K d17_37 rfl (pc' := 38) rfl ?_
        refine WP.imul K d17_38 (pc' := 39) rfl ?_
        refine WP.iaload K (i := (4 * s)) A_en m4 (by omega) (v := (.int (F (4 * s)))) rfl d17_39 (pc' := 40) rfl ?_
        refine WP.iloadN K d17_40 rfl (pc' := 41) rfl ?_
        refine WP.iconst K d17_41 (v := (1 : Int32)) rfl (pc' := 42) rfl ?_
        refine WP.iadd K d17_42 (pc' := 43) rfl ?_
        have c2 : (F (4 * s)) = (key + (1 : Int32)) := by rw [hr]; exact hstop.resolve_left (fun q => c1 (by rw [hr]; exact q))
        refine WP.icmpT K d17_43 (teq c2).1 (by decide) (pc' := 55) (by decide) ?_
        refine WP.iloadN K d17_55 rfl (pc' := 56) rfl ?_
        exact WP.retI K d17_56 (by decide) (by decide) ⟨⟨x, rfl, by rw [← hr]; exact hx⟩, rfl⟩
    | succ f ih =>
      intro s x hx h8 hr
      have m4 := own_mul4 (y := (4 : Int32)) (c := 4) rfl hx (by omega)
      refine WP.aloadN K d17_15 rfl rfl (pc' := 16) rfl ?_
      refine WP.getF K (w_20 hw) Via.refl (IsMap.f_entries O_mp) d17_16 (pc' := 19) rfl ?_
      refine WP.aloadN K d17_19 rfl rfl (pc' := 20) rfl ?_
      refine WP.getF K (w_13 hw) Via.refl (IsMap.f_stride O_mp) d17_20 (pc' := 23) rfl ?_
      refine WP.iloadN K d17_23 rfl (pc' := 24) rfl ?_
      refine WP.imul K d17_24 (pc' := 25) rfl ?_
      refine WP.iaload K (i := (4 * s)) A_en m4 (by omega) (v := (.int (F (4 * s)))) rfl d17_25 (pc' := 26) rfl ?_
      by_cases c1 : (F (4 * s)) = (0 : Int32)
      · refine WP.if0T K d17_26 ((if0 _ _).trans (teq c1).1) (by decide) (pc' := 55) (by decide) ?_
        refine WP.iloadN K d17_55 rfl (pc' := 56) rfl ?_
        rw [own_fnd, if_pos (Or.inl c1)] at hr
        exact WP.retI K d17_56 (by decide) (by decide) ⟨⟨x, rfl, by rw [← hr]; exact hx⟩, rfl⟩
      · refine WP.if0F K d17_26 ((if0 _ _).trans (feq c1).1) (pc' := 29) rfl ?_
        refine WP.aloadN K d17_29 rfl rfl (pc' := 30) rfl ?_
        refine WP.getF K (w_20 hw) Via.refl (IsMap.f_entries O_mp) d17_30 (pc' := 33) rfl ?_
        refine WP.aloadN K d17_33 rfl rfl (pc' := 34) rfl ?_
        refine WP.getF K (w_13 hw) Via.refl (IsMap.f_stride O_mp) d17_34 (pc' := 37) rfl ?_
        refine WP.iloadN K d17_37 rfl (pc' := 38) rfl ?_
        refine WP.imul K d17_38 (pc' := 39) rfl ?_
        refine WP.iaload K (i := (4 * s)) A_en m4 (by omega) (v := (.int (F (4 * s)))) rfl d17_39 (pc' := 40) rfl ?_
        refine WP.iloadN K d17_40 rfl (pc' := 41) rfl ?_
        refine WP.iconst K d17_41 (v := (1 : Int32)) rfl (pc' := 42) rfl ?_
        refine WP.iadd K d17_42 (pc' := 43) rfl ?_
        by_cases c2 : (F (4 * s)) = (key + (1 : Int32))
        · refine WP.icmpT K d17_43 (teq c2).1 (by decide) (pc' := 55) (by decide) ?_
          refine WP.iloadN K d17_55 rfl (pc' := 56) rfl ?_
          rw [own_fnd, if_pos (Or.inr c2)] at hr
          exact WP.retI K d17_56 (by decide) (by decide) ⟨⟨x, rfl, by rw [← hr]; exact hx⟩, rfl⟩
        · refine WP.icmpF K d17_43 (feq c2).1 (pc' := 46) rfl ?_
          refine WP.iloadN K d17_46 rfl (pc' := 47) rfl ?_
          refine WP.iconst K d17_47 (v := (1 : Int32)) rfl (pc' := 48) rfl ?_
          refine WP.iadd K d17_48 (pc' := 49) rfl ?_
          refine WP.iloadN K d17_49 rfl (pc' := 50) rfl ?_
          refine WP.iand K d17_50 (pc' := 51) rfl ?_
          refine WP.istoreN K d17_51 (L' := #[.val (.ref mp), .val (.int key), .val (.int (7 : Int32)), .val (.int ((x + (1 : Int32)) &&& (7 : Int32)))]) rfl (pc' := 52) rfl ?_
          refine WP.goto K d17_52 (by decide) (pc' := 15) (by decide) ?_
          rw [own_fnd, if_neg (fun z => z.elim c1 c2)] at hr
          exact ih ((s + 1) % 8) _ (own_and7 (own_add2 hx (y := (1 : Int32)) (k := 1) rfl (by omega)) (by omega)) (by omega) hr
  exact LOOP 8 (own_home key) _ hh hh8 rfl
set_option maxRecDepth 65536 in
set_option maxHeartbeats 40000000 in
theorem rm_range (w : Bool) (l : Launch) (Z : State) (a0 : Array Value) (hw : ∀ d ∈ tables_1, d.before a0 Z = true) (n i t : Int32) (h0 : Heap) (n0 : Nat) (Z0 : n0 ≤ h0.size) (q1 : ¬ t < i) (q2 : ¬ i < (0 : Int32)) (q3 : ¬ n < t) :
    Met w l Z (⟨"java/util/Arrays", "rangeCheck", "(III)V"⟩ : MethodName) jdk_65_method_30_code 3 none [] ({ frames := 0, cells := 0, slots := 0, locals := 0 } : Room) #[(.int n), (.int i), (.int t)] h0 n0 (fun v h => v = none ∧ h0 = h) := by
  refine Met.of (plainFor_of_name (by first | (simp [plainName, overriddenIn]; done) | decide +kernel)) fun κ K => ?_
  refine WP.frame (g' := (mkF κ.m 0 #[.val (.int n), .val (.int i), .val (.int t)] [])) (by first | (simp [entryFrame, mkF, argsToLocals, Value.category]; done) | rfl) ?_
  refine WP.iloadN K d16_0 rfl (pc' := 1) rfl ?_
  refine WP.iloadN K d16_1 rfl (pc' := 2) rfl ?_
  refine WP.icmpT K d16_2 (flt q1).2.2.2 (by decide) (pc' := 46) (by decide) ?_
  refine WP.iloadN K d16_46 rfl (pc' := 47) rfl ?_
  refine WP.if0T K d16_47 ((if0 _ _).trans (flt q2).2.1) (by decide) (pc' := 59) (by decide) ?_
  refine WP.iloadN K d16_59 rfl (pc' := 60) rfl ?_
  refine WP.iloadN K d16_60 rfl (pc' := 61) rfl ?_
  refine WP.icmpT K d16_61 (flt q3).2.2.2 (by decide) (pc' := 73) (by decide) ?_
  exact WP.ret0 K d16_73 (by decide) (by decide) ⟨rfl, rfl⟩
set_option maxRecDepth 65536 in
set_option maxHeartbeats 40000000 in
theorem rm_fill4 (w : Bool) (l : Launch) (Z : State) (a0 : Array Value) (hw : ∀ d ∈ tables_1, d.before a0 Z = true) (a : Addr) (kA : ClassId) (N i t : Nat) (F : Nat → Int32) (x y z : Int32) (h0 : Heap) (n0 : Nat) (Z0 : n0 ≤ h0.size) (A_a : Ary Z h0 a kA .int N (fun j => .int (F j))) (old_a : n0 ≤ a) (hx : x.toInt = (i : Int)) (hy : y.toInt = (t : Int)) (hit : i ≤ t) (htN : t ≤ N) :
    Met w l Z (⟨"java/util/Arrays", "fill", "([IIII)V"⟩ : MethodName) jdk_65_method_104_code 5 none [] ({ frames := 1, cells := 0, slots := 0, locals := 14 } : Room) #[(.ref a), (.int x), (.int y), (.int z)] h0 n0 (fun v h => v = none ∧ Keep h0 h [a] ∧ Ary Z h a kA .int N (fun j => .int (own_fill F i t z j))) := by
  refine Met.of (plainFor_of_name (by first | (simp [plainName, overriddenIn]; done) | decide +kernel)) fun κ K => ?_
  refine WP.frame (g' := (mkF κ.m 0 #[.val (.ref a), .val (.int x), .val (.int y), .val (.int z), .unset] [])) (by first | (simp [entryFrame, mkF, argsToLocals, Value.category]; done) | rfl) ?_
  have KP := Keep.refl h0 [a]
  refine WP.aloadN K d15_0 rfl rfl (pc' := 1) rfl ?_
  refine WP.arraylength K A_a d15_1 (pc' := 2) rfl ?_
  refine WP.iloadN K d15_2 rfl (pc' := 3) rfl ?_
  refine WP.iloadN K d15_3 rfl (pc' := 4) rfl ?_
  have hN := A_a.len
  have eN : (Int32.ofNat N).toInt = (N : Int) := Int32.toInt_ofNat_small hN
  refine WP.callS K (argsL := [(.int (Int32.ofNat N)), (.int x), (.int y)]) (S := []) (w_87 hw) (w_88 hw) (rm_range w l Z a0 hw (Int32.ofNat N) x y h0 n0 Z0 (by rw [Int32.lt_iff_toInt_lt]; omega) (by rw [Int32.lt_iff_toInt_lt, hx]; show ¬ (i : Int) < 0; omega) (by rw [Int32.lt_iff_toInt_lt]; omega)) (w_89 hw) (w_49 hw) (by decide) rfl (lenOf pd_2 rfl) rfl (W := 0) rfl (by decide) (by decide) (k' := 0) (n' := 0) rfl rfl (by decide) (by decide) d15_4 (pc' := 7) rfl fun v h12 hq => ?_
  obtain ⟨rfl, rfl⟩ := hq
  show WP κ h0 0 0 (mkF κ.m 7 #[.val (.ref a), .val (.int x), .val (.int y), .val (.int z), .unset] [])
  refine WP.iloadN K d15_7 rfl (pc' := 8) rfl ?_
  refine WP.istore K d15_8 (L' := #[.val (.ref a), .val (.int x), .val (.int y), .val (.int z), .val (.int x)]) rfl (pc' := 10) rfl ?_
  have LOOP : ∀ (d k : Nat) (c : Int32) (h : Heap), k + d = t → i ≤ k → c.toInt = (k : Int) → Ary Z h a kA .int N (fun j => .int (own_fill F i k z j)) → Keep h0 h [a] → n0 ≤ h.size → WP κ h 0 0 (mkF κ.m 10 #[.val (.ref a), .val (.int x), .val (.int y), .val (.int z), .val (.int c)] []) := by
    intro d
    induction d with
    | zero =>
      intro k c h hkd hlk hc A_a KP Z0
      have e : t = k := by omega
      subst e
      refine WP.iload K d15_10 rfl (pc' := 12) rfl ?_
      refine WP.iloadN K d15_12 rfl (pc' := 13) rfl ?_
      have q : ¬ (c < y) := by rw [Int32.lt_iff_toInt_lt]; omega
      refine WP.icmpT K d15_13 (flt q).2.1 (by decide) (pc' := 27) (by decide) ?_
      exact WP.ret0 K d15_27 (by decide) (by decide) ⟨rfl, KP, A_a⟩
    | succ d ih =>
      intro k c h hkd hlk hc A_a KP Z0
      refine WP.iload K d15_10 rfl (pc' := 12) rfl ?_
      refine WP.iloadN K d15_12 rfl (pc' := 13) rfl ?_
      have q : c < y := by rw [Int32.lt_iff_toInt_lt]; omega
      refine WP.icmpF K d15_13 (tlt q).2.1 (pc' := 16) rfl ?_
      refine WP.aloadN K d15_16 rfl rfl (pc' := 17) rfl ?_
      refine WP.iload K d15_17 rfl (pc' := 19) rfl ?_
      refine WP.iloadN K d15_19 rfl (pc' := 20) rfl ?_
      refine WP.iastore K (i := k) A_a hc (by omega) old_a d15_20 (pc' := 21) rfl fun h13 W13 A_n => ?_
      have KP := Keep.wr KP W13 (Or.inl (List.mem_of_getElem? (i := 0) rfl))
      have Z0 := Nat.le_trans Z0 (Nat.le_of_eq W13.size.symm)
      have A_a := A_n
      rw [upd_int] at A_a
      refine WP.iinc K d15_21 (v := (1 : Int32)) rfl rfl (L' := #[.val (.ref a), .val (.int x), .val (.int y), .val (.int z), .val (.int (c + (1 : Int32)))]) rfl (pc' := 24) rfl ?_
      refine WP.goto K d15_24 (by decide) (pc' := 10) (by decide) ?_
      exact ih (k + 1) _ _ (by omega) (by omega) (own_add2 hc (y := (1 : Int32)) (k := 1) rfl (by omega)) (by rw [← own_fill_step hlk]; exact A_a) KP Z0
  exact LOOP (t - i) i x h0 (by omega) (by omega) hx (by rw [own_fill_0]; exact A_a) KP Z0
set_option maxRecDepth 65536 in
set_option maxHeartbeats 40000000 in
theorem rm_fill2 (w : Bool) (l : Launch) (Z : State) (a0 : Array Value) (hw : ∀ d ∈ tables_1, d.before a0 Z = true) (a : Addr) (kA : ClassId) (N : Nat) (F : Nat → Int32) (z : Int32) (h0 : Heap) (n0 : Nat) (Z0 : n0 ≤ h0.size) (A_a : Ary Z h0 a kA .int N (fun j => .int (F j))) (old_a : n0 ≤ a) :
    Met w l Z (⟨"java/util/Arrays", "fill", "([II)V"⟩ : MethodName) jdk_65_method_103_code 4 none [] ({ frames := 0, cells := 0, slots := 0, locals := 0 } : Room) #[(.ref a), (.int z)] h0 n0 (fun v h => v = none ∧ Keep h0 h [a] ∧ Ary Z h a kA .int N (fun j => .int (own_fill F 0 N z j))) := by
  refine Met.of (plainFor_of_name (by first | (simp [plainName, overriddenIn]; done) | decide +kernel)) fun κ K => ?_
  refine WP.frame (g' := (mkF κ.m 0 #[.val (.ref a), .val (.int z), .unset, .unset] [])) (by first | (simp [entryFrame, mkF, argsToLocals, Value.category]; done) | rfl) ?_
  have KP := Keep.refl h0 [a]
  have hN := A_a.len
  have eN : (Int32.ofNat N).toInt = (N : Int) := Int32.toInt_ofNat_small hN
  refine WP.iconst K d7_0 (v := (0 : Int32)) rfl (pc' := 1) rfl ?_
  refine WP.istoreN K d7_1 (L' := #[.val (.ref a), .val (.int z), .val (.int (0 : Int32)), .unset]) rfl (pc' := 2) rfl ?_
  refine WP.aloadN K d7_2 rfl rfl (pc' := 3) rfl ?_
  refine WP.arraylength K A_a d7_3 (pc' := 4) rfl ?_
  refine WP.istoreN K d7_4 (L' := #[.val (.ref a), .val (.int z), .val (.int (0 : Int32)), .val (.int (Int32.ofNat N))]) rfl (pc' := 5) rfl ?_
  have LOOP : ∀ (d k : Nat) (c : Int32) (h : Heap), k + d = N → 0 ≤ k → c.toInt = (k : Int) → Ary Z h a kA .int N (fun j => .int (own_fill F 0 k z j)) → Keep h0 h [a] → n0 ≤ h.size → WP κ h 0 0 (mkF κ.m 5 #[.val (.ref a), .val (.int z), .val (.int c), .val (.int (Int32.ofNat N))] []) := by
    intro d
    induction d with
    | zero =>
      intro k c h hkd hlk hc A_a KP Z0
      have e : N = k := by omega
      subst e
      refine WP.iloadN K d7_5 rfl (pc' := 6) rfl ?_
      refine WP.iloadN K d7_6 rfl (pc' := 7) rfl ?_
      have q : ¬ (c < (Int32.ofNat N)) := by rw [Int32.lt_iff_toInt_lt]; omega
      refine WP.icmpT K d7_7 (flt q).2.1 (by decide) (pc' := 20) (by decide) ?_
      exact WP.ret0 K d7_20 (by decide) (by decide) ⟨rfl, KP, A_a⟩
    | succ d ih =>
      intro k c h hkd hlk hc A_a KP Z0
      refine WP.iloadN K d7_5 rfl (pc' := 6) rfl ?_
      refine WP.iloadN K d7_6 rfl (pc' := 7) rfl ?_
      have q : c < (Int32.ofNat N) := by rw [Int32.lt_iff_toInt_lt]; omega
      refine WP.icmpF K d7_7 (tlt q).2.1 (pc' := 10) rfl ?_
      refine WP.aloadN K d7_10 rfl rfl (pc' := 11) rfl ?_
      refine WP.iloadN K d7_11 rfl (pc' := 12) rfl ?_
      refine WP.iloadN K d7_12 rfl (pc' := 13) rfl ?_
      refine WP.iastore K (i := k) A_a hc (by omega) old_a d7_13 (pc' := 14) rfl fun h14 W14 A_n => ?_
      have KP := Keep.wr KP W14 (Or.inl (List.mem_of_getElem? (i := 0) rfl))
      have Z0 := Nat.le_trans Z0 (Nat.le_of_eq W14.size.symm)
      have A_a := A_n
      rw [upd_int] at A_a
      refine WP.iinc K d7_14 (v := (1 : Int32)) rfl rfl (L' := #[.val (.ref a), .val (.int z), .val (.int (c + (1 : Int32))), .val (.int (Int32.ofNat N))]) rfl (pc' := 17) rfl ?_
      refine WP.goto K d7_17 (by decide) (pc' := 5) (by decide) ?_
      exact ih (k + 1) _ _ (by omega) (by omega) (own_add2 hc (y := (1 : Int32)) (k := 1) rfl (by omega)) (by rw [← own_fill_step hlk]; exact A_a) KP Z0
  exact LOOP N 0 (0 : Int32) h0 (by omega) (by omega) rfl (by rw [own_fill_0]; exact A_a) KP Z0
set_option maxRecDepth 65536 in
set_option maxHeartbeats 40000000 in
theorem rm_addT0 (w : Bool) (l : Launch) (Z : State) (a0 : Array Value) (hw : ∀ d ∈ tables_1, d.before a0 Z = true) (F : Nat → Int32) (mp en : Addr) (kE : ClassId) (key first g : Int32) (u_keys : Value) (h0 : Heap) (n0 : Nat) (Z0 : n0 ≤ h0.size) (O_mp : IsMap Z h0 mp (.int (3 : Int32)) (.int (4 : Int32)) (.ref en) (.int (8 : Int32)) .null (.int g) .null (.int (0 : Int32)) u_keys) (A_en : Ary Z h0 en kE .int 32 (fun j => .int (F j))) (old_mp : n0 ≤ mp) (old_en : n0 ≤ en) (hthr : (2 : Int32) < (own_max key g + (1 : Int32))) (hstop : F (4 * own_fnd F (key + (1 : Int32)) 8 (own_home key)) = (0 : Int32) ∨ F (4 * own_fnd F (key + (1 : Int32)) 8 (own_home key)) = key + (1 : Int32)) :
    Met w l Z (⟨"com/example/weir/weir/engine/IntIntMap", "add", "(II)I"⟩ : MethodName) prog_26_method_8_code 5 (some .int) [] ({ frames := 2, cells := 0, slots := 0, locals := 30 } : Room) #[(.ref mp), (.int key), (.int first)] h0 n0 (fun v h => (∃ z : Int32, v = some (.int z) ∧ z.toInt = ((own_fnd F (key + (1 : Int32)) 8 (own_home key) : Nat) : Int)) ∧ Keep h0 h [mp, en] ∧ IsMap Z h mp (.int (3 : Int32)) (.int (4 : Int32)) (.ref en) (.int (8 : Int32)) .null (.int (own_max g key)) .null (.int (1 : Int32)) u_keys ∧ Ary Z h en kE .int 32 (fun j => .int ((own_fill (fset (fset F (4 * own_fnd F (key + (1 : Int32)) 8 (own_home key)) (key + (1 : Int32))) (4 * own_fnd F (key + (1 : Int32)) 8 (own_home key) + 1) first) (4 * own_fnd F (key + (1 : Int32)) 8 (own_home key) + 2) (4 * own_fnd F (key + (1 : Int32)) 8 (own_home key) + 4) (-1)) j))) := by
  refine Met.of (plainFor_of_name (by first | (simp [plainName, overriddenIn]; done) | decide +kernel)) fun κ K => ?_
  refine WP.frame (g' := (mkF κ.m 0 #[.val (.ref mp), .val (.int key), .val (.int first), .unset, .unset] [])) (by first | (simp [entryFrame, mkF, argsToLocals, Value.category]; done) | rfl) ?_
  have KP := Keep.refl h0 [mp, en]
  refine WP.aloadN K d4_0 rfl rfl (pc' := 1) rfl ?_
  refine WP.getF K (w_33 hw) Via.refl (IsMap.f_values O_mp) d4_1 (pc' := 4) rfl ?_
  refine WP.ifnullT K (b := 0) d4_4 (by decide) (pc' := 36) (by decide) ?_
  refine WP.aloadN K d4_36 rfl rfl (pc' := 37) rfl ?_
  refine WP.getF K (w_33 hw) Via.refl (IsMap.f_values O_mp) d4_37 (pc' := 40) rfl ?_
  refine WP.ifnonnullF K (b := 0) d4_40 (pc' := 43) rfl ?_
  refine WP.iconst K d4_43 (v := (2 : Int32)) rfl (pc' := 44) rfl ?_
  refine WP.aloadN K d4_44 rfl rfl (pc' := 45) rfl ?_
  refine WP.getF K (w_35 hw) Via.refl (IsMap.f_size O_mp) d4_45 (pc' := 48) rfl ?_
  refine WP.iconst K d4_48 (v := (1 : Int32)) rfl (pc' := 49) rfl ?_
  refine WP.iadd K d4_49 (pc' := 50) rfl ?_
  show WP κ h0 0 0 (mkF κ.m 50 #[.val (.ref mp), .val (.int key), .val (.int first), .unset, .unset] [(.int (1 : Int32)), (.int (2 : Int32))])
  refine WP.imul K d4_50 (pc' := 51) rfl ?_
  show WP κ h0 0 0 (mkF κ.m 51 #[.val (.ref mp), .val (.int key), .val (.int first), .unset, .unset] [(.int (2 : Int32))])
  refine WP.iloadN K d4_51 rfl (pc' := 52) rfl ?_
  refine WP.aloadN K d4_52 rfl rfl (pc' := 53) rfl ?_
  refine WP.getF K (w_26 hw) Via.refl (IsMap.f_greatestKey O_mp) d4_53 (pc' := 56) rfl ?_
  refine WP.callS K (argsL := [(.int key), (.int g)]) (S := [(.int (2 : Int32))]) (w_37 hw) (w_38 hw) (rm_max w l Z a0 hw key g h0 n0 Z0) (w_40 hw) (w_39 hw) (by decide) rfl (lenOf pd_3 rfl) rfl (W := 1) rfl (by decide) (by decide) (k' := 0) (n' := 0) rfl rfl (by decide) (by decide) d4_56 (pc' := 59) rfl fun v h15 hq => ?_
  obtain ⟨rfl, rfl⟩ := hq
  show WP κ h0 0 0 (mkF κ.m 59 #[.val (.ref mp), .val (.int key), .val (.int first), .unset, .unset] [(.int (own_max key g)), (.int (2 : Int32))])
  refine WP.iconst K d4_59 (v := (1 : Int32)) rfl (pc' := 60) rfl ?_
  refine WP.iadd K d4_60 (pc' := 61) rfl ?_
  refine WP.icmpT K d4_61 (tlt hthr).1 (by decide) (pc' := 78) (by decide) ?_
  refine WP.aloadN K d4_78 rfl rfl (pc' := 79) rfl ?_
  refine WP.dup K d4_79 rfl (pc' := 80) rfl ?_
  refine WP.getF K (w_35 hw) Via.refl (IsMap.f_size O_mp) d4_80 (pc' := 83) rfl ?_
  refine WP.iconst K d4_83 (v := (1 : Int32)) rfl (pc' := 84) rfl ?_
  refine WP.iadd K d4_84 (pc' := 85) rfl ?_
  show WP κ h0 0 0 (mkF κ.m 85 #[.val (.ref mp), .val (.int key), .val (.int first), .unset, .unset] [(.int (1 : Int32)), (.ref mp)])
  refine WP.putF K (w_35 hw) Via.refl (IsMap.f_size O_mp) (IsMap.exa O_mp) (Or.inl (w_36 hw)) (w_3 hw) (ty := .int) (by decide) rfl rfl old_mp d4_85 (pc' := 88) rfl fun h16 W16 => ?_
  have A_en := Ary.other W16 A_en (Ne.symm (Ary.ne (IsMap.exa O_mp) A_en (w_3 hw)))
  have KP := Keep.wr KP W16 (Or.inl (List.mem_of_getElem? (i := 0) rfl))
  have Z0 := Nat.le_trans Z0 (Nat.le_of_eq W16.size.symm)
  have O_mp := IsMap.s_size hw W16 O_mp
  refine WP.aloadN K d4_88 rfl rfl (pc' := 89) rfl ?_
  refine WP.getF K (w_33 hw) Via.refl (IsMap.f_values O_mp) d4_89 (pc' := 92) rfl ?_
  refine WP.ifnullT K (b := 0) d4_92 (by decide) (pc' := 138) (by decide) ?_
  refine WP.iconst K d4_138 (v := (2 : Int32)) rfl (pc' := 139) rfl ?_
  refine WP.aloadN K d4_139 rfl rfl (pc' := 140) rfl ?_
  refine WP.getF K (w_35 hw) Via.refl (IsMap.f_size O_mp) d4_140 (pc' := 143) rfl ?_
  refine WP.imul K d4_143 (pc' := 144) rfl ?_
  show WP κ h16 0 0 (mkF κ.m 144 #[.val (.ref mp), .val (.int key), .val (.int first), .unset, .unset] [(.int (2 : Int32))])
  refine WP.aloadN K d4_144 rfl rfl (pc' := 145) rfl ?_
  refine WP.getF K (w_22 hw) Via.refl (IsMap.f_slots O_mp) d4_145 (pc' := 148) rfl ?_
  refine WP.icmpT K d4_148 (by decide) (by decide) (pc' := 161) (by decide) ?_
  refine WP.aloadN K d4_161 rfl rfl (pc' := 162) rfl ?_
  refine WP.iloadN K d4_162 rfl (pc' := 163) rfl ?_
  refine WP.callP K (a := mp) (argsL := [(.int key)]) (S := []) (w_91 hw) (w_92 hw) (w_3 hw) (w_93 hw) (IsMap.exa O_mp) (rm_find w l Z a0 hw F mp en kE key _ _ _ _ _ h16 n0 Z0 O_mp A_en hstop) (w_94 hw) (w_4 hw) (by decide) rfl (lenOf pd_4 rfl) rfl (W := 0) rfl (by decide) (by decide) (k' := 0) (n' := 0) rfl rfl (by decide) (by decide) d4_163 (pc' := 166) rfl fun v h17 hq => ?_
  obtain ⟨⟨z, rfl, hz⟩, rfl⟩ := hq
  show WP κ h16 0 0 (mkF κ.m 166 #[.val (.ref mp), .val (.int key), .val (.int first), .unset, .unset] [(.int z)])
  have h8 : own_fnd F (key + (1 : Int32)) 8 (own_home key) < 8 := own_fnd_lt F _ 8 _ (own_home_e key).2
  generalize hr : own_fnd F (key + (1 : Int32)) 8 (own_home key) = r at hz h8 hstop ⊢
  have m4 := own_mul4 (y := (4 : Int32)) (c := 4) rfl hz (by omega)
  have m41 := own_add2 m4 (y := (1 : Int32)) (k := 1) rfl (by omega)
  have m42 := own_add2 m4 (y := (2 : Int32)) (k := 2) rfl (by omega)
  have m44 := own_add2 m4 (y := (4 : Int32)) (k := 4) rfl (by omega)
  refine WP.istoreN K d4_166 (L' := #[.val (.ref mp), .val (.int key), .val (.int first), .val (.int z), .unset]) rfl (pc' := 167) rfl ?_
  refine WP.aloadN K d4_167 rfl rfl (pc' := 168) rfl ?_
  refine WP.getF K (w_13 hw) Via.refl (IsMap.f_stride O_mp) d4_168 (pc' := 171) rfl ?_
  refine WP.iloadN K d4_171 rfl (pc' := 172) rfl ?_
  refine WP.imul K d4_172 (pc' := 173) rfl ?_
  refine WP.istore K d4_173 (L' := #[.val (.ref mp), .val (.int key), .val (.int first), .val (.int z), .val (.int ((4 : Int32) * z))]) rfl (pc' := 175) rfl ?_
  refine WP.aloadN K d4_175 rfl rfl (pc' := 176) rfl ?_
  refine WP.getF K (w_20 hw) Via.refl (IsMap.f_entries O_mp) d4_176 (pc' := 179) rfl ?_
  refine WP.iload K d4_179 rfl (pc' := 181) rfl ?_
  refine WP.iloadN K d4_181 rfl (pc' := 182) rfl ?_
  refine WP.iconst K d4_182 (v := (1 : Int32)) rfl (pc' := 183) rfl ?_
  refine WP.iadd K d4_183 (pc' := 184) rfl ?_
  refine WP.iastore K (i := (4 * r)) A_en m4 (by omega) old_en d4_184 (pc' := 185) rfl fun h18 W18 A_n => ?_
  have O_mp := IsMap.other W18 O_mp (Ary.ne (IsMap.exa O_mp) A_en (w_3 hw))
  have KP := Keep.wr KP W18 (Or.inl (List.mem_of_getElem? (i := 1) rfl))
  have Z0 := Nat.le_trans Z0 (Nat.le_of_eq W18.size.symm)
  have A_en := A_n
  rw [upd_int] at A_en
  refine WP.aloadN K d4_185 rfl rfl (pc' := 186) rfl ?_
  refine WP.getF K (w_20 hw) Via.refl (IsMap.f_entries O_mp) d4_186 (pc' := 189) rfl ?_
  refine WP.iload K d4_189 rfl (pc' := 191) rfl ?_
  refine WP.iconst K d4_191 (v := (1 : Int32)) rfl (pc' := 192) rfl ?_
  refine WP.iadd K d4_192 (pc' := 193) rfl ?_
  refine WP.iloadN K d4_193 rfl (pc' := 194) rfl ?_
  refine WP.iastore K (i := (4 * r + 1)) A_en m41 (by omega) old_en d4_194 (pc' := 195) rfl fun h19 W19 A_n => ?_
  have O_mp := IsMap.other W19 O_mp (Ary.ne (IsMap.exa O_mp) A_en (w_3 hw))
  have KP := Keep.wr KP W19 (Or.inl (List.mem_of_getElem? (i := 1) rfl))
  have Z0 := Nat.le_trans Z0 (Nat.le_of_eq W19.size.symm)
  have A_en := A_n
  rw [upd_int] at A_en
  refine WP.aloadN K d4_195 rfl rfl (pc' := 196) rfl ?_
  refine WP.getF K (w_20 hw) Via.refl (IsMap.f_entries O_mp) d4_196 (pc' := 199) rfl ?_
  refine WP.iload K d4_199 rfl (pc' := 201) rfl ?_
  refine WP.iconst K d4_201 (v := (2 : Int32)) rfl (pc' := 202) rfl ?_
  refine WP.iadd K d4_202 (pc' := 203) rfl ?_
  refine WP.iload K d4_203 rfl (pc' := 205) rfl ?_
  refine WP.aloadN K d4_205 rfl rfl (pc' := 206) rfl ?_
  refine WP.getF K (w_13 hw) Via.refl (IsMap.f_stride O_mp) d4_206 (pc' := 209) rfl ?_
  refine WP.iadd K d4_209 (pc' := 210) rfl ?_
  refine WP.iconst K d4_210 (v := (-1 : Int32)) rfl (pc' := 211) rfl ?_
  have nq_mp_en : mp ≠ en := (Ary.ne (IsMap.exa O_mp) A_en (w_3 hw))
  refine WP.callS K (argsL := [(.ref en), (.int (((4 : Int32) * z) + (2 : Int32))), (.int (((4 : Int32) * z) + (4 : Int32))), (.int (-1 : Int32))]) (S := []) (w_84 hw) (w_85 hw) (rm_fill4 w l Z a0 hw en kE 32 (4 * r + 2) (4 * r + 4) (fset (fset F (4 * r) (key + (1 : Int32))) (4 * r + 1) first) _ _ (-1) h19 n0 Z0 A_en old_en m42 m44 (by omega) (by omega)) (w_86 hw) (w_49 hw) (by decide) rfl (lenOf pd_5 rfl) rfl (W := 0) rfl (by decide) (by decide) (k' := 0) (n' := 0) rfl rfl (by decide) (by decide) d4_211 (pc' := 214) rfl fun v h20 hq => ?_
  obtain ⟨rfl, K1, A_en⟩ := hq
  have O_mp := IsMap.keep K1 O_mp (ninS nq_mp_en nin0)
  have KP := Keep.trans KP K1 (allS (Or.inl (List.mem_of_getElem? (i := 1) rfl)) all0)
  have Z0 := Nat.le_trans Z0 K1.1
  show WP κ h20 0 0 (mkF κ.m 214 #[.val (.ref mp), .val (.int key), .val (.int first), .val (.int z), .val (.int ((4 : Int32) * z))] [])
  refine WP.aloadN K d4_214 rfl rfl (pc' := 215) rfl ?_
  refine WP.aloadN K d4_215 rfl rfl (pc' := 216) rfl ?_
  refine WP.getF K (w_26 hw) Via.refl (IsMap.f_greatestKey O_mp) d4_216 (pc' := 219) rfl ?_
  refine WP.iloadN K d4_219 rfl (pc' := 220) rfl ?_
  refine WP.callS K (argsL := [(.int g), (.int key)]) (S := [(.ref mp)]) (w_37 hw) (w_38 hw) (rm_max w l Z a0 hw g key h20 n0 Z0) (w_40 hw) (w_39 hw) (by decide) rfl (lenOf pd_3 rfl) rfl (W := 1) rfl (by decide) (by decide) (k' := 0) (n' := 0) rfl rfl (by decide) (by decide) d4_220 (pc' := 223) rfl fun v h21 hq => ?_
  obtain ⟨rfl, rfl⟩ := hq
  show WP κ h20 0 0 (mkF κ.m 223 #[.val (.ref mp), .val (.int key), .val (.int first), .val (.int z), .val (.int ((4 : Int32) * z))] [(.int (own_max g key)), (.ref mp)])
  refine WP.putF K (w_26 hw) Via.refl (IsMap.f_greatestKey O_mp) (IsMap.exa O_mp) (Or.inl (w_27 hw)) (w_3 hw) (ty := .int) (by decide) rfl rfl old_mp d4_223 (pc' := 226) rfl fun h22 W22 => ?_
  have A_en := Ary.other W22 A_en (Ne.symm nq_mp_en)
  have KP := Keep.wr KP W22 (Or.inl (List.mem_of_getElem? (i := 0) rfl))
  have Z0 := Nat.le_trans Z0 (Nat.le_of_eq W22.size.symm)
  have O_mp := IsMap.s_greatestKey hw W22 O_mp
  refine WP.iloadN K d4_226 rfl (pc' := 227) rfl ?_
  exact WP.retI K d4_227 (by decide) (by decide) ⟨⟨z, rfl, by rw [hr]; exact hz⟩, KP, O_mp, by rw [hr]; exact A_en⟩
set_option maxRecDepth 65536 in
set_option maxHeartbeats 40000000 in
theorem rm_addT1 (w : Bool) (l : Launch) (Z : State) (a0 : Array Value) (hw : ∀ d ∈ tables_1, d.before a0 Z = true) (F : Nat → Int32) (mp en : Addr) (kE : ClassId) (key first g : Int32) (u_keys : Value) (h0 : Heap) (n0 : Nat) (Z0 : n0 ≤ h0.size) (O_mp : IsMap Z h0 mp (.int (3 : Int32)) (.int (4 : Int32)) (.ref en) (.int (8 : Int32)) .null (.int g) .null (.int (1 : Int32)) u_keys) (A_en : Ary Z h0 en kE .int 32 (fun j => .int (F j))) (old_mp : n0 ≤ mp) (old_en : n0 ≤ en) (hthr : (4 : Int32) < (own_max key g + (1 : Int32))) (hstop : F (4 * own_fnd F (key + (1 : Int32)) 8 (own_home key)) = (0 : Int32) ∨ F (4 * own_fnd F (key + (1 : Int32)) 8 (own_home key)) = key + (1 : Int32)) :
    Met w l Z (⟨"com/example/weir/weir/engine/IntIntMap", "add", "(II)I"⟩ : MethodName) prog_26_method_8_code 5 (some .int) [] ({ frames := 2, cells := 0, slots := 0, locals := 30 } : Room) #[(.ref mp), (.int key), (.int first)] h0 n0 (fun v h => (∃ z : Int32, v = some (.int z) ∧ z.toInt = ((own_fnd F (key + (1 : Int32)) 8 (own_home key) : Nat) : Int)) ∧ Keep h0 h [mp, en] ∧ IsMap Z h mp (.int (3 : Int32)) (.int (4 : Int32)) (.ref en) (.int (8 : Int32)) .null (.int (own_max g key)) .null (.int (2 : Int32)) u_keys ∧ Ary Z h en kE .int 32 (fun j => .int ((own_fill (fset (fset F (4 * own_fnd F (key + (1 : Int32)) 8 (own_home key)) (key + (1 : Int32))) (4 * own_fnd F (key + (1 : Int32)) 8 (own_home key) + 1) first) (4 * own_fnd F (key + (1 : Int32)) 8 (own_home key) + 2) (4 * own_fnd F (key + (1 : Int32)) 8 (own_home key) + 4) (-1)) j))) := by
  refine Met.of (plainFor_of_name (by first | (simp [plainName, overriddenIn]; done) | decide +kernel)) fun κ K => ?_
  refine WP.frame (g' := (mkF κ.m 0 #[.val (.ref mp), .val (.int key), .val (.int first), .unset, .unset] [])) (by first | (simp [entryFrame, mkF, argsToLocals, Value.category]; done) | rfl) ?_
  have KP := Keep.refl h0 [mp, en]
  refine WP.aloadN K d4_0 rfl rfl (pc' := 1) rfl ?_
  refine WP.getF K (w_33 hw) Via.refl (IsMap.f_values O_mp) d4_1 (pc' := 4) rfl ?_
  refine WP.ifnullT K (b := 0) d4_4 (by decide) (pc' := 36) (by decide) ?_
  refine WP.aloadN K d4_36 rfl rfl (pc' := 37) rfl ?_
  refine WP.getF K (w_33 hw) Via.refl (IsMap.f_values O_mp) d4_37 (pc' := 40) rfl ?_
  refine WP.ifnonnullF K (b := 0) d4_40 (pc' := 43) rfl ?_
  refine WP.iconst K d4_43 (v := (2 : Int32)) rfl (pc' := 44) rfl ?_
  refine WP.aloadN K d4_44 rfl rfl (pc' := 45) rfl ?_
  refine WP.getF K (w_35 hw) Via.refl (IsMap.f_size O_mp) d4_45 (pc' := 48) rfl ?_
  refine WP.iconst K d4_48 (v := (1 : Int32)) rfl (pc' := 49) rfl ?_
  refine WP.iadd K d4_49 (pc' := 50) rfl ?_
  show WP κ h0 0 0 (mkF κ.m 50 #[.val (.ref mp), .val (.int key), .val (.int first), .unset, .unset] [(.int (2 : Int32)), (.int (2 : Int32))])
  refine WP.imul K d4_50 (pc' := 51) rfl ?_
  show WP κ h0 0 0 (mkF κ.m 51 #[.val (.ref mp), .val (.int key), .val (.int first), .unset, .unset] [(.int (4 : Int32))])
  refine WP.iloadN K d4_51 rfl (pc' := 52) rfl ?_
  refine WP.aloadN K d4_52 rfl rfl (pc' := 53) rfl ?_
  refine WP.getF K (w_26 hw) Via.refl (IsMap.f_greatestKey O_mp) d4_53 (pc' := 56) rfl ?_
  refine WP.callS K (argsL := [(.int key), (.int g)]) (S := [(.int (4 : Int32))]) (w_37 hw) (w_38 hw) (rm_max w l Z a0 hw key g h0 n0 Z0) (w_40 hw) (w_39 hw) (by decide) rfl (lenOf pd_3 rfl) rfl (W := 1) rfl (by decide) (by decide) (k' := 0) (n' := 0) rfl rfl (by decide) (by decide) d4_56 (pc' := 59) rfl fun v h23 hq => ?_
  obtain ⟨rfl, rfl⟩ := hq
  show WP κ h0 0 0 (mkF κ.m 59 #[.val (.ref mp), .val (.int key), .val (.int first), .unset, .unset] [(.int (own_max key g)), (.int (4 : Int32))])
  refine WP.iconst K d4_59 (v := (1 : Int32)) rfl (pc' := 60) rfl ?_
  refine WP.iadd K d4_60 (pc' := 61) rfl ?_
  refine WP.icmpT K d4_61 (tlt hthr).1 (by decide) (pc' := 78) (by decide) ?_
  refine WP.aloadN K d4_78 rfl rfl (pc' := 79) rfl ?_
  refine WP.dup K d4_79 rfl (pc' := 80) rfl ?_
  refine WP.getF K (w_35 hw) Via.refl (IsMap.f_size O_mp) d4_80 (pc' := 83) rfl ?_
  refine WP.iconst K d4_83 (v := (1 : Int32)) rfl (pc' := 84) rfl ?_
  refine WP.iadd K d4_84 (pc' := 85) rfl ?_
  show WP κ h0 0 0 (mkF κ.m 85 #[.val (.ref mp), .val (.int key), .val (.int first), .unset, .unset] [(.int (2 : Int32)), (.ref mp)])
  refine WP.putF K (w_35 hw) Via.refl (IsMap.f_size O_mp) (IsMap.exa O_mp) (Or.inl (w_36 hw)) (w_3 hw) (ty := .int) (by decide) rfl rfl old_mp d4_85 (pc' := 88) rfl fun h24 W24 => ?_
  have A_en := Ary.other W24 A_en (Ne.symm (Ary.ne (IsMap.exa O_mp) A_en (w_3 hw)))
  have KP := Keep.wr KP W24 (Or.inl (List.mem_of_getElem? (i := 0) rfl))
  have Z0 := Nat.le_trans Z0 (Nat.le_of_eq W24.size.symm)
  have O_mp := IsMap.s_size hw W24 O_mp
  refine WP.aloadN K d4_88 rfl rfl (pc' := 89) rfl ?_
  refine WP.getF K (w_33 hw) Via.refl (IsMap.f_values O_mp) d4_89 (pc' := 92) rfl ?_
  refine WP.ifnullT K (b := 0) d4_92 (by decide) (pc' := 138) (by decide) ?_
  refine WP.iconst K d4_138 (v := (2 : Int32)) rfl (pc' := 139) rfl ?_
  refine WP.aloadN K d4_139 rfl rfl (pc' := 140) rfl ?_
  refine WP.getF K (w_35 hw) Via.refl (IsMap.f_size O_mp) d4_140 (pc' := 143) rfl ?_
  refine WP.imul K d4_143 (pc' := 144) rfl ?_
  show WP κ h24 0 0 (mkF κ.m 144 #[.val (.ref mp), .val (.int key), .val (.int first), .unset, .unset] [(.int (4 : Int32))])
  refine WP.aloadN K d4_144 rfl rfl (pc' := 145) rfl ?_
  refine WP.getF K (w_22 hw) Via.refl (IsMap.f_slots O_mp) d4_145 (pc' := 148) rfl ?_
  refine WP.icmpT K d4_148 (by decide) (by decide) (pc' := 161) (by decide) ?_
  refine WP.aloadN K d4_161 rfl rfl (pc' := 162) rfl ?_
  refine WP.iloadN K d4_162 rfl (pc' := 163) rfl ?_
  refine WP.callP K (a := mp) (argsL := [(.int key)]) (S := []) (w_91 hw) (w_92 hw) (w_3 hw) (w_93 hw) (IsMap.exa O_mp) (rm_find w l Z a0 hw F mp en kE key _ _ _ _ _ h24 n0 Z0 O_mp A_en hstop) (w_94 hw) (w_4 hw) (by decide) rfl (lenOf pd_4 rfl) rfl (W := 0) rfl (by decide) (by decide) (k' := 0) (n' := 0) rfl rfl (by decide) (by decide) d4_163 (pc' := 166) rfl fun v h25 hq => ?_
  obtain ⟨⟨z, rfl, hz⟩, rfl⟩ := hq
  show WP κ h24 0 0 (mkF κ.m 166 #[.val (.ref mp), .val (.int key), .val (.int first), .unset, .unset] [(.int z)])
  have h8 : own_fnd F (key + (1 : Int32)) 8 (own_home key) < 8 := own_fnd_lt F _ 8 _ (own_home_e key).2
  generalize hr : own_fnd F (key + (1 : Int32)) 8 (own_home key) = r at hz h8 hstop ⊢
  have m4 := own_mul4 (y := (4 : Int32)) (c := 4) rfl hz (by omega)
  have m41 := own_add2 m4 (y := (1 : Int32)) (k := 1) rfl (by omega)
  have m42 := own_add2 m4 (y := (2 : Int32)) (k := 2) rfl (by omega)
  have m44 := own_add2 m4 (y := (4 : Int32)) (k := 4) rfl (by omega)
  refine WP.istoreN K d4_166 (L' := #[.val (.ref mp), .val (.int key), .val (.int first), .val (.int z), .unset]) rfl (pc' := 167) rfl ?_
  refine WP.aloadN K d4_167 rfl rfl (pc' := 168) rfl ?_
  refine WP.getF K (w_13 hw) Via.refl (IsMap.f_stride O_mp) d4_168 (pc' := 171) rfl ?_
  refine WP.iloadN K d4_171 rfl (pc' := 172) rfl ?_
  refine WP.imul K d4_172 (pc' := 173) rfl ?_
  refine WP.istore K d4_173 (L' := #[.val (.ref mp), .val (.int key), .val (.int first), .val (.int z), .val (.int ((4 : Int32) * z))]) rfl (pc' := 175) rfl ?_
  refine WP.aloadN K d4_175 rfl rfl (pc' := 176) rfl ?_
  refine WP.getF K (w_20 hw) Via.refl (IsMap.f_entries O_mp) d4_176 (pc' := 179) rfl ?_
  refine WP.iload K d4_179 rfl (pc' := 181) rfl ?_
  refine WP.iloadN K d4_181 rfl (pc' := 182) rfl ?_
  refine WP.iconst K d4_182 (v := (1 : Int32)) rfl (pc' := 183) rfl ?_
  refine WP.iadd K d4_183 (pc' := 184) rfl ?_
  refine WP.iastore K (i := (4 * r)) A_en m4 (by omega) old_en d4_184 (pc' := 185) rfl fun h26 W26 A_n => ?_
  have O_mp := IsMap.other W26 O_mp (Ary.ne (IsMap.exa O_mp) A_en (w_3 hw))
  have KP := Keep.wr KP W26 (Or.inl (List.mem_of_getElem? (i := 1) rfl))
  have Z0 := Nat.le_trans Z0 (Nat.le_of_eq W26.size.symm)
  have A_en := A_n
  rw [upd_int] at A_en
  refine WP.aloadN K d4_185 rfl rfl (pc' := 186) rfl ?_
  refine WP.getF K (w_20 hw) Via.refl (IsMap.f_entries O_mp) d4_186 (pc' := 189) rfl ?_
  refine WP.iload K d4_189 rfl (pc' := 191) rfl ?_
  refine WP.iconst K d4_191 (v := (1 : Int32)) rfl (pc' := 192) rfl ?_
  refine WP.iadd K d4_192 (pc' := 193) rfl ?_
  refine WP.iloadN K d4_193 rfl (pc' := 194) rfl ?_
  refine WP.iastore K (i := (4 * r + 1)) A_en m41 (by omega) old_en d4_194 (pc' := 195) rfl fun h27 W27 A_n => ?_
  have O_mp := IsMap.other W27 O_mp (Ary.ne (IsMap.exa O_mp) A_en (w_3 hw))
  have KP := Keep.wr KP W27 (Or.inl (List.mem_of_getElem? (i := 1) rfl))
  have Z0 := Nat.le_trans Z0 (Nat.le_of_eq W27.size.symm)
  have A_en := A_n
  rw [upd_int] at A_en
  refine WP.aloadN K d4_195 rfl rfl (pc' := 196) rfl ?_
  refine WP.getF K (w_20 hw) Via.refl (IsMap.f_entries O_mp) d4_196 (pc' := 199) rfl ?_
  refine WP.iload K d4_199 rfl (pc' := 201) rfl ?_
  refine WP.iconst K d4_201 (v := (2 : Int32)) rfl (pc' := 202) rfl ?_
  refine WP.iadd K d4_202 (pc' := 203) rfl ?_
  refine WP.iload K d4_203 rfl (pc' := 205) rfl ?_
  refine WP.aloadN K d4_205 rfl rfl (pc' := 206) rfl ?_
  refine WP.getF K (w_13 hw) Via.refl (IsMap.f_stride O_mp) d4_206 (pc' := 209) rfl ?_
  refine WP.iadd K d4_209 (pc' := 210) rfl ?_
  refine WP.iconst K d4_210 (v := (-1 : Int32)) rfl (pc' := 211) rfl ?_
  have nq_mp_en : mp ≠ en := (Ary.ne (IsMap.exa O_mp) A_en (w_3 hw))
  refine WP.callS K (argsL := [(.ref en), (.int (((4 : Int32) * z) + (2 : Int32))), (.int (((4 : Int32) * z) + (4 : Int32))), (.int (-1 : Int32))]) (S := []) (w_84 hw) (w_85 hw) (rm_fill4 w l Z a0 hw en kE 32 (4 * r + 2) (4 * r + 4) (fset (fset F (4 * r) (key + (1 : Int32))) (4 * r + 1) first) _ _ (-1) h27 n0 Z0 A_en old_en m42 m44 (by omega) (by omega)) (w_86 hw) (w_49 hw) (by decide) rfl (lenOf pd_5 rfl) rfl (W := 0) rfl (by decide) (by decide) (k' := 0) (n' := 0) rfl rfl (by decide) (by decide) d4_211 (pc' := 214) rfl fun v h28 hq => ?_
  obtain ⟨rfl, K1, A_en⟩ := hq
  have O_mp := IsMap.keep K1 O_mp (ninS nq_mp_en nin0)
  have KP := Keep.trans KP K1 (allS (Or.inl (List.mem_of_getElem? (i := 1) rfl)) all0)
  have Z0 := Nat.le_trans Z0 K1.1
  show WP κ h28 0 0 (mkF κ.m 214 #[.val (.ref mp), .val (.int key), .val (.int first), .val (.int z), .val (.int ((4 : Int32) * z))] [])
  refine WP.aloadN K d4_214 rfl rfl (pc' := 215) rfl ?_
  refine WP.aloadN K d4_215 rfl rfl (pc' := 216) rfl ?_
  refine WP.getF K (w_26 hw) Via.refl (IsMap.f_greatestKey O_mp) d4_216 (pc' := 219) rfl ?_
  refine WP.iloadN K d4_219 rfl (pc' := 220) rfl ?_
  refine WP.callS K (argsL := [(.int g), (.int key)]) (S := [(.ref mp)]) (w_37 hw) (w_38 hw) (rm_max w l Z a0 hw g key h28 n0 Z0) (w_40 hw) (w_39 hw) (by decide) rfl (lenOf pd_3 rfl) rfl (W := 1) rfl (by decide) (by decide) (k' := 0) (n' := 0) rfl rfl (by decide) (by decide) d4_220 (pc' := 223) rfl fun v h29 hq => ?_
  obtain ⟨rfl, rfl⟩ := hq
  show WP κ h28 0 0 (mkF κ.m 223 #[.val (.ref mp), .val (.int key), .val (.int first), .val (.int z), .val (.int ((4 : Int32) * z))] [(.int (own_max g key)), (.ref mp)])
  refine WP.putF K (w_26 hw) Via.refl (IsMap.f_greatestKey O_mp) (IsMap.exa O_mp) (Or.inl (w_27 hw)) (w_3 hw) (ty := .int) (by decide) rfl rfl old_mp d4_223 (pc' := 226) rfl fun h30 W30 => ?_
  have A_en := Ary.other W30 A_en (Ne.symm nq_mp_en)
  have KP := Keep.wr KP W30 (Or.inl (List.mem_of_getElem? (i := 0) rfl))
  have Z0 := Nat.le_trans Z0 (Nat.le_of_eq W30.size.symm)
  have O_mp := IsMap.s_greatestKey hw W30 O_mp
  refine WP.iloadN K d4_226 rfl (pc' := 227) rfl ?_
  exact WP.retI K d4_227 (by decide) (by decide) ⟨⟨z, rfl, by rw [hr]; exact hz⟩, KP, O_mp, by rw [hr]; exact A_en⟩
set_option maxRecDepth 65536 in
set_option maxHeartbeats 40000000 in
theorem rm_valueT0 (w : Bool) (l : Launch) (Z : State) (a0 : Array Value) (hw : ∀ d ∈ tables_1, d.before a0 Z = true) (F : Nat → Int32) (mp en : Addr) (kA : ClassId) (x : Int32) (r : Nat) (u_slots u_objects u_greatestKey u_size u_keys : Value) (h0 : Heap) (n0 : Nat) (Z0 : n0 ≤ h0.size) (O_mp : IsMap Z h0 mp (.int (3 : Int32)) (.int (4 : Int32)) (.ref en) u_slots u_objects u_greatestKey .null u_size u_keys) (A_x : Ary Z h0 en kA .int 32 (fun j => .int (F j))) (hx : x.toInt = (r : Int)) (hr : 4 * r + 3 < 32) :
    Met w l Z (⟨"com/example/weir/weir/engine/IntIntMap", "value", "(II)I"⟩ : MethodName) prog_26_method_9_code 3 (some .int) [] ({ frames := 0, cells := 0, slots := 0, locals := 0 } : Room) #[(.ref mp), (.int x), (.int (0 : Int32))] h0 n0 (fun v h => v = some (.int (F (4 * r + 1))) ∧ h0 = h) := by
  refine Met.of (plainFor_of_name (by first | (simp [plainName, overriddenIn]; done) | decide +kernel)) fun κ K => ?_
  refine WP.frame (g' := (mkF κ.m 0 #[.val (.ref mp), .val (.int x), .val (.int (0 : Int32))] [])) (by first | (simp [entryFrame, mkF, argsToLocals, Value.category]; done) | rfl) ?_
  have m0 := own_mul4 (y := (4 : Int32)) (c := 4) rfl hx (by omega)
  have m1 := own_add2 m0 (y := (1 : Int32)) (k := 1) rfl (by omega)
  have mm := own_add2 m1 (y := (0 : Int32)) (k := 0) rfl (by omega)
  refine WP.aloadN K d11_0 rfl rfl (pc' := 1) rfl ?_
  refine WP.getF K (w_33 hw) Via.refl (IsMap.f_values O_mp) d11_1 (pc' := 4) rfl ?_
  refine WP.ifnullT K (b := 0) d11_4 (by decide) (pc' := 23) (by decide) ?_
  refine WP.aloadN K d11_23 rfl rfl (pc' := 24) rfl ?_
  refine WP.getF K (w_20 hw) Via.refl (IsMap.f_entries O_mp) d11_24 (pc' := 27) rfl ?_
  refine WP.aloadN K d11_27 rfl rfl (pc' := 28) rfl ?_
  refine WP.getF K (w_13 hw) Via.refl (IsMap.f_stride O_mp) d11_28 (pc' := 31) rfl ?_
  refine WP.iloadN K d11_31 rfl (pc' := 32) rfl ?_
  refine WP.imul K d11_32 (pc' := 33) rfl ?_
  refine WP.iconst K d11_33 (v := (1 : Int32)) rfl (pc' := 34) rfl ?_
  refine WP.iadd K d11_34 (pc' := 35) rfl ?_
  refine WP.iloadN K d11_35 rfl (pc' := 36) rfl ?_
  refine WP.iadd K d11_36 (pc' := 37) rfl ?_
  refine WP.iaload K (i := (4 * r + 1)) A_x (by first | exact mm | (rw [show 4 * r + 1 = 4 * r + 1 from rfl]; omega) | (have q := mm; omega)) (by omega) (v := (.int (F (4 * r + 1)))) rfl d11_37 (pc' := 38) rfl ?_
  exact WP.retI K d11_38 (by decide) (by decide) ⟨rfl, rfl⟩
set_option maxRecDepth 65536 in
set_option maxHeartbeats 40000000 in
theorem rm_setT0 (w : Bool) (l : Launch) (Z : State) (a0 : Array Value) (hw : ∀ d ∈ tables_1, d.before a0 Z = true) (F : Nat → Int32) (mp en : Addr) (kA : ClassId) (x val : Int32) (r : Nat) (u_slots u_objects u_greatestKey u_size u_keys : Value) (h0 : Heap) (n0 : Nat) (Z0 : n0 ≤ h0.size) (O_mp : IsMap Z h0 mp (.int (3 : Int32)) (.int (4 : Int32)) (.ref en) u_slots u_objects u_greatestKey .null u_size u_keys) (A_x : Ary Z h0 en kA .int 32 (fun j => .int (F j))) (hx : x.toInt = (r : Int)) (hr : 4 * r + 3 < 32) (old_a : n0 ≤ en) :
    Met w l Z (⟨"com/example/weir/weir/engine/IntIntMap", "setValue", "(III)V"⟩ : MethodName) prog_26_method_10_code 4 none [] ({ frames := 0, cells := 0, slots := 0, locals := 0 } : Room) #[(.ref mp), (.int x), (.int (0 : Int32)), (.int val)] h0 n0 (fun v h => v = none ∧ Keep h0 h [en] ∧ IsMap Z h mp (.int (3 : Int32)) (.int (4 : Int32)) (.ref en) u_slots u_objects u_greatestKey .null u_size u_keys ∧ Ary Z h en kA .int 32 (fun j => .int (fset F (4 * r + 1) val j))) := by
  refine Met.of (plainFor_of_name (by first | (simp [plainName, overriddenIn]; done) | decide +kernel)) fun κ K => ?_
  refine WP.frame (g' := (mkF κ.m 0 #[.val (.ref mp), .val (.int x), .val (.int (0 : Int32)), .val (.int val)] [])) (by first | (simp [entryFrame, mkF, argsToLocals, Value.category]; done) | rfl) ?_
  have KP := Keep.refl h0 [en]
  have m0 := own_mul4 (y := (4 : Int32)) (c := 4) rfl hx (by omega)
  have m1 := own_add2 m0 (y := (1 : Int32)) (k := 1) rfl (by omega)
  have mm := own_add2 m1 (y := (0 : Int32)) (k := 0) rfl (by omega)
  refine WP.aloadN K d9_0 rfl rfl (pc' := 1) rfl ?_
  refine WP.getF K (w_33 hw) Via.refl (IsMap.f_values O_mp) d9_1 (pc' := 4) rfl ?_
  refine WP.ifnullT K (b := 0) d9_4 (by decide) (pc' := 24) (by decide) ?_
  refine WP.aloadN K d9_24 rfl rfl (pc' := 25) rfl ?_
  refine WP.getF K (w_20 hw) Via.refl (IsMap.f_entries O_mp) d9_25 (pc' := 28) rfl ?_
  refine WP.aloadN K d9_28 rfl rfl (pc' := 29) rfl ?_
  refine WP.getF K (w_13 hw) Via.refl (IsMap.f_stride O_mp) d9_29 (pc' := 32) rfl ?_
  refine WP.iloadN K d9_32 rfl (pc' := 33) rfl ?_
  refine WP.imul K d9_33 (pc' := 34) rfl ?_
  refine WP.iconst K d9_34 (v := (1 : Int32)) rfl (pc' := 35) rfl ?_
  refine WP.iadd K d9_35 (pc' := 36) rfl ?_
  refine WP.iloadN K d9_36 rfl (pc' := 37) rfl ?_
  refine WP.iadd K d9_37 (pc' := 38) rfl ?_
  refine WP.iloadN K d9_38 rfl (pc' := 39) rfl ?_
  refine WP.iastore K (i := (4 * r + 1)) A_x (by have q := mm; omega) (by omega) old_a d9_39 (pc' := 40) rfl fun h31 W31 A_n => ?_
  have O_mp := IsMap.other W31 O_mp (Ary.ne (IsMap.exa O_mp) A_x (w_3 hw))
  have KP := Keep.wr KP W31 (Or.inl (List.mem_of_getElem? (i := 0) rfl))
  have Z0 := Nat.le_trans Z0 (Nat.le_of_eq W31.size.symm)
  have A_x := A_n
  rw [upd_int] at A_x
  exact WP.ret0 K d9_40 (by decide) (by decide) ⟨rfl, KP, O_mp, A_x⟩
set_option maxRecDepth 65536 in
set_option maxHeartbeats 40000000 in
theorem rm_valueT1 (w : Bool) (l : Launch) (Z : State) (a0 : Array Value) (hw : ∀ d ∈ tables_1, d.before a0 Z = true) (F : Nat → Int32) (mp en : Addr) (kA : ClassId) (x : Int32) (r : Nat) (u_slots u_objects u_greatestKey u_size u_keys : Value) (h0 : Heap) (n0 : Nat) (Z0 : n0 ≤ h0.size) (O_mp : IsMap Z h0 mp (.int (3 : Int32)) (.int (4 : Int32)) (.ref en) u_slots u_objects u_greatestKey .null u_size u_keys) (A_x : Ary Z h0 en kA .int 32 (fun j => .int (F j))) (hx : x.toInt = (r : Int)) (hr : 4 * r + 3 < 32) :
    Met w l Z (⟨"com/example/weir/weir/engine/IntIntMap", "value", "(II)I"⟩ : MethodName) prog_26_method_9_code 3 (some .int) [] ({ frames := 0, cells := 0, slots := 0, locals := 0 } : Room) #[(.ref mp), (.int x), (.int (1 : Int32))] h0 n0 (fun v h => v = some (.int (F (4 * r + 2))) ∧ h0 = h) := by
  refine Met.of (plainFor_of_name (by first | (simp [plainName, overriddenIn]; done) | decide +kernel)) fun κ K => ?_
  refine WP.frame (g' := (mkF κ.m 0 #[.val (.ref mp), .val (.int x), .val (.int (1 : Int32))] [])) (by first | (simp [entryFrame, mkF, argsToLocals, Value.category]; done) | rfl) ?_
  have m0 := own_mul4 (y := (4 : Int32)) (c := 4) rfl hx (by omega)
  have m1 := own_add2 m0 (y := (1 : Int32)) (k := 1) rfl (by omega)
  have mm := own_add2 m1 (y := (1 : Int32)) (k := 1) rfl (by omega)
  refine WP.aloadN K d11_0 rfl rfl (pc' := 1) rfl ?_
  refine WP.getF K (w_33 hw) Via.refl (IsMap.f_values O_mp) d11_1 (pc' := 4) rfl ?_
  refine WP.ifnullT K (b := 0) d11_4 (by decide) (pc' := 23) (by decide) ?_
  refine WP.aloadN K d11_23 rfl rfl (pc' := 24) rfl ?_
  refine WP.getF K (w_20 hw) Via.refl (IsMap.f_entries O_mp) d11_24 (pc' := 27) rfl ?_
  refine WP.aloadN K d11_27 rfl rfl (pc' := 28) rfl ?_
  refine WP.getF K (w_13 hw) Via.refl (IsMap.f_stride O_mp) d11_28 (pc' := 31) rfl ?_
  refine WP.iloadN K d11_31 rfl (pc' := 32) rfl ?_
  refine WP.imul K d11_32 (pc' := 33) rfl ?_
  refine WP.iconst K d11_33 (v := (1 : Int32)) rfl (pc' := 34) rfl ?_
  refine WP.iadd K d11_34 (pc' := 35) rfl ?_
  refine WP.iloadN K d11_35 rfl (pc' := 36) rfl ?_
  refine WP.iadd K d11_36 (pc' := 37) rfl ?_
  refine WP.iaload K (i := (4 * r + 2)) A_x (by first | exact mm | (rw [show 4 * r + 2 = 4 * r + 2 from rfl]; omega) | (have q := mm; omega)) (by omega) (v := (.int (F (4 * r + 2)))) rfl d11_37 (pc' := 38) rfl ?_
  exact WP.retI K d11_38 (by decide) (by decide) ⟨rfl, rfl⟩
set_option maxRecDepth 65536 in
set_option maxHeartbeats 40000000 in
theorem rm_setT1 (w : Bool) (l : Launch) (Z : State) (a0 : Array Value) (hw : ∀ d ∈ tables_1, d.before a0 Z = true) (F : Nat → Int32) (mp en : Addr) (kA : ClassId) (x val : Int32) (r : Nat) (u_slots u_objects u_greatestKey u_size u_keys : Value) (h0 : Heap) (n0 : Nat) (Z0 : n0 ≤ h0.size) (O_mp : IsMap Z h0 mp (.int (3 : Int32)) (.int (4 : Int32)) (.ref en) u_slots u_objects u_greatestKey .null u_size u_keys) (A_x : Ary Z h0 en kA .int 32 (fun j => .int (F j))) (hx : x.toInt = (r : Int)) (hr : 4 * r + 3 < 32) (old_a : n0 ≤ en) :
    Met w l Z (⟨"com/example/weir/weir/engine/IntIntMap", "setValue", "(III)V"⟩ : MethodName) prog_26_method_10_code 4 none [] ({ frames := 0, cells := 0, slots := 0, locals := 0 } : Room) #[(.ref mp), (.int x), (.int (1 : Int32)), (.int val)] h0 n0 (fun v h => v = none ∧ Keep h0 h [en] ∧ IsMap Z h mp (.int (3 : Int32)) (.int (4 : Int32)) (.ref en) u_slots u_objects u_greatestKey .null u_size u_keys ∧ Ary Z h en kA .int 32 (fun j => .int (fset F (4 * r + 2) val j))) := by
  refine Met.of (plainFor_of_name (by first | (simp [plainName, overriddenIn]; done) | decide +kernel)) fun κ K => ?_
  refine WP.frame (g' := (mkF κ.m 0 #[.val (.ref mp), .val (.int x), .val (.int (1 : Int32)), .val (.int val)] [])) (by first | (simp [entryFrame, mkF, argsToLocals, Value.category]; done) | rfl) ?_
  have KP := Keep.refl h0 [en]
  have m0 := own_mul4 (y := (4 : Int32)) (c := 4) rfl hx (by omega)
  have m1 := own_add2 m0 (y := (1 : Int32)) (k := 1) rfl (by omega)
  have mm := own_add2 m1 (y := (1 : Int32)) (k := 1) rfl (by omega)
  refine WP.aloadN K d9_0 rfl rfl (pc' := 1) rfl ?_
  refine WP.getF K (w_33 hw) Via.refl (IsMap.f_values O_mp) d9_1 (pc' := 4) rfl ?_
  refine WP.ifnullT K (b := 0) d9_4 (by decide) (pc' := 24) (by decide) ?_
  refine WP.aloadN K d9_24 rfl rfl (pc' := 25) rfl ?_
  refine WP.getF K (w_20 hw) Via.refl (IsMap.f_entries O_mp) d9_25 (pc' := 28) rfl ?_
  refine WP.aloadN K d9_28 rfl rfl (pc' := 29) rfl ?_
  refine WP.getF K (w_13 hw) Via.refl (IsMap.f_stride O_mp) d9_29 (pc' := 32) rfl ?_
  refine WP.iloadN K d9_32 rfl (pc' := 33) rfl ?_
  refine WP.imul K d9_33 (pc' := 34) rfl ?_
  refine WP.iconst K d9_34 (v := (1 : Int32)) rfl (pc' := 35) rfl ?_
  refine WP.iadd K d9_35 (pc' := 36) rfl ?_
  refine WP.iloadN K d9_36 rfl (pc' := 37) rfl ?_
  refine WP.iadd K d9_37 (pc' := 38) rfl ?_
  refine WP.iloadN K d9_38 rfl (pc' := 39) rfl ?_
  refine WP.iastore K (i := (4 * r + 2)) A_x (by have q := mm; omega) (by omega) old_a d9_39 (pc' := 40) rfl fun h32 W32 A_n => ?_
  have O_mp := IsMap.other W32 O_mp (Ary.ne (IsMap.exa O_mp) A_x (w_3 hw))
  have KP := Keep.wr KP W32 (Or.inl (List.mem_of_getElem? (i := 0) rfl))
  have Z0 := Nat.le_trans Z0 (Nat.le_of_eq W32.size.symm)
  have A_x := A_n
  rw [upd_int] at A_x
  exact WP.ret0 K d9_40 (by decide) (by decide) ⟨rfl, KP, O_mp, A_x⟩
set_option maxRecDepth 65536 in
set_option maxHeartbeats 40000000 in
theorem rm_valueT2 (w : Bool) (l : Launch) (Z : State) (a0 : Array Value) (hw : ∀ d ∈ tables_1, d.before a0 Z = true) (F : Nat → Int32) (mp en : Addr) (kA : ClassId) (x : Int32) (r : Nat) (u_slots u_objects u_greatestKey u_size u_keys : Value) (h0 : Heap) (n0 : Nat) (Z0 : n0 ≤ h0.size) (O_mp : IsMap Z h0 mp (.int (3 : Int32)) (.int (4 : Int32)) (.ref en) u_slots u_objects u_greatestKey .null u_size u_keys) (A_x : Ary Z h0 en kA .int 32 (fun j => .int (F j))) (hx : x.toInt = (r : Int)) (hr : 4 * r + 3 < 32) :
    Met w l Z (⟨"com/example/weir/weir/engine/IntIntMap", "value", "(II)I"⟩ : MethodName) prog_26_method_9_code 3 (some .int) [] ({ frames := 0, cells := 0, slots := 0, locals := 0 } : Room) #[(.ref mp), (.int x), (.int (2 : Int32))] h0 n0 (fun v h => v = some (.int (F (4 * r + 3))) ∧ h0 = h) := by
  refine Met.of (plainFor_of_name (by first | (simp [plainName, overriddenIn]; done) | decide +kernel)) fun κ K => ?_
  refine WP.frame (g' := (mkF κ.m 0 #[.val (.ref mp), .val (.int x), .val (.int (2 : Int32))] [])) (by first | (simp [entryFrame, mkF, argsToLocals, Value.category]; done) | rfl) ?_
  have m0 := own_mul4 (y := (4 : Int32)) (c := 4) rfl hx (by omega)
  have m1 := own_add2 m0 (y := (1 : Int32)) (k := 1) rfl (by omega)
  have mm := own_add2 m1 (y := (2 : Int32)) (k := 2) rfl (by omega)
  refine WP.aloadN K d11_0 rfl rfl (pc' := 1) rfl ?_
  refine WP.getF K (w_33 hw) Via.refl (IsMap.f_values O_mp) d11_1 (pc' := 4) rfl ?_
  refine WP.ifnullT K (b := 0) d11_4 (by decide) (pc' := 23) (by decide) ?_
  refine WP.aloadN K d11_23 rfl rfl (pc' := 24) rfl ?_
  refine WP.getF K (w_20 hw) Via.refl (IsMap.f_entries O_mp) d11_24 (pc' := 27) rfl ?_
  refine WP.aloadN K d11_27 rfl rfl (pc' := 28) rfl ?_
  refine WP.getF K (w_13 hw) Via.refl (IsMap.f_stride O_mp) d11_28 (pc' := 31) rfl ?_
  refine WP.iloadN K d11_31 rfl (pc' := 32) rfl ?_
  refine WP.imul K d11_32 (pc' := 33) rfl ?_
  refine WP.iconst K d11_33 (v := (1 : Int32)) rfl (pc' := 34) rfl ?_
  refine WP.iadd K d11_34 (pc' := 35) rfl ?_
  refine WP.iloadN K d11_35 rfl (pc' := 36) rfl ?_
  refine WP.iadd K d11_36 (pc' := 37) rfl ?_
  refine WP.iaload K (i := (4 * r + 3)) A_x (by first | exact mm | (rw [show 4 * r + 3 = 4 * r + 3 from rfl]; omega) | (have q := mm; omega)) (by omega) (v := (.int (F (4 * r + 3)))) rfl d11_37 (pc' := 38) rfl ?_
  exact WP.retI K d11_38 (by decide) (by decide) ⟨rfl, rfl⟩
set_option maxRecDepth 65536 in
set_option maxHeartbeats 40000000 in
theorem rm_setT2 (w : Bool) (l : Launch) (Z : State) (a0 : Array Value) (hw : ∀ d ∈ tables_1, d.before a0 Z = true) (F : Nat → Int32) (mp en : Addr) (kA : ClassId) (x val : Int32) (r : Nat) (u_slots u_objects u_greatestKey u_size u_keys : Value) (h0 : Heap) (n0 : Nat) (Z0 : n0 ≤ h0.size) (O_mp : IsMap Z h0 mp (.int (3 : Int32)) (.int (4 : Int32)) (.ref en) u_slots u_objects u_greatestKey .null u_size u_keys) (A_x : Ary Z h0 en kA .int 32 (fun j => .int (F j))) (hx : x.toInt = (r : Int)) (hr : 4 * r + 3 < 32) (old_a : n0 ≤ en) :
    Met w l Z (⟨"com/example/weir/weir/engine/IntIntMap", "setValue", "(III)V"⟩ : MethodName) prog_26_method_10_code 4 none [] ({ frames := 0, cells := 0, slots := 0, locals := 0 } : Room) #[(.ref mp), (.int x), (.int (2 : Int32)), (.int val)] h0 n0 (fun v h => v = none ∧ Keep h0 h [en] ∧ IsMap Z h mp (.int (3 : Int32)) (.int (4 : Int32)) (.ref en) u_slots u_objects u_greatestKey .null u_size u_keys ∧ Ary Z h en kA .int 32 (fun j => .int (fset F (4 * r + 3) val j))) := by
  refine Met.of (plainFor_of_name (by first | (simp [plainName, overriddenIn]; done) | decide +kernel)) fun κ K => ?_
  refine WP.frame (g' := (mkF κ.m 0 #[.val (.ref mp), .val (.int x), .val (.int (2 : Int32)), .val (.int val)] [])) (by first | (simp [entryFrame, mkF, argsToLocals, Value.category]; done) | rfl) ?_
  have KP := Keep.refl h0 [en]
  have m0 := own_mul4 (y := (4 : Int32)) (c := 4) rfl hx (by omega)
  have m1 := own_add2 m0 (y := (1 : Int32)) (k := 1) rfl (by omega)
  have mm := own_add2 m1 (y := (2 : Int32)) (k := 2) rfl (by omega)
  refine WP.aloadN K d9_0 rfl rfl (pc' := 1) rfl ?_
  refine WP.getF K (w_33 hw) Via.refl (IsMap.f_values O_mp) d9_1 (pc' := 4) rfl ?_
  refine WP.ifnullT K (b := 0) d9_4 (by decide) (pc' := 24) (by decide) ?_
  refine WP.aloadN K d9_24 rfl rfl (pc' := 25) rfl ?_
  refine WP.getF K (w_20 hw) Via.refl (IsMap.f_entries O_mp) d9_25 (pc' := 28) rfl ?_
  refine WP.aloadN K d9_28 rfl rfl (pc' := 29) rfl ?_
  refine WP.getF K (w_13 hw) Via.refl (IsMap.f_stride O_mp) d9_29 (pc' := 32) rfl ?_
  refine WP.iloadN K d9_32 rfl (pc' := 33) rfl ?_
  refine WP.imul K d9_33 (pc' := 34) rfl ?_
  refine WP.iconst K d9_34 (v := (1 : Int32)) rfl (pc' := 35) rfl ?_
  refine WP.iadd K d9_35 (pc' := 36) rfl ?_
  refine WP.iloadN K d9_36 rfl (pc' := 37) rfl ?_
  refine WP.iadd K d9_37 (pc' := 38) rfl ?_
  refine WP.iloadN K d9_38 rfl (pc' := 39) rfl ?_
  refine WP.iastore K (i := (4 * r + 3)) A_x (by have q := mm; omega) (by omega) old_a d9_39 (pc' := 40) rfl fun h33 W33 A_n => ?_
  have O_mp := IsMap.other W33 O_mp (Ary.ne (IsMap.exa O_mp) A_x (w_3 hw))
  have KP := Keep.wr KP W33 (Or.inl (List.mem_of_getElem? (i := 0) rfl))
  have Z0 := Nat.le_trans Z0 (Nat.le_of_eq W33.size.symm)
  have A_x := A_n
  rw [upd_int] at A_x
  exact WP.ret0 K d9_40 (by decide) (by decide) ⟨rfl, KP, O_mp, A_x⟩
set_option maxRecDepth 65536 in
set_option maxHeartbeats 40000000 in
theorem rm_holdsT (w : Bool) (l : Launch) (Z : State) (a0 : Array Value) (hw : ∀ d ∈ tables_1, d.before a0 Z = true) (F : Nat → Int32) (mp en : Addr) (kA : ClassId) (x e0 e1 e2 : Int32) (r : Nat) (u_slots u_objects u_greatestKey u_size u_keys : Value) (h0 : Heap) (n0 : Nat) (Z0 : n0 ≤ h0.size) (O_mp : IsMap Z h0 mp (.int (3 : Int32)) (.int (4 : Int32)) (.ref en) u_slots u_objects u_greatestKey .null u_size u_keys) (A_x : Ary Z h0 en kA .int 32 (fun j => .int (F j))) (hx : x.toInt = (r : Int)) (hr : 4 * r + 3 < 32) (f0 : F (4 * r + 1) = e0) (f1 : F (4 * r + 2) = e1) (f2 : F (4 * r + 3) = e2) :
    Met w l Z (⟨"com/example/weir/weir/engine/IntIntMapSetValuePinLaw", "holds", "(Lcom/example/weir/weir/engine/IntIntMap;IIII)Z"⟩ : MethodName) method_3_code 5 (some .boolean) [] ({ frames := 1, cells := 0, slots := 0, locals := 14 } : Room) #[(.ref mp), (.int x), (.int e0), (.int e1), (.int e2)] h0 n0 (fun v h => v = some (.int 1) ∧ h0 = h) := by
  refine Met.of (plainFor_of_name (by first | (simp [plainName, overriddenIn]; done) | decide +kernel)) fun κ K => ?_
  refine WP.frame (g' := (mkF κ.m 0 #[.val (.ref mp), .val (.int x), .val (.int e0), .val (.int e1), .val (.int e2)] [])) (by first | (simp [entryFrame, mkF, argsToLocals, Value.category]; done) | rfl) ?_
  refine WP.aloadN K d10_0 rfl rfl (pc' := 1) rfl ?_
  refine WP.iloadN K d10_1 rfl (pc' := 2) rfl ?_
  refine WP.iconst K d10_2 (v := (0 : Int32)) rfl (pc' := 3) rfl ?_
  refine WP.callV K (a := mp) (argsL := [(.int x), (.int (0 : Int32))]) (S := []) (w_65 hw) (w_66 hw) (fun vm0 hZ => notFace_of_selects (args := #[]) (mvT (s := κ.s.setVm vm0) hZ (w_68 hw))) (w_68 hw) (w_67 hw) (by decide) (IsMap.exa O_mp) (rm_valueT0 w l Z a0 hw F mp en kA x r u_slots u_objects u_greatestKey u_size u_keys h0 n0 Z0 O_mp A_x hx hr) (w_69 hw) (w_4 hw) (by decide) rfl (lenOf pd_3 rfl) rfl (W := 0) rfl (by decide) (by decide) (k' := 0) (n' := 0) rfl rfl (by decide) (by decide) d10_3 (pc' := 6) rfl fun v h34 hq => ?_
  obtain ⟨rfl, rfl⟩ := hq
  show WP κ h0 0 0 (mkF κ.m 6 #[.val (.ref mp), .val (.int x), .val (.int e0), .val (.int e1), .val (.int e2)] [(.int (F (4 * r + 1)))])
  refine WP.iloadN K d10_6 rfl (pc' := 7) rfl ?_
  refine WP.icmpF K d10_7 (teq f0).2 (pc' := 10) rfl ?_
  refine WP.aloadN K d10_10 rfl rfl (pc' := 11) rfl ?_
  refine WP.iloadN K d10_11 rfl (pc' := 12) rfl ?_
  refine WP.iconst K d10_12 (v := (1 : Int32)) rfl (pc' := 13) rfl ?_
  refine WP.callV K (a := mp) (argsL := [(.int x), (.int (1 : Int32))]) (S := []) (w_65 hw) (w_66 hw) (fun vm0 hZ => notFace_of_selects (args := #[]) (mvT (s := κ.s.setVm vm0) hZ (w_68 hw))) (w_68 hw) (w_67 hw) (by decide) (IsMap.exa O_mp) (rm_valueT1 w l Z a0 hw F mp en kA x r u_slots u_objects u_greatestKey u_size u_keys h0 n0 Z0 O_mp A_x hx hr) (w_69 hw) (w_4 hw) (by decide) rfl (lenOf pd_3 rfl) rfl (W := 0) rfl (by decide) (by decide) (k' := 0) (n' := 0) rfl rfl (by decide) (by decide) d10_13 (pc' := 16) rfl fun v h35 hq => ?_
  obtain ⟨rfl, rfl⟩ := hq
  show WP κ h0 0 0 (mkF κ.m 16 #[.val (.ref mp), .val (.int x), .val (.int e0), .val (.int e1), .val (.int e2)] [(.int (F (4 * r + 2)))])
  refine WP.iloadN K d10_16 rfl (pc' := 17) rfl ?_
  refine WP.icmpF K d10_17 (teq f1).2 (pc' := 20) rfl ?_
  refine WP.aloadN K d10_20 rfl rfl (pc' := 21) rfl ?_
  refine WP.iloadN K d10_21 rfl (pc' := 22) rfl ?_
  refine WP.iconst K d10_22 (v := (2 : Int32)) rfl (pc' := 23) rfl ?_
  refine WP.callV K (a := mp) (argsL := [(.int x), (.int (2 : Int32))]) (S := []) (w_65 hw) (w_66 hw) (fun vm0 hZ => notFace_of_selects (args := #[]) (mvT (s := κ.s.setVm vm0) hZ (w_68 hw))) (w_68 hw) (w_67 hw) (by decide) (IsMap.exa O_mp) (rm_valueT2 w l Z a0 hw F mp en kA x r u_slots u_objects u_greatestKey u_size u_keys h0 n0 Z0 O_mp A_x hx hr) (w_69 hw) (w_4 hw) (by decide) rfl (lenOf pd_3 rfl) rfl (W := 0) rfl (by decide) (by decide) (k' := 0) (n' := 0) rfl rfl (by decide) (by decide) d10_23 (pc' := 26) rfl fun v h36 hq => ?_
  obtain ⟨rfl, rfl⟩ := hq
  show WP κ h0 0 0 (mkF κ.m 26 #[.val (.ref mp), .val (.int x), .val (.int e0), .val (.int e1), .val (.int e2)] [(.int (F (4 * r + 3)))])
  refine WP.iload K d10_26 rfl (pc' := 28) rfl ?_
  refine WP.icmpF K d10_28 (teq f2).2 (pc' := 31) rfl ?_
  refine WP.iconst K d10_31 (v := (1 : Int32)) rfl (pc' := 32) rfl ?_
  refine WP.goto K d10_32 (by decide) (pc' := 36) (by decide) ?_
  exact WP.retN K (ty := .boolean) (by decide) d10_36 (by decide) (by decide) ⟨rfl, rfl⟩
set_option maxRecDepth 65536 in
set_option maxHeartbeats 40000000 in
theorem rm_valueA0 (w : Bool) (l : Launch) (Z : State) (a0 : Array Value) (hw : ∀ d ∈ tables_1, d.before a0 Z = true) (F : Nat → Int32) (mp va : Addr) (kA : ClassId) (x : Int32) (r : Nat) (u_entries u_slots u_objects u_greatestKey u_size u_keys : Value) (h0 : Heap) (n0 : Nat) (Z0 : n0 ≤ h0.size) (O_mp : IsMap Z h0 mp (.int (3 : Int32)) (.int (4 : Int32)) u_entries u_slots u_objects u_greatestKey (.ref va) u_size u_keys) (A_x : Ary Z h0 va kA .int 6 (fun j => .int (F j))) (hx : x.toInt = (r : Int)) (hr : 3 * r + 2 < 6) :
    Met w l Z (⟨"com/example/weir/weir/engine/IntIntMap", "value", "(II)I"⟩ : MethodName) prog_26_method_9_code 3 (some .int) [] ({ frames := 0, cells := 0, slots := 0, locals := 0 } : Room) #[(.ref mp), (.int x), (.int (0 : Int32))] h0 n0 (fun v h => v = some (.int (F (3 * r + 0))) ∧ h0 = h) := by
  refine Met.of (plainFor_of_name (by first | (simp [plainName, overriddenIn]; done) | decide +kernel)) fun κ K => ?_
  refine WP.frame (g' := (mkF κ.m 0 #[.val (.ref mp), .val (.int x), .val (.int (0 : Int32))] [])) (by first | (simp [entryFrame, mkF, argsToLocals, Value.category]; done) | rfl) ?_
  have m0 := own_mul4 (y := (3 : Int32)) (c := 3) rfl hx (by omega)
  have mm := own_add2 m0 (y := (0 : Int32)) (k := 0) rfl (by omega)
  refine WP.aloadN K d11_0 rfl rfl (pc' := 1) rfl ?_
  refine WP.getF K (w_33 hw) Via.refl (IsMap.f_values O_mp) d11_1 (pc' := 4) rfl ?_
  refine WP.ifnullF K (b := va) d11_4 (pc' := 7) rfl ?_
  refine WP.aloadN K d11_7 rfl rfl (pc' := 8) rfl ?_
  refine WP.getF K (w_33 hw) Via.refl (IsMap.f_values O_mp) d11_8 (pc' := 11) rfl ?_
  refine WP.aloadN K d11_11 rfl rfl (pc' := 12) rfl ?_
  refine WP.getF K (w_11 hw) Via.refl (IsMap.f_width O_mp) d11_12 (pc' := 15) rfl ?_
  refine WP.iloadN K d11_15 rfl (pc' := 16) rfl ?_
  refine WP.imul K d11_16 (pc' := 17) rfl ?_
  refine WP.iloadN K d11_17 rfl (pc' := 18) rfl ?_
  refine WP.iadd K d11_18 (pc' := 19) rfl ?_
  refine WP.iaload K (i := (3 * r + 0)) A_x (by first | exact mm | (rw [show 3 * r + 0 = 3 * r + 0 from rfl]; omega) | (have q := mm; omega)) (by omega) (v := (.int (F (3 * r + 0)))) rfl d11_19 (pc' := 20) rfl ?_
  refine WP.goto K d11_20 (by decide) (pc' := 38) (by decide) ?_
  exact WP.retI K d11_38 (by decide) (by decide) ⟨rfl, rfl⟩
set_option maxRecDepth 65536 in
set_option maxHeartbeats 40000000 in
theorem rm_setA0 (w : Bool) (l : Launch) (Z : State) (a0 : Array Value) (hw : ∀ d ∈ tables_1, d.before a0 Z = true) (F : Nat → Int32) (mp va : Addr) (kA : ClassId) (x val : Int32) (r : Nat) (u_entries u_slots u_objects u_greatestKey u_size u_keys : Value) (h0 : Heap) (n0 : Nat) (Z0 : n0 ≤ h0.size) (O_mp : IsMap Z h0 mp (.int (3 : Int32)) (.int (4 : Int32)) u_entries u_slots u_objects u_greatestKey (.ref va) u_size u_keys) (A_x : Ary Z h0 va kA .int 6 (fun j => .int (F j))) (hx : x.toInt = (r : Int)) (hr : 3 * r + 2 < 6) (old_a : n0 ≤ va) :
    Met w l Z (⟨"com/example/weir/weir/engine/IntIntMap", "setValue", "(III)V"⟩ : MethodName) prog_26_method_10_code 4 none [] ({ frames := 0, cells := 0, slots := 0, locals := 0 } : Room) #[(.ref mp), (.int x), (.int (0 : Int32)), (.int val)] h0 n0 (fun v h => v = none ∧ Keep h0 h [va] ∧ IsMap Z h mp (.int (3 : Int32)) (.int (4 : Int32)) u_entries u_slots u_objects u_greatestKey (.ref va) u_size u_keys ∧ Ary Z h va kA .int 6 (fun j => .int (fset F (3 * r + 0) val j))) := by
  refine Met.of (plainFor_of_name (by first | (simp [plainName, overriddenIn]; done) | decide +kernel)) fun κ K => ?_
  refine WP.frame (g' := (mkF κ.m 0 #[.val (.ref mp), .val (.int x), .val (.int (0 : Int32)), .val (.int val)] [])) (by first | (simp [entryFrame, mkF, argsToLocals, Value.category]; done) | rfl) ?_
  have KP := Keep.refl h0 [va]
  have m0 := own_mul4 (y := (3 : Int32)) (c := 3) rfl hx (by omega)
  have mm := own_add2 m0 (y := (0 : Int32)) (k := 0) rfl (by omega)
  refine WP.aloadN K d9_0 rfl rfl (pc' := 1) rfl ?_
  refine WP.getF K (w_33 hw) Via.refl (IsMap.f_values O_mp) d9_1 (pc' := 4) rfl ?_
  refine WP.ifnullF K (b := va) d9_4 (pc' := 7) rfl ?_
  refine WP.aloadN K d9_7 rfl rfl (pc' := 8) rfl ?_
  refine WP.getF K (w_33 hw) Via.refl (IsMap.f_values O_mp) d9_8 (pc' := 11) rfl ?_
  refine WP.aloadN K d9_11 rfl rfl (pc' := 12) rfl ?_
  refine WP.getF K (w_11 hw) Via.refl (IsMap.f_width O_mp) d9_12 (pc' := 15) rfl ?_
  refine WP.iloadN K d9_15 rfl (pc' := 16) rfl ?_
  refine WP.imul K d9_16 (pc' := 17) rfl ?_
  refine WP.iloadN K d9_17 rfl (pc' := 18) rfl ?_
  refine WP.iadd K d9_18 (pc' := 19) rfl ?_
  refine WP.iloadN K d9_19 rfl (pc' := 20) rfl ?_
  refine WP.iastore K (i := (3 * r + 0)) A_x (by have q := mm; omega) (by omega) old_a d9_20 (pc' := 21) rfl fun h37 W37 A_n => ?_
  have O_mp := IsMap.other W37 O_mp (Ary.ne (IsMap.exa O_mp) A_x (w_3 hw))
  have KP := Keep.wr KP W37 (Or.inl (List.mem_of_getElem? (i := 0) rfl))
  have Z0 := Nat.le_trans Z0 (Nat.le_of_eq W37.size.symm)
  have A_x := A_n
  rw [upd_int] at A_x
  refine WP.goto K d9_21 (by decide) (pc' := 40) (by decide) ?_
  exact WP.ret0 K d9_40 (by decide) (by decide) ⟨rfl, KP, O_mp, A_x⟩
set_option maxRecDepth 65536 in
set_option maxHeartbeats 40000000 in
theorem rm_valueA1 (w : Bool) (l : Launch) (Z : State) (a0 : Array Value) (hw : ∀ d ∈ tables_1, d.before a0 Z = true) (F : Nat → Int32) (mp va : Addr) (kA : ClassId) (x : Int32) (r : Nat) (u_entries u_slots u_objects u_greatestKey u_size u_keys : Value) (h0 : Heap) (n0 : Nat) (Z0 : n0 ≤ h0.size) (O_mp : IsMap Z h0 mp (.int (3 : Int32)) (.int (4 : Int32)) u_entries u_slots u_objects u_greatestKey (.ref va) u_size u_keys) (A_x : Ary Z h0 va kA .int 6 (fun j => .int (F j))) (hx : x.toInt = (r : Int)) (hr : 3 * r + 2 < 6) :
    Met w l Z (⟨"com/example/weir/weir/engine/IntIntMap", "value", "(II)I"⟩ : MethodName) prog_26_method_9_code 3 (some .int) [] ({ frames := 0, cells := 0, slots := 0, locals := 0 } : Room) #[(.ref mp), (.int x), (.int (1 : Int32))] h0 n0 (fun v h => v = some (.int (F (3 * r + 1))) ∧ h0 = h) := by
  refine Met.of (plainFor_of_name (by first | (simp [plainName, overriddenIn]; done) | decide +kernel)) fun κ K => ?_
  refine WP.frame (g' := (mkF κ.m 0 #[.val (.ref mp), .val (.int x), .val (.int (1 : Int32))] [])) (by first | (simp [entryFrame, mkF, argsToLocals, Value.category]; done) | rfl) ?_
  have m0 := own_mul4 (y := (3 : Int32)) (c := 3) rfl hx (by omega)
  have mm := own_add2 m0 (y := (1 : Int32)) (k := 1) rfl (by omega)
  refine WP.aloadN K d11_0 rfl rfl (pc' := 1) rfl ?_
  refine WP.getF K (w_33 hw) Via.refl (IsMap.f_values O_mp) d11_1 (pc' := 4) rfl ?_
  refine WP.ifnullF K (b := va) d11_4 (pc' := 7) rfl ?_
  refine WP.aloadN K d11_7 rfl rfl (pc' := 8) rfl ?_
  refine WP.getF K (w_33 hw) Via.refl (IsMap.f_values O_mp) d11_8 (pc' := 11) rfl ?_
  refine WP.aloadN K d11_11 rfl rfl (pc' := 12) rfl ?_
  refine WP.getF K (w_11 hw) Via.refl (IsMap.f_width O_mp) d11_12 (pc' := 15) rfl ?_
  refine WP.iloadN K d11_15 rfl (pc' := 16) rfl ?_
  refine WP.imul K d11_16 (pc' := 17) rfl ?_
  refine WP.iloadN K d11_17 rfl (pc' := 18) rfl ?_
  refine WP.iadd K d11_18 (pc' := 19) rfl ?_
  refine WP.iaload K (i := (3 * r + 1)) A_x (by first | exact mm | (rw [show 3 * r + 1 = 3 * r + 1 from rfl]; omega) | (have q := mm; omega)) (by omega) (v := (.int (F (3 * r + 1)))) rfl d11_19 (pc' := 20) rfl ?_
  refine WP.goto K d11_20 (by decide) (pc' := 38) (by decide) ?_
  exact WP.retI K d11_38 (by decide) (by decide) ⟨rfl, rfl⟩
set_option maxRecDepth 65536 in
set_option maxHeartbeats 40000000 in
theorem rm_setA1 (w : Bool) (l : Launch) (Z : State) (a0 : Array Value) (hw : ∀ d ∈ tables_1, d.before a0 Z = true) (F : Nat → Int32) (mp va : Addr) (kA : ClassId) (x val : Int32) (r : Nat) (u_entries u_slots u_objects u_greatestKey u_size u_keys : Value) (h0 : Heap) (n0 : Nat) (Z0 : n0 ≤ h0.size) (O_mp : IsMap Z h0 mp (.int (3 : Int32)) (.int (4 : Int32)) u_entries u_slots u_objects u_greatestKey (.ref va) u_size u_keys) (A_x : Ary Z h0 va kA .int 6 (fun j => .int (F j))) (hx : x.toInt = (r : Int)) (hr : 3 * r + 2 < 6) (old_a : n0 ≤ va) :
    Met w l Z (⟨"com/example/weir/weir/engine/IntIntMap", "setValue", "(III)V"⟩ : MethodName) prog_26_method_10_code 4 none [] ({ frames := 0, cells := 0, slots := 0, locals := 0 } : Room) #[(.ref mp), (.int x), (.int (1 : Int32)), (.int val)] h0 n0 (fun v h => v = none ∧ Keep h0 h [va] ∧ IsMap Z h mp (.int (3 : Int32)) (.int (4 : Int32)) u_entries u_slots u_objects u_greatestKey (.ref va) u_size u_keys ∧ Ary Z h va kA .int 6 (fun j => .int (fset F (3 * r + 1) val j))) := by
  refine Met.of (plainFor_of_name (by first | (simp [plainName, overriddenIn]; done) | decide +kernel)) fun κ K => ?_
  refine WP.frame (g' := (mkF κ.m 0 #[.val (.ref mp), .val (.int x), .val (.int (1 : Int32)), .val (.int val)] [])) (by first | (simp [entryFrame, mkF, argsToLocals, Value.category]; done) | rfl) ?_
  have KP := Keep.refl h0 [va]
  have m0 := own_mul4 (y := (3 : Int32)) (c := 3) rfl hx (by omega)
  have mm := own_add2 m0 (y := (1 : Int32)) (k := 1) rfl (by omega)
  refine WP.aloadN K d9_0 rfl rfl (pc' := 1) rfl ?_
  refine WP.getF K (w_33 hw) Via.refl (IsMap.f_values O_mp) d9_1 (pc' := 4) rfl ?_
  refine WP.ifnullF K (b := va) d9_4 (pc' := 7) rfl ?_
  refine WP.aloadN K d9_7 rfl rfl (pc' := 8) rfl ?_
  refine WP.getF K (w_33 hw) Via.refl (IsMap.f_values O_mp) d9_8 (pc' := 11) rfl ?_
  refine WP.aloadN K d9_11 rfl rfl (pc' := 12) rfl ?_
  refine WP.getF K (w_11 hw) Via.refl (IsMap.f_width O_mp) d9_12 (pc' := 15) rfl ?_
  refine WP.iloadN K d9_15 rfl (pc' := 16) rfl ?_
  refine WP.imul K d9_16 (pc' := 17) rfl ?_
  refine WP.iloadN K d9_17 rfl (pc' := 18) rfl ?_
  refine WP.iadd K d9_18 (pc' := 19) rfl ?_
  refine WP.iloadN K d9_19 rfl (pc' := 20) rfl ?_
  refine WP.iastore K (i := (3 * r + 1)) A_x (by have q := mm; omega) (by omega) old_a d9_20 (pc' := 21) rfl fun h38 W38 A_n => ?_
  have O_mp := IsMap.other W38 O_mp (Ary.ne (IsMap.exa O_mp) A_x (w_3 hw))
  have KP := Keep.wr KP W38 (Or.inl (List.mem_of_getElem? (i := 0) rfl))
  have Z0 := Nat.le_trans Z0 (Nat.le_of_eq W38.size.symm)
  have A_x := A_n
  rw [upd_int] at A_x
  refine WP.goto K d9_21 (by decide) (pc' := 40) (by decide) ?_
  exact WP.ret0 K d9_40 (by decide) (by decide) ⟨rfl, KP, O_mp, A_x⟩
set_option maxRecDepth 65536 in
set_option maxHeartbeats 40000000 in
theorem rm_valueA2 (w : Bool) (l : Launch) (Z : State) (a0 : Array Value) (hw : ∀ d ∈ tables_1, d.before a0 Z = true) (F : Nat → Int32) (mp va : Addr) (kA : ClassId) (x : Int32) (r : Nat) (u_entries u_slots u_objects u_greatestKey u_size u_keys : Value) (h0 : Heap) (n0 : Nat) (Z0 : n0 ≤ h0.size) (O_mp : IsMap Z h0 mp (.int (3 : Int32)) (.int (4 : Int32)) u_entries u_slots u_objects u_greatestKey (.ref va) u_size u_keys) (A_x : Ary Z h0 va kA .int 6 (fun j => .int (F j))) (hx : x.toInt = (r : Int)) (hr : 3 * r + 2 < 6) :
    Met w l Z (⟨"com/example/weir/weir/engine/IntIntMap", "value", "(II)I"⟩ : MethodName) prog_26_method_9_code 3 (some .int) [] ({ frames := 0, cells := 0, slots := 0, locals := 0 } : Room) #[(.ref mp), (.int x), (.int (2 : Int32))] h0 n0 (fun v h => v = some (.int (F (3 * r + 2))) ∧ h0 = h) := by
  refine Met.of (plainFor_of_name (by first | (simp [plainName, overriddenIn]; done) | decide +kernel)) fun κ K => ?_
  refine WP.frame (g' := (mkF κ.m 0 #[.val (.ref mp), .val (.int x), .val (.int (2 : Int32))] [])) (by first | (simp [entryFrame, mkF, argsToLocals, Value.category]; done) | rfl) ?_
  have m0 := own_mul4 (y := (3 : Int32)) (c := 3) rfl hx (by omega)
  have mm := own_add2 m0 (y := (2 : Int32)) (k := 2) rfl (by omega)
  refine WP.aloadN K d11_0 rfl rfl (pc' := 1) rfl ?_
  refine WP.getF K (w_33 hw) Via.refl (IsMap.f_values O_mp) d11_1 (pc' := 4) rfl ?_
  refine WP.ifnullF K (b := va) d11_4 (pc' := 7) rfl ?_
  refine WP.aloadN K d11_7 rfl rfl (pc' := 8) rfl ?_
  refine WP.getF K (w_33 hw) Via.refl (IsMap.f_values O_mp) d11_8 (pc' := 11) rfl ?_
  refine WP.aloadN K d11_11 rfl rfl (pc' := 12) rfl ?_
  refine WP.getF K (w_11 hw) Via.refl (IsMap.f_width O_mp) d11_12 (pc' := 15) rfl ?_
  refine WP.iloadN K d11_15 rfl (pc' := 16) rfl ?_
  refine WP.imul K d11_16 (pc' := 17) rfl ?_
  refine WP.iloadN K d11_17 rfl (pc' := 18) rfl ?_
  refine WP.iadd K d11_18 (pc' := 19) rfl ?_
  refine WP.iaload K (i := (3 * r + 2)) A_x (by first | exact mm | (rw [show 3 * r + 2 = 3 * r + 2 from rfl]; omega) | (have q := mm; omega)) (by omega) (v := (.int (F (3 * r + 2)))) rfl d11_19 (pc' := 20) rfl ?_
  refine WP.goto K d11_20 (by decide) (pc' := 38) (by decide) ?_
  exact WP.retI K d11_38 (by decide) (by decide) ⟨rfl, rfl⟩
set_option maxRecDepth 65536 in
set_option maxHeartbeats 40000000 in
theorem rm_setA2 (w : Bool) (l : Launch) (Z : State) (a0 : Array Value) (hw : ∀ d ∈ tables_1, d.before a0 Z = true) (F : Nat → Int32) (mp va : Addr) (kA : ClassId) (x val : Int32) (r : Nat) (u_entries u_slots u_objects u_greatestKey u_size u_keys : Value) (h0 : Heap) (n0 : Nat) (Z0 : n0 ≤ h0.size) (O_mp : IsMap Z h0 mp (.int (3 : Int32)) (.int (4 : Int32)) u_entries u_slots u_objects u_greatestKey (.ref va) u_size u_keys) (A_x : Ary Z h0 va kA .int 6 (fun j => .int (F j))) (hx : x.toInt = (r : Int)) (hr : 3 * r + 2 < 6) (old_a : n0 ≤ va) :
    Met w l Z (⟨"com/example/weir/weir/engine/IntIntMap", "setValue", "(III)V"⟩ : MethodName) prog_26_method_10_code 4 none [] ({ frames := 0, cells := 0, slots := 0, locals := 0 } : Room) #[(.ref mp), (.int x), (.int (2 : Int32)), (.int val)] h0 n0 (fun v h => v = none ∧ Keep h0 h [va] ∧ IsMap Z h mp (.int (3 : Int32)) (.int (4 : Int32)) u_entries u_slots u_objects u_greatestKey (.ref va) u_size u_keys ∧ Ary Z h va kA .int 6 (fun j => .int (fset F (3 * r + 2) val j))) := by
  refine Met.of (plainFor_of_name (by first | (simp [plainName, overriddenIn]; done) | decide +kernel)) fun κ K => ?_
  refine WP.frame (g' := (mkF κ.m 0 #[.val (.ref mp), .val (.int x), .val (.int (2 : Int32)), .val (.int val)] [])) (by first | (simp [entryFrame, mkF, argsToLocals, Value.category]; done) | rfl) ?_
  have KP := Keep.refl h0 [va]
  have m0 := own_mul4 (y := (3 : Int32)) (c := 3) rfl hx (by omega)
  have mm := own_add2 m0 (y := (2 : Int32)) (k := 2) rfl (by omega)
  refine WP.aloadN K d9_0 rfl rfl (pc' := 1) rfl ?_
  refine WP.getF K (w_33 hw) Via.refl (IsMap.f_values O_mp) d9_1 (pc' := 4) rfl ?_
  refine WP.ifnullF K (b := va) d9_4 (pc' := 7) rfl ?_
  refine WP.aloadN K d9_7 rfl rfl (pc' := 8) rfl ?_
  refine WP.getF K (w_33 hw) Via.refl (IsMap.f_values O_mp) d9_8 (pc' := 11) rfl ?_
  refine WP.aloadN K d9_11 rfl rfl (pc' := 12) rfl ?_
  refine WP.getF K (w_11 hw) Via.refl (IsMap.f_width O_mp) d9_12 (pc' := 15) rfl ?_
  refine WP.iloadN K d9_15 rfl (pc' := 16) rfl ?_
  refine WP.imul K d9_16 (pc' := 17) rfl ?_
  refine WP.iloadN K d9_17 rfl (pc' := 18) rfl ?_
  refine WP.iadd K d9_18 (pc' := 19) rfl ?_
  refine WP.iloadN K d9_19 rfl (pc' := 20) rfl ?_
  refine WP.iastore K (i := (3 * r + 2)) A_x (by have q := mm; omega) (by omega) old_a d9_20 (pc' := 21) rfl fun h39 W39 A_n => ?_
  have O_mp := IsMap.other W39 O_mp (Ary.ne (IsMap.exa O_mp) A_x (w_3 hw))
  have KP := Keep.wr KP W39 (Or.inl (List.mem_of_getElem? (i := 0) rfl))
  have Z0 := Nat.le_trans Z0 (Nat.le_of_eq W39.size.symm)
  have A_x := A_n
  rw [upd_int] at A_x
  refine WP.goto K d9_21 (by decide) (pc' := 40) (by decide) ?_
  exact WP.ret0 K d9_40 (by decide) (by decide) ⟨rfl, KP, O_mp, A_x⟩
set_option maxRecDepth 65536 in
set_option maxHeartbeats 40000000 in
theorem rm_holdsA (w : Bool) (l : Launch) (Z : State) (a0 : Array Value) (hw : ∀ d ∈ tables_1, d.before a0 Z = true) (F : Nat → Int32) (mp va : Addr) (kA : ClassId) (x e0 e1 e2 : Int32) (r : Nat) (u_entries u_slots u_objects u_greatestKey u_size u_keys : Value) (h0 : Heap) (n0 : Nat) (Z0 : n0 ≤ h0.size) (O_mp : IsMap Z h0 mp (.int (3 : Int32)) (.int (4 : Int32)) u_entries u_slots u_objects u_greatestKey (.ref va) u_size u_keys) (A_x : Ary Z h0 va kA .int 6 (fun j => .int (F j))) (hx : x.toInt = (r : Int)) (hr : 3 * r + 2 < 6) (f0 : F (3 * r + 0) = e0) (f1 : F (3 * r + 1) = e1) (f2 : F (3 * r + 2) = e2) :
    Met w l Z (⟨"com/example/weir/weir/engine/IntIntMapSetValuePinLaw", "holds", "(Lcom/example/weir/weir/engine/IntIntMap;IIII)Z"⟩ : MethodName) method_3_code 5 (some .boolean) [] ({ frames := 1, cells := 0, slots := 0, locals := 14 } : Room) #[(.ref mp), (.int x), (.int e0), (.int e1), (.int e2)] h0 n0 (fun v h => v = some (.int 1) ∧ h0 = h) := by
  refine Met.of (plainFor_of_name (by first | (simp [plainName, overriddenIn]; done) | decide +kernel)) fun κ K => ?_
  refine WP.frame (g' := (mkF κ.m 0 #[.val (.ref mp), .val (.int x), .val (.int e0), .val (.int e1), .val (.int e2)] [])) (by first | (simp [entryFrame, mkF, argsToLocals, Value.category]; done) | rfl) ?_
  refine WP.aloadN K d10_0 rfl rfl (pc' := 1) rfl ?_
  refine WP.iloadN K d10_1 rfl (pc' := 2) rfl ?_
  refine WP.iconst K d10_2 (v := (0 : Int32)) rfl (pc' := 3) rfl ?_
  refine WP.callV K (a := mp) (argsL := [(.int x), (.int (0 : Int32))]) (S := []) (w_65 hw) (w_66 hw) (fun vm0 hZ => notFace_of_selects (args := #[]) (mvT (s := κ.s.setVm vm0) hZ (w_68 hw))) (w_68 hw) (w_67 hw) (by decide) (IsMap.exa O_mp) (rm_valueA0 w l Z a0 hw F mp va kA x r u_entries u_slots u_objects u_greatestKey u_size u_keys h0 n0 Z0 O_mp A_x hx hr) (w_69 hw) (w_4 hw) (by decide) rfl (lenOf pd_3 rfl) rfl (W := 0) rfl (by decide) (by decide) (k' := 0) (n' := 0) rfl rfl (by decide) (by decide) d10_3 (pc' := 6) rfl fun v h40 hq => ?_
  obtain ⟨rfl, rfl⟩ := hq
  show WP κ h0 0 0 (mkF κ.m 6 #[.val (.ref mp), .val (.int x), .val (.int e0), .val (.int e1), .val (.int e2)] [(.int (F (3 * r + 0)))])
  refine WP.iloadN K d10_6 rfl (pc' := 7) rfl ?_
  refine WP.icmpF K d10_7 (teq f0).2 (pc' := 10) rfl ?_
  refine WP.aloadN K d10_10 rfl rfl (pc' := 11) rfl ?_
  refine WP.iloadN K d10_11 rfl (pc' := 12) rfl ?_
  refine WP.iconst K d10_12 (v := (1 : Int32)) rfl (pc' := 13) rfl ?_
  refine WP.callV K (a := mp) (argsL := [(.int x), (.int (1 : Int32))]) (S := []) (w_65 hw) (w_66 hw) (fun vm0 hZ => notFace_of_selects (args := #[]) (mvT (s := κ.s.setVm vm0) hZ (w_68 hw))) (w_68 hw) (w_67 hw) (by decide) (IsMap.exa O_mp) (rm_valueA1 w l Z a0 hw F mp va kA x r u_entries u_slots u_objects u_greatestKey u_size u_keys h0 n0 Z0 O_mp A_x hx hr) (w_69 hw) (w_4 hw) (by decide) rfl (lenOf pd_3 rfl) rfl (W := 0) rfl (by decide) (by decide) (k' := 0) (n' := 0) rfl rfl (by decide) (by decide) d10_13 (pc' := 16) rfl fun v h41 hq => ?_
  obtain ⟨rfl, rfl⟩ := hq
  show WP κ h0 0 0 (mkF κ.m 16 #[.val (.ref mp), .val (.int x), .val (.int e0), .val (.int e1), .val (.int e2)] [(.int (F (3 * r + 1)))])
  refine WP.iloadN K d10_16 rfl (pc' := 17) rfl ?_
  refine WP.icmpF K d10_17 (teq f1).2 (pc' := 20) rfl ?_
  refine WP.aloadN K d10_20 rfl rfl (pc' := 21) rfl ?_
  refine WP.iloadN K d10_21 rfl (pc' := 22) rfl ?_
  refine WP.iconst K d10_22 (v := (2 : Int32)) rfl (pc' := 23) rfl ?_
  refine WP.callV K (a := mp) (argsL := [(.int x), (.int (2 : Int32))]) (S := []) (w_65 hw) (w_66 hw) (fun vm0 hZ => notFace_of_selects (args := #[]) (mvT (s := κ.s.setVm vm0) hZ (w_68 hw))) (w_68 hw) (w_67 hw) (by decide) (IsMap.exa O_mp) (rm_valueA2 w l Z a0 hw F mp va kA x r u_entries u_slots u_objects u_greatestKey u_size u_keys h0 n0 Z0 O_mp A_x hx hr) (w_69 hw) (w_4 hw) (by decide) rfl (lenOf pd_3 rfl) rfl (W := 0) rfl (by decide) (by decide) (k' := 0) (n' := 0) rfl rfl (by decide) (by decide) d10_23 (pc' := 26) rfl fun v h42 hq => ?_
  obtain ⟨rfl, rfl⟩ := hq
  show WP κ h0 0 0 (mkF κ.m 26 #[.val (.ref mp), .val (.int x), .val (.int e0), .val (.int e1), .val (.int e2)] [(.int (F (3 * r + 2)))])
  refine WP.iload K d10_26 rfl (pc' := 28) rfl ?_
  refine WP.icmpF K d10_28 (teq f2).2 (pc' := 31) rfl ?_
  refine WP.iconst K d10_31 (v := (1 : Int32)) rfl (pc' := 32) rfl ?_
  refine WP.goto K d10_32 (by decide) (pc' := 36) (by decide) ?_
  exact WP.retN K (ty := .boolean) (by decide) d10_36 (by decide) (by decide) ⟨rfl, rfl⟩
set_option maxRecDepth 65536 in
set_option maxHeartbeats 40000000 in
theorem rm_placeT (w : Bool) (l : Launch) (Z : State) (a0 : Array Value) (hw : ∀ d ∈ tables_1, d.before a0 Z = true) (F : Nat → Int32) (mp en : Addr) (kE : ClassId) (key : Int32) (u_objects u_greatestKey u_size u_keys : Value) (h0 : Heap) (n0 : Nat) (Z0 : n0 ≤ h0.size) (O_mp : IsMap Z h0 mp (.int (3 : Int32)) (.int (4 : Int32)) (.ref en) (.int (8 : Int32)) u_objects u_greatestKey .null u_size u_keys) (A_en : Ary Z h0 en kE .int 32 (fun j => .int (F j))) (hk : F (4 * own_fnd F (key + (1 : Int32)) 8 (own_home key)) = key + (1 : Int32)) (hne : ¬ key + (1 : Int32) = (0 : Int32)) :
    Met w l Z (⟨"com/example/weir/weir/engine/IntIntMap", "place", "(I)I"⟩ : MethodName) prog_26_method_7_code 3 (some .int) [] ({ frames := 2, cells := 0, slots := 0, locals := 28 } : Room) #[(.ref mp), (.int key)] h0 n0 (fun v h => (∃ z : Int32, v = some (.int z) ∧ z.toInt = ((own_fnd F (key + (1 : Int32)) 8 (own_home key) : Nat) : Int)) ∧ h0 = h) := by
  refine Met.of (plainFor_of_name (by first | (simp [plainName, overriddenIn]; done) | decide +kernel)) fun κ K => ?_
  refine WP.frame (g' := (mkF κ.m 0 #[.val (.ref mp), .val (.int key), .unset] [])) (by first | (simp [entryFrame, mkF, argsToLocals, Value.category]; done) | rfl) ?_
  refine WP.aloadN K d8_0 rfl rfl (pc' := 1) rfl ?_
  refine WP.getF K (w_33 hw) Via.refl (IsMap.f_values O_mp) d8_1 (pc' := 4) rfl ?_
  refine WP.ifnullT K (b := 0) d8_4 (by decide) (pc' := 36) (by decide) ?_
  refine WP.aloadN K d8_36 rfl rfl (pc' := 37) rfl ?_
  refine WP.iloadN K d8_37 rfl (pc' := 38) rfl ?_
  refine WP.callP K (a := mp) (argsL := [(.int key)]) (S := []) (w_91 hw) (w_92 hw) (w_3 hw) (w_93 hw) (IsMap.exa O_mp) (rm_find w l Z a0 hw F mp en kE key u_objects u_greatestKey .null u_size u_keys h0 n0 Z0 O_mp A_en (Or.inr hk)) (w_94 hw) (w_4 hw) (by decide) rfl (lenOf pd_4 rfl) rfl (W := 0) rfl (by decide) (by decide) (k' := 0) (n' := 0) rfl rfl (by decide) (by decide) d8_38 (pc' := 41) rfl fun v h43 hq => ?_
  obtain ⟨⟨z, rfl, hz⟩, rfl⟩ := hq
  show WP κ h0 0 0 (mkF κ.m 41 #[.val (.ref mp), .val (.int key), .unset] [(.int z)])
  have h8 : own_fnd F (key + (1 : Int32)) 8 (own_home key) < 8 := own_fnd_lt F _ 8 _ (own_home_e key).2
  have m4 := own_mul4 (y := (4 : Int32)) (c := 4) rfl hz (by omega)
  refine WP.istoreN K d8_41 (L' := #[.val (.ref mp), .val (.int key), .val (.int z)]) rfl (pc' := 42) rfl ?_
  refine WP.aloadN K d8_42 rfl rfl (pc' := 43) rfl ?_
  refine WP.getF K (w_20 hw) Via.refl (IsMap.f_entries O_mp) d8_43 (pc' := 46) rfl ?_
  refine WP.aloadN K d8_46 rfl rfl (pc' := 47) rfl ?_
  refine WP.getF K (w_13 hw) Via.refl (IsMap.f_stride O_mp) d8_47 (pc' := 50) rfl ?_
  refine WP.iloadN K d8_50 rfl (pc' := 51) rfl ?_
  refine WP.imul K d8_51 (pc' := 52) rfl ?_
  refine WP.iaload K (i := (4 * own_fnd F (key + (1 : Int32)) 8 (own_home key))) A_en m4 (by omega) (v := (.int (key + (1 : Int32)))) (congrArg Value.int hk) d8_52 (pc' := 53) rfl ?_
  refine WP.if0T K d8_53 ((if0 _ _).trans (feq hne).2) (by decide) (pc' := 60) (by decide) ?_
  refine WP.iloadN K d8_60 rfl (pc' := 61) rfl ?_
  exact WP.retI K d8_61 (by decide) (by decide) ⟨⟨z, rfl, hz⟩, rfl⟩
set_option maxRecDepth 65536 in
set_option maxHeartbeats 40000000 in
theorem rm_placeA0 (w : Bool) (l : Launch) (Z : State) (a0 : Array Value) (hw : ∀ d ∈ tables_1, d.before a0 Z = true) (F : Nat → Int32) (mp va : Addr) (kA : ClassId) (u_entries u_slots u_objects u_greatestKey u_size : Value) (h0 : Heap) (n0 : Nat) (Z0 : n0 ≤ h0.size) (O_mp : IsMap Z h0 mp (.int (3 : Int32)) (.int (4 : Int32)) u_entries u_slots u_objects u_greatestKey (.ref va) u_size (.int (2 : Int32))) (A_va : Ary Z h0 va kA .int 6 (fun j => .int (F j))) (hk : ¬ F 0 = (-1 : Int32)) :
    Met w l Z (⟨"com/example/weir/weir/engine/IntIntMap", "place", "(I)I"⟩ : MethodName) prog_26_method_7_code 3 (some .int) [] ({ frames := 0, cells := 0, slots := 0, locals := 0 } : Room) #[(.ref mp), (.int (0 : Int32))] h0 n0 (fun v h => v = some (.int (0 : Int32)) ∧ h0 = h) := by
  refine Met.of (plainFor_of_name (by first | (simp [plainName, overriddenIn]; done) | decide +kernel)) fun κ K => ?_
  refine WP.frame (g' := (mkF κ.m 0 #[.val (.ref mp), .val (.int (0 : Int32)), .unset] [])) (by first | (simp [entryFrame, mkF, argsToLocals, Value.category]; done) | rfl) ?_
  refine WP.aloadN K d8_0 rfl rfl (pc' := 1) rfl ?_
  refine WP.getF K (w_33 hw) Via.refl (IsMap.f_values O_mp) d8_1 (pc' := 4) rfl ?_
  refine WP.ifnullF K (b := va) d8_4 (pc' := 7) rfl ?_
  refine WP.iloadN K d8_7 rfl (pc' := 8) rfl ?_
  refine WP.aloadN K d8_8 rfl rfl (pc' := 9) rfl ?_
  refine WP.getF K (w_45 hw) Via.refl (IsMap.f_keys O_mp) d8_9 (pc' := 12) rfl ?_
  refine WP.icmpF K d8_12 (by decide) (pc' := 15) rfl ?_
  refine WP.aloadN K d8_15 rfl rfl (pc' := 16) rfl ?_
  refine WP.getF K (w_33 hw) Via.refl (IsMap.f_values O_mp) d8_16 (pc' := 19) rfl ?_
  refine WP.aloadN K d8_19 rfl rfl (pc' := 20) rfl ?_
  refine WP.getF K (w_11 hw) Via.refl (IsMap.f_width O_mp) d8_20 (pc' := 23) rfl ?_
  refine WP.iloadN K d8_23 rfl (pc' := 24) rfl ?_
  refine WP.imul K d8_24 (pc' := 25) rfl ?_
  show WP κ h0 0 0 (mkF κ.m 25 #[.val (.ref mp), .val (.int (0 : Int32)), .unset] [(.int (0 : Int32)), (.ref va)])
  refine WP.iaload K (i := 0) A_va rfl (by decide) (v := (.int (F 0))) rfl d8_25 (pc' := 26) rfl ?_
  refine WP.iconst K d8_26 (v := (-1 : Int32)) rfl (pc' := 27) rfl ?_
  refine WP.icmpF K d8_27 (feq hk).1 (pc' := 30) rfl ?_
  refine WP.iloadN K d8_30 rfl (pc' := 31) rfl ?_
  refine WP.goto K d8_31 (by decide) (pc' := 35) (by decide) ?_
  exact WP.retI K d8_35 (by decide) (by decide) ⟨rfl, rfl⟩
set_option maxRecDepth 65536 in
set_option maxHeartbeats 40000000 in
theorem rm_placeA1 (w : Bool) (l : Launch) (Z : State) (a0 : Array Value) (hw : ∀ d ∈ tables_1, d.before a0 Z = true) (F : Nat → Int32) (mp va : Addr) (kA : ClassId) (u_entries u_slots u_objects u_greatestKey u_size : Value) (h0 : Heap) (n0 : Nat) (Z0 : n0 ≤ h0.size) (O_mp : IsMap Z h0 mp (.int (3 : Int32)) (.int (4 : Int32)) u_entries u_slots u_objects u_greatestKey (.ref va) u_size (.int (2 : Int32))) (A_va : Ary Z h0 va kA .int 6 (fun j => .int (F j))) (hk : ¬ F 3 = (-1 : Int32)) :
    Met w l Z (⟨"com/example/weir/weir/engine/IntIntMap", "place", "(I)I"⟩ : MethodName) prog_26_method_7_code 3 (some .int) [] ({ frames := 0, cells := 0, slots := 0, locals := 0 } : Room) #[(.ref mp), (.int (1 : Int32))] h0 n0 (fun v h => v = some (.int (1 : Int32)) ∧ h0 = h) := by
  refine Met.of (plainFor_of_name (by first | (simp [plainName, overriddenIn]; done) | decide +kernel)) fun κ K => ?_
  refine WP.frame (g' := (mkF κ.m 0 #[.val (.ref mp), .val (.int (1 : Int32)), .unset] [])) (by first | (simp [entryFrame, mkF, argsToLocals, Value.category]; done) | rfl) ?_
  refine WP.aloadN K d8_0 rfl rfl (pc' := 1) rfl ?_
  refine WP.getF K (w_33 hw) Via.refl (IsMap.f_values O_mp) d8_1 (pc' := 4) rfl ?_
  refine WP.ifnullF K (b := va) d8_4 (pc' := 7) rfl ?_
  refine WP.iloadN K d8_7 rfl (pc' := 8) rfl ?_
  refine WP.aloadN K d8_8 rfl rfl (pc' := 9) rfl ?_
  refine WP.getF K (w_45 hw) Via.refl (IsMap.f_keys O_mp) d8_9 (pc' := 12) rfl ?_
  refine WP.icmpF K d8_12 (by decide) (pc' := 15) rfl ?_
  refine WP.aloadN K d8_15 rfl rfl (pc' := 16) rfl ?_
  refine WP.getF K (w_33 hw) Via.refl (IsMap.f_values O_mp) d8_16 (pc' := 19) rfl ?_
  refine WP.aloadN K d8_19 rfl rfl (pc' := 20) rfl ?_
  refine WP.getF K (w_11 hw) Via.refl (IsMap.f_width O_mp) d8_20 (pc' := 23) rfl ?_
  refine WP.iloadN K d8_23 rfl (pc' := 24) rfl ?_
  refine WP.imul K d8_24 (pc' := 25) rfl ?_
  show WP κ h0 0 0 (mkF κ.m 25 #[.val (.ref mp), .val (.int (1 : Int32)), .unset] [(.int (3 : Int32)), (.ref va)])
  refine WP.iaload K (i := 3) A_va rfl (by decide) (v := (.int (F 3))) rfl d8_25 (pc' := 26) rfl ?_
  refine WP.iconst K d8_26 (v := (-1 : Int32)) rfl (pc' := 27) rfl ?_
  refine WP.icmpF K d8_27 (feq hk).1 (pc' := 30) rfl ?_
  refine WP.iloadN K d8_30 rfl (pc' := 31) rfl ?_
  refine WP.goto K d8_31 (by decide) (pc' := 35) (by decide) ?_
  exact WP.retI K d8_35 (by decide) (by decide) ⟨rfl, rfl⟩
set_option maxRecDepth 65536 in
set_option maxHeartbeats 40000000 in
theorem rm_toArray1 (w : Bool) (l : Launch) (Z : State) (a0 : Array Value) (hw : ∀ d ∈ tables_1, d.before a0 Z = true) (mp en : Addr) (kE : ClassId) (u_greatestKey u_size u_keys : Value) (h0 : Heap) (n0 : Nat) (Z0 : n0 ≤ h0.size) (O_mp : IsMap Z h0 mp (.int (3 : Int32)) (.int (4 : Int32)) (.ref en) (.int (8 : Int32)) .null u_greatestKey .null u_size u_keys) (A_en : Ary Z h0 en kE .int 32 (fun j => .int ((fun _ => (0 : Int32)) j))) (old_mp : n0 ≤ mp) :
    Met w l Z (⟨"com/example/weir/weir/engine/IntIntMap", "toArray", "(I)V"⟩ : MethodName) prog_26_method_24_code 5 none [] ({ frames := 1, cells := 1, slots := 3, locals := 15 } : Room) #[(.ref mp), (.int (1 : Int32))] h0 n0 (fun v h => v = none ∧ Keep h0 h [mp] ∧ ∃ (va : Addr) (kA : ClassId), h0.size ≤ va ∧ IsMap Z h mp (.int (3 : Int32)) (.int (4 : Int32)) .null (.int (0 : Int32)) .null u_greatestKey (.ref va) u_size (.int (1 : Int32)) ∧ Ary Z h va kA .int 3 (fun j => .int (own_fill (fun _ => (0 : Int32)) 0 3 (-1) j))) := by
  refine Met.of (plainFor_of_name (by first | (simp [plainName, overriddenIn]; done) | decide +kernel)) fun κ K => ?_
  refine WP.frame (g' := (mkF κ.m 0 #[.val (.ref mp), .val (.int (1 : Int32)), .unset, .unset, .unset] [])) (by first | (simp [entryFrame, mkF, argsToLocals, Value.category]; done) | rfl) ?_
  have KP := Keep.refl h0 [mp]
  refine WP.aloadN K d6_0 rfl rfl (pc' := 1) rfl ?_
  refine WP.getF K (w_24 hw) Via.refl (IsMap.f_objects O_mp) d6_1 (pc' := 4) rfl ?_
  refine WP.astoreN K d6_4 rfl (L' := #[.val (.ref mp), .val (.int (1 : Int32)), .val .null, .unset, .unset]) rfl (pc' := 5) rfl ?_
  refine WP.aloadN K d6_5 rfl rfl (pc' := 6) rfl ?_
  refine WP.aloadN K d6_6 rfl rfl (pc' := 7) rfl ?_
  refine WP.getF K (w_11 hw) Via.refl (IsMap.f_width O_mp) d6_7 (pc' := 10) rfl ?_
  refine WP.iloadN K d6_10 rfl (pc' := 11) rfl ?_
  refine WP.imul K d6_11 (pc' := 12) rfl ?_
  show WP κ h0 0 0 (mkF κ.m 12 #[.val (.ref mp), .val (.int (1 : Int32)), .val .null, .unset, .unset] [(.int (3 : Int32)), (.ref mp)])
  refine WP.newarray (aty := .int) K (w_19 hw) d6_12 (N := 3) (cap := 3) rfl (Nat.le_refl _) (by decide) (k' := 1) (n' := 3) rfl rfl (by decide) (by decide) (pc' := 14) rfl fun h44 va kA_va g44 E44 A_va => ?_
  have ne_mp_va : mp ≠ va := fun z_ => by have q_ : @LT.lt Nat _ mp h0.size := (IsMap.lt O_mp); have r_ : @Eq Nat mp va := z_; omega
  have ne_en_va : en ≠ va := fun z_ => by have q_ : @LT.lt Nat _ en h0.size := (Ary.lt A_en); have r_ : @Eq Nat en va := z_; omega
  have old_va : n0 ≤ va := by have q_ := Z0; omega
  have osz_va : h0.size ≤ va := by have q_ := KP.1; omega
  have O_mp := IsMap.ext E44 O_mp
  have A_en := Ary.ext E44 A_en
  have KP := Keep.ext KP E44
  have Z0 := Nat.le_trans Z0 E44.1
  have A_va : Ary Z h44 va kA_va .int 3 (fun j => .int ((fun _ => (0 : Int32)) j)) := A_va
  refine WP.putF K (w_33 hw) Via.refl (IsMap.f_values O_mp) (IsMap.exa O_mp) (Or.inl (w_34 hw)) (w_3 hw) (ty := (.array .int)) (by decide) rfl rfl old_mp d6_14 (pc' := 17) rfl fun h45 W45 => ?_
  have A_en := Ary.other W45 A_en (Ne.symm (Ary.ne (IsMap.exa O_mp) A_en (w_3 hw)))
  have A_va := Ary.other W45 A_va (Ne.symm ne_mp_va)
  have KP := Keep.wr KP W45 (Or.inl (List.mem_of_getElem? (i := 0) rfl))
  have Z0 := Nat.le_trans Z0 (Nat.le_of_eq W45.size.symm)
  have O_mp := IsMap.s_values hw W45 O_mp
  refine WP.aloadN K d6_17 rfl rfl (pc' := 18) rfl ?_
  refine WP.iloadN K d6_18 rfl (pc' := 19) rfl ?_
  refine WP.putF K (w_45 hw) Via.refl (IsMap.f_keys O_mp) (IsMap.exa O_mp) (Or.inl (w_46 hw)) (w_3 hw) (ty := .int) (by decide) rfl rfl old_mp d6_19 (pc' := 22) rfl fun h46 W46 => ?_
  have A_en := Ary.other W46 A_en (Ne.symm (Ary.ne (IsMap.exa O_mp) A_en (w_3 hw)))
  have A_va := Ary.other W46 A_va (Ne.symm ne_mp_va)
  have KP := Keep.wr KP W46 (Or.inl (List.mem_of_getElem? (i := 0) rfl))
  have Z0 := Nat.le_trans Z0 (Nat.le_of_eq W46.size.symm)
  have O_mp := IsMap.s_keys hw W46 O_mp
  refine WP.aloadN K d6_22 rfl rfl (pc' := 23) rfl ?_
  refine WP.getF K (w_33 hw) Via.refl (IsMap.f_values O_mp) d6_23 (pc' := 26) rfl ?_
  refine WP.iconst K d6_26 (v := (-1 : Int32)) rfl (pc' := 27) rfl ?_
  refine WP.callS K (argsL := [(.ref va), (.int (-1 : Int32))]) (S := []) (w_47 hw) (w_48 hw) (rm_fill2 w l Z a0 hw va kA_va 3 (fun _ => (0 : Int32)) (-1) h46 n0 Z0 A_va old_va) (w_50 hw) (w_49 hw) (by decide) rfl (lenOf pd_6 rfl) rfl (W := 0) rfl (by decide) (by decide) (k' := 1) (n' := 3) rfl rfl (by decide) (by decide) d6_27 (pc' := 30) rfl fun v h47 hq => ?_
  obtain ⟨rfl, K1, A_va⟩ := hq
  have O_mp := IsMap.keep K1 O_mp (ninS ne_mp_va nin0)
  have A_en := Ary.keep K1 A_en (ninS ne_en_va nin0)
  have KP := Keep.trans KP K1 (allS (Or.inr osz_va) all0)
  have Z0 := Nat.le_trans Z0 K1.1
  show WP κ h47 1 3 (mkF κ.m 30 #[.val (.ref mp), .val (.int (1 : Int32)), .val .null, .unset, .unset] [])
  refine WP.aloadN K d6_30 rfl rfl (pc' := 31) rfl ?_
  refine WP.aloadN K d6_31 rfl rfl (pc' := 32) rfl ?_
  refine WP.ifnonnullF K (b := 0) d6_32 (pc' := 35) rfl ?_
  refine WP.aconst_null K d6_35 (pc' := 36) rfl ?_
  refine WP.goto K d6_36 (by decide) (pc' := 43) (by decide) ?_
  refine WP.putF K (w_24 hw) Via.refl (IsMap.f_objects O_mp) (IsMap.exa O_mp) (Or.inl (w_25 hw)) (w_3 hw) (ty := (.array (.object "java/lang/Object"))) (by decide) rfl rfl old_mp d6_43 (pc' := 46) rfl fun h48 W48 => ?_
  have A_en := Ary.other W48 A_en (Ne.symm (Ary.ne (IsMap.exa O_mp) A_en (w_3 hw)))
  have A_va := Ary.other W48 A_va (Ne.symm ne_mp_va)
  have KP := Keep.wr KP W48 (Or.inl (List.mem_of_getElem? (i := 0) rfl))
  have Z0 := Nat.le_trans Z0 (Nat.le_of_eq W48.size.symm)
  have O_mp := IsMap.s_objects hw W48 O_mp
  refine WP.iconst K d6_46 (v := (0 : Int32)) rfl (pc' := 47) rfl ?_
  refine WP.istoreN K d6_47 (L' := #[.val (.ref mp), .val (.int (1 : Int32)), .val .null, .val (.int (0 : Int32)), .unset]) rfl (pc' := 48) rfl ?_
  refine WP.iloadN K d6_48 rfl (pc' := 49) rfl ?_
  refine WP.aloadN K d6_49 rfl rfl (pc' := 50) rfl ?_
  refine WP.getF K (w_22 hw) Via.refl (IsMap.f_slots O_mp) d6_50 (pc' := 53) rfl ?_
  refine WP.icmpF K d6_53 (by decide) (pc' := 56) rfl ?_
  refine WP.aloadN K d6_56 rfl rfl (pc' := 57) rfl ?_
  refine WP.getF K (w_20 hw) Via.refl (IsMap.f_entries O_mp) d6_57 (pc' := 60) rfl ?_
  refine WP.aloadN K d6_60 rfl rfl (pc' := 61) rfl ?_
  refine WP.getF K (w_13 hw) Via.refl (IsMap.f_stride O_mp) d6_61 (pc' := 64) rfl ?_
  refine WP.iloadN K d6_64 rfl (pc' := 65) rfl ?_
  refine WP.imul K d6_65 (pc' := 66) rfl ?_
  show WP κ h48 1 3 (mkF κ.m 66 #[.val (.ref mp), .val (.int (1 : Int32)), .val .null, .val (.int (0 : Int32)), .unset] [(.int (0 : Int32)), (.ref en)])
  refine WP.iaload K (i := 0) A_en rfl (by decide) (v := (.int (0 : Int32))) rfl d6_66 (pc' := 67) rfl ?_
  refine WP.iconst K d6_67 (v := (1 : Int32)) rfl (pc' := 68) rfl ?_
  refine WP.isub K d6_68 (pc' := 69) rfl ?_
  show WP κ h48 1 3 (mkF κ.m 69 #[.val (.ref mp), .val (.int (1 : Int32)), .val .null, .val (.int (0 : Int32)), .unset] [(.int (-1 : Int32))])
  refine WP.istore K d6_69 (L' := #[.val (.ref mp), .val (.int (1 : Int32)), .val .null, .val (.int (0 : Int32)), .val (.int (-1 : Int32))]) rfl (pc' := 71) rfl ?_
  refine WP.iload K d6_71 rfl (pc' := 73) rfl ?_
  refine WP.iconst K d6_73 (v := (-1 : Int32)) rfl (pc' := 74) rfl ?_
  refine WP.icmpT K d6_74 (by decide) (by decide) (pc' := 124) (by decide) ?_
  refine WP.iinc K d6_124 (v := (1 : Int32)) rfl rfl (L' := #[.val (.ref mp), .val (.int (1 : Int32)), .val .null, .val (.int (1 : Int32)), .val (.int (-1 : Int32))]) rfl (pc' := 127) rfl ?_
  refine WP.goto K d6_127 (by decide) (pc' := 48) (by decide) ?_
  refine WP.iloadN K d6_48 rfl (pc' := 49) rfl ?_
  refine WP.aloadN K d6_49 rfl rfl (pc' := 50) rfl ?_
  refine WP.getF K (w_22 hw) Via.refl (IsMap.f_slots O_mp) d6_50 (pc' := 53) rfl ?_
  refine WP.icmpF K d6_53 (by decide) (pc' := 56) rfl ?_
  refine WP.aloadN K d6_56 rfl rfl (pc' := 57) rfl ?_
  refine WP.getF K (w_20 hw) Via.refl (IsMap.f_entries O_mp) d6_57 (pc' := 60) rfl ?_
  refine WP.aloadN K d6_60 rfl rfl (pc' := 61) rfl ?_
  refine WP.getF K (w_13 hw) Via.refl (IsMap.f_stride O_mp) d6_61 (pc' := 64) rfl ?_
  refine WP.iloadN K d6_64 rfl (pc' := 65) rfl ?_
  refine WP.imul K d6_65 (pc' := 66) rfl ?_
  show WP κ h48 1 3 (mkF κ.m 66 #[.val (.ref mp), .val (.int (1 : Int32)), .val .null, .val (.int (1 : Int32)), .val (.int (-1 : Int32))] [(.int (4 : Int32)), (.ref en)])
  refine WP.iaload K (i := 4) A_en rfl (by decide) (v := (.int (0 : Int32))) rfl d6_66 (pc' := 67) rfl ?_
  refine WP.iconst K d6_67 (v := (1 : Int32)) rfl (pc' := 68) rfl ?_
  refine WP.isub K d6_68 (pc' := 69) rfl ?_
  show WP κ h48 1 3 (mkF κ.m 69 #[.val (.ref mp), .val (.int (1 : Int32)), .val .null, .val (.int (1 : Int32)), .val (.int (-1 : Int32))] [(.int (-1 : Int32))])
  refine WP.istore K d6_69 (L' := #[.val (.ref mp), .val (.int (1 : Int32)), .val .null, .val (.int (1 : Int32)), .val (.int (-1 : Int32))]) rfl (pc' := 71) rfl ?_
  refine WP.iload K d6_71 rfl (pc' := 73) rfl ?_
  refine WP.iconst K d6_73 (v := (-1 : Int32)) rfl (pc' := 74) rfl ?_
  refine WP.icmpT K d6_74 (by decide) (by decide) (pc' := 124) (by decide) ?_
  refine WP.iinc K d6_124 (v := (1 : Int32)) rfl rfl (L' := #[.val (.ref mp), .val (.int (1 : Int32)), .val .null, .val (.int (2 : Int32)), .val (.int (-1 : Int32))]) rfl (pc' := 127) rfl ?_
  refine WP.goto K d6_127 (by decide) (pc' := 48) (by decide) ?_
  refine WP.iloadN K d6_48 rfl (pc' := 49) rfl ?_
  refine WP.aloadN K d6_49 rfl rfl (pc' := 50) rfl ?_
  refine WP.getF K (w_22 hw) Via.refl (IsMap.f_slots O_mp) d6_50 (pc' := 53) rfl ?_
  refine WP.icmpF K d6_53 (by decide) (pc' := 56) rfl ?_
  refine WP.aloadN K d6_56 rfl rfl (pc' := 57) rfl ?_
  refine WP.getF K (w_20 hw) Via.refl (IsMap.f_entries O_mp) d6_57 (pc' := 60) rfl ?_
  refine WP.aloadN K d6_60 rfl rfl (pc' := 61) rfl ?_
  refine WP.getF K (w_13 hw) Via.refl (IsMap.f_stride O_mp) d6_61 (pc' := 64) rfl ?_
  refine WP.iloadN K d6_64 rfl (pc' := 65) rfl ?_
  refine WP.imul K d6_65 (pc' := 66) rfl ?_
  show WP κ h48 1 3 (mkF κ.m 66 #[.val (.ref mp), .val (.int (1 : Int32)), .val .null, .val (.int (2 : Int32)), .val (.int (-1 : Int32))] [(.int (8 : Int32)), (.ref en)])
  refine WP.iaload K (i := 8) A_en rfl (by decide) (v := (.int (0 : Int32))) rfl d6_66 (pc' := 67) rfl ?_
  refine WP.iconst K d6_67 (v := (1 : Int32)) rfl (pc' := 68) rfl ?_
  refine WP.isub K d6_68 (pc' := 69) rfl ?_
  show WP κ h48 1 3 (mkF κ.m 69 #[.val (.ref mp), .val (.int (1 : Int32)), .val .null, .val (.int (2 : Int32)), .val (.int (-1 : Int32))] [(.int (-1 : Int32))])
  refine WP.istore K d6_69 (L' := #[.val (.ref mp), .val (.int (1 : Int32)), .val .null, .val (.int (2 : Int32)), .val (.int (-1 : Int32))]) rfl (pc' := 71) rfl ?_
  refine WP.iload K d6_71 rfl (pc' := 73) rfl ?_
  refine WP.iconst K d6_73 (v := (-1 : Int32)) rfl (pc' := 74) rfl ?_
  refine WP.icmpT K d6_74 (by decide) (by decide) (pc' := 124) (by decide) ?_
  refine WP.iinc K d6_124 (v := (1 : Int32)) rfl rfl (L' := #[.val (.ref mp), .val (.int (1 : Int32)), .val .null, .val (.int (3 : Int32)), .val (.int (-1 : Int32))]) rfl (pc' := 127) rfl ?_
  refine WP.goto K d6_127 (by decide) (pc' := 48) (by decide) ?_
  refine WP.iloadN K d6_48 rfl (pc' := 49) rfl ?_
  refine WP.aloadN K d6_49 rfl rfl (pc' := 50) rfl ?_
  refine WP.getF K (w_22 hw) Via.refl (IsMap.f_slots O_mp) d6_50 (pc' := 53) rfl ?_
  refine WP.icmpF K d6_53 (by decide) (pc' := 56) rfl ?_
  refine WP.aloadN K d6_56 rfl rfl (pc' := 57) rfl ?_
  refine WP.getF K (w_20 hw) Via.refl (IsMap.f_entries O_mp) d6_57 (pc' := 60) rfl ?_
  refine WP.aloadN K d6_60 rfl rfl (pc' := 61) rfl ?_
  refine WP.getF K (w_13 hw) Via.refl (IsMap.f_stride O_mp) d6_61 (pc' := 64) rfl ?_
  refine WP.iloadN K d6_64 rfl (pc' := 65) rfl ?_
  refine WP.imul K d6_65 (pc' := 66) rfl ?_
  show WP κ h48 1 3 (mkF κ.m 66 #[.val (.ref mp), .val (.int (1 : Int32)), .val .null, .val (.int (3 : Int32)), .val (.int (-1 : Int32))] [(.int (12 : Int32)), (.ref en)])
  refine WP.iaload K (i := 12) A_en rfl (by decide) (v := (.int (0 : Int32))) rfl d6_66 (pc' := 67) rfl ?_
  refine WP.iconst K d6_67 (v := (1 : Int32)) rfl (pc' := 68) rfl ?_
  refine WP.isub K d6_68 (pc' := 69) rfl ?_
  show WP κ h48 1 3 (mkF κ.m 69 #[.val (.ref mp), .val (.int (1 : Int32)), .val .null, .val (.int (3 : Int32)), .val (.int (-1 : Int32))] [(.int (-1 : Int32))])
  refine WP.istore K d6_69 (L' := #[.val (.ref mp), .val (.int (1 : Int32)), .val .null, .val (.int (3 : Int32)), .val (.int (-1 : Int32))]) rfl (pc' := 71) rfl ?_
  refine WP.iload K d6_71 rfl (pc' := 73) rfl ?_
  refine WP.iconst K d6_73 (v := (-1 : Int32)) rfl (pc' := 74) rfl ?_
  refine WP.icmpT K d6_74 (by decide) (by decide) (pc' := 124) (by decide) ?_
  refine WP.iinc K d6_124 (v := (1 : Int32)) rfl rfl (L' := #[.val (.ref mp), .val (.int (1 : Int32)), .val .null, .val (.int (4 : Int32)), .val (.int (-1 : Int32))]) rfl (pc' := 127) rfl ?_
  refine WP.goto K d6_127 (by decide) (pc' := 48) (by decide) ?_
  refine WP.iloadN K d6_48 rfl (pc' := 49) rfl ?_
  refine WP.aloadN K d6_49 rfl rfl (pc' := 50) rfl ?_
  refine WP.getF K (w_22 hw) Via.refl (IsMap.f_slots O_mp) d6_50 (pc' := 53) rfl ?_
  refine WP.icmpF K d6_53 (by decide) (pc' := 56) rfl ?_
  refine WP.aloadN K d6_56 rfl rfl (pc' := 57) rfl ?_
  refine WP.getF K (w_20 hw) Via.refl (IsMap.f_entries O_mp) d6_57 (pc' := 60) rfl ?_
  refine WP.aloadN K d6_60 rfl rfl (pc' := 61) rfl ?_
  refine WP.getF K (w_13 hw) Via.refl (IsMap.f_stride O_mp) d6_61 (pc' := 64) rfl ?_
  refine WP.iloadN K d6_64 rfl (pc' := 65) rfl ?_
  refine WP.imul K d6_65 (pc' := 66) rfl ?_
  show WP κ h48 1 3 (mkF κ.m 66 #[.val (.ref mp), .val (.int (1 : Int32)), .val .null, .val (.int (4 : Int32)), .val (.int (-1 : Int32))] [(.int (16 : Int32)), (.ref en)])
  refine WP.iaload K (i := 16) A_en rfl (by decide) (v := (.int (0 : Int32))) rfl d6_66 (pc' := 67) rfl ?_
  refine WP.iconst K d6_67 (v := (1 : Int32)) rfl (pc' := 68) rfl ?_
  refine WP.isub K d6_68 (pc' := 69) rfl ?_
  show WP κ h48 1 3 (mkF κ.m 69 #[.val (.ref mp), .val (.int (1 : Int32)), .val .null, .val (.int (4 : Int32)), .val (.int (-1 : Int32))] [(.int (-1 : Int32))])
  refine WP.istore K d6_69 (L' := #[.val (.ref mp), .val (.int (1 : Int32)), .val .null, .val (.int (4 : Int32)), .val (.int (-1 : Int32))]) rfl (pc' := 71) rfl ?_
  refine WP.iload K d6_71 rfl (pc' := 73) rfl ?_
  refine WP.iconst K d6_73 (v := (-1 : Int32)) rfl (pc' := 74) rfl ?_
  refine WP.icmpT K d6_74 (by decide) (by decide) (pc' := 124) (by decide) ?_
  refine WP.iinc K d6_124 (v := (1 : Int32)) rfl rfl (L' := #[.val (.ref mp), .val (.int (1 : Int32)), .val .null, .val (.int (5 : Int32)), .val (.int (-1 : Int32))]) rfl (pc' := 127) rfl ?_
  refine WP.goto K d6_127 (by decide) (pc' := 48) (by decide) ?_
  refine WP.iloadN K d6_48 rfl (pc' := 49) rfl ?_
  refine WP.aloadN K d6_49 rfl rfl (pc' := 50) rfl ?_
  refine WP.getF K (w_22 hw) Via.refl (IsMap.f_slots O_mp) d6_50 (pc' := 53) rfl ?_
  refine WP.icmpF K d6_53 (by decide) (pc' := 56) rfl ?_
  refine WP.aloadN K d6_56 rfl rfl (pc' := 57) rfl ?_
  refine WP.getF K (w_20 hw) Via.refl (IsMap.f_entries O_mp) d6_57 (pc' := 60) rfl ?_
  refine WP.aloadN K d6_60 rfl rfl (pc' := 61) rfl ?_
  refine WP.getF K (w_13 hw) Via.refl (IsMap.f_stride O_mp) d6_61 (pc' := 64) rfl ?_
  refine WP.iloadN K d6_64 rfl (pc' := 65) rfl ?_
  refine WP.imul K d6_65 (pc' := 66) rfl ?_
  show WP κ h48 1 3 (mkF κ.m 66 #[.val (.ref mp), .val (.int (1 : Int32)), .val .null, .val (.int (5 : Int32)), .val (.int (-1 : Int32))] [(.int (20 : Int32)), (.ref en)])
  refine WP.iaload K (i := 20) A_en rfl (by decide) (v := (.int (0 : Int32))) rfl d6_66 (pc' := 67) rfl ?_
  refine WP.iconst K d6_67 (v := (1 : Int32)) rfl (pc' := 68) rfl ?_
  refine WP.isub K d6_68 (pc' := 69) rfl ?_
  show WP κ h48 1 3 (mkF κ.m 69 #[.val (.ref mp), .val (.int (1 : Int32)), .val .null, .val (.int (5 : Int32)), .val (.int (-1 : Int32))] [(.int (-1 : Int32))])
  refine WP.istore K d6_69 (L' := #[.val (.ref mp), .val (.int (1 : Int32)), .val .null, .val (.int (5 : Int32)), .val (.int (-1 : Int32))]) rfl (pc' := 71) rfl ?_
  refine WP.iload K d6_71 rfl (pc' := 73) rfl ?_
  refine WP.iconst K d6_73 (v := (-1 : Int32)) rfl (pc' := 74) rfl ?_
  refine WP.icmpT K d6_74 (by decide) (by decide) (pc' := 124) (by decide) ?_
  refine WP.iinc K d6_124 (v := (1 : Int32)) rfl rfl (L' := #[.val (.ref mp), .val (.int (1 : Int32)), .val .null, .val (.int (6 : Int32)), .val (.int (-1 : Int32))]) rfl (pc' := 127) rfl ?_
  refine WP.goto K d6_127 (by decide) (pc' := 48) (by decide) ?_
  refine WP.iloadN K d6_48 rfl (pc' := 49) rfl ?_
  refine WP.aloadN K d6_49 rfl rfl (pc' := 50) rfl ?_
  refine WP.getF K (w_22 hw) Via.refl (IsMap.f_slots O_mp) d6_50 (pc' := 53) rfl ?_
  refine WP.icmpF K d6_53 (by decide) (pc' := 56) rfl ?_
  refine WP.aloadN K d6_56 rfl rfl (pc' := 57) rfl ?_
  refine WP.getF K (w_20 hw) Via.refl (IsMap.f_entries O_mp) d6_57 (pc' := 60) rfl ?_
  refine WP.aloadN K d6_60 rfl rfl (pc' := 61) rfl ?_
  refine WP.getF K (w_13 hw) Via.refl (IsMap.f_stride O_mp) d6_61 (pc' := 64) rfl ?_
  refine WP.iloadN K d6_64 rfl (pc' := 65) rfl ?_
  refine WP.imul K d6_65 (pc' := 66) rfl ?_
  show WP κ h48 1 3 (mkF κ.m 66 #[.val (.ref mp), .val (.int (1 : Int32)), .val .null, .val (.int (6 : Int32)), .val (.int (-1 : Int32))] [(.int (24 : Int32)), (.ref en)])
  refine WP.iaload K (i := 24) A_en rfl (by decide) (v := (.int (0 : Int32))) rfl d6_66 (pc' := 67) rfl ?_
  refine WP.iconst K d6_67 (v := (1 : Int32)) rfl (pc' := 68) rfl ?_
  refine WP.isub K d6_68 (pc' := 69) rfl ?_
  show WP κ h48 1 3 (mkF κ.m 69 #[.val (.ref mp), .val (.int (1 : Int32)), .val .null, .val (.int (6 : Int32)), .val (.int (-1 : Int32))] [(.int (-1 : Int32))])
  refine WP.istore K d6_69 (L' := #[.val (.ref mp), .val (.int (1 : Int32)), .val .null, .val (.int (6 : Int32)), .val (.int (-1 : Int32))]) rfl (pc' := 71) rfl ?_
  refine WP.iload K d6_71 rfl (pc' := 73) rfl ?_
  refine WP.iconst K d6_73 (v := (-1 : Int32)) rfl (pc' := 74) rfl ?_
  refine WP.icmpT K d6_74 (by decide) (by decide) (pc' := 124) (by decide) ?_
  refine WP.iinc K d6_124 (v := (1 : Int32)) rfl rfl (L' := #[.val (.ref mp), .val (.int (1 : Int32)), .val .null, .val (.int (7 : Int32)), .val (.int (-1 : Int32))]) rfl (pc' := 127) rfl ?_
  refine WP.goto K d6_127 (by decide) (pc' := 48) (by decide) ?_
  refine WP.iloadN K d6_48 rfl (pc' := 49) rfl ?_
  refine WP.aloadN K d6_49 rfl rfl (pc' := 50) rfl ?_
  refine WP.getF K (w_22 hw) Via.refl (IsMap.f_slots O_mp) d6_50 (pc' := 53) rfl ?_
  refine WP.icmpF K d6_53 (by decide) (pc' := 56) rfl ?_
  refine WP.aloadN K d6_56 rfl rfl (pc' := 57) rfl ?_
  refine WP.getF K (w_20 hw) Via.refl (IsMap.f_entries O_mp) d6_57 (pc' := 60) rfl ?_
  refine WP.aloadN K d6_60 rfl rfl (pc' := 61) rfl ?_
  refine WP.getF K (w_13 hw) Via.refl (IsMap.f_stride O_mp) d6_61 (pc' := 64) rfl ?_
  refine WP.iloadN K d6_64 rfl (pc' := 65) rfl ?_
  refine WP.imul K d6_65 (pc' := 66) rfl ?_
  show WP κ h48 1 3 (mkF κ.m 66 #[.val (.ref mp), .val (.int (1 : Int32)), .val .null, .val (.int (7 : Int32)), .val (.int (-1 : Int32))] [(.int (28 : Int32)), (.ref en)])
  refine WP.iaload K (i := 28) A_en rfl (by decide) (v := (.int (0 : Int32))) rfl d6_66 (pc' := 67) rfl ?_
  refine WP.iconst K d6_67 (v := (1 : Int32)) rfl (pc' := 68) rfl ?_
  refine WP.isub K d6_68 (pc' := 69) rfl ?_
  show WP κ h48 1 3 (mkF κ.m 69 #[.val (.ref mp), .val (.int (1 : Int32)), .val .null, .val (.int (7 : Int32)), .val (.int (-1 : Int32))] [(.int (-1 : Int32))])
  refine WP.istore K d6_69 (L' := #[.val (.ref mp), .val (.int (1 : Int32)), .val .null, .val (.int (7 : Int32)), .val (.int (-1 : Int32))]) rfl (pc' := 71) rfl ?_
  refine WP.iload K d6_71 rfl (pc' := 73) rfl ?_
  refine WP.iconst K d6_73 (v := (-1 : Int32)) rfl (pc' := 74) rfl ?_
  refine WP.icmpT K d6_74 (by decide) (by decide) (pc' := 124) (by decide) ?_
  refine WP.iinc K d6_124 (v := (1 : Int32)) rfl rfl (L' := #[.val (.ref mp), .val (.int (1 : Int32)), .val .null, .val (.int (8 : Int32)), .val (.int (-1 : Int32))]) rfl (pc' := 127) rfl ?_
  refine WP.goto K d6_127 (by decide) (pc' := 48) (by decide) ?_
  refine WP.iloadN K d6_48 rfl (pc' := 49) rfl ?_
  refine WP.aloadN K d6_49 rfl rfl (pc' := 50) rfl ?_
  refine WP.getF K (w_22 hw) Via.refl (IsMap.f_slots O_mp) d6_50 (pc' := 53) rfl ?_
  refine WP.icmpT K d6_53 (by decide) (by decide) (pc' := 130) (by decide) ?_
  refine WP.aloadN K d6_130 rfl rfl (pc' := 131) rfl ?_
  refine WP.aconst_null K d6_131 (pc' := 132) rfl ?_
  refine WP.putF K (w_20 hw) Via.refl (IsMap.f_entries O_mp) (IsMap.exa O_mp) (Or.inl (w_21 hw)) (w_3 hw) (ty := (.array .int)) (by decide) rfl rfl old_mp d6_132 (pc' := 135) rfl fun h49 W49 => ?_
  have A_en := Ary.other W49 A_en (Ne.symm (Ary.ne (IsMap.exa O_mp) A_en (w_3 hw)))
  have A_va := Ary.other W49 A_va (Ne.symm ne_mp_va)
  have KP := Keep.wr KP W49 (Or.inl (List.mem_of_getElem? (i := 0) rfl))
  have Z0 := Nat.le_trans Z0 (Nat.le_of_eq W49.size.symm)
  have O_mp := IsMap.s_entries hw W49 O_mp
  refine WP.aloadN K d6_135 rfl rfl (pc' := 136) rfl ?_
  refine WP.iconst K d6_136 (v := (0 : Int32)) rfl (pc' := 137) rfl ?_
  refine WP.putF K (w_22 hw) Via.refl (IsMap.f_slots O_mp) (IsMap.exa O_mp) (Or.inl (w_23 hw)) (w_3 hw) (ty := .int) (by decide) rfl rfl old_mp d6_137 (pc' := 140) rfl fun h50 W50 => ?_
  have A_en := Ary.other W50 A_en (Ne.symm (Ary.ne (IsMap.exa O_mp) A_en (w_3 hw)))
  have A_va := Ary.other W50 A_va (Ne.symm ne_mp_va)
  have KP := Keep.wr KP W50 (Or.inl (List.mem_of_getElem? (i := 0) rfl))
  have Z0 := Nat.le_trans Z0 (Nat.le_of_eq W50.size.symm)
  have O_mp := IsMap.s_slots hw W50 O_mp
  exact WP.ret0 K d6_140 (by decide) (by decide) ⟨rfl, KP, va, kA_va, osz_va, O_mp, A_va⟩
set_option maxRecDepth 65536 in
set_option maxHeartbeats 40000000 in
theorem rm_toArray2 (w : Bool) (l : Launch) (Z : State) (a0 : Array Value) (hw : ∀ d ∈ tables_1, d.before a0 Z = true) (mp en : Addr) (kE : ClassId) (u_greatestKey u_size u_keys : Value) (h0 : Heap) (n0 : Nat) (Z0 : n0 ≤ h0.size) (O_mp : IsMap Z h0 mp (.int (3 : Int32)) (.int (4 : Int32)) (.ref en) (.int (8 : Int32)) .null u_greatestKey .null u_size u_keys) (A_en : Ary Z h0 en kE .int 32 (fun j => .int ((fun _ => (0 : Int32)) j))) (old_mp : n0 ≤ mp) :
    Met w l Z (⟨"com/example/weir/weir/engine/IntIntMap", "toArray", "(I)V"⟩ : MethodName) prog_26_method_24_code 5 none [] ({ frames := 1, cells := 1, slots := 6, locals := 15 } : Room) #[(.ref mp), (.int (2 : Int32))] h0 n0 (fun v h => v = none ∧ Keep h0 h [mp] ∧ ∃ (va : Addr) (kA : ClassId), h0.size ≤ va ∧ IsMap Z h mp (.int (3 : Int32)) (.int (4 : Int32)) .null (.int (0 : Int32)) .null u_greatestKey (.ref va) u_size (.int (2 : Int32)) ∧ Ary Z h va kA .int 6 (fun j => .int (own_fill (fun _ => (0 : Int32)) 0 6 (-1) j))) := by
  refine Met.of (plainFor_of_name (by first | (simp [plainName, overriddenIn]; done) | decide +kernel)) fun κ K => ?_
  refine WP.frame (g' := (mkF κ.m 0 #[.val (.ref mp), .val (.int (2 : Int32)), .unset, .unset, .unset] [])) (by first | (simp [entryFrame, mkF, argsToLocals, Value.category]; done) | rfl) ?_
  have KP := Keep.refl h0 [mp]
  refine WP.aloadN K d6_0 rfl rfl (pc' := 1) rfl ?_
  refine WP.getF K (w_24 hw) Via.refl (IsMap.f_objects O_mp) d6_1 (pc' := 4) rfl ?_
  refine WP.astoreN K d6_4 rfl (L' := #[.val (.ref mp), .val (.int (2 : Int32)), .val .null, .unset, .unset]) rfl (pc' := 5) rfl ?_
  refine WP.aloadN K d6_5 rfl rfl (pc' := 6) rfl ?_
  refine WP.aloadN K d6_6 rfl rfl (pc' := 7) rfl ?_
  refine WP.getF K (w_11 hw) Via.refl (IsMap.f_width O_mp) d6_7 (pc' := 10) rfl ?_
  refine WP.iloadN K d6_10 rfl (pc' := 11) rfl ?_
  refine WP.imul K d6_11 (pc' := 12) rfl ?_
  show WP κ h0 0 0 (mkF κ.m 12 #[.val (.ref mp), .val (.int (2 : Int32)), .val .null, .unset, .unset] [(.int (6 : Int32)), (.ref mp)])
  refine WP.newarray (aty := .int) K (w_19 hw) d6_12 (N := 6) (cap := 6) rfl (Nat.le_refl _) (by decide) (k' := 1) (n' := 6) rfl rfl (by decide) (by decide) (pc' := 14) rfl fun h51 va kA_va g51 E51 A_va => ?_
  have ne_mp_va : mp ≠ va := fun z_ => by have q_ : @LT.lt Nat _ mp h0.size := (IsMap.lt O_mp); have r_ : @Eq Nat mp va := z_; omega
  have ne_en_va : en ≠ va := fun z_ => by have q_ : @LT.lt Nat _ en h0.size := (Ary.lt A_en); have r_ : @Eq Nat en va := z_; omega
  have old_va : n0 ≤ va := by have q_ := Z0; omega
  have osz_va : h0.size ≤ va := by have q_ := KP.1; omega
  have O_mp := IsMap.ext E51 O_mp
  have A_en := Ary.ext E51 A_en
  have KP := Keep.ext KP E51
  have Z0 := Nat.le_trans Z0 E51.1
  have A_va : Ary Z h51 va kA_va .int 6 (fun j => .int ((fun _ => (0 : Int32)) j)) := A_va
  refine WP.putF K (w_33 hw) Via.refl (IsMap.f_values O_mp) (IsMap.exa O_mp) (Or.inl (w_34 hw)) (w_3 hw) (ty := (.array .int)) (by decide) rfl rfl old_mp d6_14 (pc' := 17) rfl fun h52 W52 => ?_
  have A_en := Ary.other W52 A_en (Ne.symm (Ary.ne (IsMap.exa O_mp) A_en (w_3 hw)))
  have A_va := Ary.other W52 A_va (Ne.symm ne_mp_va)
  have KP := Keep.wr KP W52 (Or.inl (List.mem_of_getElem? (i := 0) rfl))
  have Z0 := Nat.le_trans Z0 (Nat.le_of_eq W52.size.symm)
  have O_mp := IsMap.s_values hw W52 O_mp
  refine WP.aloadN K d6_17 rfl rfl (pc' := 18) rfl ?_
  refine WP.iloadN K d6_18 rfl (pc' := 19) rfl ?_
  refine WP.putF K (w_45 hw) Via.refl (IsMap.f_keys O_mp) (IsMap.exa O_mp) (Or.inl (w_46 hw)) (w_3 hw) (ty := .int) (by decide) rfl rfl old_mp d6_19 (pc' := 22) rfl fun h53 W53 => ?_
  have A_en := Ary.other W53 A_en (Ne.symm (Ary.ne (IsMap.exa O_mp) A_en (w_3 hw)))
  have A_va := Ary.other W53 A_va (Ne.symm ne_mp_va)
  have KP := Keep.wr KP W53 (Or.inl (List.mem_of_getElem? (i := 0) rfl))
  have Z0 := Nat.le_trans Z0 (Nat.le_of_eq W53.size.symm)
  have O_mp := IsMap.s_keys hw W53 O_mp
  refine WP.aloadN K d6_22 rfl rfl (pc' := 23) rfl ?_
  refine WP.getF K (w_33 hw) Via.refl (IsMap.f_values O_mp) d6_23 (pc' := 26) rfl ?_
  refine WP.iconst K d6_26 (v := (-1 : Int32)) rfl (pc' := 27) rfl ?_
  refine WP.callS K (argsL := [(.ref va), (.int (-1 : Int32))]) (S := []) (w_47 hw) (w_48 hw) (rm_fill2 w l Z a0 hw va kA_va 6 (fun _ => (0 : Int32)) (-1) h53 n0 Z0 A_va old_va) (w_50 hw) (w_49 hw) (by decide) rfl (lenOf pd_6 rfl) rfl (W := 0) rfl (by decide) (by decide) (k' := 1) (n' := 6) rfl rfl (by decide) (by decide) d6_27 (pc' := 30) rfl fun v h54 hq => ?_
  obtain ⟨rfl, K1, A_va⟩ := hq
  have O_mp := IsMap.keep K1 O_mp (ninS ne_mp_va nin0)
  have A_en := Ary.keep K1 A_en (ninS ne_en_va nin0)
  have KP := Keep.trans KP K1 (allS (Or.inr osz_va) all0)
  have Z0 := Nat.le_trans Z0 K1.1
  show WP κ h54 1 6 (mkF κ.m 30 #[.val (.ref mp), .val (.int (2 : Int32)), .val .null, .unset, .unset] [])
  refine WP.aloadN K d6_30 rfl rfl (pc' := 31) rfl ?_
  refine WP.aloadN K d6_31 rfl rfl (pc' := 32) rfl ?_
  refine WP.ifnonnullF K (b := 0) d6_32 (pc' := 35) rfl ?_
  refine WP.aconst_null K d6_35 (pc' := 36) rfl ?_
  refine WP.goto K d6_36 (by decide) (pc' := 43) (by decide) ?_
  refine WP.putF K (w_24 hw) Via.refl (IsMap.f_objects O_mp) (IsMap.exa O_mp) (Or.inl (w_25 hw)) (w_3 hw) (ty := (.array (.object "java/lang/Object"))) (by decide) rfl rfl old_mp d6_43 (pc' := 46) rfl fun h55 W55 => ?_
  have A_en := Ary.other W55 A_en (Ne.symm (Ary.ne (IsMap.exa O_mp) A_en (w_3 hw)))
  have A_va := Ary.other W55 A_va (Ne.symm ne_mp_va)
  have KP := Keep.wr KP W55 (Or.inl (List.mem_of_getElem? (i := 0) rfl))
  have Z0 := Nat.le_trans Z0 (Nat.le_of_eq W55.size.symm)
  have O_mp := IsMap.s_objects hw W55 O_mp
  refine WP.iconst K d6_46 (v := (0 : Int32)) rfl (pc' := 47) rfl ?_
  refine WP.istoreN K d6_47 (L' := #[.val (.ref mp), .val (.int (2 : Int32)), .val .null, .val (.int (0 : Int32)), .unset]) rfl (pc' := 48) rfl ?_
  refine WP.iloadN K d6_48 rfl (pc' := 49) rfl ?_
  refine WP.aloadN K d6_49 rfl rfl (pc' := 50) rfl ?_
  refine WP.getF K (w_22 hw) Via.refl (IsMap.f_slots O_mp) d6_50 (pc' := 53) rfl ?_
  refine WP.icmpF K d6_53 (by decide) (pc' := 56) rfl ?_
  refine WP.aloadN K d6_56 rfl rfl (pc' := 57) rfl ?_
  refine WP.getF K (w_20 hw) Via.refl (IsMap.f_entries O_mp) d6_57 (pc' := 60) rfl ?_
  refine WP.aloadN K d6_60 rfl rfl (pc' := 61) rfl ?_
  refine WP.getF K (w_13 hw) Via.refl (IsMap.f_stride O_mp) d6_61 (pc' := 64) rfl ?_
  refine WP.iloadN K d6_64 rfl (pc' := 65) rfl ?_
  refine WP.imul K d6_65 (pc' := 66) rfl ?_
  show WP κ h55 1 6 (mkF κ.m 66 #[.val (.ref mp), .val (.int (2 : Int32)), .val .null, .val (.int (0 : Int32)), .unset] [(.int (0 : Int32)), (.ref en)])
  refine WP.iaload K (i := 0) A_en rfl (by decide) (v := (.int (0 : Int32))) rfl d6_66 (pc' := 67) rfl ?_
  refine WP.iconst K d6_67 (v := (1 : Int32)) rfl (pc' := 68) rfl ?_
  refine WP.isub K d6_68 (pc' := 69) rfl ?_
  show WP κ h55 1 6 (mkF κ.m 69 #[.val (.ref mp), .val (.int (2 : Int32)), .val .null, .val (.int (0 : Int32)), .unset] [(.int (-1 : Int32))])
  refine WP.istore K d6_69 (L' := #[.val (.ref mp), .val (.int (2 : Int32)), .val .null, .val (.int (0 : Int32)), .val (.int (-1 : Int32))]) rfl (pc' := 71) rfl ?_
  refine WP.iload K d6_71 rfl (pc' := 73) rfl ?_
  refine WP.iconst K d6_73 (v := (-1 : Int32)) rfl (pc' := 74) rfl ?_
  refine WP.icmpT K d6_74 (by decide) (by decide) (pc' := 124) (by decide) ?_
  refine WP.iinc K d6_124 (v := (1 : Int32)) rfl rfl (L' := #[.val (.ref mp), .val (.int (2 : Int32)), .val .null, .val (.int (1 : Int32)), .val (.int (-1 : Int32))]) rfl (pc' := 127) rfl ?_
  refine WP.goto K d6_127 (by decide) (pc' := 48) (by decide) ?_
  refine WP.iloadN K d6_48 rfl (pc' := 49) rfl ?_
  refine WP.aloadN K d6_49 rfl rfl (pc' := 50) rfl ?_
  refine WP.getF K (w_22 hw) Via.refl (IsMap.f_slots O_mp) d6_50 (pc' := 53) rfl ?_
  refine WP.icmpF K d6_53 (by decide) (pc' := 56) rfl ?_
  refine WP.aloadN K d6_56 rfl rfl (pc' := 57) rfl ?_
  refine WP.getF K (w_20 hw) Via.refl (IsMap.f_entries O_mp) d6_57 (pc' := 60) rfl ?_
  refine WP.aloadN K d6_60 rfl rfl (pc' := 61) rfl ?_
  refine WP.getF K (w_13 hw) Via.refl (IsMap.f_stride O_mp) d6_61 (pc' := 64) rfl ?_
  refine WP.iloadN K d6_64 rfl (pc' := 65) rfl ?_
  refine WP.imul K d6_65 (pc' := 66) rfl ?_
  show WP κ h55 1 6 (mkF κ.m 66 #[.val (.ref mp), .val (.int (2 : Int32)), .val .null, .val (.int (1 : Int32)), .val (.int (-1 : Int32))] [(.int (4 : Int32)), (.ref en)])
  refine WP.iaload K (i := 4) A_en rfl (by decide) (v := (.int (0 : Int32))) rfl d6_66 (pc' := 67) rfl ?_
  refine WP.iconst K d6_67 (v := (1 : Int32)) rfl (pc' := 68) rfl ?_
  refine WP.isub K d6_68 (pc' := 69) rfl ?_
  show WP κ h55 1 6 (mkF κ.m 69 #[.val (.ref mp), .val (.int (2 : Int32)), .val .null, .val (.int (1 : Int32)), .val (.int (-1 : Int32))] [(.int (-1 : Int32))])
  refine WP.istore K d6_69 (L' := #[.val (.ref mp), .val (.int (2 : Int32)), .val .null, .val (.int (1 : Int32)), .val (.int (-1 : Int32))]) rfl (pc' := 71) rfl ?_
  refine WP.iload K d6_71 rfl (pc' := 73) rfl ?_
  refine WP.iconst K d6_73 (v := (-1 : Int32)) rfl (pc' := 74) rfl ?_
  refine WP.icmpT K d6_74 (by decide) (by decide) (pc' := 124) (by decide) ?_
  refine WP.iinc K d6_124 (v := (1 : Int32)) rfl rfl (L' := #[.val (.ref mp), .val (.int (2 : Int32)), .val .null, .val (.int (2 : Int32)), .val (.int (-1 : Int32))]) rfl (pc' := 127) rfl ?_
  refine WP.goto K d6_127 (by decide) (pc' := 48) (by decide) ?_
  refine WP.iloadN K d6_48 rfl (pc' := 49) rfl ?_
  refine WP.aloadN K d6_49 rfl rfl (pc' := 50) rfl ?_
  refine WP.getF K (w_22 hw) Via.refl (IsMap.f_slots O_mp) d6_50 (pc' := 53) rfl ?_
  refine WP.icmpF K d6_53 (by decide) (pc' := 56) rfl ?_
  refine WP.aloadN K d6_56 rfl rfl (pc' := 57) rfl ?_
  refine WP.getF K (w_20 hw) Via.refl (IsMap.f_entries O_mp) d6_57 (pc' := 60) rfl ?_
  refine WP.aloadN K d6_60 rfl rfl (pc' := 61) rfl ?_
  refine WP.getF K (w_13 hw) Via.refl (IsMap.f_stride O_mp) d6_61 (pc' := 64) rfl ?_
  refine WP.iloadN K d6_64 rfl (pc' := 65) rfl ?_
  refine WP.imul K d6_65 (pc' := 66) rfl ?_
  show WP κ h55 1 6 (mkF κ.m 66 #[.val (.ref mp), .val (.int (2 : Int32)), .val .null, .val (.int (2 : Int32)), .val (.int (-1 : Int32))] [(.int (8 : Int32)), (.ref en)])
  refine WP.iaload K (i := 8) A_en rfl (by decide) (v := (.int (0 : Int32))) rfl d6_66 (pc' := 67) rfl ?_
  refine WP.iconst K d6_67 (v := (1 : Int32)) rfl (pc' := 68) rfl ?_
  refine WP.isub K d6_68 (pc' := 69) rfl ?_
  show WP κ h55 1 6 (mkF κ.m 69 #[.val (.ref mp), .val (.int (2 : Int32)), .val .null, .val (.int (2 : Int32)), .val (.int (-1 : Int32))] [(.int (-1 : Int32))])
  refine WP.istore K d6_69 (L' := #[.val (.ref mp), .val (.int (2 : Int32)), .val .null, .val (.int (2 : Int32)), .val (.int (-1 : Int32))]) rfl (pc' := 71) rfl ?_
  refine WP.iload K d6_71 rfl (pc' := 73) rfl ?_
  refine WP.iconst K d6_73 (v := (-1 : Int32)) rfl (pc' := 74) rfl ?_
  refine WP.icmpT K d6_74 (by decide) (by decide) (pc' := 124) (by decide) ?_
  refine WP.iinc K d6_124 (v := (1 : Int32)) rfl rfl (L' := #[.val (.ref mp), .val (.int (2 : Int32)), .val .null, .val (.int (3 : Int32)), .val (.int (-1 : Int32))]) rfl (pc' := 127) rfl ?_
  refine WP.goto K d6_127 (by decide) (pc' := 48) (by decide) ?_
  refine WP.iloadN K d6_48 rfl (pc' := 49) rfl ?_
  refine WP.aloadN K d6_49 rfl rfl (pc' := 50) rfl ?_
  refine WP.getF K (w_22 hw) Via.refl (IsMap.f_slots O_mp) d6_50 (pc' := 53) rfl ?_
  refine WP.icmpF K d6_53 (by decide) (pc' := 56) rfl ?_
  refine WP.aloadN K d6_56 rfl rfl (pc' := 57) rfl ?_
  refine WP.getF K (w_20 hw) Via.refl (IsMap.f_entries O_mp) d6_57 (pc' := 60) rfl ?_
  refine WP.aloadN K d6_60 rfl rfl (pc' := 61) rfl ?_
  refine WP.getF K (w_13 hw) Via.refl (IsMap.f_stride O_mp) d6_61 (pc' := 64) rfl ?_
  refine WP.iloadN K d6_64 rfl (pc' := 65) rfl ?_
  refine WP.imul K d6_65 (pc' := 66) rfl ?_
  show WP κ h55 1 6 (mkF κ.m 66 #[.val (.ref mp), .val (.int (2 : Int32)), .val .null, .val (.int (3 : Int32)), .val (.int (-1 : Int32))] [(.int (12 : Int32)), (.ref en)])
  refine WP.iaload K (i := 12) A_en rfl (by decide) (v := (.int (0 : Int32))) rfl d6_66 (pc' := 67) rfl ?_
  refine WP.iconst K d6_67 (v := (1 : Int32)) rfl (pc' := 68) rfl ?_
  refine WP.isub K d6_68 (pc' := 69) rfl ?_
  show WP κ h55 1 6 (mkF κ.m 69 #[.val (.ref mp), .val (.int (2 : Int32)), .val .null, .val (.int (3 : Int32)), .val (.int (-1 : Int32))] [(.int (-1 : Int32))])
  refine WP.istore K d6_69 (L' := #[.val (.ref mp), .val (.int (2 : Int32)), .val .null, .val (.int (3 : Int32)), .val (.int (-1 : Int32))]) rfl (pc' := 71) rfl ?_
  refine WP.iload K d6_71 rfl (pc' := 73) rfl ?_
  refine WP.iconst K d6_73 (v := (-1 : Int32)) rfl (pc' := 74) rfl ?_
  refine WP.icmpT K d6_74 (by decide) (by decide) (pc' := 124) (by decide) ?_
  refine WP.iinc K d6_124 (v := (1 : Int32)) rfl rfl (L' := #[.val (.ref mp), .val (.int (2 : Int32)), .val .null, .val (.int (4 : Int32)), .val (.int (-1 : Int32))]) rfl (pc' := 127) rfl ?_
  refine WP.goto K d6_127 (by decide) (pc' := 48) (by decide) ?_
  refine WP.iloadN K d6_48 rfl (pc' := 49) rfl ?_
  refine WP.aloadN K d6_49 rfl rfl (pc' := 50) rfl ?_
  refine WP.getF K (w_22 hw) Via.refl (IsMap.f_slots O_mp) d6_50 (pc' := 53) rfl ?_
  refine WP.icmpF K d6_53 (by decide) (pc' := 56) rfl ?_
  refine WP.aloadN K d6_56 rfl rfl (pc' := 57) rfl ?_
  refine WP.getF K (w_20 hw) Via.refl (IsMap.f_entries O_mp) d6_57 (pc' := 60) rfl ?_
  refine WP.aloadN K d6_60 rfl rfl (pc' := 61) rfl ?_
  refine WP.getF K (w_13 hw) Via.refl (IsMap.f_stride O_mp) d6_61 (pc' := 64) rfl ?_
  refine WP.iloadN K d6_64 rfl (pc' := 65) rfl ?_
  refine WP.imul K d6_65 (pc' := 66) rfl ?_
  show WP κ h55 1 6 (mkF κ.m 66 #[.val (.ref mp), .val (.int (2 : Int32)), .val .null, .val (.int (4 : Int32)), .val (.int (-1 : Int32))] [(.int (16 : Int32)), (.ref en)])
  refine WP.iaload K (i := 16) A_en rfl (by decide) (v := (.int (0 : Int32))) rfl d6_66 (pc' := 67) rfl ?_
  refine WP.iconst K d6_67 (v := (1 : Int32)) rfl (pc' := 68) rfl ?_
  refine WP.isub K d6_68 (pc' := 69) rfl ?_
  show WP κ h55 1 6 (mkF κ.m 69 #[.val (.ref mp), .val (.int (2 : Int32)), .val .null, .val (.int (4 : Int32)), .val (.int (-1 : Int32))] [(.int (-1 : Int32))])
  refine WP.istore K d6_69 (L' := #[.val (.ref mp), .val (.int (2 : Int32)), .val .null, .val (.int (4 : Int32)), .val (.int (-1 : Int32))]) rfl (pc' := 71) rfl ?_
  refine WP.iload K d6_71 rfl (pc' := 73) rfl ?_
  refine WP.iconst K d6_73 (v := (-1 : Int32)) rfl (pc' := 74) rfl ?_
  refine WP.icmpT K d6_74 (by decide) (by decide) (pc' := 124) (by decide) ?_
  refine WP.iinc K d6_124 (v := (1 : Int32)) rfl rfl (L' := #[.val (.ref mp), .val (.int (2 : Int32)), .val .null, .val (.int (5 : Int32)), .val (.int (-1 : Int32))]) rfl (pc' := 127) rfl ?_
  refine WP.goto K d6_127 (by decide) (pc' := 48) (by decide) ?_
  refine WP.iloadN K d6_48 rfl (pc' := 49) rfl ?_
  refine WP.aloadN K d6_49 rfl rfl (pc' := 50) rfl ?_
  refine WP.getF K (w_22 hw) Via.refl (IsMap.f_slots O_mp) d6_50 (pc' := 53) rfl ?_
  refine WP.icmpF K d6_53 (by decide) (pc' := 56) rfl ?_
  refine WP.aloadN K d6_56 rfl rfl (pc' := 57) rfl ?_
  refine WP.getF K (w_20 hw) Via.refl (IsMap.f_entries O_mp) d6_57 (pc' := 60) rfl ?_
  refine WP.aloadN K d6_60 rfl rfl (pc' := 61) rfl ?_
  refine WP.getF K (w_13 hw) Via.refl (IsMap.f_stride O_mp) d6_61 (pc' := 64) rfl ?_
  refine WP.iloadN K d6_64 rfl (pc' := 65) rfl ?_
  refine WP.imul K d6_65 (pc' := 66) rfl ?_
  show WP κ h55 1 6 (mkF κ.m 66 #[.val (.ref mp), .val (.int (2 : Int32)), .val .null, .val (.int (5 : Int32)), .val (.int (-1 : Int32))] [(.int (20 : Int32)), (.ref en)])
  refine WP.iaload K (i := 20) A_en rfl (by decide) (v := (.int (0 : Int32))) rfl d6_66 (pc' := 67) rfl ?_
  refine WP.iconst K d6_67 (v := (1 : Int32)) rfl (pc' := 68) rfl ?_
  refine WP.isub K d6_68 (pc' := 69) rfl ?_
  show WP κ h55 1 6 (mkF κ.m 69 #[.val (.ref mp), .val (.int (2 : Int32)), .val .null, .val (.int (5 : Int32)), .val (.int (-1 : Int32))] [(.int (-1 : Int32))])
  refine WP.istore K d6_69 (L' := #[.val (.ref mp), .val (.int (2 : Int32)), .val .null, .val (.int (5 : Int32)), .val (.int (-1 : Int32))]) rfl (pc' := 71) rfl ?_
  refine WP.iload K d6_71 rfl (pc' := 73) rfl ?_
  refine WP.iconst K d6_73 (v := (-1 : Int32)) rfl (pc' := 74) rfl ?_
  refine WP.icmpT K d6_74 (by decide) (by decide) (pc' := 124) (by decide) ?_
  refine WP.iinc K d6_124 (v := (1 : Int32)) rfl rfl (L' := #[.val (.ref mp), .val (.int (2 : Int32)), .val .null, .val (.int (6 : Int32)), .val (.int (-1 : Int32))]) rfl (pc' := 127) rfl ?_
  refine WP.goto K d6_127 (by decide) (pc' := 48) (by decide) ?_
  refine WP.iloadN K d6_48 rfl (pc' := 49) rfl ?_
  refine WP.aloadN K d6_49 rfl rfl (pc' := 50) rfl ?_
  refine WP.getF K (w_22 hw) Via.refl (IsMap.f_slots O_mp) d6_50 (pc' := 53) rfl ?_
  refine WP.icmpF K d6_53 (by decide) (pc' := 56) rfl ?_
  refine WP.aloadN K d6_56 rfl rfl (pc' := 57) rfl ?_
  refine WP.getF K (w_20 hw) Via.refl (IsMap.f_entries O_mp) d6_57 (pc' := 60) rfl ?_
  refine WP.aloadN K d6_60 rfl rfl (pc' := 61) rfl ?_
  refine WP.getF K (w_13 hw) Via.refl (IsMap.f_stride O_mp) d6_61 (pc' := 64) rfl ?_
  refine WP.iloadN K d6_64 rfl (pc' := 65) rfl ?_
  refine WP.imul K d6_65 (pc' := 66) rfl ?_
  show WP κ h55 1 6 (mkF κ.m 66 #[.val (.ref mp), .val (.int (2 : Int32)), .val .null, .val (.int (6 : Int32)), .val (.int (-1 : Int32))] [(.int (24 : Int32)), (.ref en)])
  refine WP.iaload K (i := 24) A_en rfl (by decide) (v := (.int (0 : Int32))) rfl d6_66 (pc' := 67) rfl ?_
  refine WP.iconst K d6_67 (v := (1 : Int32)) rfl (pc' := 68) rfl ?_
  refine WP.isub K d6_68 (pc' := 69) rfl ?_
  show WP κ h55 1 6 (mkF κ.m 69 #[.val (.ref mp), .val (.int (2 : Int32)), .val .null, .val (.int (6 : Int32)), .val (.int (-1 : Int32))] [(.int (-1 : Int32))])
  refine WP.istore K d6_69 (L' := #[.val (.ref mp), .val (.int (2 : Int32)), .val .null, .val (.int (6 : Int32)), .val (.int (-1 : Int32))]) rfl (pc' := 71) rfl ?_
  refine WP.iload K d6_71 rfl (pc' := 73) rfl ?_
  refine WP.iconst K d6_73 (v := (-1 : Int32)) rfl (pc' := 74) rfl ?_
  refine WP.icmpT K d6_74 (by decide) (by decide) (pc' := 124) (by decide) ?_
  refine WP.iinc K d6_124 (v := (1 : Int32)) rfl rfl (L' := #[.val (.ref mp), .val (.int (2 : Int32)), .val .null, .val (.int (7 : Int32)), .val (.int (-1 : Int32))]) rfl (pc' := 127) rfl ?_
  refine WP.goto K d6_127 (by decide) (pc' := 48) (by decide) ?_
  refine WP.iloadN K d6_48 rfl (pc' := 49) rfl ?_
  refine WP.aloadN K d6_49 rfl rfl (pc' := 50) rfl ?_
  refine WP.getF K (w_22 hw) Via.refl (IsMap.f_slots O_mp) d6_50 (pc' := 53) rfl ?_
  refine WP.icmpF K d6_53 (by decide) (pc' := 56) rfl ?_
  refine WP.aloadN K d6_56 rfl rfl (pc' := 57) rfl ?_
  refine WP.getF K (w_20 hw) Via.refl (IsMap.f_entries O_mp) d6_57 (pc' := 60) rfl ?_
  refine WP.aloadN K d6_60 rfl rfl (pc' := 61) rfl ?_
  refine WP.getF K (w_13 hw) Via.refl (IsMap.f_stride O_mp) d6_61 (pc' := 64) rfl ?_
  refine WP.iloadN K d6_64 rfl (pc' := 65) rfl ?_
  refine WP.imul K d6_65 (pc' := 66) rfl ?_
  show WP κ h55 1 6 (mkF κ.m 66 #[.val (.ref mp), .val (.int (2 : Int32)), .val .null, .val (.int (7 : Int32)), .val (.int (-1 : Int32))] [(.int (28 : Int32)), (.ref en)])
  refine WP.iaload K (i := 28) A_en rfl (by decide) (v := (.int (0 : Int32))) rfl d6_66 (pc' := 67) rfl ?_
  refine WP.iconst K d6_67 (v := (1 : Int32)) rfl (pc' := 68) rfl ?_
  refine WP.isub K d6_68 (pc' := 69) rfl ?_
  show WP κ h55 1 6 (mkF κ.m 69 #[.val (.ref mp), .val (.int (2 : Int32)), .val .null, .val (.int (7 : Int32)), .val (.int (-1 : Int32))] [(.int (-1 : Int32))])
  refine WP.istore K d6_69 (L' := #[.val (.ref mp), .val (.int (2 : Int32)), .val .null, .val (.int (7 : Int32)), .val (.int (-1 : Int32))]) rfl (pc' := 71) rfl ?_
  refine WP.iload K d6_71 rfl (pc' := 73) rfl ?_
  refine WP.iconst K d6_73 (v := (-1 : Int32)) rfl (pc' := 74) rfl ?_
  refine WP.icmpT K d6_74 (by decide) (by decide) (pc' := 124) (by decide) ?_
  refine WP.iinc K d6_124 (v := (1 : Int32)) rfl rfl (L' := #[.val (.ref mp), .val (.int (2 : Int32)), .val .null, .val (.int (8 : Int32)), .val (.int (-1 : Int32))]) rfl (pc' := 127) rfl ?_
  refine WP.goto K d6_127 (by decide) (pc' := 48) (by decide) ?_
  refine WP.iloadN K d6_48 rfl (pc' := 49) rfl ?_
  refine WP.aloadN K d6_49 rfl rfl (pc' := 50) rfl ?_
  refine WP.getF K (w_22 hw) Via.refl (IsMap.f_slots O_mp) d6_50 (pc' := 53) rfl ?_
  refine WP.icmpT K d6_53 (by decide) (by decide) (pc' := 130) (by decide) ?_
  refine WP.aloadN K d6_130 rfl rfl (pc' := 131) rfl ?_
  refine WP.aconst_null K d6_131 (pc' := 132) rfl ?_
  refine WP.putF K (w_20 hw) Via.refl (IsMap.f_entries O_mp) (IsMap.exa O_mp) (Or.inl (w_21 hw)) (w_3 hw) (ty := (.array .int)) (by decide) rfl rfl old_mp d6_132 (pc' := 135) rfl fun h56 W56 => ?_
  have A_en := Ary.other W56 A_en (Ne.symm (Ary.ne (IsMap.exa O_mp) A_en (w_3 hw)))
  have A_va := Ary.other W56 A_va (Ne.symm ne_mp_va)
  have KP := Keep.wr KP W56 (Or.inl (List.mem_of_getElem? (i := 0) rfl))
  have Z0 := Nat.le_trans Z0 (Nat.le_of_eq W56.size.symm)
  have O_mp := IsMap.s_entries hw W56 O_mp
  refine WP.aloadN K d6_135 rfl rfl (pc' := 136) rfl ?_
  refine WP.iconst K d6_136 (v := (0 : Int32)) rfl (pc' := 137) rfl ?_
  refine WP.putF K (w_22 hw) Via.refl (IsMap.f_slots O_mp) (IsMap.exa O_mp) (Or.inl (w_23 hw)) (w_3 hw) (ty := .int) (by decide) rfl rfl old_mp d6_137 (pc' := 140) rfl fun h57 W57 => ?_
  have A_en := Ary.other W57 A_en (Ne.symm (Ary.ne (IsMap.exa O_mp) A_en (w_3 hw)))
  have A_va := Ary.other W57 A_va (Ne.symm ne_mp_va)
  have KP := Keep.wr KP W57 (Or.inl (List.mem_of_getElem? (i := 0) rfl))
  have Z0 := Nat.le_trans Z0 (Nat.le_of_eq W57.size.symm)
  have O_mp := IsMap.s_slots hw W57 O_mp
  exact WP.ret0 K d6_140 (by decide) (by decide) ⟨rfl, KP, va, kA_va, osz_va, O_mp, A_va⟩
set_option maxRecDepth 65536 in
set_option maxHeartbeats 40000000 in
theorem rm_copy (w : Bool) (l : Launch) (Z : State) (a0 : Array Value) (hw : ∀ d ∈ tables_1, d.before a0 Z = true) (F : Nat → Int32) (va : Addr) (kA : ClassId) (h0 : Heap) (n0 : Nat) (Z0 : n0 ≤ h0.size) (A_va : Ary Z h0 va kA .int 3 (fun j => .int (F j))) :
    Met w l Z (⟨"java/util/Arrays", "copyOf", "([II)[I"⟩ : MethodName) jdk_65_method_123_code 3 (some (.array .int)) [] ({ frames := 1, cells := 1, slots := 6, locals := 64 } : Room) #[(.ref va), (.int (6 : Int32))] h0 n0 (fun v h => Keep h0 h [] ∧ ∃ (nw : Addr) (kN : ClassId), v = some (.ref nw) ∧ h0.size ≤ nw ∧ Ary Z h nw kN .int 6 (fun j => .int ((fun x => if x < 3 then F x else 0) j))) := by
  refine Met.of (plainFor_of_name (by first | (simp [plainName, overriddenIn]; done) | decide +kernel)) fun κ K => ?_
  refine WP.frame (g' := (mkF κ.m 0 #[.val (.ref va), .val (.int (6 : Int32)), .unset] [])) (by first | (simp [entryFrame, mkF, argsToLocals, Value.category]; done) | rfl) ?_
  have KP := Keep.refl h0 []
  refine WP.iloadN K d13_0 rfl (pc' := 1) rfl ?_
  refine WP.aloadN K d13_1 rfl rfl (pc' := 2) rfl ?_
  refine WP.arraylength K A_va d13_2 (pc' := 3) rfl ?_
  show WP κ h0 0 0 (mkF κ.m 3 #[.val (.ref va), .val (.int (6 : Int32)), .unset] [(.int (3 : Int32)), (.int (6 : Int32))])
  refine WP.icmpT K d13_3 (by decide) (by decide) (pc' := 14) (by decide) ?_
  refine WP.iloadN K d13_14 rfl (pc' := 15) rfl ?_
  refine WP.newarray (aty := .int) K (w_19 hw) d13_15 (N := 6) (cap := 6) rfl (Nat.le_refl _) (by decide) (k' := 1) (n' := 6) rfl rfl (by decide) (by decide) (pc' := 17) rfl fun h58 nw kA_nw g58 E58 A_nw => ?_
  have ne_va_nw : va ≠ nw := fun z_ => by have q_ : @LT.lt Nat _ va h0.size := (Ary.lt A_va); have r_ : @Eq Nat va nw := z_; omega
  have old_nw : n0 ≤ nw := by have q_ := Z0; omega
  have osz_nw : h0.size ≤ nw := by have q_ := KP.1; omega
  have A_va := Ary.ext E58 A_va
  have KP := Keep.ext KP E58
  have Z0 := Nat.le_trans Z0 E58.1
  refine WP.astoreN K d13_17 rfl (L' := #[.val (.ref va), .val (.int (6 : Int32)), .val (.ref nw)]) rfl (pc' := 18) rfl ?_
  refine WP.aloadN K d13_18 rfl rfl (pc' := 19) rfl ?_
  refine WP.iconst K d13_19 (v := (0 : Int32)) rfl (pc' := 20) rfl ?_
  refine WP.aloadN K d13_20 rfl rfl (pc' := 21) rfl ?_
  refine WP.iconst K d13_21 (v := (0 : Int32)) rfl (pc' := 22) rfl ?_
  refine WP.aloadN K d13_22 rfl rfl (pc' := 23) rfl ?_
  refine WP.arraylength K A_va d13_23 (pc' := 24) rfl ?_
  show WP κ h58 1 6 (mkF κ.m 24 #[.val (.ref va), .val (.int (6 : Int32)), .val (.ref nw)] [(.int (3 : Int32)), (.int (0 : Int32)), (.ref nw), (.int (0 : Int32)), (.ref va)])
  refine WP.iloadN K d13_24 rfl (pc' := 25) rfl ?_
  refine WP.callS K (argsL := [(.int (3 : Int32)), (.int (6 : Int32))]) (S := [(.int (0 : Int32)), (.ref nw), (.int (0 : Int32)), (.ref va)]) (w_77 hw) (w_78 hw) (rm_min w l Z a0 hw (3 : Int32) (6 : Int32) h58 n0 Z0) (w_79 hw) (w_39 hw) (by decide) rfl (lenOf pd_3 rfl) rfl (W := 4) rfl (by decide) (by decide) (k' := 1) (n' := 6) rfl rfl (by decide) (by decide) d13_25 (pc' := 28) rfl fun v h59 hq => ?_
  obtain ⟨rfl, rfl⟩ := hq
  show WP κ h58 1 6 (mkF κ.m 28 #[.val (.ref va), .val (.int (6 : Int32)), .val (.ref nw)] [(.int (own_min (3 : Int32) (6 : Int32))), (.int (0 : Int32)), (.ref nw), (.int (0 : Int32)), (.ref va)])
  rw [show own_min (3 : Int32) (6 : Int32) = 3 from by decide]
  show WP κ h58 1 6 (mkF κ.m 28 #[.val (.ref va), .val (.int (6 : Int32)), .val (.ref nw)] [(.int (3 : Int32)), (.int (0 : Int32)), (.ref nw), (.int (0 : Int32)), (.ref va)])
  refine WP.arraycopy K (i := 0) (j := 0) (m := 3) (w_80 hw) (w_83 hw) (w_81 hw) (w_82 hw) A_va A_nw rfl rfl rfl rfl (by decide) (by decide) old_nw d13_28 rfl (by decide) (W := 0) rfl (by decide) (pc' := 31) rfl fun h60 K60 A_n => ?_
  have A_va := Ary.keep K60 A_va (ninS ne_va_nw nin0)
  have KP := Keep.trans KP K60 (allS (Or.inr osz_nw) all0)
  have Z0 := Nat.le_trans Z0 K60.1
  have A_nw := A_n
  have A_nw := Ary.congr (f' := fun j => .int ((fun x => if x < 3 then F x else 0) j)) A_nw (fun i hi => by show (if 0 ≤ i ∧ i < 0 + 3 then Value.int (F (0 + (i - 0))) else Value.int 0) = Value.int (if i < 3 then F i else 0); by_cases q : i < 3 <;> simp [q])
  refine WP.aloadN K d13_31 rfl rfl (pc' := 32) rfl ?_
  exact WP.retR K rfl rfl d13_32 (by decide) (by decide) ⟨KP, nw, kA_nw, rfl, osz_nw, A_nw⟩
set_option maxRecDepth 65536 in
set_option maxHeartbeats 40000000 in
theorem rm_grow (w : Bool) (l : Launch) (Z : State) (a0 : Array Value) (hw : ∀ d ∈ tables_1, d.before a0 Z = true) (F : Nat → Int32) (mp va : Addr) (kA : ClassId) (u_entries u_slots u_greatestKey u_size : Value) (h0 : Heap) (n0 : Nat) (Z0 : n0 ≤ h0.size) (O_mp : IsMap Z h0 mp (.int (3 : Int32)) (.int (4 : Int32)) u_entries u_slots .null u_greatestKey (.ref va) u_size (.int (1 : Int32))) (A_va : Ary Z h0 va kA .int 3 (fun j => .int (F j))) (old_mp : n0 ≤ mp) :
    Met w l Z (⟨"com/example/weir/weir/engine/IntIntMap", "growArray", "(I)V"⟩ : MethodName) prog_26_method_25_code 2 none [] ({ frames := 2, cells := 1, slots := 6, locals := 79 } : Room) #[(.ref mp), (.int (2 : Int32))] h0 n0 (fun v h => v = none ∧ Keep h0 h [mp] ∧ ∃ (nw : Addr) (kN : ClassId), h0.size ≤ nw ∧ IsMap Z h mp (.int (3 : Int32)) (.int (4 : Int32)) u_entries u_slots .null u_greatestKey (.ref nw) u_size (.int (2 : Int32)) ∧ Ary Z h nw kN .int 6 (fun j => .int ((own_fill (fun x => if x < 3 then F x else 0) 3 6 (-1)) j))) := by
  refine Met.of (plainFor_of_name (by first | (simp [plainName, overriddenIn]; done) | decide +kernel)) fun κ K => ?_
  refine WP.frame (g' := (mkF κ.m 0 #[.val (.ref mp), .val (.int (2 : Int32))] [])) (by first | (simp [entryFrame, mkF, argsToLocals, Value.category]; done) | rfl) ?_
  have KP := Keep.refl h0 [mp]
  refine WP.aloadN K d12_0 rfl rfl (pc' := 1) rfl ?_
  refine WP.aloadN K d12_1 rfl rfl (pc' := 2) rfl ?_
  refine WP.getF K (w_33 hw) Via.refl (IsMap.f_values O_mp) d12_2 (pc' := 5) rfl ?_
  refine WP.aloadN K d12_5 rfl rfl (pc' := 6) rfl ?_
  refine WP.getF K (w_11 hw) Via.refl (IsMap.f_width O_mp) d12_6 (pc' := 9) rfl ?_
  refine WP.iloadN K d12_9 rfl (pc' := 10) rfl ?_
  refine WP.imul K d12_10 (pc' := 11) rfl ?_
  show WP κ h0 0 0 (mkF κ.m 11 #[.val (.ref mp), .val (.int (2 : Int32))] [(.int (6 : Int32)), (.ref va), (.ref mp)])
  have lt_mp : @LT.lt Nat _ mp h0.size := IsMap.lt O_mp
  refine WP.callS K (argsL := [(.ref va), (.int (6 : Int32))]) (S := [(.ref mp)]) (w_74 hw) (w_75 hw) (rm_copy w l Z a0 hw F va kA h0 n0 Z0 A_va) (w_76 hw) (w_49 hw) (by decide) rfl (lenOf pd_7 rfl) rfl (W := 1) rfl (by decide) (by decide) (k' := 1) (n' := 6) rfl rfl (by decide) (by decide) d12_11 (pc' := 14) rfl fun v h61 hq => ?_
  obtain ⟨K1, nw, kN, rfl, s_nw, A_nw⟩ := hq
  have O_mp := IsMap.keep K1 O_mp nin0
  have A_va := Ary.keep K1 A_va nin0
  have KP := Keep.trans KP K1 all0
  have Z0 := Nat.le_trans Z0 K1.1
  show WP κ h61 1 6 (mkF κ.m 14 #[.val (.ref mp), .val (.int (2 : Int32))] [(.ref nw), (.ref mp)])
  have old_nw : n0 ≤ nw := by omega
  have ne_mp_nw : mp ≠ nw := fun z_ => by have r_ : @Eq Nat mp nw := z_; omega
  refine WP.putF K (w_33 hw) Via.refl (IsMap.f_values O_mp) (IsMap.exa O_mp) (Or.inl (w_34 hw)) (w_3 hw) (ty := (.array .int)) (by decide) rfl rfl old_mp d12_14 (pc' := 17) rfl fun h62 W62 => ?_
  have A_nw := Ary.other W62 A_nw (Ne.symm ne_mp_nw)
  have KP := Keep.wr KP W62 (Or.inl (List.mem_of_getElem? (i := 0) rfl))
  have Z0 := Nat.le_trans Z0 (Nat.le_of_eq W62.size.symm)
  have O_mp := IsMap.s_values hw W62 O_mp
  refine WP.aloadN K d12_17 rfl rfl (pc' := 18) rfl ?_
  refine WP.getF K (w_33 hw) Via.refl (IsMap.f_values O_mp) d12_18 (pc' := 21) rfl ?_
  refine WP.aloadN K d12_21 rfl rfl (pc' := 22) rfl ?_
  refine WP.getF K (w_11 hw) Via.refl (IsMap.f_width O_mp) d12_22 (pc' := 25) rfl ?_
  refine WP.aloadN K d12_25 rfl rfl (pc' := 26) rfl ?_
  refine WP.getF K (w_45 hw) Via.refl (IsMap.f_keys O_mp) d12_26 (pc' := 29) rfl ?_
  refine WP.imul K d12_29 (pc' := 30) rfl ?_
  show WP κ h62 1 6 (mkF κ.m 30 #[.val (.ref mp), .val (.int (2 : Int32))] [(.int (3 : Int32)), (.ref nw)])
  refine WP.aloadN K d12_30 rfl rfl (pc' := 31) rfl ?_
  refine WP.getF K (w_33 hw) Via.refl (IsMap.f_values O_mp) d12_31 (pc' := 34) rfl ?_
  refine WP.arraylength K A_nw d12_34 (pc' := 35) rfl ?_
  show WP κ h62 1 6 (mkF κ.m 35 #[.val (.ref mp), .val (.int (2 : Int32))] [(.int (6 : Int32)), (.int (3 : Int32)), (.ref nw)])
  refine WP.iconst K d12_35 (v := (-1 : Int32)) rfl (pc' := 36) rfl ?_
  refine WP.callS K (argsL := [(.ref nw), (.int (3 : Int32)), (.int (6 : Int32)), (.int (-1 : Int32))]) (S := []) (w_84 hw) (w_85 hw) (rm_fill4 w l Z a0 hw nw kN 6 3 6 (fun x => if x < 3 then F x else 0) (3 : Int32) (6 : Int32) (-1) h62 n0 Z0 A_nw old_nw rfl rfl (by decide) (by decide)) (w_86 hw) (w_49 hw) (by decide) rfl (lenOf pd_5 rfl) rfl (W := 0) rfl (by decide) (by decide) (k' := 1) (n' := 6) rfl rfl (by decide) (by decide) d12_36 (pc' := 39) rfl fun v h63 hq => ?_
  obtain ⟨rfl, K2, A_nw⟩ := hq
  have O_mp := IsMap.keep K2 O_mp (ninS ne_mp_nw nin0)
  have KP := Keep.trans KP K2 (allS (Or.inr s_nw) all0)
  have Z0 := Nat.le_trans Z0 K2.1
  show WP κ h63 1 6 (mkF κ.m 39 #[.val (.ref mp), .val (.int (2 : Int32))] [])
  refine WP.aloadN K d12_39 rfl rfl (pc' := 40) rfl ?_
  refine WP.getF K (w_24 hw) Via.refl (IsMap.f_objects O_mp) d12_40 (pc' := 43) rfl ?_
  refine WP.ifnullT K (b := 0) d12_43 (by decide) (pc' := 58) (by decide) ?_
  refine WP.aloadN K d12_58 rfl rfl (pc' := 59) rfl ?_
  refine WP.iloadN K d12_59 rfl (pc' := 60) rfl ?_
  refine WP.putF K (w_45 hw) Via.refl (IsMap.f_keys O_mp) (IsMap.exa O_mp) (Or.inl (w_46 hw)) (w_3 hw) (ty := .int) (by decide) rfl rfl old_mp d12_60 (pc' := 63) rfl fun h64 W64 => ?_
  have A_nw := Ary.other W64 A_nw (Ne.symm ne_mp_nw)
  have KP := Keep.wr KP W64 (Or.inl (List.mem_of_getElem? (i := 0) rfl))
  have Z0 := Nat.le_trans Z0 (Nat.le_of_eq W64.size.symm)
  have O_mp := IsMap.s_keys hw W64 O_mp
  exact WP.ret0 K d12_63 (by decide) (by decide) ⟨rfl, KP, nw, kN, s_nw, O_mp, A_nw⟩
set_option maxRecDepth 65536 in
set_option maxHeartbeats 40000000 in
theorem rm_addA1_0 (w : Bool) (l : Launch) (Z : State) (a0 : Array Value) (hw : ∀ d ∈ tables_1, d.before a0 Z = true) (mp en : Addr) (kE : ClassId) (first : Int32) (u_keys : Value) (h0 : Heap) (n0 : Nat) (Z0 : n0 ≤ h0.size) (O_mp : IsMap Z h0 mp (.int (3 : Int32)) (.int (4 : Int32)) (.ref en) (.int (8 : Int32)) .null (.int (0 : Int32)) .null (.int (0 : Int32)) u_keys) (A_en : Ary Z h0 en kE .int 32 (fun j => .int ((fun _ => (0 : Int32)) j))) (old_mp : n0 ≤ mp) :
    Met w l Z (⟨"com/example/weir/weir/engine/IntIntMap", "add", "(II)I"⟩ : MethodName) prog_26_method_8_code 5 (some .int) [] ({ frames := 2, cells := 1, slots := 3, locals := 31 } : Room) #[(.ref mp), (.int (0 : Int32)), (.int first)] h0 n0 (fun v h => v = some (.int (0 : Int32)) ∧ Keep h0 h [mp] ∧ ∃ (va : Addr) (kA : ClassId), h0.size ≤ va ∧ IsMap Z h mp (.int (3 : Int32)) (.int (4 : Int32)) .null (.int (0 : Int32)) .null (.int (0 : Int32)) (.ref va) (.int (1 : Int32)) (.int (1 : Int32)) ∧ Ary Z h va kA .int 3 (fun j => .int ((fset (own_fill (fun _ => (0 : Int32)) 0 3 (-1)) 0 first) j))) := by
  refine Met.of (plainFor_of_name (by first | (simp [plainName, overriddenIn]; done) | decide +kernel)) fun κ K => ?_
  refine WP.frame (g' := (mkF κ.m 0 #[.val (.ref mp), .val (.int (0 : Int32)), .val (.int first), .unset, .unset] [])) (by first | (simp [entryFrame, mkF, argsToLocals, Value.category]; done) | rfl) ?_
  have KP := Keep.refl h0 [mp]
  refine WP.aloadN K d4_0 rfl rfl (pc' := 1) rfl ?_
  refine WP.getF K (w_33 hw) Via.refl (IsMap.f_values O_mp) d4_1 (pc' := 4) rfl ?_
  refine WP.ifnullT K (b := 0) d4_4 (by decide) (pc' := 36) (by decide) ?_
  refine WP.aloadN K d4_36 rfl rfl (pc' := 37) rfl ?_
  refine WP.getF K (w_33 hw) Via.refl (IsMap.f_values O_mp) d4_37 (pc' := 40) rfl ?_
  refine WP.ifnonnullF K (b := 0) d4_40 (pc' := 43) rfl ?_
  refine WP.iconst K d4_43 (v := (2 : Int32)) rfl (pc' := 44) rfl ?_
  refine WP.aloadN K d4_44 rfl rfl (pc' := 45) rfl ?_
  refine WP.getF K (w_35 hw) Via.refl (IsMap.f_size O_mp) d4_45 (pc' := 48) rfl ?_
  refine WP.iconst K d4_48 (v := (1 : Int32)) rfl (pc' := 49) rfl ?_
  refine WP.iadd K d4_49 (pc' := 50) rfl ?_
  show WP κ h0 0 0 (mkF κ.m 50 #[.val (.ref mp), .val (.int (0 : Int32)), .val (.int first), .unset, .unset] [(.int (1 : Int32)), (.int (2 : Int32))])
  refine WP.imul K d4_50 (pc' := 51) rfl ?_
  show WP κ h0 0 0 (mkF κ.m 51 #[.val (.ref mp), .val (.int (0 : Int32)), .val (.int first), .unset, .unset] [(.int (2 : Int32))])
  refine WP.iloadN K d4_51 rfl (pc' := 52) rfl ?_
  refine WP.aloadN K d4_52 rfl rfl (pc' := 53) rfl ?_
  refine WP.getF K (w_26 hw) Via.refl (IsMap.f_greatestKey O_mp) d4_53 (pc' := 56) rfl ?_
  refine WP.callS K (argsL := [(.int (0 : Int32)), (.int (0 : Int32))]) (S := [(.int (2 : Int32))]) (w_37 hw) (w_38 hw) (rm_max w l Z a0 hw (0 : Int32) (0 : Int32) h0 n0 Z0) (w_40 hw) (w_39 hw) (by decide) rfl (lenOf pd_3 rfl) rfl (W := 1) rfl (by decide) (by decide) (k' := 0) (n' := 0) rfl rfl (by decide) (by decide) d4_56 (pc' := 59) rfl fun v h65 hq => ?_
  obtain ⟨rfl, rfl⟩ := hq
  show WP κ h0 0 0 (mkF κ.m 59 #[.val (.ref mp), .val (.int (0 : Int32)), .val (.int first), .unset, .unset] [(.int (own_max (0 : Int32) (0 : Int32))), (.int (2 : Int32))])
  rw [show own_max (0 : Int32) (0 : Int32) = (0 : Int32) from by decide]
  show WP κ h0 0 0 (mkF κ.m 59 #[.val (.ref mp), .val (.int (0 : Int32)), .val (.int first), .unset, .unset] [(.int (0 : Int32)), (.int (2 : Int32))])
  refine WP.iconst K d4_59 (v := (1 : Int32)) rfl (pc' := 60) rfl ?_
  refine WP.iadd K d4_60 (pc' := 61) rfl ?_
  show WP κ h0 0 0 (mkF κ.m 61 #[.val (.ref mp), .val (.int (0 : Int32)), .val (.int first), .unset, .unset] [(.int (1 : Int32)), (.int (2 : Int32))])
  refine WP.icmpF K d4_61 (by decide) (pc' := 64) rfl ?_
  refine WP.aloadN K d4_64 rfl rfl (pc' := 65) rfl ?_
  refine WP.iloadN K d4_65 rfl (pc' := 66) rfl ?_
  refine WP.aloadN K d4_66 rfl rfl (pc' := 67) rfl ?_
  refine WP.getF K (w_26 hw) Via.refl (IsMap.f_greatestKey O_mp) d4_67 (pc' := 70) rfl ?_
  refine WP.callS K (argsL := [(.int (0 : Int32)), (.int (0 : Int32))]) (S := [(.ref mp)]) (w_37 hw) (w_38 hw) (rm_max w l Z a0 hw (0 : Int32) (0 : Int32) h0 n0 Z0) (w_40 hw) (w_39 hw) (by decide) rfl (lenOf pd_3 rfl) rfl (W := 1) rfl (by decide) (by decide) (k' := 0) (n' := 0) rfl rfl (by decide) (by decide) d4_70 (pc' := 73) rfl fun v h66 hq => ?_
  obtain ⟨rfl, rfl⟩ := hq
  show WP κ h0 0 0 (mkF κ.m 73 #[.val (.ref mp), .val (.int (0 : Int32)), .val (.int first), .unset, .unset] [(.int (own_max (0 : Int32) (0 : Int32))), (.ref mp)])
  rw [show own_max (0 : Int32) (0 : Int32) = (0 : Int32) from by decide]
  show WP κ h0 0 0 (mkF κ.m 73 #[.val (.ref mp), .val (.int (0 : Int32)), .val (.int first), .unset, .unset] [(.int (0 : Int32)), (.ref mp)])
  refine WP.iconst K d4_73 (v := (1 : Int32)) rfl (pc' := 74) rfl ?_
  refine WP.iadd K d4_74 (pc' := 75) rfl ?_
  show WP κ h0 0 0 (mkF κ.m 75 #[.val (.ref mp), .val (.int (0 : Int32)), .val (.int first), .unset, .unset] [(.int (1 : Int32)), (.ref mp)])
  have nq_en_mp : en ≠ mp := (Ne.symm (Ary.ne (IsMap.exa O_mp) A_en (w_3 hw)))
  refine WP.callP K (a := mp) (argsL := [(.int (1 : Int32))]) (S := []) (w_41 hw) (w_42 hw) (w_3 hw) (w_43 hw) (IsMap.exa O_mp) (rm_toArray1 w l Z a0 hw mp en kE _ _ _ h0 n0 Z0 O_mp A_en old_mp) (w_44 hw) (w_4 hw) (by decide) rfl (lenOf pd_8 rfl) rfl (W := 0) rfl (by decide) (by decide) (k' := 1) (n' := 3) rfl rfl (by decide) (by decide) d4_75 (pc' := 78) rfl fun v h67 hq => ?_
  obtain ⟨rfl, K1, va, kA, s_va, O_mp, A_va⟩ := hq
  have A_en := Ary.keep K1 A_en (ninS nq_en_mp nin0)
  have KP := Keep.trans KP K1 (allS (Or.inl (List.mem_of_getElem? (i := 0) rfl)) all0)
  have Z0 := Nat.le_trans Z0 K1.1
  show WP κ h67 1 3 (mkF κ.m 78 #[.val (.ref mp), .val (.int (0 : Int32)), .val (.int first), .unset, .unset] [])
  have old_va : n0 ≤ va := by omega
  refine WP.aloadN K d4_78 rfl rfl (pc' := 79) rfl ?_
  refine WP.dup K d4_79 rfl (pc' := 80) rfl ?_
  refine WP.getF K (w_35 hw) Via.refl (IsMap.f_size O_mp) d4_80 (pc' := 83) rfl ?_
  refine WP.iconst K d4_83 (v := (1 : Int32)) rfl (pc' := 84) rfl ?_
  refine WP.iadd K d4_84 (pc' := 85) rfl ?_
  show WP κ h67 1 3 (mkF κ.m 85 #[.val (.ref mp), .val (.int (0 : Int32)), .val (.int first), .unset, .unset] [(.int (1 : Int32)), (.ref mp)])
  refine WP.putF K (w_35 hw) Via.refl (IsMap.f_size O_mp) (IsMap.exa O_mp) (Or.inl (w_36 hw)) (w_3 hw) (ty := .int) (by decide) rfl rfl old_mp d4_85 (pc' := 88) rfl fun h68 W68 => ?_
  have A_va := Ary.other W68 A_va (Ne.symm (Ary.ne (IsMap.exa O_mp) A_va (w_3 hw)))
  have KP := Keep.wr KP W68 (Or.inl (List.mem_of_getElem? (i := 0) rfl))
  have Z0 := Nat.le_trans Z0 (Nat.le_of_eq W68.size.symm)
  have O_mp := IsMap.s_size hw W68 O_mp
  refine WP.aloadN K d4_88 rfl rfl (pc' := 89) rfl ?_
  refine WP.getF K (w_33 hw) Via.refl (IsMap.f_values O_mp) d4_89 (pc' := 92) rfl ?_
  refine WP.ifnullF K (b := va) d4_92 (pc' := 95) rfl ?_
  refine WP.iloadN K d4_95 rfl (pc' := 96) rfl ?_
  refine WP.aloadN K d4_96 rfl rfl (pc' := 97) rfl ?_
  refine WP.getF K (w_45 hw) Via.refl (IsMap.f_keys O_mp) d4_97 (pc' := 100) rfl ?_
  refine WP.icmpT K d4_100 (by decide) (by decide) (pc' := 124) (by decide) ?_
  refine WP.aloadN K d4_124 rfl rfl (pc' := 125) rfl ?_
  refine WP.getF K (w_33 hw) Via.refl (IsMap.f_values O_mp) d4_125 (pc' := 128) rfl ?_
  refine WP.aloadN K d4_128 rfl rfl (pc' := 129) rfl ?_
  refine WP.getF K (w_11 hw) Via.refl (IsMap.f_width O_mp) d4_129 (pc' := 132) rfl ?_
  refine WP.iloadN K d4_132 rfl (pc' := 133) rfl ?_
  refine WP.imul K d4_133 (pc' := 134) rfl ?_
  show WP κ h68 1 3 (mkF κ.m 134 #[.val (.ref mp), .val (.int (0 : Int32)), .val (.int first), .unset, .unset] [(.int (0 : Int32)), (.ref va)])
  refine WP.iloadN K d4_134 rfl (pc' := 135) rfl ?_
  refine WP.iastore K (i := 0) A_va rfl (by decide) old_va d4_135 (pc' := 136) rfl fun h69 W69 A_n => ?_
  have O_mp := IsMap.other W69 O_mp (Ary.ne (IsMap.exa O_mp) A_va (w_3 hw))
  have KP := Keep.wr KP W69 (Or.inr s_va)
  have Z0 := Nat.le_trans Z0 (Nat.le_of_eq W69.size.symm)
  have A_va := A_n
  rw [upd_int] at A_va
  refine WP.iloadN K d4_136 rfl (pc' := 137) rfl ?_
  exact WP.retI K d4_137 (by decide) (by decide) ⟨rfl, KP, va, kA, s_va, O_mp, A_va⟩
set_option maxRecDepth 65536 in
set_option maxHeartbeats 40000000 in
theorem rm_addA2_0 (w : Bool) (l : Launch) (Z : State) (a0 : Array Value) (hw : ∀ d ∈ tables_1, d.before a0 Z = true) (F : Nat → Int32) (mp va : Addr) (kA : ClassId) (first : Int32) (u_entries u_slots u_greatestKey : Value) (h0 : Heap) (n0 : Nat) (Z0 : n0 ≤ h0.size) (O_mp : IsMap Z h0 mp (.int (3 : Int32)) (.int (4 : Int32)) u_entries u_slots .null u_greatestKey (.ref va) (.int (1 : Int32)) (.int (1 : Int32))) (A_va : Ary Z h0 va kA .int 3 (fun j => .int (F j))) (old_mp : n0 ≤ mp) (old_va : n0 ≤ va) :
    Met w l Z (⟨"com/example/weir/weir/engine/IntIntMap", "add", "(II)I"⟩ : MethodName) prog_26_method_8_code 5 (some .int) [] ({ frames := 3, cells := 1, slots := 6, locals := 92 } : Room) #[(.ref mp), (.int (1 : Int32)), (.int first)] h0 n0 (fun v h => v = some (.int (1 : Int32)) ∧ ∃ (nw : Addr) (kN : ClassId), n0 ≤ nw ∧ n0 ≤ h.size ∧ Keep h0 h [mp, va] ∧ IsMap Z h mp (.int (3 : Int32)) (.int (4 : Int32)) u_entries u_slots .null u_greatestKey (.ref nw) (.int (2 : Int32)) (.int (2 : Int32)) ∧ Ary Z h nw kN .int 6 (fun j => .int ((fset (own_fill (fun x => if x < 3 then F x else 0) 3 6 (-1)) 3 first) j))) := by
  refine Met.of (plainFor_of_name (by first | (simp [plainName, overriddenIn]; done) | decide +kernel)) fun κ K => ?_
  refine WP.frame (g' := (mkF κ.m 0 #[.val (.ref mp), .val (.int (1 : Int32)), .val (.int first), .unset, .unset] [])) (by first | (simp [entryFrame, mkF, argsToLocals, Value.category]; done) | rfl) ?_
  have KP := Keep.refl h0 [mp, va]
  refine WP.aloadN K d4_0 rfl rfl (pc' := 1) rfl ?_
  refine WP.getF K (w_33 hw) Via.refl (IsMap.f_values O_mp) d4_1 (pc' := 4) rfl ?_
  refine WP.ifnullF K (b := va) d4_4 (pc' := 7) rfl ?_
  refine WP.iloadN K d4_7 rfl (pc' := 8) rfl ?_
  refine WP.aloadN K d4_8 rfl rfl (pc' := 9) rfl ?_
  refine WP.getF K (w_45 hw) Via.refl (IsMap.f_keys O_mp) d4_9 (pc' := 12) rfl ?_
  refine WP.icmpF K d4_12 (by decide) (pc' := 15) rfl ?_
  refine WP.iconst K d4_15 (v := (4 : Int32)) rfl (pc' := 16) rfl ?_
  refine WP.aloadN K d4_16 rfl rfl (pc' := 17) rfl ?_
  refine WP.getF K (w_35 hw) Via.refl (IsMap.f_size O_mp) d4_17 (pc' := 20) rfl ?_
  refine WP.iconst K d4_20 (v := (1 : Int32)) rfl (pc' := 21) rfl ?_
  refine WP.iadd K d4_21 (pc' := 22) rfl ?_
  show WP κ h0 0 0 (mkF κ.m 22 #[.val (.ref mp), .val (.int (1 : Int32)), .val (.int first), .unset, .unset] [(.int (2 : Int32)), (.int (4 : Int32))])
  refine WP.imul K d4_22 (pc' := 23) rfl ?_
  show WP κ h0 0 0 (mkF κ.m 23 #[.val (.ref mp), .val (.int (1 : Int32)), .val (.int first), .unset, .unset] [(.int (8 : Int32))])
  refine WP.iloadN K d4_23 rfl (pc' := 24) rfl ?_
  refine WP.iconst K d4_24 (v := (1 : Int32)) rfl (pc' := 25) rfl ?_
  refine WP.iadd K d4_25 (pc' := 26) rfl ?_
  show WP κ h0 0 0 (mkF κ.m 26 #[.val (.ref mp), .val (.int (1 : Int32)), .val (.int first), .unset, .unset] [(.int (2 : Int32)), (.int (8 : Int32))])
  refine WP.icmpT K d4_26 (by decide) (by decide) (pc' := 36) (by decide) ?_
  refine WP.aloadN K d4_36 rfl rfl (pc' := 37) rfl ?_
  refine WP.getF K (w_33 hw) Via.refl (IsMap.f_values O_mp) d4_37 (pc' := 40) rfl ?_
  refine WP.ifnonnullT K (b := va) d4_40 (by decide) (pc' := 78) (by decide) ?_
  refine WP.aloadN K d4_78 rfl rfl (pc' := 79) rfl ?_
  refine WP.dup K d4_79 rfl (pc' := 80) rfl ?_
  refine WP.getF K (w_35 hw) Via.refl (IsMap.f_size O_mp) d4_80 (pc' := 83) rfl ?_
  refine WP.iconst K d4_83 (v := (1 : Int32)) rfl (pc' := 84) rfl ?_
  refine WP.iadd K d4_84 (pc' := 85) rfl ?_
  show WP κ h0 0 0 (mkF κ.m 85 #[.val (.ref mp), .val (.int (1 : Int32)), .val (.int first), .unset, .unset] [(.int (2 : Int32)), (.ref mp)])
  refine WP.putF K (w_35 hw) Via.refl (IsMap.f_size O_mp) (IsMap.exa O_mp) (Or.inl (w_36 hw)) (w_3 hw) (ty := .int) (by decide) rfl rfl old_mp d4_85 (pc' := 88) rfl fun h70 W70 => ?_
  have A_va := Ary.other W70 A_va (Ne.symm (Ary.ne (IsMap.exa O_mp) A_va (w_3 hw)))
  have KP := Keep.wr KP W70 (Or.inl (List.mem_of_getElem? (i := 0) rfl))
  have Z0 := Nat.le_trans Z0 (Nat.le_of_eq W70.size.symm)
  have O_mp := IsMap.s_size hw W70 O_mp
  refine WP.aloadN K d4_88 rfl rfl (pc' := 89) rfl ?_
  refine WP.getF K (w_33 hw) Via.refl (IsMap.f_values O_mp) d4_89 (pc' := 92) rfl ?_
  refine WP.ifnullF K (b := va) d4_92 (pc' := 95) rfl ?_
  refine WP.iloadN K d4_95 rfl (pc' := 96) rfl ?_
  refine WP.aloadN K d4_96 rfl rfl (pc' := 97) rfl ?_
  refine WP.getF K (w_45 hw) Via.refl (IsMap.f_keys O_mp) d4_97 (pc' := 100) rfl ?_
  refine WP.icmpF K d4_100 (by decide) (pc' := 103) rfl ?_
  refine WP.aloadN K d4_103 rfl rfl (pc' := 104) rfl ?_
  refine WP.iloadN K d4_104 rfl (pc' := 105) rfl ?_
  refine WP.iconst K d4_105 (v := (1 : Int32)) rfl (pc' := 106) rfl ?_
  refine WP.iadd K d4_106 (pc' := 107) rfl ?_
  show WP κ h70 0 0 (mkF κ.m 107 #[.val (.ref mp), .val (.int (1 : Int32)), .val (.int first), .unset, .unset] [(.int (2 : Int32)), (.ref mp)])
  refine WP.aloadN K d4_107 rfl rfl (pc' := 108) rfl ?_
  refine WP.getF K (w_45 hw) Via.refl (IsMap.f_keys O_mp) d4_108 (pc' := 111) rfl ?_
  refine WP.aloadN K d4_111 rfl rfl (pc' := 112) rfl ?_
  refine WP.getF K (w_45 hw) Via.refl (IsMap.f_keys O_mp) d4_112 (pc' := 115) rfl ?_
  refine WP.iconst K d4_115 (v := (2 : Int32)) rfl (pc' := 116) rfl ?_
  refine WP.idiv K d4_116 (by decide) (pc' := 117) rfl ?_
  refine WP.iadd K d4_117 (pc' := 118) rfl ?_
  refine WP.callS K (argsL := [(.int (2 : Int32)), (.int ((1 : Int32) + ((1 : Int32) / (2 : Int32))))]) (S := [(.ref mp)]) (w_37 hw) (w_38 hw) (rm_max w l Z a0 hw (2 : Int32) ((1 : Int32) + ((1 : Int32) / (2 : Int32))) h70 n0 Z0) (w_40 hw) (w_39 hw) (by decide) rfl (lenOf pd_3 rfl) rfl (W := 1) rfl (by decide) (by decide) (k' := 0) (n' := 0) rfl rfl (by decide) (by decide) d4_118 (pc' := 121) rfl fun v h71 hq => ?_
  obtain ⟨rfl, rfl⟩ := hq
  show WP κ h70 0 0 (mkF κ.m 121 #[.val (.ref mp), .val (.int (1 : Int32)), .val (.int first), .unset, .unset] [(.int (own_max (2 : Int32) ((1 : Int32) + ((1 : Int32) / (2 : Int32))))), (.ref mp)])
  rw [show own_max (2 : Int32) ((1 : Int32) + ((1 : Int32) / (2 : Int32))) = 2 from by decide]
  show WP κ h70 0 0 (mkF κ.m 121 #[.val (.ref mp), .val (.int (1 : Int32)), .val (.int first), .unset, .unset] [(.int (2 : Int32)), (.ref mp)])
  have hz0 : h0.size ≤ h70.size := KP.1
  have nq_va_mp : va ≠ mp := (Ne.symm (Ary.ne (IsMap.exa O_mp) A_va (w_3 hw)))
  refine WP.callP K (a := mp) (argsL := [(.int (2 : Int32))]) (S := []) (w_70 hw) (w_71 hw) (w_3 hw) (w_72 hw) (IsMap.exa O_mp) (rm_grow w l Z a0 hw F mp va kA _ _ _ _ h70 n0 Z0 O_mp A_va old_mp) (w_73 hw) (w_4 hw) (by decide) rfl (lenOf pd_8 rfl) rfl (W := 0) rfl (by decide) (by decide) (k' := 1) (n' := 6) rfl rfl (by decide) (by decide) d4_121 (pc' := 124) rfl fun v h72 hq => ?_
  obtain ⟨rfl, K1, nw, kN, s_nw, O_mp, A_nw⟩ := hq
  have A_va := Ary.keep K1 A_va (ninS nq_va_mp nin0)
  have KP := Keep.trans KP K1 (allS (Or.inl (List.mem_of_getElem? (i := 0) rfl)) all0)
  have Z0 := Nat.le_trans Z0 K1.1
  show WP κ h72 1 6 (mkF κ.m 124 #[.val (.ref mp), .val (.int (1 : Int32)), .val (.int first), .unset, .unset] [])
  have old_nw : n0 ≤ nw := by omega
  have osz_nw : h0.size ≤ nw := by omega
  refine WP.aloadN K d4_124 rfl rfl (pc' := 125) rfl ?_
  refine WP.getF K (w_33 hw) Via.refl (IsMap.f_values O_mp) d4_125 (pc' := 128) rfl ?_
  refine WP.aloadN K d4_128 rfl rfl (pc' := 129) rfl ?_
  refine WP.getF K (w_11 hw) Via.refl (IsMap.f_width O_mp) d4_129 (pc' := 132) rfl ?_
  refine WP.iloadN K d4_132 rfl (pc' := 133) rfl ?_
  refine WP.imul K d4_133 (pc' := 134) rfl ?_
  show WP κ h72 1 6 (mkF κ.m 134 #[.val (.ref mp), .val (.int (1 : Int32)), .val (.int first), .unset, .unset] [(.int (3 : Int32)), (.ref nw)])
  refine WP.iloadN K d4_134 rfl (pc' := 135) rfl ?_
  refine WP.iastore K (i := 3) A_nw rfl (by decide) old_nw d4_135 (pc' := 136) rfl fun h73 W73 A_n => ?_
  have O_mp := IsMap.other W73 O_mp (Ary.ne (IsMap.exa O_mp) A_nw (w_3 hw))
  have KP := Keep.wr KP W73 (Or.inr osz_nw)
  have Z0 := Nat.le_trans Z0 (Nat.le_of_eq W73.size.symm)
  have A_nw := A_n
  rw [upd_int] at A_nw
  refine WP.iloadN K d4_136 rfl (pc' := 137) rfl ?_
  exact WP.retI K d4_137 (by decide) (by decide) ⟨rfl, nw, kN, old_nw, Z0, KP, O_mp, A_nw⟩
set_option maxRecDepth 65536 in
set_option maxHeartbeats 40000000 in
theorem rm_addA1_1 (w : Bool) (l : Launch) (Z : State) (a0 : Array Value) (hw : ∀ d ∈ tables_1, d.before a0 Z = true) (mp en : Addr) (kE : ClassId) (first : Int32) (u_keys : Value) (h0 : Heap) (n0 : Nat) (Z0 : n0 ≤ h0.size) (O_mp : IsMap Z h0 mp (.int (3 : Int32)) (.int (4 : Int32)) (.ref en) (.int (8 : Int32)) .null (.int (0 : Int32)) .null (.int (0 : Int32)) u_keys) (A_en : Ary Z h0 en kE .int 32 (fun j => .int ((fun _ => (0 : Int32)) j))) (old_mp : n0 ≤ mp) :
    Met w l Z (⟨"com/example/weir/weir/engine/IntIntMap", "add", "(II)I"⟩ : MethodName) prog_26_method_8_code 5 (some .int) [] ({ frames := 2, cells := 1, slots := 6, locals := 31 } : Room) #[(.ref mp), (.int (1 : Int32)), (.int first)] h0 n0 (fun v h => v = some (.int (1 : Int32)) ∧ Keep h0 h [mp] ∧ ∃ (va : Addr) (kA : ClassId), h0.size ≤ va ∧ IsMap Z h mp (.int (3 : Int32)) (.int (4 : Int32)) .null (.int (0 : Int32)) .null (.int (0 : Int32)) (.ref va) (.int (1 : Int32)) (.int (2 : Int32)) ∧ Ary Z h va kA .int 6 (fun j => .int ((fset (own_fill (fun _ => (0 : Int32)) 0 6 (-1)) 3 first) j))) := by
  refine Met.of (plainFor_of_name (by first | (simp [plainName, overriddenIn]; done) | decide +kernel)) fun κ K => ?_
  refine WP.frame (g' := (mkF κ.m 0 #[.val (.ref mp), .val (.int (1 : Int32)), .val (.int first), .unset, .unset] [])) (by first | (simp [entryFrame, mkF, argsToLocals, Value.category]; done) | rfl) ?_
  have KP := Keep.refl h0 [mp]
  refine WP.aloadN K d4_0 rfl rfl (pc' := 1) rfl ?_
  refine WP.getF K (w_33 hw) Via.refl (IsMap.f_values O_mp) d4_1 (pc' := 4) rfl ?_
  refine WP.ifnullT K (b := 0) d4_4 (by decide) (pc' := 36) (by decide) ?_
  refine WP.aloadN K d4_36 rfl rfl (pc' := 37) rfl ?_
  refine WP.getF K (w_33 hw) Via.refl (IsMap.f_values O_mp) d4_37 (pc' := 40) rfl ?_
  refine WP.ifnonnullF K (b := 0) d4_40 (pc' := 43) rfl ?_
  refine WP.iconst K d4_43 (v := (2 : Int32)) rfl (pc' := 44) rfl ?_
  refine WP.aloadN K d4_44 rfl rfl (pc' := 45) rfl ?_
  refine WP.getF K (w_35 hw) Via.refl (IsMap.f_size O_mp) d4_45 (pc' := 48) rfl ?_
  refine WP.iconst K d4_48 (v := (1 : Int32)) rfl (pc' := 49) rfl ?_
  refine WP.iadd K d4_49 (pc' := 50) rfl ?_
  show WP κ h0 0 0 (mkF κ.m 50 #[.val (.ref mp), .val (.int (1 : Int32)), .val (.int first), .unset, .unset] [(.int (1 : Int32)), (.int (2 : Int32))])
  refine WP.imul K d4_50 (pc' := 51) rfl ?_
  show WP κ h0 0 0 (mkF κ.m 51 #[.val (.ref mp), .val (.int (1 : Int32)), .val (.int first), .unset, .unset] [(.int (2 : Int32))])
  refine WP.iloadN K d4_51 rfl (pc' := 52) rfl ?_
  refine WP.aloadN K d4_52 rfl rfl (pc' := 53) rfl ?_
  refine WP.getF K (w_26 hw) Via.refl (IsMap.f_greatestKey O_mp) d4_53 (pc' := 56) rfl ?_
  refine WP.callS K (argsL := [(.int (1 : Int32)), (.int (0 : Int32))]) (S := [(.int (2 : Int32))]) (w_37 hw) (w_38 hw) (rm_max w l Z a0 hw (1 : Int32) (0 : Int32) h0 n0 Z0) (w_40 hw) (w_39 hw) (by decide) rfl (lenOf pd_3 rfl) rfl (W := 1) rfl (by decide) (by decide) (k' := 0) (n' := 0) rfl rfl (by decide) (by decide) d4_56 (pc' := 59) rfl fun v h74 hq => ?_
  obtain ⟨rfl, rfl⟩ := hq
  show WP κ h0 0 0 (mkF κ.m 59 #[.val (.ref mp), .val (.int (1 : Int32)), .val (.int first), .unset, .unset] [(.int (own_max (1 : Int32) (0 : Int32))), (.int (2 : Int32))])
  rw [show own_max (1 : Int32) (0 : Int32) = (1 : Int32) from by decide]
  show WP κ h0 0 0 (mkF κ.m 59 #[.val (.ref mp), .val (.int (1 : Int32)), .val (.int first), .unset, .unset] [(.int (1 : Int32)), (.int (2 : Int32))])
  refine WP.iconst K d4_59 (v := (1 : Int32)) rfl (pc' := 60) rfl ?_
  refine WP.iadd K d4_60 (pc' := 61) rfl ?_
  show WP κ h0 0 0 (mkF κ.m 61 #[.val (.ref mp), .val (.int (1 : Int32)), .val (.int first), .unset, .unset] [(.int (2 : Int32)), (.int (2 : Int32))])
  refine WP.icmpF K d4_61 (by decide) (pc' := 64) rfl ?_
  refine WP.aloadN K d4_64 rfl rfl (pc' := 65) rfl ?_
  refine WP.iloadN K d4_65 rfl (pc' := 66) rfl ?_
  refine WP.aloadN K d4_66 rfl rfl (pc' := 67) rfl ?_
  refine WP.getF K (w_26 hw) Via.refl (IsMap.f_greatestKey O_mp) d4_67 (pc' := 70) rfl ?_
  refine WP.callS K (argsL := [(.int (1 : Int32)), (.int (0 : Int32))]) (S := [(.ref mp)]) (w_37 hw) (w_38 hw) (rm_max w l Z a0 hw (1 : Int32) (0 : Int32) h0 n0 Z0) (w_40 hw) (w_39 hw) (by decide) rfl (lenOf pd_3 rfl) rfl (W := 1) rfl (by decide) (by decide) (k' := 0) (n' := 0) rfl rfl (by decide) (by decide) d4_70 (pc' := 73) rfl fun v h75 hq => ?_
  obtain ⟨rfl, rfl⟩ := hq
  show WP κ h0 0 0 (mkF κ.m 73 #[.val (.ref mp), .val (.int (1 : Int32)), .val (.int first), .unset, .unset] [(.int (own_max (1 : Int32) (0 : Int32))), (.ref mp)])
  rw [show own_max (1 : Int32) (0 : Int32) = (1 : Int32) from by decide]
  show WP κ h0 0 0 (mkF κ.m 73 #[.val (.ref mp), .val (.int (1 : Int32)), .val (.int first), .unset, .unset] [(.int (1 : Int32)), (.ref mp)])
  refine WP.iconst K d4_73 (v := (1 : Int32)) rfl (pc' := 74) rfl ?_
  refine WP.iadd K d4_74 (pc' := 75) rfl ?_
  show WP κ h0 0 0 (mkF κ.m 75 #[.val (.ref mp), .val (.int (1 : Int32)), .val (.int first), .unset, .unset] [(.int (2 : Int32)), (.ref mp)])
  have nq_en_mp : en ≠ mp := (Ne.symm (Ary.ne (IsMap.exa O_mp) A_en (w_3 hw)))
  refine WP.callP K (a := mp) (argsL := [(.int (2 : Int32))]) (S := []) (w_41 hw) (w_42 hw) (w_3 hw) (w_43 hw) (IsMap.exa O_mp) (rm_toArray2 w l Z a0 hw mp en kE _ _ _ h0 n0 Z0 O_mp A_en old_mp) (w_44 hw) (w_4 hw) (by decide) rfl (lenOf pd_8 rfl) rfl (W := 0) rfl (by decide) (by decide) (k' := 1) (n' := 6) rfl rfl (by decide) (by decide) d4_75 (pc' := 78) rfl fun v h76 hq => ?_
  obtain ⟨rfl, K1, va, kA, s_va, O_mp, A_va⟩ := hq
  have A_en := Ary.keep K1 A_en (ninS nq_en_mp nin0)
  have KP := Keep.trans KP K1 (allS (Or.inl (List.mem_of_getElem? (i := 0) rfl)) all0)
  have Z0 := Nat.le_trans Z0 K1.1
  show WP κ h76 1 6 (mkF κ.m 78 #[.val (.ref mp), .val (.int (1 : Int32)), .val (.int first), .unset, .unset] [])
  have old_va : n0 ≤ va := by omega
  refine WP.aloadN K d4_78 rfl rfl (pc' := 79) rfl ?_
  refine WP.dup K d4_79 rfl (pc' := 80) rfl ?_
  refine WP.getF K (w_35 hw) Via.refl (IsMap.f_size O_mp) d4_80 (pc' := 83) rfl ?_
  refine WP.iconst K d4_83 (v := (1 : Int32)) rfl (pc' := 84) rfl ?_
  refine WP.iadd K d4_84 (pc' := 85) rfl ?_
  show WP κ h76 1 6 (mkF κ.m 85 #[.val (.ref mp), .val (.int (1 : Int32)), .val (.int first), .unset, .unset] [(.int (1 : Int32)), (.ref mp)])
  refine WP.putF K (w_35 hw) Via.refl (IsMap.f_size O_mp) (IsMap.exa O_mp) (Or.inl (w_36 hw)) (w_3 hw) (ty := .int) (by decide) rfl rfl old_mp d4_85 (pc' := 88) rfl fun h77 W77 => ?_
  have A_va := Ary.other W77 A_va (Ne.symm (Ary.ne (IsMap.exa O_mp) A_va (w_3 hw)))
  have KP := Keep.wr KP W77 (Or.inl (List.mem_of_getElem? (i := 0) rfl))
  have Z0 := Nat.le_trans Z0 (Nat.le_of_eq W77.size.symm)
  have O_mp := IsMap.s_size hw W77 O_mp
  refine WP.aloadN K d4_88 rfl rfl (pc' := 89) rfl ?_
  refine WP.getF K (w_33 hw) Via.refl (IsMap.f_values O_mp) d4_89 (pc' := 92) rfl ?_
  refine WP.ifnullF K (b := va) d4_92 (pc' := 95) rfl ?_
  refine WP.iloadN K d4_95 rfl (pc' := 96) rfl ?_
  refine WP.aloadN K d4_96 rfl rfl (pc' := 97) rfl ?_
  refine WP.getF K (w_45 hw) Via.refl (IsMap.f_keys O_mp) d4_97 (pc' := 100) rfl ?_
  refine WP.icmpT K d4_100 (by decide) (by decide) (pc' := 124) (by decide) ?_
  refine WP.aloadN K d4_124 rfl rfl (pc' := 125) rfl ?_
  refine WP.getF K (w_33 hw) Via.refl (IsMap.f_values O_mp) d4_125 (pc' := 128) rfl ?_
  refine WP.aloadN K d4_128 rfl rfl (pc' := 129) rfl ?_
  refine WP.getF K (w_11 hw) Via.refl (IsMap.f_width O_mp) d4_129 (pc' := 132) rfl ?_
  refine WP.iloadN K d4_132 rfl (pc' := 133) rfl ?_
  refine WP.imul K d4_133 (pc' := 134) rfl ?_
  show WP κ h77 1 6 (mkF κ.m 134 #[.val (.ref mp), .val (.int (1 : Int32)), .val (.int first), .unset, .unset] [(.int (3 : Int32)), (.ref va)])
  refine WP.iloadN K d4_134 rfl (pc' := 135) rfl ?_
  refine WP.iastore K (i := 3) A_va rfl (by decide) old_va d4_135 (pc' := 136) rfl fun h78 W78 A_n => ?_
  have O_mp := IsMap.other W78 O_mp (Ary.ne (IsMap.exa O_mp) A_va (w_3 hw))
  have KP := Keep.wr KP W78 (Or.inr s_va)
  have Z0 := Nat.le_trans Z0 (Nat.le_of_eq W78.size.symm)
  have A_va := A_n
  rw [upd_int] at A_va
  refine WP.iloadN K d4_136 rfl (pc' := 137) rfl ?_
  exact WP.retI K d4_137 (by decide) (by decide) ⟨rfl, KP, va, kA, s_va, O_mp, A_va⟩
set_option maxRecDepth 65536 in
set_option maxHeartbeats 40000000 in
theorem rm_addA2_1 (w : Bool) (l : Launch) (Z : State) (a0 : Array Value) (hw : ∀ d ∈ tables_1, d.before a0 Z = true) (F : Nat → Int32) (mp va : Addr) (kA : ClassId) (first : Int32) (u_entries u_slots u_greatestKey : Value) (h0 : Heap) (n0 : Nat) (Z0 : n0 ≤ h0.size) (O_mp : IsMap Z h0 mp (.int (3 : Int32)) (.int (4 : Int32)) u_entries u_slots .null u_greatestKey (.ref va) (.int (1 : Int32)) (.int (2 : Int32))) (A_va : Ary Z h0 va kA .int 6 (fun j => .int (F j))) (old_mp : n0 ≤ mp) (old_va : n0 ≤ va) :
    Met w l Z (⟨"com/example/weir/weir/engine/IntIntMap", "add", "(II)I"⟩ : MethodName) prog_26_method_8_code 5 (some .int) [] ({ frames := 0, cells := 0, slots := 0, locals := 0 } : Room) #[(.ref mp), (.int (0 : Int32)), (.int first)] h0 n0 (fun v h => v = some (.int (0 : Int32)) ∧ ∃ (nw : Addr) (kN : ClassId), n0 ≤ nw ∧ n0 ≤ h.size ∧ Keep h0 h [mp, va] ∧ IsMap Z h mp (.int (3 : Int32)) (.int (4 : Int32)) u_entries u_slots .null u_greatestKey (.ref nw) (.int (2 : Int32)) (.int (2 : Int32)) ∧ Ary Z h nw kN .int 6 (fun j => .int ((fset F 0 first) j))) := by
  refine Met.of (plainFor_of_name (by first | (simp [plainName, overriddenIn]; done) | decide +kernel)) fun κ K => ?_
  refine WP.frame (g' := (mkF κ.m 0 #[.val (.ref mp), .val (.int (0 : Int32)), .val (.int first), .unset, .unset] [])) (by first | (simp [entryFrame, mkF, argsToLocals, Value.category]; done) | rfl) ?_
  have KP := Keep.refl h0 [mp, va]
  refine WP.aloadN K d4_0 rfl rfl (pc' := 1) rfl ?_
  refine WP.getF K (w_33 hw) Via.refl (IsMap.f_values O_mp) d4_1 (pc' := 4) rfl ?_
  refine WP.ifnullF K (b := va) d4_4 (pc' := 7) rfl ?_
  refine WP.iloadN K d4_7 rfl (pc' := 8) rfl ?_
  refine WP.aloadN K d4_8 rfl rfl (pc' := 9) rfl ?_
  refine WP.getF K (w_45 hw) Via.refl (IsMap.f_keys O_mp) d4_9 (pc' := 12) rfl ?_
  refine WP.icmpT K d4_12 (by decide) (by decide) (pc' := 36) (by decide) ?_
  refine WP.aloadN K d4_36 rfl rfl (pc' := 37) rfl ?_
  refine WP.getF K (w_33 hw) Via.refl (IsMap.f_values O_mp) d4_37 (pc' := 40) rfl ?_
  refine WP.ifnonnullT K (b := va) d4_40 (by decide) (pc' := 78) (by decide) ?_
  refine WP.aloadN K d4_78 rfl rfl (pc' := 79) rfl ?_
  refine WP.dup K d4_79 rfl (pc' := 80) rfl ?_
  refine WP.getF K (w_35 hw) Via.refl (IsMap.f_size O_mp) d4_80 (pc' := 83) rfl ?_
  refine WP.iconst K d4_83 (v := (1 : Int32)) rfl (pc' := 84) rfl ?_
  refine WP.iadd K d4_84 (pc' := 85) rfl ?_
  show WP κ h0 0 0 (mkF κ.m 85 #[.val (.ref mp), .val (.int (0 : Int32)), .val (.int first), .unset, .unset] [(.int (2 : Int32)), (.ref mp)])
  refine WP.putF K (w_35 hw) Via.refl (IsMap.f_size O_mp) (IsMap.exa O_mp) (Or.inl (w_36 hw)) (w_3 hw) (ty := .int) (by decide) rfl rfl old_mp d4_85 (pc' := 88) rfl fun h79 W79 => ?_
  have A_va := Ary.other W79 A_va (Ne.symm (Ary.ne (IsMap.exa O_mp) A_va (w_3 hw)))
  have KP := Keep.wr KP W79 (Or.inl (List.mem_of_getElem? (i := 0) rfl))
  have Z0 := Nat.le_trans Z0 (Nat.le_of_eq W79.size.symm)
  have O_mp := IsMap.s_size hw W79 O_mp
  refine WP.aloadN K d4_88 rfl rfl (pc' := 89) rfl ?_
  refine WP.getF K (w_33 hw) Via.refl (IsMap.f_values O_mp) d4_89 (pc' := 92) rfl ?_
  refine WP.ifnullF K (b := va) d4_92 (pc' := 95) rfl ?_
  refine WP.iloadN K d4_95 rfl (pc' := 96) rfl ?_
  refine WP.aloadN K d4_96 rfl rfl (pc' := 97) rfl ?_
  refine WP.getF K (w_45 hw) Via.refl (IsMap.f_keys O_mp) d4_97 (pc' := 100) rfl ?_
  refine WP.icmpT K d4_100 (by decide) (by decide) (pc' := 124) (by decide) ?_
  refine WP.aloadN K d4_124 rfl rfl (pc' := 125) rfl ?_
  refine WP.getF K (w_33 hw) Via.refl (IsMap.f_values O_mp) d4_125 (pc' := 128) rfl ?_
  refine WP.aloadN K d4_128 rfl rfl (pc' := 129) rfl ?_
  refine WP.getF K (w_11 hw) Via.refl (IsMap.f_width O_mp) d4_129 (pc' := 132) rfl ?_
  refine WP.iloadN K d4_132 rfl (pc' := 133) rfl ?_
  refine WP.imul K d4_133 (pc' := 134) rfl ?_
  show WP κ h79 0 0 (mkF κ.m 134 #[.val (.ref mp), .val (.int (0 : Int32)), .val (.int first), .unset, .unset] [(.int (0 : Int32)), (.ref va)])
  refine WP.iloadN K d4_134 rfl (pc' := 135) rfl ?_
  refine WP.iastore K (i := 0) A_va rfl (by decide) old_va d4_135 (pc' := 136) rfl fun h80 W80 A_n => ?_
  have O_mp := IsMap.other W80 O_mp (Ary.ne (IsMap.exa O_mp) A_va (w_3 hw))
  have KP := Keep.wr KP W80 (Or.inl (List.mem_of_getElem? (i := 1) rfl))
  have Z0 := Nat.le_trans Z0 (Nat.le_of_eq W80.size.symm)
  have A_va := A_n
  rw [upd_int] at A_va
  refine WP.iloadN K d4_136 rfl (pc' := 137) rfl ?_
  exact WP.retI K d4_137 (by decide) (by decide) ⟨rfl, va, kA, old_va, Z0, KP, O_mp, A_va⟩
set_option maxRecDepth 65536 in
set_option maxHeartbeats 40000000 in
theorem rm_law (w : Bool) (l : Launch) (Z : State) (a0 : Array Value) (hw : ∀ d ∈ tables_1, d.before a0 Z = true) (p0 p1 p2 p3 p4 p5 : Int32) (h0 : Heap) (n0 : Nat) (Z0 : n0 ≤ h0.size)  :
    Met w l Z x code maxLocals ret tables_1 room_1 #[(.int p0), (.int p1), (.int p2), (.int p3), (.int p4), (.int p5)] h0 n0 (fun v h => v = some (.int 1)) := by
  refine Met.of (plainFor_of_name (by first | (simp [plainName, overriddenIn]; done) | decide +kernel)) fun κ K => ?_
  have K : Cx κ w l Z "com/example/weir/weir/engine/IntIntMapSetValuePinLaw" n0 room_1 code 21 (some .boolean) "law" _ := K
  refine WP.frame (g' := (mkF κ.m 0 #[.val (.int p0), .val (.int p1), .val (.int p2), .val (.int p3), .val (.int p4), .val (.int p5), .unset, .unset, .unset, .unset, .unset, .unset, .unset, .unset, .unset, .unset, .unset, .unset, .unset, .unset, .unset] [])) (by first | (simp [entryFrame, mkF, argsToLocals, Value.category, maxLocals]; done) | rfl) ?_
  refine WP.iloadN K at_0 rfl (pc' := 1) rfl ?_
  refine WP.iconst K at_1 (v := (1 : Int32)) rfl (pc' := 2) rfl ?_
  refine WP.iand K at_2 (pc' := 3) rfl ?_
  refine WP.meet (g' := (mkF κ.m 11 #[.val (.int p0), .val (.int p1), .val (.int p2), .val (.int p3), .val (.int p4), .val (.int p5), .unset, .unset, .unset, .unset, .unset, .unset, .unset, .unset, .unset, .unset, .unset, .unset, .unset, .unset, .unset] [(.int (if (p0 &&& (1 : Int32)) = (0 : Int32) then (0 : Int32) else (1 : Int32)))])) (fun HJ => ?_) ?_
  · by_cases c81 : (p0 &&& (1 : Int32)) = (0 : Int32)
    · try simp only [if_pos c81] at HJ
      refine WP.if0T K at_3 ((if0 _ _).trans (teq c81).1) (by decide) (pc' := 10) (by decide) ?_
      refine WP.iconst K at_10 (v := (0 : Int32)) rfl (pc' := 11) rfl ?_
      exact HJ
    · try simp only [if_neg c81] at HJ
      refine WP.if0F K at_3 ((if0 _ _).trans (feq c81).1) (pc' := 6) rfl ?_
      refine WP.iconst K at_6 (v := (1 : Int32)) rfl (pc' := 7) rfl ?_
      refine WP.goto K at_7 (by decide) (pc' := 11) (by decide) ?_
      exact HJ
  · skip
    refine WP.istore K at_11 (L' := #[.val (.int p0), .val (.int p1), .val (.int p2), .val (.int p3), .val (.int p4), .val (.int p5), .val (.int (if (p0 &&& (1 : Int32)) = (0 : Int32) then (0 : Int32) else (1 : Int32))), .unset, .unset, .unset, .unset, .unset, .unset, .unset, .unset, .unset, .unset, .unset, .unset, .unset, .unset]) rfl (pc' := 13) rfl ?_
    refine WP.iloadN K at_13 rfl (pc' := 14) rfl ?_
    refine WP.iconst K at_14 (v := (2 : Int32)) rfl (pc' := 15) rfl ?_
    refine WP.iand K at_15 (pc' := 16) rfl ?_
    refine WP.meet (g' := (mkF κ.m 24 #[.val (.int p0), .val (.int p1), .val (.int p2), .val (.int p3), .val (.int p4), .val (.int p5), .val (.int (if (p0 &&& (1 : Int32)) = (0 : Int32) then (0 : Int32) else (1 : Int32))), .unset, .unset, .unset, .unset, .unset, .unset, .unset, .unset, .unset, .unset, .unset, .unset, .unset, .unset] [(.int (if (p0 &&& (2 : Int32)) = (0 : Int32) then (0 : Int32) else (1 : Int32)))])) (fun HJ => ?_) ?_
    · by_cases c82 : (p0 &&& (2 : Int32)) = (0 : Int32)
      · try simp only [if_pos c82] at HJ
        refine WP.if0T K at_16 ((if0 _ _).trans (teq c82).1) (by decide) (pc' := 23) (by decide) ?_
        refine WP.iconst K at_23 (v := (0 : Int32)) rfl (pc' := 24) rfl ?_
        exact HJ
      · try simp only [if_neg c82] at HJ
        refine WP.if0F K at_16 ((if0 _ _).trans (feq c82).1) (pc' := 19) rfl ?_
        refine WP.iconst K at_19 (v := (1 : Int32)) rfl (pc' := 20) rfl ?_
        refine WP.goto K at_20 (by decide) (pc' := 24) (by decide) ?_
        exact HJ
    · skip
      refine WP.istore K at_24 (L' := #[.val (.int p0), .val (.int p1), .val (.int p2), .val (.int p3), .val (.int p4), .val (.int p5), .val (.int (if (p0 &&& (1 : Int32)) = (0 : Int32) then (0 : Int32) else (1 : Int32))), .val (.int (if (p0 &&& (2 : Int32)) = (0 : Int32) then (0 : Int32) else (1 : Int32))), .unset, .unset, .unset, .unset, .unset, .unset, .unset, .unset, .unset, .unset, .unset, .unset, .unset]) rfl (pc' := 26) rfl ?_
      refine WP.iload K at_26 rfl (pc' := 28) rfl ?_
      by_cases ct : (p0 &&& (1 : Int32)) = (0 : Int32)
      · refine WP.if0T K at_28 (by rw [if_pos ct]; decide) (by decide) (pc' := 54) (by decide) ?_
        refine WP.iloadN K at_54 rfl (pc' := 55) rfl ?_
        refine WP.iconst K at_55 (v := (1 : Int32)) rfl (pc' := 56) rfl ?_
        refine WP.iand K at_56 (pc' := 57) rfl ?_
        refine WP.istore K at_57 (L' := #[.val (.int p0), .val (.int p1), .val (.int p2), .val (.int p3), .val (.int p4), .val (.int p5), .val (.int (if (p0 &&& (1 : Int32)) = (0 : Int32) then (0 : Int32) else (1 : Int32))), .val (.int (if (p0 &&& (2 : Int32)) = (0 : Int32) then (0 : Int32) else (1 : Int32))), .val (.int (p1 &&& (1 : Int32))), .unset, .unset, .unset, .unset, .unset, .unset, .unset, .unset, .unset, .unset, .unset, .unset]) rfl (pc' := 59) rfl ?_
        have ha := own_bit p1
        generalize e_a : (p1 &&& (1 : Int32)) = a at ha ⊢
        rcases ha with rfl | rfl
        · show WP κ h0 0 0 (mkF κ.m 59 #[.val (.int p0), .val (.int p1), .val (.int p2), .val (.int p3), .val (.int p4), .val (.int p5), .val (.int (if (p0 &&& (1 : Int32)) = (0 : Int32) then (0 : Int32) else (1 : Int32))), .val (.int (if (p0 &&& (2 : Int32)) = (0 : Int32) then (0 : Int32) else (1 : Int32))), .val (.int (0 : Int32)), .unset, .unset, .unset, .unset, .unset, .unset, .unset, .unset, .unset, .unset, .unset, .unset] [])
          refine WP.iconst K at_59 (v := (1 : Int32)) rfl (pc' := 60) rfl ?_
          refine WP.iload K at_60 rfl (pc' := 62) rfl ?_
          refine WP.isub K at_62 (pc' := 63) rfl ?_
          show WP κ h0 0 0 (mkF κ.m 63 #[.val (.int p0), .val (.int p1), .val (.int p2), .val (.int p3), .val (.int p4), .val (.int p5), .val (.int (if (p0 &&& (1 : Int32)) = (0 : Int32) then (0 : Int32) else (1 : Int32))), .val (.int (if (p0 &&& (2 : Int32)) = (0 : Int32) then (0 : Int32) else (1 : Int32))), .val (.int (0 : Int32)), .unset, .unset, .unset, .unset, .unset, .unset, .unset, .unset, .unset, .unset, .unset, .unset] [(.int (1 : Int32))])
          refine WP.istore K at_63 (L' := #[.val (.int p0), .val (.int p1), .val (.int p2), .val (.int p3), .val (.int p4), .val (.int p5), .val (.int (if (p0 &&& (1 : Int32)) = (0 : Int32) then (0 : Int32) else (1 : Int32))), .val (.int (if (p0 &&& (2 : Int32)) = (0 : Int32) then (0 : Int32) else (1 : Int32))), .val (.int (0 : Int32)), .val (.int (1 : Int32)), .unset, .unset, .unset, .unset, .unset, .unset, .unset, .unset, .unset, .unset, .unset]) rfl (pc' := 65) rfl ?_
          refine WP.iload K at_65 rfl (pc' := 67) rfl ?_
          refine WP.ldcI K (w_0 hw) at_67 (pc' := 69) rfl ?_
          refine WP.iand K at_69 (pc' := 70) rfl ?_
          refine WP.istore K at_70 (L' := #[.val (.int p0), .val (.int p1), .val (.int p2), .val (.int p3), .val (.int p4), .val (.int p5), .val (.int (if (p0 &&& (1 : Int32)) = (0 : Int32) then (0 : Int32) else (1 : Int32))), .val (.int (if (p0 &&& (2 : Int32)) = (0 : Int32) then (0 : Int32) else (1 : Int32))), .val (.int (0 : Int32)), .val (.int (1 : Int32)), .val (.int (p5 &&& (65535 : Int32))), .unset, .unset, .unset, .unset, .unset, .unset, .unset, .unset, .unset, .unset]) rfl (pc' := 72) rfl ?_
          refine WP.iload K at_72 rfl (pc' := 74) rfl ?_
          refine WP.bipush K at_74 (v := (16 : Int32)) rfl (pc' := 76) rfl ?_
          refine WP.iushr K at_76 (pc' := 77) rfl ?_
          refine WP.istore K at_77 (L' := #[.val (.int p0), .val (.int p1), .val (.int p2), .val (.int p3), .val (.int p4), .val (.int p5), .val (.int (if (p0 &&& (1 : Int32)) = (0 : Int32) then (0 : Int32) else (1 : Int32))), .val (.int (if (p0 &&& (2 : Int32)) = (0 : Int32) then (0 : Int32) else (1 : Int32))), .val (.int (0 : Int32)), .val (.int (1 : Int32)), .val (.int (p5 &&& (65535 : Int32))), .val (.int (((p5).toUInt32 >>> ((16 : Int32) &&& 31).toUInt32).toInt32)), .unset, .unset, .unset, .unset, .unset, .unset, .unset, .unset, .unset]) rfl (pc' := 79) rfl ?_
          have hia := own_ia p5
          generalize e_ia : (p5 &&& (65535 : Int32)) = ia at hia ⊢
          generalize e_ib : (((p5).toUInt32 >>> ((16 : Int32) &&& 31).toUInt32).toInt32) = ib at ⊢
          refine WP.iloadN K at_79 rfl (pc' := 80) rfl ?_
          refine WP.ldcI K (w_1 hw) at_80 (pc' := 82) rfl ?_
          refine WP.iand K at_82 (pc' := 83) rfl ?_
          refine WP.iconst K at_83 (v := (3 : Int32)) rfl (pc' := 84) rfl ?_
          refine WP.irem K at_84 (by decide) (pc' := 85) rfl ?_
          refine WP.istore K at_85 (L' := #[.val (.int p0), .val (.int p1), .val (.int p2), .val (.int p3), .val (.int p4), .val (.int p5), .val (.int (if (p0 &&& (1 : Int32)) = (0 : Int32) then (0 : Int32) else (1 : Int32))), .val (.int (if (p0 &&& (2 : Int32)) = (0 : Int32) then (0 : Int32) else (1 : Int32))), .val (.int (0 : Int32)), .val (.int (1 : Int32)), .val (.int ia), .val (.int ib), .val (.int ((p3 &&& (2147483647 : Int32)) % (3 : Int32))), .unset, .unset, .unset, .unset, .unset, .unset, .unset, .unset]) rfl (pc' := 87) rfl ?_
          have hf := own_mod3 p3
          generalize e_fd : ((p3 &&& (2147483647 : Int32)) % (3 : Int32)) = fd at hf ⊢
          rcases hf with rfl | rfl | rfl
          · show WP κ h0 0 0 (mkF κ.m 87 #[.val (.int p0), .val (.int p1), .val (.int p2), .val (.int p3), .val (.int p4), .val (.int p5), .val (.int (if (p0 &&& (1 : Int32)) = (0 : Int32) then (0 : Int32) else (1 : Int32))), .val (.int (if (p0 &&& (2 : Int32)) = (0 : Int32) then (0 : Int32) else (1 : Int32))), .val (.int (0 : Int32)), .val (.int (1 : Int32)), .val (.int ia), .val (.int ib), .val (.int (0 : Int32)), .unset, .unset, .unset, .unset, .unset, .unset, .unset, .unset] [])
            refine WP.iload K at_87 rfl (pc' := 89) rfl ?_
            refine WP.if0F K at_89 (by decide) (pc' := 92) rfl ?_
            refine WP.iload K at_92 rfl (pc' := 94) rfl ?_
            refine WP.ldcI K (w_1 hw) at_94 (pc' := 96) rfl ?_
            refine WP.iand K at_96 (pc' := 97) rfl ?_
            refine WP.goto K at_97 (by decide) (pc' := 102) (by decide) ?_
            refine WP.istore K at_102 (L' := #[.val (.int p0), .val (.int p1), .val (.int p2), .val (.int p3), .val (.int p4), .val (.int p5), .val (.int (if (p0 &&& (1 : Int32)) = (0 : Int32) then (0 : Int32) else (1 : Int32))), .val (.int (if (p0 &&& (2 : Int32)) = (0 : Int32) then (0 : Int32) else (1 : Int32))), .val (.int (0 : Int32)), .val (.int (1 : Int32)), .val (.int ia), .val (.int ib), .val (.int (0 : Int32)), .val (.int (p4 &&& (2147483647 : Int32))), .unset, .unset, .unset, .unset, .unset, .unset, .unset]) rfl (pc' := 104) rfl ?_
            generalize e_val : (p4 &&& (2147483647 : Int32)) = val at ⊢
            refine WP.new K (w_2 hw) (w_3 hw) (w_4 hw) at_104 (k' := 1) (n' := 9) rfl rfl (by decide) (by decide) (pc' := 107) rfl fun h116 mp g116 E116 X116 D116 => ?_
            have old_mp : n0 ≤ mp := by have q_ := Z0; omega
            have Z0 := Nat.le_trans Z0 E116.1
            have O_mp : IsMap Z h116 mp (.int (0 : Int32)) (.int (0 : Int32)) .null (.int (0 : Int32)) .null (.int (0 : Int32)) .null (.int (0 : Int32)) (.int (0 : Int32)) := ⟨X116, D116 (O := "com/example/weir/weir/engine/IntIntMap") (f := "width") (d := "I") (Or.inr (w_12 hw)) (ty := .int) (by decide), D116 (O := "com/example/weir/weir/engine/IntIntMap") (f := "stride") (d := "I") (Or.inr (w_14 hw)) (ty := .int) (by decide), D116 (O := "com/example/weir/weir/engine/IntIntMap") (f := "entries") (d := "[I") (Or.inl (w_21 hw)) (ty := (.array .int)) (by decide), D116 (O := "com/example/weir/weir/engine/IntIntMap") (f := "slots") (d := "I") (Or.inl (w_23 hw)) (ty := .int) (by decide), D116 (O := "com/example/weir/weir/engine/IntIntMap") (f := "objects") (d := "[Ljava/lang/Object;") (Or.inl (w_25 hw)) (ty := (.array (.object "java/lang/Object"))) (by decide), D116 (O := "com/example/weir/weir/engine/IntIntMap") (f := "greatestKey") (d := "I") (Or.inl (w_27 hw)) (ty := .int) (by decide), D116 (O := "com/example/weir/weir/engine/IntIntMap") (f := "values") (d := "[I") (Or.inl (w_34 hw)) (ty := (.array .int)) (by decide), D116 (O := "com/example/weir/weir/engine/IntIntMap") (f := "size") (d := "I") (Or.inl (w_36 hw)) (ty := .int) (by decide), D116 (O := "com/example/weir/weir/engine/IntIntMap") (f := "keys") (d := "I") (Or.inl (w_46 hw)) (ty := .int) (by decide)⟩
            refine WP.dup K at_107 rfl (pc' := 108) rfl ?_
            refine WP.iconst K at_108 (v := (3 : Int32)) rfl (pc' := 109) rfl ?_
            refine WP.callI K (a := mp) (argsL := [(.int (3 : Int32))]) (S := [(.ref mp)]) rfl (w_5 hw) (w_6 hw) (rm_minit w l Z a0 hw mp _ _ _ _ _ _ _ _ _ h116 n0 Z0 O_mp old_mp) (w_7 hw) (w_4 hw) (by decide) rfl (lenOf pd_8 rfl) rfl (W := 1) rfl (by decide) (by decide) (k' := 2) (n' := 41) rfl rfl (by decide) (by decide) at_109 (pc' := 112) rfl fun v h117 hq => ?_
            obtain ⟨rfl, K0, en, kE, s_en, O_mp, A_en⟩ := hq
            have Z0 := Nat.le_trans Z0 K0.1
            show WP κ h117 2 41 (mkF κ.m 112 #[.val (.int p0), .val (.int p1), .val (.int p2), .val (.int p3), .val (.int p4), .val (.int p5), .val (.int (if (p0 &&& (1 : Int32)) = (0 : Int32) then (0 : Int32) else (1 : Int32))), .val (.int (if (p0 &&& (2 : Int32)) = (0 : Int32) then (0 : Int32) else (1 : Int32))), .val (.int (0 : Int32)), .val (.int (1 : Int32)), .val (.int ia), .val (.int ib), .val (.int (0 : Int32)), .val (.int val), .unset, .unset, .unset, .unset, .unset, .unset, .unset] [(.ref mp)])
            have old_en : n0 ≤ en := by omega
            refine WP.astore K at_112 rfl (L' := #[.val (.int p0), .val (.int p1), .val (.int p2), .val (.int p3), .val (.int p4), .val (.int p5), .val (.int (if (p0 &&& (1 : Int32)) = (0 : Int32) then (0 : Int32) else (1 : Int32))), .val (.int (if (p0 &&& (2 : Int32)) = (0 : Int32) then (0 : Int32) else (1 : Int32))), .val (.int (0 : Int32)), .val (.int (1 : Int32)), .val (.int ia), .val (.int ib), .val (.int (0 : Int32)), .val (.int val), .val (.ref mp), .unset, .unset, .unset, .unset, .unset, .unset]) rfl (pc' := 114) rfl ?_
            refine WP.aload K at_114 rfl rfl (pc' := 116) rfl ?_
            refine WP.iload K at_116 rfl (pc' := 118) rfl ?_
            refine WP.iload K at_118 rfl (pc' := 120) rfl ?_
            have nq_en_mp : en ≠ mp := (Ne.symm (Ary.ne (IsMap.exa O_mp) A_en (w_3 hw)))
            refine WP.callV K (a := mp) (argsL := [(.int (0 : Int32)), (.int ia)]) (S := []) (w_28 hw) (w_29 hw) (fun vm0 hZ => notFace_of_selects (args := #[]) (mvT (s := κ.s.setVm vm0) hZ (w_31 hw))) (w_31 hw) (w_30 hw) (by decide) (IsMap.exa O_mp) (rm_addA1_0 w l Z a0 hw mp en kE ia _ h117 n0 Z0 O_mp A_en old_mp) (w_32 hw) (w_4 hw) (by decide) rfl (lenOf pd_3 rfl) rfl (W := 0) rfl (by decide) (by decide) (k' := 3) (n' := 44) rfl rfl (by decide) (by decide) at_120 (pc' := 123) rfl fun v h118 hq => ?_
            obtain ⟨rfl, K1, va, kV, s_va, O_mp, A_va⟩ := hq
            have A_en := Ary.keep K1 A_en (ninS nq_en_mp nin0)
            have Z0 := Nat.le_trans Z0 K1.1
            show WP κ h118 3 44 (mkF κ.m 123 #[.val (.int p0), .val (.int p1), .val (.int p2), .val (.int p3), .val (.int p4), .val (.int p5), .val (.int (if (p0 &&& (1 : Int32)) = (0 : Int32) then (0 : Int32) else (1 : Int32))), .val (.int (if (p0 &&& (2 : Int32)) = (0 : Int32) then (0 : Int32) else (1 : Int32))), .val (.int (0 : Int32)), .val (.int (1 : Int32)), .val (.int ia), .val (.int ib), .val (.int (0 : Int32)), .val (.int val), .val (.ref mp), .unset, .unset, .unset, .unset, .unset, .unset] [(.int (0 : Int32))])
            have old_va : n0 ≤ va := by omega
            refine WP.pop K at_123 rfl (pc' := 124) rfl ?_
            refine WP.aload K at_124 rfl rfl (pc' := 126) rfl ?_
            refine WP.iload K at_126 rfl (pc' := 128) rfl ?_
            refine WP.iload K at_128 rfl (pc' := 130) rfl ?_
            refine WP.callV K (a := mp) (argsL := [(.int (1 : Int32)), (.int ib)]) (S := []) (w_28 hw) (w_29 hw) (fun vm0 hZ => notFace_of_selects (args := #[]) (mvT (s := κ.s.setVm vm0) hZ (w_31 hw))) (w_31 hw) (w_30 hw) (by decide) (IsMap.exa O_mp) (rm_addA2_0 w l Z a0 hw (fset (own_fill (fun _ => (0 : Int32)) 0 3 (-1)) 0 ia) mp va kV ib _ _ _ h118 n0 Z0 O_mp A_va old_mp old_va) (w_32 hw) (w_4 hw) (by decide) rfl (lenOf pd_3 rfl) rfl (W := 0) rfl (by decide) (by decide) (k' := 4) (n' := 50) rfl rfl (by decide) (by decide) at_130 (pc' := 133) rfl fun v h119 hq => ?_
            obtain ⟨rfl, nw, kN, old_nw, Z9, K2, O_mp, A_nw⟩ := hq
            have Z0 := Nat.le_trans Z0 K2.1
            show WP κ h119 4 50 (mkF κ.m 133 #[.val (.int p0), .val (.int p1), .val (.int p2), .val (.int p3), .val (.int p4), .val (.int p5), .val (.int (if (p0 &&& (1 : Int32)) = (0 : Int32) then (0 : Int32) else (1 : Int32))), .val (.int (if (p0 &&& (2 : Int32)) = (0 : Int32) then (0 : Int32) else (1 : Int32))), .val (.int (0 : Int32)), .val (.int (1 : Int32)), .val (.int ia), .val (.int ib), .val (.int (0 : Int32)), .val (.int val), .val (.ref mp), .unset, .unset, .unset, .unset, .unset, .unset] [(.int (1 : Int32))])
            obtain ⟨F2, hF2⟩ : ∃ F2, F2 = (fset (own_fill (fun x => if x < 3 then (fset (own_fill (fun _ => (0 : Int32)) 0 3 (-1)) 0 ia) x else 0) 3 6 (-1)) 3 ib) := ⟨_, rfl⟩
            rw [← hF2] at A_nw
            have fa0 : F2 (3 * 0 + 0) = ia := by rw [hF2]; rfl
            have fb0 : F2 (3 * 1 + 0) = ib := by rw [hF2]; rfl
            have fa1 : F2 (3 * 0 + 1) = (-1 : Int32) := by rw [hF2]; rfl
            have fb1 : F2 (3 * 1 + 1) = (-1 : Int32) := by rw [hF2]; rfl
            have fa2 : F2 (3 * 0 + 2) = (-1 : Int32) := by rw [hF2]; rfl
            have fb2 : F2 (3 * 1 + 2) = (-1 : Int32) := by rw [hF2]; rfl
            refine WP.istore K at_133 (L' := #[.val (.int p0), .val (.int p1), .val (.int p2), .val (.int p3), .val (.int p4), .val (.int p5), .val (.int (if (p0 &&& (1 : Int32)) = (0 : Int32) then (0 : Int32) else (1 : Int32))), .val (.int (if (p0 &&& (2 : Int32)) = (0 : Int32) then (0 : Int32) else (1 : Int32))), .val (.int (0 : Int32)), .val (.int (1 : Int32)), .val (.int ia), .val (.int ib), .val (.int (0 : Int32)), .val (.int val), .val (.ref mp), .val (.int (1 : Int32)), .unset, .unset, .unset, .unset, .unset]) rfl (pc' := 135) rfl ?_
            refine WP.aload K at_135 rfl rfl (pc' := 137) rfl ?_
            refine WP.iload K at_137 rfl (pc' := 139) rfl ?_
            refine WP.callV K (a := mp) (argsL := [(.int (0 : Int32))]) (S := []) (w_51 hw) (w_52 hw) (fun vm0 hZ => notFace_of_selects (args := #[]) (mvT (s := κ.s.setVm vm0) hZ (w_54 hw))) (w_54 hw) (w_53 hw) (by decide) (IsMap.exa O_mp) (rm_placeA0 w l Z a0 hw F2 mp nw kN _ _ _ _ _ h119 n0 Z0 O_mp A_nw (by rw [show F2 0 = ia from fa0]; exact hia)) (w_55 hw) (w_4 hw) (by decide) rfl (lenOf pd_4 rfl) rfl (W := 0) rfl (by decide) (by decide) (k' := 4) (n' := 50) rfl rfl (by decide) (by decide) at_139 (pc' := 142) rfl fun v h120 hq => ?_
            obtain ⟨rfl, rfl⟩ := hq
            show WP κ h119 4 50 (mkF κ.m 142 #[.val (.int p0), .val (.int p1), .val (.int p2), .val (.int p3), .val (.int p4), .val (.int p5), .val (.int (if (p0 &&& (1 : Int32)) = (0 : Int32) then (0 : Int32) else (1 : Int32))), .val (.int (if (p0 &&& (2 : Int32)) = (0 : Int32) then (0 : Int32) else (1 : Int32))), .val (.int (0 : Int32)), .val (.int (1 : Int32)), .val (.int ia), .val (.int ib), .val (.int (0 : Int32)), .val (.int val), .val (.ref mp), .val (.int (1 : Int32)), .unset, .unset, .unset, .unset, .unset] [(.int (0 : Int32))])
            refine WP.istore K at_142 (L' := #[.val (.int p0), .val (.int p1), .val (.int p2), .val (.int p3), .val (.int p4), .val (.int p5), .val (.int (if (p0 &&& (1 : Int32)) = (0 : Int32) then (0 : Int32) else (1 : Int32))), .val (.int (if (p0 &&& (2 : Int32)) = (0 : Int32) then (0 : Int32) else (1 : Int32))), .val (.int (0 : Int32)), .val (.int (1 : Int32)), .val (.int ia), .val (.int ib), .val (.int (0 : Int32)), .val (.int val), .val (.ref mp), .val (.int (1 : Int32)), .val (.int (0 : Int32)), .unset, .unset, .unset, .unset]) rfl (pc' := 144) rfl ?_
            refine WP.iload K at_144 rfl (pc' := 146) rfl ?_
            by_cases cs : (p0 &&& (2 : Int32)) = (0 : Int32)
            · refine WP.if0T K at_146 (by rw [if_pos cs]; decide) (by decide) (pc' := 154) (by decide) ?_
              refine WP.iload K at_154 rfl (pc' := 156) rfl ?_
              refine WP.istore K at_156 (L' := #[.val (.int p0), .val (.int p1), .val (.int p2), .val (.int p3), .val (.int p4), .val (.int p5), .val (.int (if (p0 &&& (1 : Int32)) = (0 : Int32) then (0 : Int32) else (1 : Int32))), .val (.int (if (p0 &&& (2 : Int32)) = (0 : Int32) then (0 : Int32) else (1 : Int32))), .val (.int (0 : Int32)), .val (.int (1 : Int32)), .val (.int ia), .val (.int ib), .val (.int (0 : Int32)), .val (.int val), .val (.ref mp), .val (.int (1 : Int32)), .val (.int (0 : Int32)), .val (.int (0 : Int32)), .unset, .unset, .unset]) rfl (pc' := 158) rfl ?_
              refine WP.iload K at_158 rfl (pc' := 160) rfl ?_
              refine WP.if0T K at_160 (by rw [if_pos cs]; decide) (by decide) (pc' := 168) (by decide) ?_
              refine WP.iload K at_168 rfl (pc' := 170) rfl ?_
              refine WP.istore K at_170 (L' := #[.val (.int p0), .val (.int p1), .val (.int p2), .val (.int p3), .val (.int p4), .val (.int p5), .val (.int (if (p0 &&& (1 : Int32)) = (0 : Int32) then (0 : Int32) else (1 : Int32))), .val (.int (if (p0 &&& (2 : Int32)) = (0 : Int32) then (0 : Int32) else (1 : Int32))), .val (.int (0 : Int32)), .val (.int (1 : Int32)), .val (.int ia), .val (.int ib), .val (.int (0 : Int32)), .val (.int val), .val (.ref mp), .val (.int (1 : Int32)), .val (.int (0 : Int32)), .val (.int (0 : Int32)), .val (.int (1 : Int32)), .unset, .unset]) rfl (pc' := 172) rfl ?_
              refine WP.iload K at_172 rfl (pc' := 174) rfl ?_
              refine WP.if0T K at_174 (by rw [if_pos cs]; decide) (by decide) (pc' := 182) (by decide) ?_
              refine WP.iload K at_182 rfl (pc' := 184) rfl ?_
              refine WP.istore K at_184 (L' := #[.val (.int p0), .val (.int p1), .val (.int p2), .val (.int p3), .val (.int p4), .val (.int p5), .val (.int (if (p0 &&& (1 : Int32)) = (0 : Int32) then (0 : Int32) else (1 : Int32))), .val (.int (if (p0 &&& (2 : Int32)) = (0 : Int32) then (0 : Int32) else (1 : Int32))), .val (.int (0 : Int32)), .val (.int (1 : Int32)), .val (.int ia), .val (.int ib), .val (.int (0 : Int32)), .val (.int val), .val (.ref mp), .val (.int (1 : Int32)), .val (.int (0 : Int32)), .val (.int (0 : Int32)), .val (.int (1 : Int32)), .val (.int ia), .unset]) rfl (pc' := 186) rfl ?_
              refine WP.iload K at_186 rfl (pc' := 188) rfl ?_
              refine WP.if0T K at_188 (by rw [if_pos cs]; decide) (by decide) (pc' := 196) (by decide) ?_
              refine WP.iload K at_196 rfl (pc' := 198) rfl ?_
              refine WP.istore K at_198 (L' := #[.val (.int p0), .val (.int p1), .val (.int p2), .val (.int p3), .val (.int p4), .val (.int p5), .val (.int (if (p0 &&& (1 : Int32)) = (0 : Int32) then (0 : Int32) else (1 : Int32))), .val (.int (if (p0 &&& (2 : Int32)) = (0 : Int32) then (0 : Int32) else (1 : Int32))), .val (.int (0 : Int32)), .val (.int (1 : Int32)), .val (.int ia), .val (.int ib), .val (.int (0 : Int32)), .val (.int val), .val (.ref mp), .val (.int (1 : Int32)), .val (.int (0 : Int32)), .val (.int (0 : Int32)), .val (.int (1 : Int32)), .val (.int ia), .val (.int ib)]) rfl (pc' := 200) rfl ?_
              refine WP.aload K at_200 rfl rfl (pc' := 202) rfl ?_
              refine WP.iload K at_202 rfl (pc' := 204) rfl ?_
              refine WP.iload K at_204 rfl (pc' := 206) rfl ?_
              refine WP.iload K at_206 rfl (pc' := 208) rfl ?_
              refine WP.callV K (a := mp) (argsL := [(.int (0 : Int32)), (.int (0 : Int32)), (.int val)]) (S := []) (w_56 hw) (w_57 hw) (fun vm0 hZ => notFace_of_selects (args := #[]) (mvT (s := κ.s.setVm vm0) hZ (w_59 hw))) (w_59 hw) (w_58 hw) (by decide) (IsMap.exa O_mp) (rm_setA0 w l Z a0 hw F2 mp nw kN (0 : Int32) val 0 _ _ _ _ _ _ h119 n0 Z0 O_mp A_nw rfl (by decide) old_nw) (w_60 hw) (w_4 hw) (by decide) rfl (lenOf pd_2 rfl) rfl (W := 0) rfl (by decide) (by decide) (k' := 4) (n' := 50) rfl rfl (by decide) (by decide) at_208 (pc' := 211) rfl fun v h121 hq => ?_
              obtain ⟨rfl, K9, O_mp, A_nw⟩ := hq
              have Z0 := Nat.le_trans Z0 K9.1
              show WP κ h121 4 50 (mkF κ.m 211 #[.val (.int p0), .val (.int p1), .val (.int p2), .val (.int p3), .val (.int p4), .val (.int p5), .val (.int (if (p0 &&& (1 : Int32)) = (0 : Int32) then (0 : Int32) else (1 : Int32))), .val (.int (if (p0 &&& (2 : Int32)) = (0 : Int32) then (0 : Int32) else (1 : Int32))), .val (.int (0 : Int32)), .val (.int (1 : Int32)), .val (.int ia), .val (.int ib), .val (.int (0 : Int32)), .val (.int val), .val (.ref mp), .val (.int (1 : Int32)), .val (.int (0 : Int32)), .val (.int (0 : Int32)), .val (.int (1 : Int32)), .val (.int ia), .val (.int ib)] [])
              refine WP.aload K at_211 rfl rfl (pc' := 213) rfl ?_
              refine WP.iload K at_213 rfl (pc' := 215) rfl ?_
              refine WP.iload K at_215 rfl (pc' := 217) rfl ?_
              refine WP.if0F K at_217 (by decide) (pc' := 220) rfl ?_
              refine WP.iload K at_220 rfl (pc' := 222) rfl ?_
              refine WP.goto K at_222 (by decide) (pc' := 227) (by decide) ?_
              refine WP.iload K at_227 rfl (pc' := 229) rfl ?_
              refine WP.iconst K at_229 (v := (1 : Int32)) rfl (pc' := 230) rfl ?_
              refine WP.icmpT K at_230 (by decide) (by decide) (pc' := 238) (by decide) ?_
              refine WP.iconst K at_238 (v := (-1 : Int32)) rfl (pc' := 239) rfl ?_
              refine WP.iload K at_239 rfl (pc' := 241) rfl ?_
              refine WP.iconst K at_241 (v := (2 : Int32)) rfl (pc' := 242) rfl ?_
              refine WP.icmpT K at_242 (by decide) (by decide) (pc' := 250) (by decide) ?_
              refine WP.iconst K at_250 (v := (-1 : Int32)) rfl (pc' := 251) rfl ?_
              refine WP.callS K (argsL := [(.ref mp), (.int (0 : Int32)), (.int val), (.int (-1 : Int32)), (.int (-1 : Int32))]) (S := []) (w_61 hw) (w_62 hw) (rm_holdsA w l Z a0 hw (fset F2 (3 * 0 + 0) val) mp nw kN (0 : Int32) val (-1 : Int32) (-1 : Int32) 0 _ _ _ _ _ _ h121 n0 Z0 O_mp A_nw rfl (by decide) (fset_same _ _ _) ((fset_ne _ _ (by omega)).trans fa1) ((fset_ne _ _ (by omega)).trans fa2)) (w_64 hw) (w_63 hw) (by decide) rfl (lenOf pd_9 rfl) rfl (W := 0) rfl (by decide) (by decide) (k' := 4) (n' := 50) rfl rfl (by decide) (by decide) at_251 (pc' := 254) rfl fun v h122 hq => ?_
              obtain ⟨rfl, rfl⟩ := hq
              show WP κ h121 4 50 (mkF κ.m 254 #[.val (.int p0), .val (.int p1), .val (.int p2), .val (.int p3), .val (.int p4), .val (.int p5), .val (.int (if (p0 &&& (1 : Int32)) = (0 : Int32) then (0 : Int32) else (1 : Int32))), .val (.int (if (p0 &&& (2 : Int32)) = (0 : Int32) then (0 : Int32) else (1 : Int32))), .val (.int (0 : Int32)), .val (.int (1 : Int32)), .val (.int ia), .val (.int ib), .val (.int (0 : Int32)), .val (.int val), .val (.ref mp), .val (.int (1 : Int32)), .val (.int (0 : Int32)), .val (.int (0 : Int32)), .val (.int (1 : Int32)), .val (.int ia), .val (.int ib)] [(.int (1 : Int32))])
              refine WP.if0F K at_254 (by decide) (pc' := 257) rfl ?_
              refine WP.aload K at_257 rfl rfl (pc' := 259) rfl ?_
              refine WP.iload K at_259 rfl (pc' := 261) rfl ?_
              refine WP.iload K at_261 rfl (pc' := 263) rfl ?_
              refine WP.iconst K at_263 (v := (-1 : Int32)) rfl (pc' := 264) rfl ?_
              refine WP.iconst K at_264 (v := (-1 : Int32)) rfl (pc' := 265) rfl ?_
              refine WP.callS K (argsL := [(.ref mp), (.int (1 : Int32)), (.int ib), (.int (-1 : Int32)), (.int (-1 : Int32))]) (S := []) (w_61 hw) (w_62 hw) (rm_holdsA w l Z a0 hw (fset F2 (3 * 0 + 0) val) mp nw kN (1 : Int32) ib (-1 : Int32) (-1 : Int32) 1 _ _ _ _ _ _ h121 n0 Z0 O_mp A_nw rfl (by decide) ((fset_ne _ _ (by omega)).trans fb0) ((fset_ne _ _ (by omega)).trans fb1) ((fset_ne _ _ (by omega)).trans fb2)) (w_64 hw) (w_63 hw) (by decide) rfl (lenOf pd_9 rfl) rfl (W := 0) rfl (by decide) (by decide) (k' := 4) (n' := 50) rfl rfl (by decide) (by decide) at_265 (pc' := 268) rfl fun v h123 hq => ?_
              obtain ⟨rfl, rfl⟩ := hq
              show WP κ h121 4 50 (mkF κ.m 268 #[.val (.int p0), .val (.int p1), .val (.int p2), .val (.int p3), .val (.int p4), .val (.int p5), .val (.int (if (p0 &&& (1 : Int32)) = (0 : Int32) then (0 : Int32) else (1 : Int32))), .val (.int (if (p0 &&& (2 : Int32)) = (0 : Int32) then (0 : Int32) else (1 : Int32))), .val (.int (0 : Int32)), .val (.int (1 : Int32)), .val (.int ia), .val (.int ib), .val (.int (0 : Int32)), .val (.int val), .val (.ref mp), .val (.int (1 : Int32)), .val (.int (0 : Int32)), .val (.int (0 : Int32)), .val (.int (1 : Int32)), .val (.int ia), .val (.int ib)] [(.int (1 : Int32))])
              refine WP.if0F K at_268 (by decide) (pc' := 271) rfl ?_
              refine WP.iconst K at_271 (v := (1 : Int32)) rfl (pc' := 272) rfl ?_
              refine WP.goto K at_272 (by decide) (pc' := 276) (by decide) ?_
              exact WP.retN K (ty := .boolean) (by decide) at_276 (by decide) (by decide) rfl
            · refine WP.if0F K at_146 (by rw [if_neg cs]; decide) (pc' := 149) rfl ?_
              refine WP.iload K at_149 rfl (pc' := 151) rfl ?_
              refine WP.goto K at_151 (by decide) (pc' := 156) (by decide) ?_
              refine WP.istore K at_156 (L' := #[.val (.int p0), .val (.int p1), .val (.int p2), .val (.int p3), .val (.int p4), .val (.int p5), .val (.int (if (p0 &&& (1 : Int32)) = (0 : Int32) then (0 : Int32) else (1 : Int32))), .val (.int (if (p0 &&& (2 : Int32)) = (0 : Int32) then (0 : Int32) else (1 : Int32))), .val (.int (0 : Int32)), .val (.int (1 : Int32)), .val (.int ia), .val (.int ib), .val (.int (0 : Int32)), .val (.int val), .val (.ref mp), .val (.int (1 : Int32)), .val (.int (0 : Int32)), .val (.int (1 : Int32)), .unset, .unset, .unset]) rfl (pc' := 158) rfl ?_
              refine WP.iload K at_158 rfl (pc' := 160) rfl ?_
              refine WP.if0F K at_160 (by rw [if_neg cs]; decide) (pc' := 163) rfl ?_
              refine WP.iload K at_163 rfl (pc' := 165) rfl ?_
              refine WP.goto K at_165 (by decide) (pc' := 170) (by decide) ?_
              refine WP.istore K at_170 (L' := #[.val (.int p0), .val (.int p1), .val (.int p2), .val (.int p3), .val (.int p4), .val (.int p5), .val (.int (if (p0 &&& (1 : Int32)) = (0 : Int32) then (0 : Int32) else (1 : Int32))), .val (.int (if (p0 &&& (2 : Int32)) = (0 : Int32) then (0 : Int32) else (1 : Int32))), .val (.int (0 : Int32)), .val (.int (1 : Int32)), .val (.int ia), .val (.int ib), .val (.int (0 : Int32)), .val (.int val), .val (.ref mp), .val (.int (1 : Int32)), .val (.int (0 : Int32)), .val (.int (1 : Int32)), .val (.int (0 : Int32)), .unset, .unset]) rfl (pc' := 172) rfl ?_
              refine WP.iload K at_172 rfl (pc' := 174) rfl ?_
              refine WP.if0F K at_174 (by rw [if_neg cs]; decide) (pc' := 177) rfl ?_
              refine WP.iload K at_177 rfl (pc' := 179) rfl ?_
              refine WP.goto K at_179 (by decide) (pc' := 184) (by decide) ?_
              refine WP.istore K at_184 (L' := #[.val (.int p0), .val (.int p1), .val (.int p2), .val (.int p3), .val (.int p4), .val (.int p5), .val (.int (if (p0 &&& (1 : Int32)) = (0 : Int32) then (0 : Int32) else (1 : Int32))), .val (.int (if (p0 &&& (2 : Int32)) = (0 : Int32) then (0 : Int32) else (1 : Int32))), .val (.int (0 : Int32)), .val (.int (1 : Int32)), .val (.int ia), .val (.int ib), .val (.int (0 : Int32)), .val (.int val), .val (.ref mp), .val (.int (1 : Int32)), .val (.int (0 : Int32)), .val (.int (1 : Int32)), .val (.int (0 : Int32)), .val (.int ib), .unset]) rfl (pc' := 186) rfl ?_
              refine WP.iload K at_186 rfl (pc' := 188) rfl ?_
              refine WP.if0F K at_188 (by rw [if_neg cs]; decide) (pc' := 191) rfl ?_
              refine WP.iload K at_191 rfl (pc' := 193) rfl ?_
              refine WP.goto K at_193 (by decide) (pc' := 198) (by decide) ?_
              refine WP.istore K at_198 (L' := #[.val (.int p0), .val (.int p1), .val (.int p2), .val (.int p3), .val (.int p4), .val (.int p5), .val (.int (if (p0 &&& (1 : Int32)) = (0 : Int32) then (0 : Int32) else (1 : Int32))), .val (.int (if (p0 &&& (2 : Int32)) = (0 : Int32) then (0 : Int32) else (1 : Int32))), .val (.int (0 : Int32)), .val (.int (1 : Int32)), .val (.int ia), .val (.int ib), .val (.int (0 : Int32)), .val (.int val), .val (.ref mp), .val (.int (1 : Int32)), .val (.int (0 : Int32)), .val (.int (1 : Int32)), .val (.int (0 : Int32)), .val (.int ib), .val (.int ia)]) rfl (pc' := 200) rfl ?_
              refine WP.aload K at_200 rfl rfl (pc' := 202) rfl ?_
              refine WP.iload K at_202 rfl (pc' := 204) rfl ?_
              refine WP.iload K at_204 rfl (pc' := 206) rfl ?_
              refine WP.iload K at_206 rfl (pc' := 208) rfl ?_
              refine WP.callV K (a := mp) (argsL := [(.int (1 : Int32)), (.int (0 : Int32)), (.int val)]) (S := []) (w_56 hw) (w_57 hw) (fun vm0 hZ => notFace_of_selects (args := #[]) (mvT (s := κ.s.setVm vm0) hZ (w_59 hw))) (w_59 hw) (w_58 hw) (by decide) (IsMap.exa O_mp) (rm_setA0 w l Z a0 hw F2 mp nw kN (1 : Int32) val 1 _ _ _ _ _ _ h119 n0 Z0 O_mp A_nw rfl (by decide) old_nw) (w_60 hw) (w_4 hw) (by decide) rfl (lenOf pd_2 rfl) rfl (W := 0) rfl (by decide) (by decide) (k' := 4) (n' := 50) rfl rfl (by decide) (by decide) at_208 (pc' := 211) rfl fun v h124 hq => ?_
              obtain ⟨rfl, K9, O_mp, A_nw⟩ := hq
              have Z0 := Nat.le_trans Z0 K9.1
              show WP κ h124 4 50 (mkF κ.m 211 #[.val (.int p0), .val (.int p1), .val (.int p2), .val (.int p3), .val (.int p4), .val (.int p5), .val (.int (if (p0 &&& (1 : Int32)) = (0 : Int32) then (0 : Int32) else (1 : Int32))), .val (.int (if (p0 &&& (2 : Int32)) = (0 : Int32) then (0 : Int32) else (1 : Int32))), .val (.int (0 : Int32)), .val (.int (1 : Int32)), .val (.int ia), .val (.int ib), .val (.int (0 : Int32)), .val (.int val), .val (.ref mp), .val (.int (1 : Int32)), .val (.int (0 : Int32)), .val (.int (1 : Int32)), .val (.int (0 : Int32)), .val (.int ib), .val (.int ia)] [])
              refine WP.aload K at_211 rfl rfl (pc' := 213) rfl ?_
              refine WP.iload K at_213 rfl (pc' := 215) rfl ?_
              refine WP.iload K at_215 rfl (pc' := 217) rfl ?_
              refine WP.if0F K at_217 (by decide) (pc' := 220) rfl ?_
              refine WP.iload K at_220 rfl (pc' := 222) rfl ?_
              refine WP.goto K at_222 (by decide) (pc' := 227) (by decide) ?_
              refine WP.iload K at_227 rfl (pc' := 229) rfl ?_
              refine WP.iconst K at_229 (v := (1 : Int32)) rfl (pc' := 230) rfl ?_
              refine WP.icmpT K at_230 (by decide) (by decide) (pc' := 238) (by decide) ?_
              refine WP.iconst K at_238 (v := (-1 : Int32)) rfl (pc' := 239) rfl ?_
              refine WP.iload K at_239 rfl (pc' := 241) rfl ?_
              refine WP.iconst K at_241 (v := (2 : Int32)) rfl (pc' := 242) rfl ?_
              refine WP.icmpT K at_242 (by decide) (by decide) (pc' := 250) (by decide) ?_
              refine WP.iconst K at_250 (v := (-1 : Int32)) rfl (pc' := 251) rfl ?_
              refine WP.callS K (argsL := [(.ref mp), (.int (1 : Int32)), (.int val), (.int (-1 : Int32)), (.int (-1 : Int32))]) (S := []) (w_61 hw) (w_62 hw) (rm_holdsA w l Z a0 hw (fset F2 (3 * 1 + 0) val) mp nw kN (1 : Int32) val (-1 : Int32) (-1 : Int32) 1 _ _ _ _ _ _ h124 n0 Z0 O_mp A_nw rfl (by decide) (fset_same _ _ _) ((fset_ne _ _ (by omega)).trans fb1) ((fset_ne _ _ (by omega)).trans fb2)) (w_64 hw) (w_63 hw) (by decide) rfl (lenOf pd_9 rfl) rfl (W := 0) rfl (by decide) (by decide) (k' := 4) (n' := 50) rfl rfl (by decide) (by decide) at_251 (pc' := 254) rfl fun v h125 hq => ?_
              obtain ⟨rfl, rfl⟩ := hq
              show WP κ h124 4 50 (mkF κ.m 254 #[.val (.int p0), .val (.int p1), .val (.int p2), .val (.int p3), .val (.int p4), .val (.int p5), .val (.int (if (p0 &&& (1 : Int32)) = (0 : Int32) then (0 : Int32) else (1 : Int32))), .val (.int (if (p0 &&& (2 : Int32)) = (0 : Int32) then (0 : Int32) else (1 : Int32))), .val (.int (0 : Int32)), .val (.int (1 : Int32)), .val (.int ia), .val (.int ib), .val (.int (0 : Int32)), .val (.int val), .val (.ref mp), .val (.int (1 : Int32)), .val (.int (0 : Int32)), .val (.int (1 : Int32)), .val (.int (0 : Int32)), .val (.int ib), .val (.int ia)] [(.int (1 : Int32))])
              refine WP.if0F K at_254 (by decide) (pc' := 257) rfl ?_
              refine WP.aload K at_257 rfl rfl (pc' := 259) rfl ?_
              refine WP.iload K at_259 rfl (pc' := 261) rfl ?_
              refine WP.iload K at_261 rfl (pc' := 263) rfl ?_
              refine WP.iconst K at_263 (v := (-1 : Int32)) rfl (pc' := 264) rfl ?_
              refine WP.iconst K at_264 (v := (-1 : Int32)) rfl (pc' := 265) rfl ?_
              refine WP.callS K (argsL := [(.ref mp), (.int (0 : Int32)), (.int ia), (.int (-1 : Int32)), (.int (-1 : Int32))]) (S := []) (w_61 hw) (w_62 hw) (rm_holdsA w l Z a0 hw (fset F2 (3 * 1 + 0) val) mp nw kN (0 : Int32) ia (-1 : Int32) (-1 : Int32) 0 _ _ _ _ _ _ h124 n0 Z0 O_mp A_nw rfl (by decide) ((fset_ne _ _ (by omega)).trans fa0) ((fset_ne _ _ (by omega)).trans fa1) ((fset_ne _ _ (by omega)).trans fa2)) (w_64 hw) (w_63 hw) (by decide) rfl (lenOf pd_9 rfl) rfl (W := 0) rfl (by decide) (by decide) (k' := 4) (n' := 50) rfl rfl (by decide) (by decide) at_265 (pc' := 268) rfl fun v h126 hq => ?_
              obtain ⟨rfl, rfl⟩ := hq
              show WP κ h124 4 50 (mkF κ.m 268 #[.val (.int p0), .val (.int p1), .val (.int p2), .val (.int p3), .val (.int p4), .val (.int p5), .val (.int (if (p0 &&& (1 : Int32)) = (0 : Int32) then (0 : Int32) else (1 : Int32))), .val (.int (if (p0 &&& (2 : Int32)) = (0 : Int32) then (0 : Int32) else (1 : Int32))), .val (.int (0 : Int32)), .val (.int (1 : Int32)), .val (.int ia), .val (.int ib), .val (.int (0 : Int32)), .val (.int val), .val (.ref mp), .val (.int (1 : Int32)), .val (.int (0 : Int32)), .val (.int (1 : Int32)), .val (.int (0 : Int32)), .val (.int ib), .val (.int ia)] [(.int (1 : Int32))])
              refine WP.if0F K at_268 (by decide) (pc' := 271) rfl ?_
              refine WP.iconst K at_271 (v := (1 : Int32)) rfl (pc' := 272) rfl ?_
              refine WP.goto K at_272 (by decide) (pc' := 276) (by decide) ?_
              exact WP.retN K (ty := .boolean) (by decide) at_276 (by decide) (by decide) rfl
          · show WP κ h0 0 0 (mkF κ.m 87 #[.val (.int p0), .val (.int p1), .val (.int p2), .val (.int p3), .val (.int p4), .val (.int p5), .val (.int (if (p0 &&& (1 : Int32)) = (0 : Int32) then (0 : Int32) else (1 : Int32))), .val (.int (if (p0 &&& (2 : Int32)) = (0 : Int32) then (0 : Int32) else (1 : Int32))), .val (.int (0 : Int32)), .val (.int (1 : Int32)), .val (.int ia), .val (.int ib), .val (.int (1 : Int32)), .unset, .unset, .unset, .unset, .unset, .unset, .unset, .unset] [])
            refine WP.iload K at_87 rfl (pc' := 89) rfl ?_
            refine WP.if0T K at_89 (by decide) (by decide) (pc' := 100) (by decide) ?_
            refine WP.iload K at_100 rfl (pc' := 102) rfl ?_
            refine WP.istore K at_102 (L' := #[.val (.int p0), .val (.int p1), .val (.int p2), .val (.int p3), .val (.int p4), .val (.int p5), .val (.int (if (p0 &&& (1 : Int32)) = (0 : Int32) then (0 : Int32) else (1 : Int32))), .val (.int (if (p0 &&& (2 : Int32)) = (0 : Int32) then (0 : Int32) else (1 : Int32))), .val (.int (0 : Int32)), .val (.int (1 : Int32)), .val (.int ia), .val (.int ib), .val (.int (1 : Int32)), .val (.int p4), .unset, .unset, .unset, .unset, .unset, .unset, .unset]) rfl (pc' := 104) rfl ?_
            refine WP.new K (w_2 hw) (w_3 hw) (w_4 hw) at_104 (k' := 1) (n' := 9) rfl rfl (by decide) (by decide) (pc' := 107) rfl fun h127 mp g127 E127 X127 D127 => ?_
            have old_mp : n0 ≤ mp := by have q_ := Z0; omega
            have Z0 := Nat.le_trans Z0 E127.1
            have O_mp : IsMap Z h127 mp (.int (0 : Int32)) (.int (0 : Int32)) .null (.int (0 : Int32)) .null (.int (0 : Int32)) .null (.int (0 : Int32)) (.int (0 : Int32)) := ⟨X127, D127 (O := "com/example/weir/weir/engine/IntIntMap") (f := "width") (d := "I") (Or.inr (w_12 hw)) (ty := .int) (by decide), D127 (O := "com/example/weir/weir/engine/IntIntMap") (f := "stride") (d := "I") (Or.inr (w_14 hw)) (ty := .int) (by decide), D127 (O := "com/example/weir/weir/engine/IntIntMap") (f := "entries") (d := "[I") (Or.inl (w_21 hw)) (ty := (.array .int)) (by decide), D127 (O := "com/example/weir/weir/engine/IntIntMap") (f := "slots") (d := "I") (Or.inl (w_23 hw)) (ty := .int) (by decide), D127 (O := "com/example/weir/weir/engine/IntIntMap") (f := "objects") (d := "[Ljava/lang/Object;") (Or.inl (w_25 hw)) (ty := (.array (.object "java/lang/Object"))) (by decide), D127 (O := "com/example/weir/weir/engine/IntIntMap") (f := "greatestKey") (d := "I") (Or.inl (w_27 hw)) (ty := .int) (by decide), D127 (O := "com/example/weir/weir/engine/IntIntMap") (f := "values") (d := "[I") (Or.inl (w_34 hw)) (ty := (.array .int)) (by decide), D127 (O := "com/example/weir/weir/engine/IntIntMap") (f := "size") (d := "I") (Or.inl (w_36 hw)) (ty := .int) (by decide), D127 (O := "com/example/weir/weir/engine/IntIntMap") (f := "keys") (d := "I") (Or.inl (w_46 hw)) (ty := .int) (by decide)⟩
            refine WP.dup K at_107 rfl (pc' := 108) rfl ?_
            refine WP.iconst K at_108 (v := (3 : Int32)) rfl (pc' := 109) rfl ?_
            refine WP.callI K (a := mp) (argsL := [(.int (3 : Int32))]) (S := [(.ref mp)]) rfl (w_5 hw) (w_6 hw) (rm_minit w l Z a0 hw mp _ _ _ _ _ _ _ _ _ h127 n0 Z0 O_mp old_mp) (w_7 hw) (w_4 hw) (by decide) rfl (lenOf pd_8 rfl) rfl (W := 1) rfl (by decide) (by decide) (k' := 2) (n' := 41) rfl rfl (by decide) (by decide) at_109 (pc' := 112) rfl fun v h128 hq => ?_
            obtain ⟨rfl, K0, en, kE, s_en, O_mp, A_en⟩ := hq
            have Z0 := Nat.le_trans Z0 K0.1
            show WP κ h128 2 41 (mkF κ.m 112 #[.val (.int p0), .val (.int p1), .val (.int p2), .val (.int p3), .val (.int p4), .val (.int p5), .val (.int (if (p0 &&& (1 : Int32)) = (0 : Int32) then (0 : Int32) else (1 : Int32))), .val (.int (if (p0 &&& (2 : Int32)) = (0 : Int32) then (0 : Int32) else (1 : Int32))), .val (.int (0 : Int32)), .val (.int (1 : Int32)), .val (.int ia), .val (.int ib), .val (.int (1 : Int32)), .val (.int p4), .unset, .unset, .unset, .unset, .unset, .unset, .unset] [(.ref mp)])
            have old_en : n0 ≤ en := by omega
            refine WP.astore K at_112 rfl (L' := #[.val (.int p0), .val (.int p1), .val (.int p2), .val (.int p3), .val (.int p4), .val (.int p5), .val (.int (if (p0 &&& (1 : Int32)) = (0 : Int32) then (0 : Int32) else (1 : Int32))), .val (.int (if (p0 &&& (2 : Int32)) = (0 : Int32) then (0 : Int32) else (1 : Int32))), .val (.int (0 : Int32)), .val (.int (1 : Int32)), .val (.int ia), .val (.int ib), .val (.int (1 : Int32)), .val (.int p4), .val (.ref mp), .unset, .unset, .unset, .unset, .unset, .unset]) rfl (pc' := 114) rfl ?_
            refine WP.aload K at_114 rfl rfl (pc' := 116) rfl ?_
            refine WP.iload K at_116 rfl (pc' := 118) rfl ?_
            refine WP.iload K at_118 rfl (pc' := 120) rfl ?_
            have nq_en_mp : en ≠ mp := (Ne.symm (Ary.ne (IsMap.exa O_mp) A_en (w_3 hw)))
            refine WP.callV K (a := mp) (argsL := [(.int (0 : Int32)), (.int ia)]) (S := []) (w_28 hw) (w_29 hw) (fun vm0 hZ => notFace_of_selects (args := #[]) (mvT (s := κ.s.setVm vm0) hZ (w_31 hw))) (w_31 hw) (w_30 hw) (by decide) (IsMap.exa O_mp) (rm_addA1_0 w l Z a0 hw mp en kE ia _ h128 n0 Z0 O_mp A_en old_mp) (w_32 hw) (w_4 hw) (by decide) rfl (lenOf pd_3 rfl) rfl (W := 0) rfl (by decide) (by decide) (k' := 3) (n' := 44) rfl rfl (by decide) (by decide) at_120 (pc' := 123) rfl fun v h129 hq => ?_
            obtain ⟨rfl, K1, va, kV, s_va, O_mp, A_va⟩ := hq
            have A_en := Ary.keep K1 A_en (ninS nq_en_mp nin0)
            have Z0 := Nat.le_trans Z0 K1.1
            show WP κ h129 3 44 (mkF κ.m 123 #[.val (.int p0), .val (.int p1), .val (.int p2), .val (.int p3), .val (.int p4), .val (.int p5), .val (.int (if (p0 &&& (1 : Int32)) = (0 : Int32) then (0 : Int32) else (1 : Int32))), .val (.int (if (p0 &&& (2 : Int32)) = (0 : Int32) then (0 : Int32) else (1 : Int32))), .val (.int (0 : Int32)), .val (.int (1 : Int32)), .val (.int ia), .val (.int ib), .val (.int (1 : Int32)), .val (.int p4), .val (.ref mp), .unset, .unset, .unset, .unset, .unset, .unset] [(.int (0 : Int32))])
            have old_va : n0 ≤ va := by omega
            refine WP.pop K at_123 rfl (pc' := 124) rfl ?_
            refine WP.aload K at_124 rfl rfl (pc' := 126) rfl ?_
            refine WP.iload K at_126 rfl (pc' := 128) rfl ?_
            refine WP.iload K at_128 rfl (pc' := 130) rfl ?_
            refine WP.callV K (a := mp) (argsL := [(.int (1 : Int32)), (.int ib)]) (S := []) (w_28 hw) (w_29 hw) (fun vm0 hZ => notFace_of_selects (args := #[]) (mvT (s := κ.s.setVm vm0) hZ (w_31 hw))) (w_31 hw) (w_30 hw) (by decide) (IsMap.exa O_mp) (rm_addA2_0 w l Z a0 hw (fset (own_fill (fun _ => (0 : Int32)) 0 3 (-1)) 0 ia) mp va kV ib _ _ _ h129 n0 Z0 O_mp A_va old_mp old_va) (w_32 hw) (w_4 hw) (by decide) rfl (lenOf pd_3 rfl) rfl (W := 0) rfl (by decide) (by decide) (k' := 4) (n' := 50) rfl rfl (by decide) (by decide) at_130 (pc' := 133) rfl fun v h130 hq => ?_
            obtain ⟨rfl, nw, kN, old_nw, Z9, K2, O_mp, A_nw⟩ := hq
            have Z0 := Nat.le_trans Z0 K2.1
            show WP κ h130 4 50 (mkF κ.m 133 #[.val (.int p0), .val (.int p1), .val (.int p2), .val (.int p3), .val (.int p4), .val (.int p5), .val (.int (if (p0 &&& (1 : Int32)) = (0 : Int32) then (0 : Int32) else (1 : Int32))), .val (.int (if (p0 &&& (2 : Int32)) = (0 : Int32) then (0 : Int32) else (1 : Int32))), .val (.int (0 : Int32)), .val (.int (1 : Int32)), .val (.int ia), .val (.int ib), .val (.int (1 : Int32)), .val (.int p4), .val (.ref mp), .unset, .unset, .unset, .unset, .unset, .unset] [(.int (1 : Int32))])
            obtain ⟨F2, hF2⟩ : ∃ F2, F2 = (fset (own_fill (fun x => if x < 3 then (fset (own_fill (fun _ => (0 : Int32)) 0 3 (-1)) 0 ia) x else 0) 3 6 (-1)) 3 ib) := ⟨_, rfl⟩
            rw [← hF2] at A_nw
            have fa0 : F2 (3 * 0 + 0) = ia := by rw [hF2]; rfl
            have fb0 : F2 (3 * 1 + 0) = ib := by rw [hF2]; rfl
            have fa1 : F2 (3 * 0 + 1) = (-1 : Int32) := by rw [hF2]; rfl
            have fb1 : F2 (3 * 1 + 1) = (-1 : Int32) := by rw [hF2]; rfl
            have fa2 : F2 (3 * 0 + 2) = (-1 : Int32) := by rw [hF2]; rfl
            have fb2 : F2 (3 * 1 + 2) = (-1 : Int32) := by rw [hF2]; rfl
            refine WP.istore K at_133 (L' := #[.val (.int p0), .val (.int p1), .val (.int p2), .val (.int p3), .val (.int p4), .val (.int p5), .val (.int (if (p0 &&& (1 : Int32)) = (0 : Int32) then (0 : Int32) else (1 : Int32))), .val (.int (if (p0 &&& (2 : Int32)) = (0 : Int32) then (0 : Int32) else (1 : Int32))), .val (.int (0 : Int32)), .val (.int (1 : Int32)), .val (.int ia), .val (.int ib), .val (.int (1 : Int32)), .val (.int p4), .val (.ref mp), .val (.int (1 : Int32)), .unset, .unset, .unset, .unset, .unset]) rfl (pc' := 135) rfl ?_
            refine WP.aload K at_135 rfl rfl (pc' := 137) rfl ?_
            refine WP.iload K at_137 rfl (pc' := 139) rfl ?_
            refine WP.callV K (a := mp) (argsL := [(.int (0 : Int32))]) (S := []) (w_51 hw) (w_52 hw) (fun vm0 hZ => notFace_of_selects (args := #[]) (mvT (s := κ.s.setVm vm0) hZ (w_54 hw))) (w_54 hw) (w_53 hw) (by decide) (IsMap.exa O_mp) (rm_placeA0 w l Z a0 hw F2 mp nw kN _ _ _ _ _ h130 n0 Z0 O_mp A_nw (by rw [show F2 0 = ia from fa0]; exact hia)) (w_55 hw) (w_4 hw) (by decide) rfl (lenOf pd_4 rfl) rfl (W := 0) rfl (by decide) (by decide) (k' := 4) (n' := 50) rfl rfl (by decide) (by decide) at_139 (pc' := 142) rfl fun v h131 hq => ?_
            obtain ⟨rfl, rfl⟩ := hq
            show WP κ h130 4 50 (mkF κ.m 142 #[.val (.int p0), .val (.int p1), .val (.int p2), .val (.int p3), .val (.int p4), .val (.int p5), .val (.int (if (p0 &&& (1 : Int32)) = (0 : Int32) then (0 : Int32) else (1 : Int32))), .val (.int (if (p0 &&& (2 : Int32)) = (0 : Int32) then (0 : Int32) else (1 : Int32))), .val (.int (0 : Int32)), .val (.int (1 : Int32)), .val (.int ia), .val (.int ib), .val (.int (1 : Int32)), .val (.int p4), .val (.ref mp), .val (.int (1 : Int32)), .unset, .unset, .unset, .unset, .unset] [(.int (0 : Int32))])
            refine WP.istore K at_142 (L' := #[.val (.int p0), .val (.int p1), .val (.int p2), .val (.int p3), .val (.int p4), .val (.int p5), .val (.int (if (p0 &&& (1 : Int32)) = (0 : Int32) then (0 : Int32) else (1 : Int32))), .val (.int (if (p0 &&& (2 : Int32)) = (0 : Int32) then (0 : Int32) else (1 : Int32))), .val (.int (0 : Int32)), .val (.int (1 : Int32)), .val (.int ia), .val (.int ib), .val (.int (1 : Int32)), .val (.int p4), .val (.ref mp), .val (.int (1 : Int32)), .val (.int (0 : Int32)), .unset, .unset, .unset, .unset]) rfl (pc' := 144) rfl ?_
            refine WP.iload K at_144 rfl (pc' := 146) rfl ?_
            by_cases cs : (p0 &&& (2 : Int32)) = (0 : Int32)
            · refine WP.if0T K at_146 (by rw [if_pos cs]; decide) (by decide) (pc' := 154) (by decide) ?_
              refine WP.iload K at_154 rfl (pc' := 156) rfl ?_
              refine WP.istore K at_156 (L' := #[.val (.int p0), .val (.int p1), .val (.int p2), .val (.int p3), .val (.int p4), .val (.int p5), .val (.int (if (p0 &&& (1 : Int32)) = (0 : Int32) then (0 : Int32) else (1 : Int32))), .val (.int (if (p0 &&& (2 : Int32)) = (0 : Int32) then (0 : Int32) else (1 : Int32))), .val (.int (0 : Int32)), .val (.int (1 : Int32)), .val (.int ia), .val (.int ib), .val (.int (1 : Int32)), .val (.int p4), .val (.ref mp), .val (.int (1 : Int32)), .val (.int (0 : Int32)), .val (.int (0 : Int32)), .unset, .unset, .unset]) rfl (pc' := 158) rfl ?_
              refine WP.iload K at_158 rfl (pc' := 160) rfl ?_
              refine WP.if0T K at_160 (by rw [if_pos cs]; decide) (by decide) (pc' := 168) (by decide) ?_
              refine WP.iload K at_168 rfl (pc' := 170) rfl ?_
              refine WP.istore K at_170 (L' := #[.val (.int p0), .val (.int p1), .val (.int p2), .val (.int p3), .val (.int p4), .val (.int p5), .val (.int (if (p0 &&& (1 : Int32)) = (0 : Int32) then (0 : Int32) else (1 : Int32))), .val (.int (if (p0 &&& (2 : Int32)) = (0 : Int32) then (0 : Int32) else (1 : Int32))), .val (.int (0 : Int32)), .val (.int (1 : Int32)), .val (.int ia), .val (.int ib), .val (.int (1 : Int32)), .val (.int p4), .val (.ref mp), .val (.int (1 : Int32)), .val (.int (0 : Int32)), .val (.int (0 : Int32)), .val (.int (1 : Int32)), .unset, .unset]) rfl (pc' := 172) rfl ?_
              refine WP.iload K at_172 rfl (pc' := 174) rfl ?_
              refine WP.if0T K at_174 (by rw [if_pos cs]; decide) (by decide) (pc' := 182) (by decide) ?_
              refine WP.iload K at_182 rfl (pc' := 184) rfl ?_
              refine WP.istore K at_184 (L' := #[.val (.int p0), .val (.int p1), .val (.int p2), .val (.int p3), .val (.int p4), .val (.int p5), .val (.int (if (p0 &&& (1 : Int32)) = (0 : Int32) then (0 : Int32) else (1 : Int32))), .val (.int (if (p0 &&& (2 : Int32)) = (0 : Int32) then (0 : Int32) else (1 : Int32))), .val (.int (0 : Int32)), .val (.int (1 : Int32)), .val (.int ia), .val (.int ib), .val (.int (1 : Int32)), .val (.int p4), .val (.ref mp), .val (.int (1 : Int32)), .val (.int (0 : Int32)), .val (.int (0 : Int32)), .val (.int (1 : Int32)), .val (.int ia), .unset]) rfl (pc' := 186) rfl ?_
              refine WP.iload K at_186 rfl (pc' := 188) rfl ?_
              refine WP.if0T K at_188 (by rw [if_pos cs]; decide) (by decide) (pc' := 196) (by decide) ?_
              refine WP.iload K at_196 rfl (pc' := 198) rfl ?_
              refine WP.istore K at_198 (L' := #[.val (.int p0), .val (.int p1), .val (.int p2), .val (.int p3), .val (.int p4), .val (.int p5), .val (.int (if (p0 &&& (1 : Int32)) = (0 : Int32) then (0 : Int32) else (1 : Int32))), .val (.int (if (p0 &&& (2 : Int32)) = (0 : Int32) then (0 : Int32) else (1 : Int32))), .val (.int (0 : Int32)), .val (.int (1 : Int32)), .val (.int ia), .val (.int ib), .val (.int (1 : Int32)), .val (.int p4), .val (.ref mp), .val (.int (1 : Int32)), .val (.int (0 : Int32)), .val (.int (0 : Int32)), .val (.int (1 : Int32)), .val (.int ia), .val (.int ib)]) rfl (pc' := 200) rfl ?_
              refine WP.aload K at_200 rfl rfl (pc' := 202) rfl ?_
              refine WP.iload K at_202 rfl (pc' := 204) rfl ?_
              refine WP.iload K at_204 rfl (pc' := 206) rfl ?_
              refine WP.iload K at_206 rfl (pc' := 208) rfl ?_
              refine WP.callV K (a := mp) (argsL := [(.int (0 : Int32)), (.int (1 : Int32)), (.int p4)]) (S := []) (w_56 hw) (w_57 hw) (fun vm0 hZ => notFace_of_selects (args := #[]) (mvT (s := κ.s.setVm vm0) hZ (w_59 hw))) (w_59 hw) (w_58 hw) (by decide) (IsMap.exa O_mp) (rm_setA1 w l Z a0 hw F2 mp nw kN (0 : Int32) p4 0 _ _ _ _ _ _ h130 n0 Z0 O_mp A_nw rfl (by decide) old_nw) (w_60 hw) (w_4 hw) (by decide) rfl (lenOf pd_2 rfl) rfl (W := 0) rfl (by decide) (by decide) (k' := 4) (n' := 50) rfl rfl (by decide) (by decide) at_208 (pc' := 211) rfl fun v h132 hq => ?_
              obtain ⟨rfl, K9, O_mp, A_nw⟩ := hq
              have Z0 := Nat.le_trans Z0 K9.1
              show WP κ h132 4 50 (mkF κ.m 211 #[.val (.int p0), .val (.int p1), .val (.int p2), .val (.int p3), .val (.int p4), .val (.int p5), .val (.int (if (p0 &&& (1 : Int32)) = (0 : Int32) then (0 : Int32) else (1 : Int32))), .val (.int (if (p0 &&& (2 : Int32)) = (0 : Int32) then (0 : Int32) else (1 : Int32))), .val (.int (0 : Int32)), .val (.int (1 : Int32)), .val (.int ia), .val (.int ib), .val (.int (1 : Int32)), .val (.int p4), .val (.ref mp), .val (.int (1 : Int32)), .val (.int (0 : Int32)), .val (.int (0 : Int32)), .val (.int (1 : Int32)), .val (.int ia), .val (.int ib)] [])
              refine WP.aload K at_211 rfl rfl (pc' := 213) rfl ?_
              refine WP.iload K at_213 rfl (pc' := 215) rfl ?_
              refine WP.iload K at_215 rfl (pc' := 217) rfl ?_
              refine WP.if0T K at_217 (by decide) (by decide) (pc' := 225) (by decide) ?_
              refine WP.iload K at_225 rfl (pc' := 227) rfl ?_
              refine WP.iload K at_227 rfl (pc' := 229) rfl ?_
              refine WP.iconst K at_229 (v := (1 : Int32)) rfl (pc' := 230) rfl ?_
              refine WP.icmpF K at_230 (by decide) (pc' := 233) rfl ?_
              refine WP.iload K at_233 rfl (pc' := 235) rfl ?_
              refine WP.goto K at_235 (by decide) (pc' := 239) (by decide) ?_
              refine WP.iload K at_239 rfl (pc' := 241) rfl ?_
              refine WP.iconst K at_241 (v := (2 : Int32)) rfl (pc' := 242) rfl ?_
              refine WP.icmpT K at_242 (by decide) (by decide) (pc' := 250) (by decide) ?_
              refine WP.iconst K at_250 (v := (-1 : Int32)) rfl (pc' := 251) rfl ?_
              refine WP.callS K (argsL := [(.ref mp), (.int (0 : Int32)), (.int ia), (.int p4), (.int (-1 : Int32))]) (S := []) (w_61 hw) (w_62 hw) (rm_holdsA w l Z a0 hw (fset F2 (3 * 0 + 1) p4) mp nw kN (0 : Int32) ia p4 (-1 : Int32) 0 _ _ _ _ _ _ h132 n0 Z0 O_mp A_nw rfl (by decide) ((fset_ne _ _ (by omega)).trans fa0) (fset_same _ _ _) ((fset_ne _ _ (by omega)).trans fa2)) (w_64 hw) (w_63 hw) (by decide) rfl (lenOf pd_9 rfl) rfl (W := 0) rfl (by decide) (by decide) (k' := 4) (n' := 50) rfl rfl (by decide) (by decide) at_251 (pc' := 254) rfl fun v h133 hq => ?_
              obtain ⟨rfl, rfl⟩ := hq
              show WP κ h132 4 50 (mkF κ.m 254 #[.val (.int p0), .val (.int p1), .val (.int p2), .val (.int p3), .val (.int p4), .val (.int p5), .val (.int (if (p0 &&& (1 : Int32)) = (0 : Int32) then (0 : Int32) else (1 : Int32))), .val (.int (if (p0 &&& (2 : Int32)) = (0 : Int32) then (0 : Int32) else (1 : Int32))), .val (.int (0 : Int32)), .val (.int (1 : Int32)), .val (.int ia), .val (.int ib), .val (.int (1 : Int32)), .val (.int p4), .val (.ref mp), .val (.int (1 : Int32)), .val (.int (0 : Int32)), .val (.int (0 : Int32)), .val (.int (1 : Int32)), .val (.int ia), .val (.int ib)] [(.int (1 : Int32))])
              refine WP.if0F K at_254 (by decide) (pc' := 257) rfl ?_
              refine WP.aload K at_257 rfl rfl (pc' := 259) rfl ?_
              refine WP.iload K at_259 rfl (pc' := 261) rfl ?_
              refine WP.iload K at_261 rfl (pc' := 263) rfl ?_
              refine WP.iconst K at_263 (v := (-1 : Int32)) rfl (pc' := 264) rfl ?_
              refine WP.iconst K at_264 (v := (-1 : Int32)) rfl (pc' := 265) rfl ?_
              refine WP.callS K (argsL := [(.ref mp), (.int (1 : Int32)), (.int ib), (.int (-1 : Int32)), (.int (-1 : Int32))]) (S := []) (w_61 hw) (w_62 hw) (rm_holdsA w l Z a0 hw (fset F2 (3 * 0 + 1) p4) mp nw kN (1 : Int32) ib (-1 : Int32) (-1 : Int32) 1 _ _ _ _ _ _ h132 n0 Z0 O_mp A_nw rfl (by decide) ((fset_ne _ _ (by omega)).trans fb0) ((fset_ne _ _ (by omega)).trans fb1) ((fset_ne _ _ (by omega)).trans fb2)) (w_64 hw) (w_63 hw) (by decide) rfl (lenOf pd_9 rfl) rfl (W := 0) rfl (by decide) (by decide) (k' := 4) (n' := 50) rfl rfl (by decide) (by decide) at_265 (pc' := 268) rfl fun v h134 hq => ?_
              obtain ⟨rfl, rfl⟩ := hq
              show WP κ h132 4 50 (mkF κ.m 268 #[.val (.int p0), .val (.int p1), .val (.int p2), .val (.int p3), .val (.int p4), .val (.int p5), .val (.int (if (p0 &&& (1 : Int32)) = (0 : Int32) then (0 : Int32) else (1 : Int32))), .val (.int (if (p0 &&& (2 : Int32)) = (0 : Int32) then (0 : Int32) else (1 : Int32))), .val (.int (0 : Int32)), .val (.int (1 : Int32)), .val (.int ia), .val (.int ib), .val (.int (1 : Int32)), .val (.int p4), .val (.ref mp), .val (.int (1 : Int32)), .val (.int (0 : Int32)), .val (.int (0 : Int32)), .val (.int (1 : Int32)), .val (.int ia), .val (.int ib)] [(.int (1 : Int32))])
              refine WP.if0F K at_268 (by decide) (pc' := 271) rfl ?_
              refine WP.iconst K at_271 (v := (1 : Int32)) rfl (pc' := 272) rfl ?_
              refine WP.goto K at_272 (by decide) (pc' := 276) (by decide) ?_
              exact WP.retN K (ty := .boolean) (by decide) at_276 (by decide) (by decide) rfl
            · refine WP.if0F K at_146 (by rw [if_neg cs]; decide) (pc' := 149) rfl ?_
              refine WP.iload K at_149 rfl (pc' := 151) rfl ?_
              refine WP.goto K at_151 (by decide) (pc' := 156) (by decide) ?_
              refine WP.istore K at_156 (L' := #[.val (.int p0), .val (.int p1), .val (.int p2), .val (.int p3), .val (.int p4), .val (.int p5), .val (.int (if (p0 &&& (1 : Int32)) = (0 : Int32) then (0 : Int32) else (1 : Int32))), .val (.int (if (p0 &&& (2 : Int32)) = (0 : Int32) then (0 : Int32) else (1 : Int32))), .val (.int (0 : Int32)), .val (.int (1 : Int32)), .val (.int ia), .val (.int ib), .val (.int (1 : Int32)), .val (.int p4), .val (.ref mp), .val (.int (1 : Int32)), .val (.int (0 : Int32)), .val (.int (1 : Int32)), .unset, .unset, .unset]) rfl (pc' := 158) rfl ?_
              refine WP.iload K at_158 rfl (pc' := 160) rfl ?_
              refine WP.if0F K at_160 (by rw [if_neg cs]; decide) (pc' := 163) rfl ?_
              refine WP.iload K at_163 rfl (pc' := 165) rfl ?_
              refine WP.goto K at_165 (by decide) (pc' := 170) (by decide) ?_
              refine WP.istore K at_170 (L' := #[.val (.int p0), .val (.int p1), .val (.int p2), .val (.int p3), .val (.int p4), .val (.int p5), .val (.int (if (p0 &&& (1 : Int32)) = (0 : Int32) then (0 : Int32) else (1 : Int32))), .val (.int (if (p0 &&& (2 : Int32)) = (0 : Int32) then (0 : Int32) else (1 : Int32))), .val (.int (0 : Int32)), .val (.int (1 : Int32)), .val (.int ia), .val (.int ib), .val (.int (1 : Int32)), .val (.int p4), .val (.ref mp), .val (.int (1 : Int32)), .val (.int (0 : Int32)), .val (.int (1 : Int32)), .val (.int (0 : Int32)), .unset, .unset]) rfl (pc' := 172) rfl ?_
              refine WP.iload K at_172 rfl (pc' := 174) rfl ?_
              refine WP.if0F K at_174 (by rw [if_neg cs]; decide) (pc' := 177) rfl ?_
              refine WP.iload K at_177 rfl (pc' := 179) rfl ?_
              refine WP.goto K at_179 (by decide) (pc' := 184) (by decide) ?_
              refine WP.istore K at_184 (L' := #[.val (.int p0), .val (.int p1), .val (.int p2), .val (.int p3), .val (.int p4), .val (.int p5), .val (.int (if (p0 &&& (1 : Int32)) = (0 : Int32) then (0 : Int32) else (1 : Int32))), .val (.int (if (p0 &&& (2 : Int32)) = (0 : Int32) then (0 : Int32) else (1 : Int32))), .val (.int (0 : Int32)), .val (.int (1 : Int32)), .val (.int ia), .val (.int ib), .val (.int (1 : Int32)), .val (.int p4), .val (.ref mp), .val (.int (1 : Int32)), .val (.int (0 : Int32)), .val (.int (1 : Int32)), .val (.int (0 : Int32)), .val (.int ib), .unset]) rfl (pc' := 186) rfl ?_
              refine WP.iload K at_186 rfl (pc' := 188) rfl ?_
              refine WP.if0F K at_188 (by rw [if_neg cs]; decide) (pc' := 191) rfl ?_
              refine WP.iload K at_191 rfl (pc' := 193) rfl ?_
              refine WP.goto K at_193 (by decide) (pc' := 198) (by decide) ?_
              refine WP.istore K at_198 (L' := #[.val (.int p0), .val (.int p1), .val (.int p2), .val (.int p3), .val (.int p4), .val (.int p5), .val (.int (if (p0 &&& (1 : Int32)) = (0 : Int32) then (0 : Int32) else (1 : Int32))), .val (.int (if (p0 &&& (2 : Int32)) = (0 : Int32) then (0 : Int32) else (1 : Int32))), .val (.int (0 : Int32)), .val (.int (1 : Int32)), .val (.int ia), .val (.int ib), .val (.int (1 : Int32)), .val (.int p4), .val (.ref mp), .val (.int (1 : Int32)), .val (.int (0 : Int32)), .val (.int (1 : Int32)), .val (.int (0 : Int32)), .val (.int ib), .val (.int ia)]) rfl (pc' := 200) rfl ?_
              refine WP.aload K at_200 rfl rfl (pc' := 202) rfl ?_
              refine WP.iload K at_202 rfl (pc' := 204) rfl ?_
              refine WP.iload K at_204 rfl (pc' := 206) rfl ?_
              refine WP.iload K at_206 rfl (pc' := 208) rfl ?_
              refine WP.callV K (a := mp) (argsL := [(.int (1 : Int32)), (.int (1 : Int32)), (.int p4)]) (S := []) (w_56 hw) (w_57 hw) (fun vm0 hZ => notFace_of_selects (args := #[]) (mvT (s := κ.s.setVm vm0) hZ (w_59 hw))) (w_59 hw) (w_58 hw) (by decide) (IsMap.exa O_mp) (rm_setA1 w l Z a0 hw F2 mp nw kN (1 : Int32) p4 1 _ _ _ _ _ _ h130 n0 Z0 O_mp A_nw rfl (by decide) old_nw) (w_60 hw) (w_4 hw) (by decide) rfl (lenOf pd_2 rfl) rfl (W := 0) rfl (by decide) (by decide) (k' := 4) (n' := 50) rfl rfl (by decide) (by decide) at_208 (pc' := 211) rfl fun v h135 hq => ?_
              obtain ⟨rfl, K9, O_mp, A_nw⟩ := hq
              have Z0 := Nat.le_trans Z0 K9.1
              show WP κ h135 4 50 (mkF κ.m 211 #[.val (.int p0), .val (.int p1), .val (.int p2), .val (.int p3), .val (.int p4), .val (.int p5), .val (.int (if (p0 &&& (1 : Int32)) = (0 : Int32) then (0 : Int32) else (1 : Int32))), .val (.int (if (p0 &&& (2 : Int32)) = (0 : Int32) then (0 : Int32) else (1 : Int32))), .val (.int (0 : Int32)), .val (.int (1 : Int32)), .val (.int ia), .val (.int ib), .val (.int (1 : Int32)), .val (.int p4), .val (.ref mp), .val (.int (1 : Int32)), .val (.int (0 : Int32)), .val (.int (1 : Int32)), .val (.int (0 : Int32)), .val (.int ib), .val (.int ia)] [])
              refine WP.aload K at_211 rfl rfl (pc' := 213) rfl ?_
              refine WP.iload K at_213 rfl (pc' := 215) rfl ?_
              refine WP.iload K at_215 rfl (pc' := 217) rfl ?_
              refine WP.if0T K at_217 (by decide) (by decide) (pc' := 225) (by decide) ?_
              refine WP.iload K at_225 rfl (pc' := 227) rfl ?_
              refine WP.iload K at_227 rfl (pc' := 229) rfl ?_
              refine WP.iconst K at_229 (v := (1 : Int32)) rfl (pc' := 230) rfl ?_
              refine WP.icmpF K at_230 (by decide) (pc' := 233) rfl ?_
              refine WP.iload K at_233 rfl (pc' := 235) rfl ?_
              refine WP.goto K at_235 (by decide) (pc' := 239) (by decide) ?_
              refine WP.iload K at_239 rfl (pc' := 241) rfl ?_
              refine WP.iconst K at_241 (v := (2 : Int32)) rfl (pc' := 242) rfl ?_
              refine WP.icmpT K at_242 (by decide) (by decide) (pc' := 250) (by decide) ?_
              refine WP.iconst K at_250 (v := (-1 : Int32)) rfl (pc' := 251) rfl ?_
              refine WP.callS K (argsL := [(.ref mp), (.int (1 : Int32)), (.int ib), (.int p4), (.int (-1 : Int32))]) (S := []) (w_61 hw) (w_62 hw) (rm_holdsA w l Z a0 hw (fset F2 (3 * 1 + 1) p4) mp nw kN (1 : Int32) ib p4 (-1 : Int32) 1 _ _ _ _ _ _ h135 n0 Z0 O_mp A_nw rfl (by decide) ((fset_ne _ _ (by omega)).trans fb0) (fset_same _ _ _) ((fset_ne _ _ (by omega)).trans fb2)) (w_64 hw) (w_63 hw) (by decide) rfl (lenOf pd_9 rfl) rfl (W := 0) rfl (by decide) (by decide) (k' := 4) (n' := 50) rfl rfl (by decide) (by decide) at_251 (pc' := 254) rfl fun v h136 hq => ?_
              obtain ⟨rfl, rfl⟩ := hq
              show WP κ h135 4 50 (mkF κ.m 254 #[.val (.int p0), .val (.int p1), .val (.int p2), .val (.int p3), .val (.int p4), .val (.int p5), .val (.int (if (p0 &&& (1 : Int32)) = (0 : Int32) then (0 : Int32) else (1 : Int32))), .val (.int (if (p0 &&& (2 : Int32)) = (0 : Int32) then (0 : Int32) else (1 : Int32))), .val (.int (0 : Int32)), .val (.int (1 : Int32)), .val (.int ia), .val (.int ib), .val (.int (1 : Int32)), .val (.int p4), .val (.ref mp), .val (.int (1 : Int32)), .val (.int (0 : Int32)), .val (.int (1 : Int32)), .val (.int (0 : Int32)), .val (.int ib), .val (.int ia)] [(.int (1 : Int32))])
              refine WP.if0F K at_254 (by decide) (pc' := 257) rfl ?_
              refine WP.aload K at_257 rfl rfl (pc' := 259) rfl ?_
              refine WP.iload K at_259 rfl (pc' := 261) rfl ?_
              refine WP.iload K at_261 rfl (pc' := 263) rfl ?_
              refine WP.iconst K at_263 (v := (-1 : Int32)) rfl (pc' := 264) rfl ?_
              refine WP.iconst K at_264 (v := (-1 : Int32)) rfl (pc' := 265) rfl ?_
              refine WP.callS K (argsL := [(.ref mp), (.int (0 : Int32)), (.int ia), (.int (-1 : Int32)), (.int (-1 : Int32))]) (S := []) (w_61 hw) (w_62 hw) (rm_holdsA w l Z a0 hw (fset F2 (3 * 1 + 1) p4) mp nw kN (0 : Int32) ia (-1 : Int32) (-1 : Int32) 0 _ _ _ _ _ _ h135 n0 Z0 O_mp A_nw rfl (by decide) ((fset_ne _ _ (by omega)).trans fa0) ((fset_ne _ _ (by omega)).trans fa1) ((fset_ne _ _ (by omega)).trans fa2)) (w_64 hw) (w_63 hw) (by decide) rfl (lenOf pd_9 rfl) rfl (W := 0) rfl (by decide) (by decide) (k' := 4) (n' := 50) rfl rfl (by decide) (by decide) at_265 (pc' := 268) rfl fun v h137 hq => ?_
              obtain ⟨rfl, rfl⟩ := hq
              show WP κ h135 4 50 (mkF κ.m 268 #[.val (.int p0), .val (.int p1), .val (.int p2), .val (.int p3), .val (.int p4), .val (.int p5), .val (.int (if (p0 &&& (1 : Int32)) = (0 : Int32) then (0 : Int32) else (1 : Int32))), .val (.int (if (p0 &&& (2 : Int32)) = (0 : Int32) then (0 : Int32) else (1 : Int32))), .val (.int (0 : Int32)), .val (.int (1 : Int32)), .val (.int ia), .val (.int ib), .val (.int (1 : Int32)), .val (.int p4), .val (.ref mp), .val (.int (1 : Int32)), .val (.int (0 : Int32)), .val (.int (1 : Int32)), .val (.int (0 : Int32)), .val (.int ib), .val (.int ia)] [(.int (1 : Int32))])
              refine WP.if0F K at_268 (by decide) (pc' := 271) rfl ?_
              refine WP.iconst K at_271 (v := (1 : Int32)) rfl (pc' := 272) rfl ?_
              refine WP.goto K at_272 (by decide) (pc' := 276) (by decide) ?_
              exact WP.retN K (ty := .boolean) (by decide) at_276 (by decide) (by decide) rfl
          · show WP κ h0 0 0 (mkF κ.m 87 #[.val (.int p0), .val (.int p1), .val (.int p2), .val (.int p3), .val (.int p4), .val (.int p5), .val (.int (if (p0 &&& (1 : Int32)) = (0 : Int32) then (0 : Int32) else (1 : Int32))), .val (.int (if (p0 &&& (2 : Int32)) = (0 : Int32) then (0 : Int32) else (1 : Int32))), .val (.int (0 : Int32)), .val (.int (1 : Int32)), .val (.int ia), .val (.int ib), .val (.int (2 : Int32)), .unset, .unset, .unset, .unset, .unset, .unset, .unset, .unset] [])
            refine WP.iload K at_87 rfl (pc' := 89) rfl ?_
            refine WP.if0T K at_89 (by decide) (by decide) (pc' := 100) (by decide) ?_
            refine WP.iload K at_100 rfl (pc' := 102) rfl ?_
            refine WP.istore K at_102 (L' := #[.val (.int p0), .val (.int p1), .val (.int p2), .val (.int p3), .val (.int p4), .val (.int p5), .val (.int (if (p0 &&& (1 : Int32)) = (0 : Int32) then (0 : Int32) else (1 : Int32))), .val (.int (if (p0 &&& (2 : Int32)) = (0 : Int32) then (0 : Int32) else (1 : Int32))), .val (.int (0 : Int32)), .val (.int (1 : Int32)), .val (.int ia), .val (.int ib), .val (.int (2 : Int32)), .val (.int p4), .unset, .unset, .unset, .unset, .unset, .unset, .unset]) rfl (pc' := 104) rfl ?_
            refine WP.new K (w_2 hw) (w_3 hw) (w_4 hw) at_104 (k' := 1) (n' := 9) rfl rfl (by decide) (by decide) (pc' := 107) rfl fun h138 mp g138 E138 X138 D138 => ?_
            have old_mp : n0 ≤ mp := by have q_ := Z0; omega
            have Z0 := Nat.le_trans Z0 E138.1
            have O_mp : IsMap Z h138 mp (.int (0 : Int32)) (.int (0 : Int32)) .null (.int (0 : Int32)) .null (.int (0 : Int32)) .null (.int (0 : Int32)) (.int (0 : Int32)) := ⟨X138, D138 (O := "com/example/weir/weir/engine/IntIntMap") (f := "width") (d := "I") (Or.inr (w_12 hw)) (ty := .int) (by decide), D138 (O := "com/example/weir/weir/engine/IntIntMap") (f := "stride") (d := "I") (Or.inr (w_14 hw)) (ty := .int) (by decide), D138 (O := "com/example/weir/weir/engine/IntIntMap") (f := "entries") (d := "[I") (Or.inl (w_21 hw)) (ty := (.array .int)) (by decide), D138 (O := "com/example/weir/weir/engine/IntIntMap") (f := "slots") (d := "I") (Or.inl (w_23 hw)) (ty := .int) (by decide), D138 (O := "com/example/weir/weir/engine/IntIntMap") (f := "objects") (d := "[Ljava/lang/Object;") (Or.inl (w_25 hw)) (ty := (.array (.object "java/lang/Object"))) (by decide), D138 (O := "com/example/weir/weir/engine/IntIntMap") (f := "greatestKey") (d := "I") (Or.inl (w_27 hw)) (ty := .int) (by decide), D138 (O := "com/example/weir/weir/engine/IntIntMap") (f := "values") (d := "[I") (Or.inl (w_34 hw)) (ty := (.array .int)) (by decide), D138 (O := "com/example/weir/weir/engine/IntIntMap") (f := "size") (d := "I") (Or.inl (w_36 hw)) (ty := .int) (by decide), D138 (O := "com/example/weir/weir/engine/IntIntMap") (f := "keys") (d := "I") (Or.inl (w_46 hw)) (ty := .int) (by decide)⟩
            refine WP.dup K at_107 rfl (pc' := 108) rfl ?_
            refine WP.iconst K at_108 (v := (3 : Int32)) rfl (pc' := 109) rfl ?_
            refine WP.callI K (a := mp) (argsL := [(.int (3 : Int32))]) (S := [(.ref mp)]) rfl (w_5 hw) (w_6 hw) (rm_minit w l Z a0 hw mp _ _ _ _ _ _ _ _ _ h138 n0 Z0 O_mp old_mp) (w_7 hw) (w_4 hw) (by decide) rfl (lenOf pd_8 rfl) rfl (W := 1) rfl (by decide) (by decide) (k' := 2) (n' := 41) rfl rfl (by decide) (by decide) at_109 (pc' := 112) rfl fun v h139 hq => ?_
            obtain ⟨rfl, K0, en, kE, s_en, O_mp, A_en⟩ := hq
            have Z0 := Nat.le_trans Z0 K0.1
            show WP κ h139 2 41 (mkF κ.m 112 #[.val (.int p0), .val (.int p1), .val (.int p2), .val (.int p3), .val (.int p4), .val (.int p5), .val (.int (if (p0 &&& (1 : Int32)) = (0 : Int32) then (0 : Int32) else (1 : Int32))), .val (.int (if (p0 &&& (2 : Int32)) = (0 : Int32) then (0 : Int32) else (1 : Int32))), .val (.int (0 : Int32)), .val (.int (1 : Int32)), .val (.int ia), .val (.int ib), .val (.int (2 : Int32)), .val (.int p4), .unset, .unset, .unset, .unset, .unset, .unset, .unset] [(.ref mp)])
            have old_en : n0 ≤ en := by omega
            refine WP.astore K at_112 rfl (L' := #[.val (.int p0), .val (.int p1), .val (.int p2), .val (.int p3), .val (.int p4), .val (.int p5), .val (.int (if (p0 &&& (1 : Int32)) = (0 : Int32) then (0 : Int32) else (1 : Int32))), .val (.int (if (p0 &&& (2 : Int32)) = (0 : Int32) then (0 : Int32) else (1 : Int32))), .val (.int (0 : Int32)), .val (.int (1 : Int32)), .val (.int ia), .val (.int ib), .val (.int (2 : Int32)), .val (.int p4), .val (.ref mp), .unset, .unset, .unset, .unset, .unset, .unset]) rfl (pc' := 114) rfl ?_
            refine WP.aload K at_114 rfl rfl (pc' := 116) rfl ?_
            refine WP.iload K at_116 rfl (pc' := 118) rfl ?_
            refine WP.iload K at_118 rfl (pc' := 120) rfl ?_
            have nq_en_mp : en ≠ mp := (Ne.symm (Ary.ne (IsMap.exa O_mp) A_en (w_3 hw)))
            refine WP.callV K (a := mp) (argsL := [(.int (0 : Int32)), (.int ia)]) (S := []) (w_28 hw) (w_29 hw) (fun vm0 hZ => notFace_of_selects (args := #[]) (mvT (s := κ.s.setVm vm0) hZ (w_31 hw))) (w_31 hw) (w_30 hw) (by decide) (IsMap.exa O_mp) (rm_addA1_0 w l Z a0 hw mp en kE ia _ h139 n0 Z0 O_mp A_en old_mp) (w_32 hw) (w_4 hw) (by decide) rfl (lenOf pd_3 rfl) rfl (W := 0) rfl (by decide) (by decide) (k' := 3) (n' := 44) rfl rfl (by decide) (by decide) at_120 (pc' := 123) rfl fun v h140 hq => ?_
            obtain ⟨rfl, K1, va, kV, s_va, O_mp, A_va⟩ := hq
            have A_en := Ary.keep K1 A_en (ninS nq_en_mp nin0)
            have Z0 := Nat.le_trans Z0 K1.1
            show WP κ h140 3 44 (mkF κ.m 123 #[.val (.int p0), .val (.int p1), .val (.int p2), .val (.int p3), .val (.int p4), .val (.int p5), .val (.int (if (p0 &&& (1 : Int32)) = (0 : Int32) then (0 : Int32) else (1 : Int32))), .val (.int (if (p0 &&& (2 : Int32)) = (0 : Int32) then (0 : Int32) else (1 : Int32))), .val (.int (0 : Int32)), .val (.int (1 : Int32)), .val (.int ia), .val (.int ib), .val (.int (2 : Int32)), .val (.int p4), .val (.ref mp), .unset, .unset, .unset, .unset, .unset, .unset] [(.int (0 : Int32))])
            have old_va : n0 ≤ va := by omega
            refine WP.pop K at_123 rfl (pc' := 124) rfl ?_
            refine WP.aload K at_124 rfl rfl (pc' := 126) rfl ?_
            refine WP.iload K at_126 rfl (pc' := 128) rfl ?_
            refine WP.iload K at_128 rfl (pc' := 130) rfl ?_
            refine WP.callV K (a := mp) (argsL := [(.int (1 : Int32)), (.int ib)]) (S := []) (w_28 hw) (w_29 hw) (fun vm0 hZ => notFace_of_selects (args := #[]) (mvT (s := κ.s.setVm vm0) hZ (w_31 hw))) (w_31 hw) (w_30 hw) (by decide) (IsMap.exa O_mp) (rm_addA2_0 w l Z a0 hw (fset (own_fill (fun _ => (0 : Int32)) 0 3 (-1)) 0 ia) mp va kV ib _ _ _ h140 n0 Z0 O_mp A_va old_mp old_va) (w_32 hw) (w_4 hw) (by decide) rfl (lenOf pd_3 rfl) rfl (W := 0) rfl (by decide) (by decide) (k' := 4) (n' := 50) rfl rfl (by decide) (by decide) at_130 (pc' := 133) rfl fun v h141 hq => ?_
            obtain ⟨rfl, nw, kN, old_nw, Z9, K2, O_mp, A_nw⟩ := hq
            have Z0 := Nat.le_trans Z0 K2.1
            show WP κ h141 4 50 (mkF κ.m 133 #[.val (.int p0), .val (.int p1), .val (.int p2), .val (.int p3), .val (.int p4), .val (.int p5), .val (.int (if (p0 &&& (1 : Int32)) = (0 : Int32) then (0 : Int32) else (1 : Int32))), .val (.int (if (p0 &&& (2 : Int32)) = (0 : Int32) then (0 : Int32) else (1 : Int32))), .val (.int (0 : Int32)), .val (.int (1 : Int32)), .val (.int ia), .val (.int ib), .val (.int (2 : Int32)), .val (.int p4), .val (.ref mp), .unset, .unset, .unset, .unset, .unset, .unset] [(.int (1 : Int32))])
            obtain ⟨F2, hF2⟩ : ∃ F2, F2 = (fset (own_fill (fun x => if x < 3 then (fset (own_fill (fun _ => (0 : Int32)) 0 3 (-1)) 0 ia) x else 0) 3 6 (-1)) 3 ib) := ⟨_, rfl⟩
            rw [← hF2] at A_nw
            have fa0 : F2 (3 * 0 + 0) = ia := by rw [hF2]; rfl
            have fb0 : F2 (3 * 1 + 0) = ib := by rw [hF2]; rfl
            have fa1 : F2 (3 * 0 + 1) = (-1 : Int32) := by rw [hF2]; rfl
            have fb1 : F2 (3 * 1 + 1) = (-1 : Int32) := by rw [hF2]; rfl
            have fa2 : F2 (3 * 0 + 2) = (-1 : Int32) := by rw [hF2]; rfl
            have fb2 : F2 (3 * 1 + 2) = (-1 : Int32) := by rw [hF2]; rfl
            refine WP.istore K at_133 (L' := #[.val (.int p0), .val (.int p1), .val (.int p2), .val (.int p3), .val (.int p4), .val (.int p5), .val (.int (if (p0 &&& (1 : Int32)) = (0 : Int32) then (0 : Int32) else (1 : Int32))), .val (.int (if (p0 &&& (2 : Int32)) = (0 : Int32) then (0 : Int32) else (1 : Int32))), .val (.int (0 : Int32)), .val (.int (1 : Int32)), .val (.int ia), .val (.int ib), .val (.int (2 : Int32)), .val (.int p4), .val (.ref mp), .val (.int (1 : Int32)), .unset, .unset, .unset, .unset, .unset]) rfl (pc' := 135) rfl ?_
            refine WP.aload K at_135 rfl rfl (pc' := 137) rfl ?_
            refine WP.iload K at_137 rfl (pc' := 139) rfl ?_
            refine WP.callV K (a := mp) (argsL := [(.int (0 : Int32))]) (S := []) (w_51 hw) (w_52 hw) (fun vm0 hZ => notFace_of_selects (args := #[]) (mvT (s := κ.s.setVm vm0) hZ (w_54 hw))) (w_54 hw) (w_53 hw) (by decide) (IsMap.exa O_mp) (rm_placeA0 w l Z a0 hw F2 mp nw kN _ _ _ _ _ h141 n0 Z0 O_mp A_nw (by rw [show F2 0 = ia from fa0]; exact hia)) (w_55 hw) (w_4 hw) (by decide) rfl (lenOf pd_4 rfl) rfl (W := 0) rfl (by decide) (by decide) (k' := 4) (n' := 50) rfl rfl (by decide) (by decide) at_139 (pc' := 142) rfl fun v h142 hq => ?_
            obtain ⟨rfl, rfl⟩ := hq
            show WP κ h141 4 50 (mkF κ.m 142 #[.val (.int p0), .val (.int p1), .val (.int p2), .val (.int p3), .val (.int p4), .val (.int p5), .val (.int (if (p0 &&& (1 : Int32)) = (0 : Int32) then (0 : Int32) else (1 : Int32))), .val (.int (if (p0 &&& (2 : Int32)) = (0 : Int32) then (0 : Int32) else (1 : Int32))), .val (.int (0 : Int32)), .val (.int (1 : Int32)), .val (.int ia), .val (.int ib), .val (.int (2 : Int32)), .val (.int p4), .val (.ref mp), .val (.int (1 : Int32)), .unset, .unset, .unset, .unset, .unset] [(.int (0 : Int32))])
            refine WP.istore K at_142 (L' := #[.val (.int p0), .val (.int p1), .val (.int p2), .val (.int p3), .val (.int p4), .val (.int p5), .val (.int (if (p0 &&& (1 : Int32)) = (0 : Int32) then (0 : Int32) else (1 : Int32))), .val (.int (if (p0 &&& (2 : Int32)) = (0 : Int32) then (0 : Int32) else (1 : Int32))), .val (.int (0 : Int32)), .val (.int (1 : Int32)), .val (.int ia), .val (.int ib), .val (.int (2 : Int32)), .val (.int p4), .val (.ref mp), .val (.int (1 : Int32)), .val (.int (0 : Int32)), .unset, .unset, .unset, .unset]) rfl (pc' := 144) rfl ?_
            refine WP.iload K at_144 rfl (pc' := 146) rfl ?_
            by_cases cs : (p0 &&& (2 : Int32)) = (0 : Int32)
            · refine WP.if0T K at_146 (by rw [if_pos cs]; decide) (by decide) (pc' := 154) (by decide) ?_
              refine WP.iload K at_154 rfl (pc' := 156) rfl ?_
              refine WP.istore K at_156 (L' := #[.val (.int p0), .val (.int p1), .val (.int p2), .val (.int p3), .val (.int p4), .val (.int p5), .val (.int (if (p0 &&& (1 : Int32)) = (0 : Int32) then (0 : Int32) else (1 : Int32))), .val (.int (if (p0 &&& (2 : Int32)) = (0 : Int32) then (0 : Int32) else (1 : Int32))), .val (.int (0 : Int32)), .val (.int (1 : Int32)), .val (.int ia), .val (.int ib), .val (.int (2 : Int32)), .val (.int p4), .val (.ref mp), .val (.int (1 : Int32)), .val (.int (0 : Int32)), .val (.int (0 : Int32)), .unset, .unset, .unset]) rfl (pc' := 158) rfl ?_
              refine WP.iload K at_158 rfl (pc' := 160) rfl ?_
              refine WP.if0T K at_160 (by rw [if_pos cs]; decide) (by decide) (pc' := 168) (by decide) ?_
              refine WP.iload K at_168 rfl (pc' := 170) rfl ?_
              refine WP.istore K at_170 (L' := #[.val (.int p0), .val (.int p1), .val (.int p2), .val (.int p3), .val (.int p4), .val (.int p5), .val (.int (if (p0 &&& (1 : Int32)) = (0 : Int32) then (0 : Int32) else (1 : Int32))), .val (.int (if (p0 &&& (2 : Int32)) = (0 : Int32) then (0 : Int32) else (1 : Int32))), .val (.int (0 : Int32)), .val (.int (1 : Int32)), .val (.int ia), .val (.int ib), .val (.int (2 : Int32)), .val (.int p4), .val (.ref mp), .val (.int (1 : Int32)), .val (.int (0 : Int32)), .val (.int (0 : Int32)), .val (.int (1 : Int32)), .unset, .unset]) rfl (pc' := 172) rfl ?_
              refine WP.iload K at_172 rfl (pc' := 174) rfl ?_
              refine WP.if0T K at_174 (by rw [if_pos cs]; decide) (by decide) (pc' := 182) (by decide) ?_
              refine WP.iload K at_182 rfl (pc' := 184) rfl ?_
              refine WP.istore K at_184 (L' := #[.val (.int p0), .val (.int p1), .val (.int p2), .val (.int p3), .val (.int p4), .val (.int p5), .val (.int (if (p0 &&& (1 : Int32)) = (0 : Int32) then (0 : Int32) else (1 : Int32))), .val (.int (if (p0 &&& (2 : Int32)) = (0 : Int32) then (0 : Int32) else (1 : Int32))), .val (.int (0 : Int32)), .val (.int (1 : Int32)), .val (.int ia), .val (.int ib), .val (.int (2 : Int32)), .val (.int p4), .val (.ref mp), .val (.int (1 : Int32)), .val (.int (0 : Int32)), .val (.int (0 : Int32)), .val (.int (1 : Int32)), .val (.int ia), .unset]) rfl (pc' := 186) rfl ?_
              refine WP.iload K at_186 rfl (pc' := 188) rfl ?_
              refine WP.if0T K at_188 (by rw [if_pos cs]; decide) (by decide) (pc' := 196) (by decide) ?_
              refine WP.iload K at_196 rfl (pc' := 198) rfl ?_
              refine WP.istore K at_198 (L' := #[.val (.int p0), .val (.int p1), .val (.int p2), .val (.int p3), .val (.int p4), .val (.int p5), .val (.int (if (p0 &&& (1 : Int32)) = (0 : Int32) then (0 : Int32) else (1 : Int32))), .val (.int (if (p0 &&& (2 : Int32)) = (0 : Int32) then (0 : Int32) else (1 : Int32))), .val (.int (0 : Int32)), .val (.int (1 : Int32)), .val (.int ia), .val (.int ib), .val (.int (2 : Int32)), .val (.int p4), .val (.ref mp), .val (.int (1 : Int32)), .val (.int (0 : Int32)), .val (.int (0 : Int32)), .val (.int (1 : Int32)), .val (.int ia), .val (.int ib)]) rfl (pc' := 200) rfl ?_
              refine WP.aload K at_200 rfl rfl (pc' := 202) rfl ?_
              refine WP.iload K at_202 rfl (pc' := 204) rfl ?_
              refine WP.iload K at_204 rfl (pc' := 206) rfl ?_
              refine WP.iload K at_206 rfl (pc' := 208) rfl ?_
              refine WP.callV K (a := mp) (argsL := [(.int (0 : Int32)), (.int (2 : Int32)), (.int p4)]) (S := []) (w_56 hw) (w_57 hw) (fun vm0 hZ => notFace_of_selects (args := #[]) (mvT (s := κ.s.setVm vm0) hZ (w_59 hw))) (w_59 hw) (w_58 hw) (by decide) (IsMap.exa O_mp) (rm_setA2 w l Z a0 hw F2 mp nw kN (0 : Int32) p4 0 _ _ _ _ _ _ h141 n0 Z0 O_mp A_nw rfl (by decide) old_nw) (w_60 hw) (w_4 hw) (by decide) rfl (lenOf pd_2 rfl) rfl (W := 0) rfl (by decide) (by decide) (k' := 4) (n' := 50) rfl rfl (by decide) (by decide) at_208 (pc' := 211) rfl fun v h143 hq => ?_
              obtain ⟨rfl, K9, O_mp, A_nw⟩ := hq
              have Z0 := Nat.le_trans Z0 K9.1
              show WP κ h143 4 50 (mkF κ.m 211 #[.val (.int p0), .val (.int p1), .val (.int p2), .val (.int p3), .val (.int p4), .val (.int p5), .val (.int (if (p0 &&& (1 : Int32)) = (0 : Int32) then (0 : Int32) else (1 : Int32))), .val (.int (if (p0 &&& (2 : Int32)) = (0 : Int32) then (0 : Int32) else (1 : Int32))), .val (.int (0 : Int32)), .val (.int (1 : Int32)), .val (.int ia), .val (.int ib), .val (.int (2 : Int32)), .val (.int p4), .val (.ref mp), .val (.int (1 : Int32)), .val (.int (0 : Int32)), .val (.int (0 : Int32)), .val (.int (1 : Int32)), .val (.int ia), .val (.int ib)] [])
              refine WP.aload K at_211 rfl rfl (pc' := 213) rfl ?_
              refine WP.iload K at_213 rfl (pc' := 215) rfl ?_
              refine WP.iload K at_215 rfl (pc' := 217) rfl ?_
              refine WP.if0T K at_217 (by decide) (by decide) (pc' := 225) (by decide) ?_
              refine WP.iload K at_225 rfl (pc' := 227) rfl ?_
              refine WP.iload K at_227 rfl (pc' := 229) rfl ?_
              refine WP.iconst K at_229 (v := (1 : Int32)) rfl (pc' := 230) rfl ?_
              refine WP.icmpT K at_230 (by decide) (by decide) (pc' := 238) (by decide) ?_
              refine WP.iconst K at_238 (v := (-1 : Int32)) rfl (pc' := 239) rfl ?_
              refine WP.iload K at_239 rfl (pc' := 241) rfl ?_
              refine WP.iconst K at_241 (v := (2 : Int32)) rfl (pc' := 242) rfl ?_
              refine WP.icmpF K at_242 (by decide) (pc' := 245) rfl ?_
              refine WP.iload K at_245 rfl (pc' := 247) rfl ?_
              refine WP.goto K at_247 (by decide) (pc' := 251) (by decide) ?_
              refine WP.callS K (argsL := [(.ref mp), (.int (0 : Int32)), (.int ia), (.int (-1 : Int32)), (.int p4)]) (S := []) (w_61 hw) (w_62 hw) (rm_holdsA w l Z a0 hw (fset F2 (3 * 0 + 2) p4) mp nw kN (0 : Int32) ia (-1 : Int32) p4 0 _ _ _ _ _ _ h143 n0 Z0 O_mp A_nw rfl (by decide) ((fset_ne _ _ (by omega)).trans fa0) ((fset_ne _ _ (by omega)).trans fa1) (fset_same _ _ _)) (w_64 hw) (w_63 hw) (by decide) rfl (lenOf pd_9 rfl) rfl (W := 0) rfl (by decide) (by decide) (k' := 4) (n' := 50) rfl rfl (by decide) (by decide) at_251 (pc' := 254) rfl fun v h144 hq => ?_
              obtain ⟨rfl, rfl⟩ := hq
              show WP κ h143 4 50 (mkF κ.m 254 #[.val (.int p0), .val (.int p1), .val (.int p2), .val (.int p3), .val (.int p4), .val (.int p5), .val (.int (if (p0 &&& (1 : Int32)) = (0 : Int32) then (0 : Int32) else (1 : Int32))), .val (.int (if (p0 &&& (2 : Int32)) = (0 : Int32) then (0 : Int32) else (1 : Int32))), .val (.int (0 : Int32)), .val (.int (1 : Int32)), .val (.int ia), .val (.int ib), .val (.int (2 : Int32)), .val (.int p4), .val (.ref mp), .val (.int (1 : Int32)), .val (.int (0 : Int32)), .val (.int (0 : Int32)), .val (.int (1 : Int32)), .val (.int ia), .val (.int ib)] [(.int (1 : Int32))])
              refine WP.if0F K at_254 (by decide) (pc' := 257) rfl ?_
              refine WP.aload K at_257 rfl rfl (pc' := 259) rfl ?_
              refine WP.iload K at_259 rfl (pc' := 261) rfl ?_
              refine WP.iload K at_261 rfl (pc' := 263) rfl ?_
              refine WP.iconst K at_263 (v := (-1 : Int32)) rfl (pc' := 264) rfl ?_
              refine WP.iconst K at_264 (v := (-1 : Int32)) rfl (pc' := 265) rfl ?_
              refine WP.callS K (argsL := [(.ref mp), (.int (1 : Int32)), (.int ib), (.int (-1 : Int32)), (.int (-1 : Int32))]) (S := []) (w_61 hw) (w_62 hw) (rm_holdsA w l Z a0 hw (fset F2 (3 * 0 + 2) p4) mp nw kN (1 : Int32) ib (-1 : Int32) (-1 : Int32) 1 _ _ _ _ _ _ h143 n0 Z0 O_mp A_nw rfl (by decide) ((fset_ne _ _ (by omega)).trans fb0) ((fset_ne _ _ (by omega)).trans fb1) ((fset_ne _ _ (by omega)).trans fb2)) (w_64 hw) (w_63 hw) (by decide) rfl (lenOf pd_9 rfl) rfl (W := 0) rfl (by decide) (by decide) (k' := 4) (n' := 50) rfl rfl (by decide) (by decide) at_265 (pc' := 268) rfl fun v h145 hq => ?_
              obtain ⟨rfl, rfl⟩ := hq
              show WP κ h143 4 50 (mkF κ.m 268 #[.val (.int p0), .val (.int p1), .val (.int p2), .val (.int p3), .val (.int p4), .val (.int p5), .val (.int (if (p0 &&& (1 : Int32)) = (0 : Int32) then (0 : Int32) else (1 : Int32))), .val (.int (if (p0 &&& (2 : Int32)) = (0 : Int32) then (0 : Int32) else (1 : Int32))), .val (.int (0 : Int32)), .val (.int (1 : Int32)), .val (.int ia), .val (.int ib), .val (.int (2 : Int32)), .val (.int p4), .val (.ref mp), .val (.int (1 : Int32)), .val (.int (0 : Int32)), .val (.int (0 : Int32)), .val (.int (1 : Int32)), .val (.int ia), .val (.int ib)] [(.int (1 : Int32))])
              refine WP.if0F K at_268 (by decide) (pc' := 271) rfl ?_
              refine WP.iconst K at_271 (v := (1 : Int32)) rfl (pc' := 272) rfl ?_
              refine WP.goto K at_272 (by decide) (pc' := 276) (by decide) ?_
              exact WP.retN K (ty := .boolean) (by decide) at_276 (by decide) (by decide) rfl
            · refine WP.if0F K at_146 (by rw [if_neg cs]; decide) (pc' := 149) rfl ?_
              refine WP.iload K at_149 rfl (pc' := 151) rfl ?_
              refine WP.goto K at_151 (by decide) (pc' := 156) (by decide) ?_
              refine WP.istore K at_156 (L' := #[.val (.int p0), .val (.int p1), .val (.int p2), .val (.int p3), .val (.int p4), .val (.int p5), .val (.int (if (p0 &&& (1 : Int32)) = (0 : Int32) then (0 : Int32) else (1 : Int32))), .val (.int (if (p0 &&& (2 : Int32)) = (0 : Int32) then (0 : Int32) else (1 : Int32))), .val (.int (0 : Int32)), .val (.int (1 : Int32)), .val (.int ia), .val (.int ib), .val (.int (2 : Int32)), .val (.int p4), .val (.ref mp), .val (.int (1 : Int32)), .val (.int (0 : Int32)), .val (.int (1 : Int32)), .unset, .unset, .unset]) rfl (pc' := 158) rfl ?_
              refine WP.iload K at_158 rfl (pc' := 160) rfl ?_
              refine WP.if0F K at_160 (by rw [if_neg cs]; decide) (pc' := 163) rfl ?_
              refine WP.iload K at_163 rfl (pc' := 165) rfl ?_
              refine WP.goto K at_165 (by decide) (pc' := 170) (by decide) ?_
              refine WP.istore K at_170 (L' := #[.val (.int p0), .val (.int p1), .val (.int p2), .val (.int p3), .val (.int p4), .val (.int p5), .val (.int (if (p0 &&& (1 : Int32)) = (0 : Int32) then (0 : Int32) else (1 : Int32))), .val (.int (if (p0 &&& (2 : Int32)) = (0 : Int32) then (0 : Int32) else (1 : Int32))), .val (.int (0 : Int32)), .val (.int (1 : Int32)), .val (.int ia), .val (.int ib), .val (.int (2 : Int32)), .val (.int p4), .val (.ref mp), .val (.int (1 : Int32)), .val (.int (0 : Int32)), .val (.int (1 : Int32)), .val (.int (0 : Int32)), .unset, .unset]) rfl (pc' := 172) rfl ?_
              refine WP.iload K at_172 rfl (pc' := 174) rfl ?_
              refine WP.if0F K at_174 (by rw [if_neg cs]; decide) (pc' := 177) rfl ?_
              refine WP.iload K at_177 rfl (pc' := 179) rfl ?_
              refine WP.goto K at_179 (by decide) (pc' := 184) (by decide) ?_
              refine WP.istore K at_184 (L' := #[.val (.int p0), .val (.int p1), .val (.int p2), .val (.int p3), .val (.int p4), .val (.int p5), .val (.int (if (p0 &&& (1 : Int32)) = (0 : Int32) then (0 : Int32) else (1 : Int32))), .val (.int (if (p0 &&& (2 : Int32)) = (0 : Int32) then (0 : Int32) else (1 : Int32))), .val (.int (0 : Int32)), .val (.int (1 : Int32)), .val (.int ia), .val (.int ib), .val (.int (2 : Int32)), .val (.int p4), .val (.ref mp), .val (.int (1 : Int32)), .val (.int (0 : Int32)), .val (.int (1 : Int32)), .val (.int (0 : Int32)), .val (.int ib), .unset]) rfl (pc' := 186) rfl ?_
              refine WP.iload K at_186 rfl (pc' := 188) rfl ?_
              refine WP.if0F K at_188 (by rw [if_neg cs]; decide) (pc' := 191) rfl ?_
              refine WP.iload K at_191 rfl (pc' := 193) rfl ?_
              refine WP.goto K at_193 (by decide) (pc' := 198) (by decide) ?_
              refine WP.istore K at_198 (L' := #[.val (.int p0), .val (.int p1), .val (.int p2), .val (.int p3), .val (.int p4), .val (.int p5), .val (.int (if (p0 &&& (1 : Int32)) = (0 : Int32) then (0 : Int32) else (1 : Int32))), .val (.int (if (p0 &&& (2 : Int32)) = (0 : Int32) then (0 : Int32) else (1 : Int32))), .val (.int (0 : Int32)), .val (.int (1 : Int32)), .val (.int ia), .val (.int ib), .val (.int (2 : Int32)), .val (.int p4), .val (.ref mp), .val (.int (1 : Int32)), .val (.int (0 : Int32)), .val (.int (1 : Int32)), .val (.int (0 : Int32)), .val (.int ib), .val (.int ia)]) rfl (pc' := 200) rfl ?_
              refine WP.aload K at_200 rfl rfl (pc' := 202) rfl ?_
              refine WP.iload K at_202 rfl (pc' := 204) rfl ?_
              refine WP.iload K at_204 rfl (pc' := 206) rfl ?_
              refine WP.iload K at_206 rfl (pc' := 208) rfl ?_
              refine WP.callV K (a := mp) (argsL := [(.int (1 : Int32)), (.int (2 : Int32)), (.int p4)]) (S := []) (w_56 hw) (w_57 hw) (fun vm0 hZ => notFace_of_selects (args := #[]) (mvT (s := κ.s.setVm vm0) hZ (w_59 hw))) (w_59 hw) (w_58 hw) (by decide) (IsMap.exa O_mp) (rm_setA2 w l Z a0 hw F2 mp nw kN (1 : Int32) p4 1 _ _ _ _ _ _ h141 n0 Z0 O_mp A_nw rfl (by decide) old_nw) (w_60 hw) (w_4 hw) (by decide) rfl (lenOf pd_2 rfl) rfl (W := 0) rfl (by decide) (by decide) (k' := 4) (n' := 50) rfl rfl (by decide) (by decide) at_208 (pc' := 211) rfl fun v h146 hq => ?_
              obtain ⟨rfl, K9, O_mp, A_nw⟩ := hq
              have Z0 := Nat.le_trans Z0 K9.1
              show WP κ h146 4 50 (mkF κ.m 211 #[.val (.int p0), .val (.int p1), .val (.int p2), .val (.int p3), .val (.int p4), .val (.int p5), .val (.int (if (p0 &&& (1 : Int32)) = (0 : Int32) then (0 : Int32) else (1 : Int32))), .val (.int (if (p0 &&& (2 : Int32)) = (0 : Int32) then (0 : Int32) else (1 : Int32))), .val (.int (0 : Int32)), .val (.int (1 : Int32)), .val (.int ia), .val (.int ib), .val (.int (2 : Int32)), .val (.int p4), .val (.ref mp), .val (.int (1 : Int32)), .val (.int (0 : Int32)), .val (.int (1 : Int32)), .val (.int (0 : Int32)), .val (.int ib), .val (.int ia)] [])
              refine WP.aload K at_211 rfl rfl (pc' := 213) rfl ?_
              refine WP.iload K at_213 rfl (pc' := 215) rfl ?_
              refine WP.iload K at_215 rfl (pc' := 217) rfl ?_
              refine WP.if0T K at_217 (by decide) (by decide) (pc' := 225) (by decide) ?_
              refine WP.iload K at_225 rfl (pc' := 227) rfl ?_
              refine WP.iload K at_227 rfl (pc' := 229) rfl ?_
              refine WP.iconst K at_229 (v := (1 : Int32)) rfl (pc' := 230) rfl ?_
              refine WP.icmpT K at_230 (by decide) (by decide) (pc' := 238) (by decide) ?_
              refine WP.iconst K at_238 (v := (-1 : Int32)) rfl (pc' := 239) rfl ?_
              refine WP.iload K at_239 rfl (pc' := 241) rfl ?_
              refine WP.iconst K at_241 (v := (2 : Int32)) rfl (pc' := 242) rfl ?_
              refine WP.icmpF K at_242 (by decide) (pc' := 245) rfl ?_
              refine WP.iload K at_245 rfl (pc' := 247) rfl ?_
              refine WP.goto K at_247 (by decide) (pc' := 251) (by decide) ?_
              refine WP.callS K (argsL := [(.ref mp), (.int (1 : Int32)), (.int ib), (.int (-1 : Int32)), (.int p4)]) (S := []) (w_61 hw) (w_62 hw) (rm_holdsA w l Z a0 hw (fset F2 (3 * 1 + 2) p4) mp nw kN (1 : Int32) ib (-1 : Int32) p4 1 _ _ _ _ _ _ h146 n0 Z0 O_mp A_nw rfl (by decide) ((fset_ne _ _ (by omega)).trans fb0) ((fset_ne _ _ (by omega)).trans fb1) (fset_same _ _ _)) (w_64 hw) (w_63 hw) (by decide) rfl (lenOf pd_9 rfl) rfl (W := 0) rfl (by decide) (by decide) (k' := 4) (n' := 50) rfl rfl (by decide) (by decide) at_251 (pc' := 254) rfl fun v h147 hq => ?_
              obtain ⟨rfl, rfl⟩ := hq
              show WP κ h146 4 50 (mkF κ.m 254 #[.val (.int p0), .val (.int p1), .val (.int p2), .val (.int p3), .val (.int p4), .val (.int p5), .val (.int (if (p0 &&& (1 : Int32)) = (0 : Int32) then (0 : Int32) else (1 : Int32))), .val (.int (if (p0 &&& (2 : Int32)) = (0 : Int32) then (0 : Int32) else (1 : Int32))), .val (.int (0 : Int32)), .val (.int (1 : Int32)), .val (.int ia), .val (.int ib), .val (.int (2 : Int32)), .val (.int p4), .val (.ref mp), .val (.int (1 : Int32)), .val (.int (0 : Int32)), .val (.int (1 : Int32)), .val (.int (0 : Int32)), .val (.int ib), .val (.int ia)] [(.int (1 : Int32))])
              refine WP.if0F K at_254 (by decide) (pc' := 257) rfl ?_
              refine WP.aload K at_257 rfl rfl (pc' := 259) rfl ?_
              refine WP.iload K at_259 rfl (pc' := 261) rfl ?_
              refine WP.iload K at_261 rfl (pc' := 263) rfl ?_
              refine WP.iconst K at_263 (v := (-1 : Int32)) rfl (pc' := 264) rfl ?_
              refine WP.iconst K at_264 (v := (-1 : Int32)) rfl (pc' := 265) rfl ?_
              refine WP.callS K (argsL := [(.ref mp), (.int (0 : Int32)), (.int ia), (.int (-1 : Int32)), (.int (-1 : Int32))]) (S := []) (w_61 hw) (w_62 hw) (rm_holdsA w l Z a0 hw (fset F2 (3 * 1 + 2) p4) mp nw kN (0 : Int32) ia (-1 : Int32) (-1 : Int32) 0 _ _ _ _ _ _ h146 n0 Z0 O_mp A_nw rfl (by decide) ((fset_ne _ _ (by omega)).trans fa0) ((fset_ne _ _ (by omega)).trans fa1) ((fset_ne _ _ (by omega)).trans fa2)) (w_64 hw) (w_63 hw) (by decide) rfl (lenOf pd_9 rfl) rfl (W := 0) rfl (by decide) (by decide) (k' := 4) (n' := 50) rfl rfl (by decide) (by decide) at_265 (pc' := 268) rfl fun v h148 hq => ?_
              obtain ⟨rfl, rfl⟩ := hq
              show WP κ h146 4 50 (mkF κ.m 268 #[.val (.int p0), .val (.int p1), .val (.int p2), .val (.int p3), .val (.int p4), .val (.int p5), .val (.int (if (p0 &&& (1 : Int32)) = (0 : Int32) then (0 : Int32) else (1 : Int32))), .val (.int (if (p0 &&& (2 : Int32)) = (0 : Int32) then (0 : Int32) else (1 : Int32))), .val (.int (0 : Int32)), .val (.int (1 : Int32)), .val (.int ia), .val (.int ib), .val (.int (2 : Int32)), .val (.int p4), .val (.ref mp), .val (.int (1 : Int32)), .val (.int (0 : Int32)), .val (.int (1 : Int32)), .val (.int (0 : Int32)), .val (.int ib), .val (.int ia)] [(.int (1 : Int32))])
              refine WP.if0F K at_268 (by decide) (pc' := 271) rfl ?_
              refine WP.iconst K at_271 (v := (1 : Int32)) rfl (pc' := 272) rfl ?_
              refine WP.goto K at_272 (by decide) (pc' := 276) (by decide) ?_
              exact WP.retN K (ty := .boolean) (by decide) at_276 (by decide) (by decide) rfl
        · show WP κ h0 0 0 (mkF κ.m 59 #[.val (.int p0), .val (.int p1), .val (.int p2), .val (.int p3), .val (.int p4), .val (.int p5), .val (.int (if (p0 &&& (1 : Int32)) = (0 : Int32) then (0 : Int32) else (1 : Int32))), .val (.int (if (p0 &&& (2 : Int32)) = (0 : Int32) then (0 : Int32) else (1 : Int32))), .val (.int (1 : Int32)), .unset, .unset, .unset, .unset, .unset, .unset, .unset, .unset, .unset, .unset, .unset, .unset] [])
          refine WP.iconst K at_59 (v := (1 : Int32)) rfl (pc' := 60) rfl ?_
          refine WP.iload K at_60 rfl (pc' := 62) rfl ?_
          refine WP.isub K at_62 (pc' := 63) rfl ?_
          show WP κ h0 0 0 (mkF κ.m 63 #[.val (.int p0), .val (.int p1), .val (.int p2), .val (.int p3), .val (.int p4), .val (.int p5), .val (.int (if (p0 &&& (1 : Int32)) = (0 : Int32) then (0 : Int32) else (1 : Int32))), .val (.int (if (p0 &&& (2 : Int32)) = (0 : Int32) then (0 : Int32) else (1 : Int32))), .val (.int (1 : Int32)), .unset, .unset, .unset, .unset, .unset, .unset, .unset, .unset, .unset, .unset, .unset, .unset] [(.int (0 : Int32))])
          refine WP.istore K at_63 (L' := #[.val (.int p0), .val (.int p1), .val (.int p2), .val (.int p3), .val (.int p4), .val (.int p5), .val (.int (if (p0 &&& (1 : Int32)) = (0 : Int32) then (0 : Int32) else (1 : Int32))), .val (.int (if (p0 &&& (2 : Int32)) = (0 : Int32) then (0 : Int32) else (1 : Int32))), .val (.int (1 : Int32)), .val (.int (0 : Int32)), .unset, .unset, .unset, .unset, .unset, .unset, .unset, .unset, .unset, .unset, .unset]) rfl (pc' := 65) rfl ?_
          refine WP.iload K at_65 rfl (pc' := 67) rfl ?_
          refine WP.ldcI K (w_0 hw) at_67 (pc' := 69) rfl ?_
          refine WP.iand K at_69 (pc' := 70) rfl ?_
          refine WP.istore K at_70 (L' := #[.val (.int p0), .val (.int p1), .val (.int p2), .val (.int p3), .val (.int p4), .val (.int p5), .val (.int (if (p0 &&& (1 : Int32)) = (0 : Int32) then (0 : Int32) else (1 : Int32))), .val (.int (if (p0 &&& (2 : Int32)) = (0 : Int32) then (0 : Int32) else (1 : Int32))), .val (.int (1 : Int32)), .val (.int (0 : Int32)), .val (.int (p5 &&& (65535 : Int32))), .unset, .unset, .unset, .unset, .unset, .unset, .unset, .unset, .unset, .unset]) rfl (pc' := 72) rfl ?_
          refine WP.iload K at_72 rfl (pc' := 74) rfl ?_
          refine WP.bipush K at_74 (v := (16 : Int32)) rfl (pc' := 76) rfl ?_
          refine WP.iushr K at_76 (pc' := 77) rfl ?_
          refine WP.istore K at_77 (L' := #[.val (.int p0), .val (.int p1), .val (.int p2), .val (.int p3), .val (.int p4), .val (.int p5), .val (.int (if (p0 &&& (1 : Int32)) = (0 : Int32) then (0 : Int32) else (1 : Int32))), .val (.int (if (p0 &&& (2 : Int32)) = (0 : Int32) then (0 : Int32) else (1 : Int32))), .val (.int (1 : Int32)), .val (.int (0 : Int32)), .val (.int (p5 &&& (65535 : Int32))), .val (.int (((p5).toUInt32 >>> ((16 : Int32) &&& 31).toUInt32).toInt32)), .unset, .unset, .unset, .unset, .unset, .unset, .unset, .unset, .unset]) rfl (pc' := 79) rfl ?_
          have hia := own_ia p5
          generalize e_ia : (p5 &&& (65535 : Int32)) = ia at hia ⊢
          generalize e_ib : (((p5).toUInt32 >>> ((16 : Int32) &&& 31).toUInt32).toInt32) = ib at ⊢
          refine WP.iloadN K at_79 rfl (pc' := 80) rfl ?_
          refine WP.ldcI K (w_1 hw) at_80 (pc' := 82) rfl ?_
          refine WP.iand K at_82 (pc' := 83) rfl ?_
          refine WP.iconst K at_83 (v := (3 : Int32)) rfl (pc' := 84) rfl ?_
          refine WP.irem K at_84 (by decide) (pc' := 85) rfl ?_
          refine WP.istore K at_85 (L' := #[.val (.int p0), .val (.int p1), .val (.int p2), .val (.int p3), .val (.int p4), .val (.int p5), .val (.int (if (p0 &&& (1 : Int32)) = (0 : Int32) then (0 : Int32) else (1 : Int32))), .val (.int (if (p0 &&& (2 : Int32)) = (0 : Int32) then (0 : Int32) else (1 : Int32))), .val (.int (1 : Int32)), .val (.int (0 : Int32)), .val (.int ia), .val (.int ib), .val (.int ((p3 &&& (2147483647 : Int32)) % (3 : Int32))), .unset, .unset, .unset, .unset, .unset, .unset, .unset, .unset]) rfl (pc' := 87) rfl ?_
          have hf := own_mod3 p3
          generalize e_fd : ((p3 &&& (2147483647 : Int32)) % (3 : Int32)) = fd at hf ⊢
          rcases hf with rfl | rfl | rfl
          · show WP κ h0 0 0 (mkF κ.m 87 #[.val (.int p0), .val (.int p1), .val (.int p2), .val (.int p3), .val (.int p4), .val (.int p5), .val (.int (if (p0 &&& (1 : Int32)) = (0 : Int32) then (0 : Int32) else (1 : Int32))), .val (.int (if (p0 &&& (2 : Int32)) = (0 : Int32) then (0 : Int32) else (1 : Int32))), .val (.int (1 : Int32)), .val (.int (0 : Int32)), .val (.int ia), .val (.int ib), .val (.int (0 : Int32)), .unset, .unset, .unset, .unset, .unset, .unset, .unset, .unset] [])
            refine WP.iload K at_87 rfl (pc' := 89) rfl ?_
            refine WP.if0F K at_89 (by decide) (pc' := 92) rfl ?_
            refine WP.iload K at_92 rfl (pc' := 94) rfl ?_
            refine WP.ldcI K (w_1 hw) at_94 (pc' := 96) rfl ?_
            refine WP.iand K at_96 (pc' := 97) rfl ?_
            refine WP.goto K at_97 (by decide) (pc' := 102) (by decide) ?_
            refine WP.istore K at_102 (L' := #[.val (.int p0), .val (.int p1), .val (.int p2), .val (.int p3), .val (.int p4), .val (.int p5), .val (.int (if (p0 &&& (1 : Int32)) = (0 : Int32) then (0 : Int32) else (1 : Int32))), .val (.int (if (p0 &&& (2 : Int32)) = (0 : Int32) then (0 : Int32) else (1 : Int32))), .val (.int (1 : Int32)), .val (.int (0 : Int32)), .val (.int ia), .val (.int ib), .val (.int (0 : Int32)), .val (.int (p4 &&& (2147483647 : Int32))), .unset, .unset, .unset, .unset, .unset, .unset, .unset]) rfl (pc' := 104) rfl ?_
            generalize e_val : (p4 &&& (2147483647 : Int32)) = val at ⊢
            refine WP.new K (w_2 hw) (w_3 hw) (w_4 hw) at_104 (k' := 1) (n' := 9) rfl rfl (by decide) (by decide) (pc' := 107) rfl fun h149 mp g149 E149 X149 D149 => ?_
            have old_mp : n0 ≤ mp := by have q_ := Z0; omega
            have Z0 := Nat.le_trans Z0 E149.1
            have O_mp : IsMap Z h149 mp (.int (0 : Int32)) (.int (0 : Int32)) .null (.int (0 : Int32)) .null (.int (0 : Int32)) .null (.int (0 : Int32)) (.int (0 : Int32)) := ⟨X149, D149 (O := "com/example/weir/weir/engine/IntIntMap") (f := "width") (d := "I") (Or.inr (w_12 hw)) (ty := .int) (by decide), D149 (O := "com/example/weir/weir/engine/IntIntMap") (f := "stride") (d := "I") (Or.inr (w_14 hw)) (ty := .int) (by decide), D149 (O := "com/example/weir/weir/engine/IntIntMap") (f := "entries") (d := "[I") (Or.inl (w_21 hw)) (ty := (.array .int)) (by decide), D149 (O := "com/example/weir/weir/engine/IntIntMap") (f := "slots") (d := "I") (Or.inl (w_23 hw)) (ty := .int) (by decide), D149 (O := "com/example/weir/weir/engine/IntIntMap") (f := "objects") (d := "[Ljava/lang/Object;") (Or.inl (w_25 hw)) (ty := (.array (.object "java/lang/Object"))) (by decide), D149 (O := "com/example/weir/weir/engine/IntIntMap") (f := "greatestKey") (d := "I") (Or.inl (w_27 hw)) (ty := .int) (by decide), D149 (O := "com/example/weir/weir/engine/IntIntMap") (f := "values") (d := "[I") (Or.inl (w_34 hw)) (ty := (.array .int)) (by decide), D149 (O := "com/example/weir/weir/engine/IntIntMap") (f := "size") (d := "I") (Or.inl (w_36 hw)) (ty := .int) (by decide), D149 (O := "com/example/weir/weir/engine/IntIntMap") (f := "keys") (d := "I") (Or.inl (w_46 hw)) (ty := .int) (by decide)⟩
            refine WP.dup K at_107 rfl (pc' := 108) rfl ?_
            refine WP.iconst K at_108 (v := (3 : Int32)) rfl (pc' := 109) rfl ?_
            refine WP.callI K (a := mp) (argsL := [(.int (3 : Int32))]) (S := [(.ref mp)]) rfl (w_5 hw) (w_6 hw) (rm_minit w l Z a0 hw mp _ _ _ _ _ _ _ _ _ h149 n0 Z0 O_mp old_mp) (w_7 hw) (w_4 hw) (by decide) rfl (lenOf pd_8 rfl) rfl (W := 1) rfl (by decide) (by decide) (k' := 2) (n' := 41) rfl rfl (by decide) (by decide) at_109 (pc' := 112) rfl fun v h150 hq => ?_
            obtain ⟨rfl, K0, en, kE, s_en, O_mp, A_en⟩ := hq
            have Z0 := Nat.le_trans Z0 K0.1
            show WP κ h150 2 41 (mkF κ.m 112 #[.val (.int p0), .val (.int p1), .val (.int p2), .val (.int p3), .val (.int p4), .val (.int p5), .val (.int (if (p0 &&& (1 : Int32)) = (0 : Int32) then (0 : Int32) else (1 : Int32))), .val (.int (if (p0 &&& (2 : Int32)) = (0 : Int32) then (0 : Int32) else (1 : Int32))), .val (.int (1 : Int32)), .val (.int (0 : Int32)), .val (.int ia), .val (.int ib), .val (.int (0 : Int32)), .val (.int val), .unset, .unset, .unset, .unset, .unset, .unset, .unset] [(.ref mp)])
            have old_en : n0 ≤ en := by omega
            refine WP.astore K at_112 rfl (L' := #[.val (.int p0), .val (.int p1), .val (.int p2), .val (.int p3), .val (.int p4), .val (.int p5), .val (.int (if (p0 &&& (1 : Int32)) = (0 : Int32) then (0 : Int32) else (1 : Int32))), .val (.int (if (p0 &&& (2 : Int32)) = (0 : Int32) then (0 : Int32) else (1 : Int32))), .val (.int (1 : Int32)), .val (.int (0 : Int32)), .val (.int ia), .val (.int ib), .val (.int (0 : Int32)), .val (.int val), .val (.ref mp), .unset, .unset, .unset, .unset, .unset, .unset]) rfl (pc' := 114) rfl ?_
            refine WP.aload K at_114 rfl rfl (pc' := 116) rfl ?_
            refine WP.iload K at_116 rfl (pc' := 118) rfl ?_
            refine WP.iload K at_118 rfl (pc' := 120) rfl ?_
            have nq_en_mp : en ≠ mp := (Ne.symm (Ary.ne (IsMap.exa O_mp) A_en (w_3 hw)))
            refine WP.callV K (a := mp) (argsL := [(.int (1 : Int32)), (.int ia)]) (S := []) (w_28 hw) (w_29 hw) (fun vm0 hZ => notFace_of_selects (args := #[]) (mvT (s := κ.s.setVm vm0) hZ (w_31 hw))) (w_31 hw) (w_30 hw) (by decide) (IsMap.exa O_mp) (rm_addA1_1 w l Z a0 hw mp en kE ia _ h150 n0 Z0 O_mp A_en old_mp) (w_32 hw) (w_4 hw) (by decide) rfl (lenOf pd_3 rfl) rfl (W := 0) rfl (by decide) (by decide) (k' := 3) (n' := 47) rfl rfl (by decide) (by decide) at_120 (pc' := 123) rfl fun v h151 hq => ?_
            obtain ⟨rfl, K1, va, kV, s_va, O_mp, A_va⟩ := hq
            have A_en := Ary.keep K1 A_en (ninS nq_en_mp nin0)
            have Z0 := Nat.le_trans Z0 K1.1
            show WP κ h151 3 47 (mkF κ.m 123 #[.val (.int p0), .val (.int p1), .val (.int p2), .val (.int p3), .val (.int p4), .val (.int p5), .val (.int (if (p0 &&& (1 : Int32)) = (0 : Int32) then (0 : Int32) else (1 : Int32))), .val (.int (if (p0 &&& (2 : Int32)) = (0 : Int32) then (0 : Int32) else (1 : Int32))), .val (.int (1 : Int32)), .val (.int (0 : Int32)), .val (.int ia), .val (.int ib), .val (.int (0 : Int32)), .val (.int val), .val (.ref mp), .unset, .unset, .unset, .unset, .unset, .unset] [(.int (1 : Int32))])
            have old_va : n0 ≤ va := by omega
            refine WP.pop K at_123 rfl (pc' := 124) rfl ?_
            refine WP.aload K at_124 rfl rfl (pc' := 126) rfl ?_
            refine WP.iload K at_126 rfl (pc' := 128) rfl ?_
            refine WP.iload K at_128 rfl (pc' := 130) rfl ?_
            refine WP.callV K (a := mp) (argsL := [(.int (0 : Int32)), (.int ib)]) (S := []) (w_28 hw) (w_29 hw) (fun vm0 hZ => notFace_of_selects (args := #[]) (mvT (s := κ.s.setVm vm0) hZ (w_31 hw))) (w_31 hw) (w_30 hw) (by decide) (IsMap.exa O_mp) (rm_addA2_1 w l Z a0 hw (fset (own_fill (fun _ => (0 : Int32)) 0 6 (-1)) 3 ia) mp va kV ib _ _ _ h151 n0 Z0 O_mp A_va old_mp old_va) (w_32 hw) (w_4 hw) (by decide) rfl (lenOf pd_3 rfl) rfl (W := 0) rfl (by decide) (by decide) (k' := 3) (n' := 47) rfl rfl (by decide) (by decide) at_130 (pc' := 133) rfl fun v h152 hq => ?_
            obtain ⟨rfl, nw, kN, old_nw, Z9, K2, O_mp, A_nw⟩ := hq
            have Z0 := Nat.le_trans Z0 K2.1
            show WP κ h152 3 47 (mkF κ.m 133 #[.val (.int p0), .val (.int p1), .val (.int p2), .val (.int p3), .val (.int p4), .val (.int p5), .val (.int (if (p0 &&& (1 : Int32)) = (0 : Int32) then (0 : Int32) else (1 : Int32))), .val (.int (if (p0 &&& (2 : Int32)) = (0 : Int32) then (0 : Int32) else (1 : Int32))), .val (.int (1 : Int32)), .val (.int (0 : Int32)), .val (.int ia), .val (.int ib), .val (.int (0 : Int32)), .val (.int val), .val (.ref mp), .unset, .unset, .unset, .unset, .unset, .unset] [(.int (0 : Int32))])
            obtain ⟨F2, hF2⟩ : ∃ F2, F2 = (fset (fset (own_fill (fun _ => (0 : Int32)) 0 6 (-1)) 3 ia) 0 ib) := ⟨_, rfl⟩
            rw [← hF2] at A_nw
            have fa0 : F2 (3 * 1 + 0) = ia := by rw [hF2]; rfl
            have fb0 : F2 (3 * 0 + 0) = ib := by rw [hF2]; rfl
            have fa1 : F2 (3 * 1 + 1) = (-1 : Int32) := by rw [hF2]; rfl
            have fb1 : F2 (3 * 0 + 1) = (-1 : Int32) := by rw [hF2]; rfl
            have fa2 : F2 (3 * 1 + 2) = (-1 : Int32) := by rw [hF2]; rfl
            have fb2 : F2 (3 * 0 + 2) = (-1 : Int32) := by rw [hF2]; rfl
            refine WP.istore K at_133 (L' := #[.val (.int p0), .val (.int p1), .val (.int p2), .val (.int p3), .val (.int p4), .val (.int p5), .val (.int (if (p0 &&& (1 : Int32)) = (0 : Int32) then (0 : Int32) else (1 : Int32))), .val (.int (if (p0 &&& (2 : Int32)) = (0 : Int32) then (0 : Int32) else (1 : Int32))), .val (.int (1 : Int32)), .val (.int (0 : Int32)), .val (.int ia), .val (.int ib), .val (.int (0 : Int32)), .val (.int val), .val (.ref mp), .val (.int (0 : Int32)), .unset, .unset, .unset, .unset, .unset]) rfl (pc' := 135) rfl ?_
            refine WP.aload K at_135 rfl rfl (pc' := 137) rfl ?_
            refine WP.iload K at_137 rfl (pc' := 139) rfl ?_
            refine WP.callV K (a := mp) (argsL := [(.int (1 : Int32))]) (S := []) (w_51 hw) (w_52 hw) (fun vm0 hZ => notFace_of_selects (args := #[]) (mvT (s := κ.s.setVm vm0) hZ (w_54 hw))) (w_54 hw) (w_53 hw) (by decide) (IsMap.exa O_mp) (rm_placeA1 w l Z a0 hw F2 mp nw kN _ _ _ _ _ h152 n0 Z0 O_mp A_nw (by rw [show F2 3 = ia from fa0]; exact hia)) (w_55 hw) (w_4 hw) (by decide) rfl (lenOf pd_4 rfl) rfl (W := 0) rfl (by decide) (by decide) (k' := 3) (n' := 47) rfl rfl (by decide) (by decide) at_139 (pc' := 142) rfl fun v h153 hq => ?_
            obtain ⟨rfl, rfl⟩ := hq
            show WP κ h152 3 47 (mkF κ.m 142 #[.val (.int p0), .val (.int p1), .val (.int p2), .val (.int p3), .val (.int p4), .val (.int p5), .val (.int (if (p0 &&& (1 : Int32)) = (0 : Int32) then (0 : Int32) else (1 : Int32))), .val (.int (if (p0 &&& (2 : Int32)) = (0 : Int32) then (0 : Int32) else (1 : Int32))), .val (.int (1 : Int32)), .val (.int (0 : Int32)), .val (.int ia), .val (.int ib), .val (.int (0 : Int32)), .val (.int val), .val (.ref mp), .val (.int (0 : Int32)), .unset, .unset, .unset, .unset, .unset] [(.int (1 : Int32))])
            refine WP.istore K at_142 (L' := #[.val (.int p0), .val (.int p1), .val (.int p2), .val (.int p3), .val (.int p4), .val (.int p5), .val (.int (if (p0 &&& (1 : Int32)) = (0 : Int32) then (0 : Int32) else (1 : Int32))), .val (.int (if (p0 &&& (2 : Int32)) = (0 : Int32) then (0 : Int32) else (1 : Int32))), .val (.int (1 : Int32)), .val (.int (0 : Int32)), .val (.int ia), .val (.int ib), .val (.int (0 : Int32)), .val (.int val), .val (.ref mp), .val (.int (0 : Int32)), .val (.int (1 : Int32)), .unset, .unset, .unset, .unset]) rfl (pc' := 144) rfl ?_
            refine WP.iload K at_144 rfl (pc' := 146) rfl ?_
            by_cases cs : (p0 &&& (2 : Int32)) = (0 : Int32)
            · refine WP.if0T K at_146 (by rw [if_pos cs]; decide) (by decide) (pc' := 154) (by decide) ?_
              refine WP.iload K at_154 rfl (pc' := 156) rfl ?_
              refine WP.istore K at_156 (L' := #[.val (.int p0), .val (.int p1), .val (.int p2), .val (.int p3), .val (.int p4), .val (.int p5), .val (.int (if (p0 &&& (1 : Int32)) = (0 : Int32) then (0 : Int32) else (1 : Int32))), .val (.int (if (p0 &&& (2 : Int32)) = (0 : Int32) then (0 : Int32) else (1 : Int32))), .val (.int (1 : Int32)), .val (.int (0 : Int32)), .val (.int ia), .val (.int ib), .val (.int (0 : Int32)), .val (.int val), .val (.ref mp), .val (.int (0 : Int32)), .val (.int (1 : Int32)), .val (.int (1 : Int32)), .unset, .unset, .unset]) rfl (pc' := 158) rfl ?_
              refine WP.iload K at_158 rfl (pc' := 160) rfl ?_
              refine WP.if0T K at_160 (by rw [if_pos cs]; decide) (by decide) (pc' := 168) (by decide) ?_
              refine WP.iload K at_168 rfl (pc' := 170) rfl ?_
              refine WP.istore K at_170 (L' := #[.val (.int p0), .val (.int p1), .val (.int p2), .val (.int p3), .val (.int p4), .val (.int p5), .val (.int (if (p0 &&& (1 : Int32)) = (0 : Int32) then (0 : Int32) else (1 : Int32))), .val (.int (if (p0 &&& (2 : Int32)) = (0 : Int32) then (0 : Int32) else (1 : Int32))), .val (.int (1 : Int32)), .val (.int (0 : Int32)), .val (.int ia), .val (.int ib), .val (.int (0 : Int32)), .val (.int val), .val (.ref mp), .val (.int (0 : Int32)), .val (.int (1 : Int32)), .val (.int (1 : Int32)), .val (.int (0 : Int32)), .unset, .unset]) rfl (pc' := 172) rfl ?_
              refine WP.iload K at_172 rfl (pc' := 174) rfl ?_
              refine WP.if0T K at_174 (by rw [if_pos cs]; decide) (by decide) (pc' := 182) (by decide) ?_
              refine WP.iload K at_182 rfl (pc' := 184) rfl ?_
              refine WP.istore K at_184 (L' := #[.val (.int p0), .val (.int p1), .val (.int p2), .val (.int p3), .val (.int p4), .val (.int p5), .val (.int (if (p0 &&& (1 : Int32)) = (0 : Int32) then (0 : Int32) else (1 : Int32))), .val (.int (if (p0 &&& (2 : Int32)) = (0 : Int32) then (0 : Int32) else (1 : Int32))), .val (.int (1 : Int32)), .val (.int (0 : Int32)), .val (.int ia), .val (.int ib), .val (.int (0 : Int32)), .val (.int val), .val (.ref mp), .val (.int (0 : Int32)), .val (.int (1 : Int32)), .val (.int (1 : Int32)), .val (.int (0 : Int32)), .val (.int ia), .unset]) rfl (pc' := 186) rfl ?_
              refine WP.iload K at_186 rfl (pc' := 188) rfl ?_
              refine WP.if0T K at_188 (by rw [if_pos cs]; decide) (by decide) (pc' := 196) (by decide) ?_
              refine WP.iload K at_196 rfl (pc' := 198) rfl ?_
              refine WP.istore K at_198 (L' := #[.val (.int p0), .val (.int p1), .val (.int p2), .val (.int p3), .val (.int p4), .val (.int p5), .val (.int (if (p0 &&& (1 : Int32)) = (0 : Int32) then (0 : Int32) else (1 : Int32))), .val (.int (if (p0 &&& (2 : Int32)) = (0 : Int32) then (0 : Int32) else (1 : Int32))), .val (.int (1 : Int32)), .val (.int (0 : Int32)), .val (.int ia), .val (.int ib), .val (.int (0 : Int32)), .val (.int val), .val (.ref mp), .val (.int (0 : Int32)), .val (.int (1 : Int32)), .val (.int (1 : Int32)), .val (.int (0 : Int32)), .val (.int ia), .val (.int ib)]) rfl (pc' := 200) rfl ?_
              refine WP.aload K at_200 rfl rfl (pc' := 202) rfl ?_
              refine WP.iload K at_202 rfl (pc' := 204) rfl ?_
              refine WP.iload K at_204 rfl (pc' := 206) rfl ?_
              refine WP.iload K at_206 rfl (pc' := 208) rfl ?_
              refine WP.callV K (a := mp) (argsL := [(.int (1 : Int32)), (.int (0 : Int32)), (.int val)]) (S := []) (w_56 hw) (w_57 hw) (fun vm0 hZ => notFace_of_selects (args := #[]) (mvT (s := κ.s.setVm vm0) hZ (w_59 hw))) (w_59 hw) (w_58 hw) (by decide) (IsMap.exa O_mp) (rm_setA0 w l Z a0 hw F2 mp nw kN (1 : Int32) val 1 _ _ _ _ _ _ h152 n0 Z0 O_mp A_nw rfl (by decide) old_nw) (w_60 hw) (w_4 hw) (by decide) rfl (lenOf pd_2 rfl) rfl (W := 0) rfl (by decide) (by decide) (k' := 3) (n' := 47) rfl rfl (by decide) (by decide) at_208 (pc' := 211) rfl fun v h154 hq => ?_
              obtain ⟨rfl, K9, O_mp, A_nw⟩ := hq
              have Z0 := Nat.le_trans Z0 K9.1
              show WP κ h154 3 47 (mkF κ.m 211 #[.val (.int p0), .val (.int p1), .val (.int p2), .val (.int p3), .val (.int p4), .val (.int p5), .val (.int (if (p0 &&& (1 : Int32)) = (0 : Int32) then (0 : Int32) else (1 : Int32))), .val (.int (if (p0 &&& (2 : Int32)) = (0 : Int32) then (0 : Int32) else (1 : Int32))), .val (.int (1 : Int32)), .val (.int (0 : Int32)), .val (.int ia), .val (.int ib), .val (.int (0 : Int32)), .val (.int val), .val (.ref mp), .val (.int (0 : Int32)), .val (.int (1 : Int32)), .val (.int (1 : Int32)), .val (.int (0 : Int32)), .val (.int ia), .val (.int ib)] [])
              refine WP.aload K at_211 rfl rfl (pc' := 213) rfl ?_
              refine WP.iload K at_213 rfl (pc' := 215) rfl ?_
              refine WP.iload K at_215 rfl (pc' := 217) rfl ?_
              refine WP.if0F K at_217 (by decide) (pc' := 220) rfl ?_
              refine WP.iload K at_220 rfl (pc' := 222) rfl ?_
              refine WP.goto K at_222 (by decide) (pc' := 227) (by decide) ?_
              refine WP.iload K at_227 rfl (pc' := 229) rfl ?_
              refine WP.iconst K at_229 (v := (1 : Int32)) rfl (pc' := 230) rfl ?_
              refine WP.icmpT K at_230 (by decide) (by decide) (pc' := 238) (by decide) ?_
              refine WP.iconst K at_238 (v := (-1 : Int32)) rfl (pc' := 239) rfl ?_
              refine WP.iload K at_239 rfl (pc' := 241) rfl ?_
              refine WP.iconst K at_241 (v := (2 : Int32)) rfl (pc' := 242) rfl ?_
              refine WP.icmpT K at_242 (by decide) (by decide) (pc' := 250) (by decide) ?_
              refine WP.iconst K at_250 (v := (-1 : Int32)) rfl (pc' := 251) rfl ?_
              refine WP.callS K (argsL := [(.ref mp), (.int (1 : Int32)), (.int val), (.int (-1 : Int32)), (.int (-1 : Int32))]) (S := []) (w_61 hw) (w_62 hw) (rm_holdsA w l Z a0 hw (fset F2 (3 * 1 + 0) val) mp nw kN (1 : Int32) val (-1 : Int32) (-1 : Int32) 1 _ _ _ _ _ _ h154 n0 Z0 O_mp A_nw rfl (by decide) (fset_same _ _ _) ((fset_ne _ _ (by omega)).trans fa1) ((fset_ne _ _ (by omega)).trans fa2)) (w_64 hw) (w_63 hw) (by decide) rfl (lenOf pd_9 rfl) rfl (W := 0) rfl (by decide) (by decide) (k' := 3) (n' := 47) rfl rfl (by decide) (by decide) at_251 (pc' := 254) rfl fun v h155 hq => ?_
              obtain ⟨rfl, rfl⟩ := hq
              show WP κ h154 3 47 (mkF κ.m 254 #[.val (.int p0), .val (.int p1), .val (.int p2), .val (.int p3), .val (.int p4), .val (.int p5), .val (.int (if (p0 &&& (1 : Int32)) = (0 : Int32) then (0 : Int32) else (1 : Int32))), .val (.int (if (p0 &&& (2 : Int32)) = (0 : Int32) then (0 : Int32) else (1 : Int32))), .val (.int (1 : Int32)), .val (.int (0 : Int32)), .val (.int ia), .val (.int ib), .val (.int (0 : Int32)), .val (.int val), .val (.ref mp), .val (.int (0 : Int32)), .val (.int (1 : Int32)), .val (.int (1 : Int32)), .val (.int (0 : Int32)), .val (.int ia), .val (.int ib)] [(.int (1 : Int32))])
              refine WP.if0F K at_254 (by decide) (pc' := 257) rfl ?_
              refine WP.aload K at_257 rfl rfl (pc' := 259) rfl ?_
              refine WP.iload K at_259 rfl (pc' := 261) rfl ?_
              refine WP.iload K at_261 rfl (pc' := 263) rfl ?_
              refine WP.iconst K at_263 (v := (-1 : Int32)) rfl (pc' := 264) rfl ?_
              refine WP.iconst K at_264 (v := (-1 : Int32)) rfl (pc' := 265) rfl ?_
              refine WP.callS K (argsL := [(.ref mp), (.int (0 : Int32)), (.int ib), (.int (-1 : Int32)), (.int (-1 : Int32))]) (S := []) (w_61 hw) (w_62 hw) (rm_holdsA w l Z a0 hw (fset F2 (3 * 1 + 0) val) mp nw kN (0 : Int32) ib (-1 : Int32) (-1 : Int32) 0 _ _ _ _ _ _ h154 n0 Z0 O_mp A_nw rfl (by decide) ((fset_ne _ _ (by omega)).trans fb0) ((fset_ne _ _ (by omega)).trans fb1) ((fset_ne _ _ (by omega)).trans fb2)) (w_64 hw) (w_63 hw) (by decide) rfl (lenOf pd_9 rfl) rfl (W := 0) rfl (by decide) (by decide) (k' := 3) (n' := 47) rfl rfl (by decide) (by decide) at_265 (pc' := 268) rfl fun v h156 hq => ?_
              obtain ⟨rfl, rfl⟩ := hq
              show WP κ h154 3 47 (mkF κ.m 268 #[.val (.int p0), .val (.int p1), .val (.int p2), .val (.int p3), .val (.int p4), .val (.int p5), .val (.int (if (p0 &&& (1 : Int32)) = (0 : Int32) then (0 : Int32) else (1 : Int32))), .val (.int (if (p0 &&& (2 : Int32)) = (0 : Int32) then (0 : Int32) else (1 : Int32))), .val (.int (1 : Int32)), .val (.int (0 : Int32)), .val (.int ia), .val (.int ib), .val (.int (0 : Int32)), .val (.int val), .val (.ref mp), .val (.int (0 : Int32)), .val (.int (1 : Int32)), .val (.int (1 : Int32)), .val (.int (0 : Int32)), .val (.int ia), .val (.int ib)] [(.int (1 : Int32))])
              refine WP.if0F K at_268 (by decide) (pc' := 271) rfl ?_
              refine WP.iconst K at_271 (v := (1 : Int32)) rfl (pc' := 272) rfl ?_
              refine WP.goto K at_272 (by decide) (pc' := 276) (by decide) ?_
              exact WP.retN K (ty := .boolean) (by decide) at_276 (by decide) (by decide) rfl
            · refine WP.if0F K at_146 (by rw [if_neg cs]; decide) (pc' := 149) rfl ?_
              refine WP.iload K at_149 rfl (pc' := 151) rfl ?_
              refine WP.goto K at_151 (by decide) (pc' := 156) (by decide) ?_
              refine WP.istore K at_156 (L' := #[.val (.int p0), .val (.int p1), .val (.int p2), .val (.int p3), .val (.int p4), .val (.int p5), .val (.int (if (p0 &&& (1 : Int32)) = (0 : Int32) then (0 : Int32) else (1 : Int32))), .val (.int (if (p0 &&& (2 : Int32)) = (0 : Int32) then (0 : Int32) else (1 : Int32))), .val (.int (1 : Int32)), .val (.int (0 : Int32)), .val (.int ia), .val (.int ib), .val (.int (0 : Int32)), .val (.int val), .val (.ref mp), .val (.int (0 : Int32)), .val (.int (1 : Int32)), .val (.int (0 : Int32)), .unset, .unset, .unset]) rfl (pc' := 158) rfl ?_
              refine WP.iload K at_158 rfl (pc' := 160) rfl ?_
              refine WP.if0F K at_160 (by rw [if_neg cs]; decide) (pc' := 163) rfl ?_
              refine WP.iload K at_163 rfl (pc' := 165) rfl ?_
              refine WP.goto K at_165 (by decide) (pc' := 170) (by decide) ?_
              refine WP.istore K at_170 (L' := #[.val (.int p0), .val (.int p1), .val (.int p2), .val (.int p3), .val (.int p4), .val (.int p5), .val (.int (if (p0 &&& (1 : Int32)) = (0 : Int32) then (0 : Int32) else (1 : Int32))), .val (.int (if (p0 &&& (2 : Int32)) = (0 : Int32) then (0 : Int32) else (1 : Int32))), .val (.int (1 : Int32)), .val (.int (0 : Int32)), .val (.int ia), .val (.int ib), .val (.int (0 : Int32)), .val (.int val), .val (.ref mp), .val (.int (0 : Int32)), .val (.int (1 : Int32)), .val (.int (0 : Int32)), .val (.int (1 : Int32)), .unset, .unset]) rfl (pc' := 172) rfl ?_
              refine WP.iload K at_172 rfl (pc' := 174) rfl ?_
              refine WP.if0F K at_174 (by rw [if_neg cs]; decide) (pc' := 177) rfl ?_
              refine WP.iload K at_177 rfl (pc' := 179) rfl ?_
              refine WP.goto K at_179 (by decide) (pc' := 184) (by decide) ?_
              refine WP.istore K at_184 (L' := #[.val (.int p0), .val (.int p1), .val (.int p2), .val (.int p3), .val (.int p4), .val (.int p5), .val (.int (if (p0 &&& (1 : Int32)) = (0 : Int32) then (0 : Int32) else (1 : Int32))), .val (.int (if (p0 &&& (2 : Int32)) = (0 : Int32) then (0 : Int32) else (1 : Int32))), .val (.int (1 : Int32)), .val (.int (0 : Int32)), .val (.int ia), .val (.int ib), .val (.int (0 : Int32)), .val (.int val), .val (.ref mp), .val (.int (0 : Int32)), .val (.int (1 : Int32)), .val (.int (0 : Int32)), .val (.int (1 : Int32)), .val (.int ib), .unset]) rfl (pc' := 186) rfl ?_
              refine WP.iload K at_186 rfl (pc' := 188) rfl ?_
              refine WP.if0F K at_188 (by rw [if_neg cs]; decide) (pc' := 191) rfl ?_
              refine WP.iload K at_191 rfl (pc' := 193) rfl ?_
              refine WP.goto K at_193 (by decide) (pc' := 198) (by decide) ?_
              refine WP.istore K at_198 (L' := #[.val (.int p0), .val (.int p1), .val (.int p2), .val (.int p3), .val (.int p4), .val (.int p5), .val (.int (if (p0 &&& (1 : Int32)) = (0 : Int32) then (0 : Int32) else (1 : Int32))), .val (.int (if (p0 &&& (2 : Int32)) = (0 : Int32) then (0 : Int32) else (1 : Int32))), .val (.int (1 : Int32)), .val (.int (0 : Int32)), .val (.int ia), .val (.int ib), .val (.int (0 : Int32)), .val (.int val), .val (.ref mp), .val (.int (0 : Int32)), .val (.int (1 : Int32)), .val (.int (0 : Int32)), .val (.int (1 : Int32)), .val (.int ib), .val (.int ia)]) rfl (pc' := 200) rfl ?_
              refine WP.aload K at_200 rfl rfl (pc' := 202) rfl ?_
              refine WP.iload K at_202 rfl (pc' := 204) rfl ?_
              refine WP.iload K at_204 rfl (pc' := 206) rfl ?_
              refine WP.iload K at_206 rfl (pc' := 208) rfl ?_
              refine WP.callV K (a := mp) (argsL := [(.int (0 : Int32)), (.int (0 : Int32)), (.int val)]) (S := []) (w_56 hw) (w_57 hw) (fun vm0 hZ => notFace_of_selects (args := #[]) (mvT (s := κ.s.setVm vm0) hZ (w_59 hw))) (w_59 hw) (w_58 hw) (by decide) (IsMap.exa O_mp) (rm_setA0 w l Z a0 hw F2 mp nw kN (0 : Int32) val 0 _ _ _ _ _ _ h152 n0 Z0 O_mp A_nw rfl (by decide) old_nw) (w_60 hw) (w_4 hw) (by decide) rfl (lenOf pd_2 rfl) rfl (W := 0) rfl (by decide) (by decide) (k' := 3) (n' := 47) rfl rfl (by decide) (by decide) at_208 (pc' := 211) rfl fun v h157 hq => ?_
              obtain ⟨rfl, K9, O_mp, A_nw⟩ := hq
              have Z0 := Nat.le_trans Z0 K9.1
              show WP κ h157 3 47 (mkF κ.m 211 #[.val (.int p0), .val (.int p1), .val (.int p2), .val (.int p3), .val (.int p4), .val (.int p5), .val (.int (if (p0 &&& (1 : Int32)) = (0 : Int32) then (0 : Int32) else (1 : Int32))), .val (.int (if (p0 &&& (2 : Int32)) = (0 : Int32) then (0 : Int32) else (1 : Int32))), .val (.int (1 : Int32)), .val (.int (0 : Int32)), .val (.int ia), .val (.int ib), .val (.int (0 : Int32)), .val (.int val), .val (.ref mp), .val (.int (0 : Int32)), .val (.int (1 : Int32)), .val (.int (0 : Int32)), .val (.int (1 : Int32)), .val (.int ib), .val (.int ia)] [])
              refine WP.aload K at_211 rfl rfl (pc' := 213) rfl ?_
              refine WP.iload K at_213 rfl (pc' := 215) rfl ?_
              refine WP.iload K at_215 rfl (pc' := 217) rfl ?_
              refine WP.if0F K at_217 (by decide) (pc' := 220) rfl ?_
              refine WP.iload K at_220 rfl (pc' := 222) rfl ?_
              refine WP.goto K at_222 (by decide) (pc' := 227) (by decide) ?_
              refine WP.iload K at_227 rfl (pc' := 229) rfl ?_
              refine WP.iconst K at_229 (v := (1 : Int32)) rfl (pc' := 230) rfl ?_
              refine WP.icmpT K at_230 (by decide) (by decide) (pc' := 238) (by decide) ?_
              refine WP.iconst K at_238 (v := (-1 : Int32)) rfl (pc' := 239) rfl ?_
              refine WP.iload K at_239 rfl (pc' := 241) rfl ?_
              refine WP.iconst K at_241 (v := (2 : Int32)) rfl (pc' := 242) rfl ?_
              refine WP.icmpT K at_242 (by decide) (by decide) (pc' := 250) (by decide) ?_
              refine WP.iconst K at_250 (v := (-1 : Int32)) rfl (pc' := 251) rfl ?_
              refine WP.callS K (argsL := [(.ref mp), (.int (0 : Int32)), (.int val), (.int (-1 : Int32)), (.int (-1 : Int32))]) (S := []) (w_61 hw) (w_62 hw) (rm_holdsA w l Z a0 hw (fset F2 (3 * 0 + 0) val) mp nw kN (0 : Int32) val (-1 : Int32) (-1 : Int32) 0 _ _ _ _ _ _ h157 n0 Z0 O_mp A_nw rfl (by decide) (fset_same _ _ _) ((fset_ne _ _ (by omega)).trans fb1) ((fset_ne _ _ (by omega)).trans fb2)) (w_64 hw) (w_63 hw) (by decide) rfl (lenOf pd_9 rfl) rfl (W := 0) rfl (by decide) (by decide) (k' := 3) (n' := 47) rfl rfl (by decide) (by decide) at_251 (pc' := 254) rfl fun v h158 hq => ?_
              obtain ⟨rfl, rfl⟩ := hq
              show WP κ h157 3 47 (mkF κ.m 254 #[.val (.int p0), .val (.int p1), .val (.int p2), .val (.int p3), .val (.int p4), .val (.int p5), .val (.int (if (p0 &&& (1 : Int32)) = (0 : Int32) then (0 : Int32) else (1 : Int32))), .val (.int (if (p0 &&& (2 : Int32)) = (0 : Int32) then (0 : Int32) else (1 : Int32))), .val (.int (1 : Int32)), .val (.int (0 : Int32)), .val (.int ia), .val (.int ib), .val (.int (0 : Int32)), .val (.int val), .val (.ref mp), .val (.int (0 : Int32)), .val (.int (1 : Int32)), .val (.int (0 : Int32)), .val (.int (1 : Int32)), .val (.int ib), .val (.int ia)] [(.int (1 : Int32))])
              refine WP.if0F K at_254 (by decide) (pc' := 257) rfl ?_
              refine WP.aload K at_257 rfl rfl (pc' := 259) rfl ?_
              refine WP.iload K at_259 rfl (pc' := 261) rfl ?_
              refine WP.iload K at_261 rfl (pc' := 263) rfl ?_
              refine WP.iconst K at_263 (v := (-1 : Int32)) rfl (pc' := 264) rfl ?_
              refine WP.iconst K at_264 (v := (-1 : Int32)) rfl (pc' := 265) rfl ?_
              refine WP.callS K (argsL := [(.ref mp), (.int (1 : Int32)), (.int ia), (.int (-1 : Int32)), (.int (-1 : Int32))]) (S := []) (w_61 hw) (w_62 hw) (rm_holdsA w l Z a0 hw (fset F2 (3 * 0 + 0) val) mp nw kN (1 : Int32) ia (-1 : Int32) (-1 : Int32) 1 _ _ _ _ _ _ h157 n0 Z0 O_mp A_nw rfl (by decide) ((fset_ne _ _ (by omega)).trans fa0) ((fset_ne _ _ (by omega)).trans fa1) ((fset_ne _ _ (by omega)).trans fa2)) (w_64 hw) (w_63 hw) (by decide) rfl (lenOf pd_9 rfl) rfl (W := 0) rfl (by decide) (by decide) (k' := 3) (n' := 47) rfl rfl (by decide) (by decide) at_265 (pc' := 268) rfl fun v h159 hq => ?_
              obtain ⟨rfl, rfl⟩ := hq
              show WP κ h157 3 47 (mkF κ.m 268 #[.val (.int p0), .val (.int p1), .val (.int p2), .val (.int p3), .val (.int p4), .val (.int p5), .val (.int (if (p0 &&& (1 : Int32)) = (0 : Int32) then (0 : Int32) else (1 : Int32))), .val (.int (if (p0 &&& (2 : Int32)) = (0 : Int32) then (0 : Int32) else (1 : Int32))), .val (.int (1 : Int32)), .val (.int (0 : Int32)), .val (.int ia), .val (.int ib), .val (.int (0 : Int32)), .val (.int val), .val (.ref mp), .val (.int (0 : Int32)), .val (.int (1 : Int32)), .val (.int (0 : Int32)), .val (.int (1 : Int32)), .val (.int ib), .val (.int ia)] [(.int (1 : Int32))])
              refine WP.if0F K at_268 (by decide) (pc' := 271) rfl ?_
              refine WP.iconst K at_271 (v := (1 : Int32)) rfl (pc' := 272) rfl ?_
              refine WP.goto K at_272 (by decide) (pc' := 276) (by decide) ?_
              exact WP.retN K (ty := .boolean) (by decide) at_276 (by decide) (by decide) rfl
          · show WP κ h0 0 0 (mkF κ.m 87 #[.val (.int p0), .val (.int p1), .val (.int p2), .val (.int p3), .val (.int p4), .val (.int p5), .val (.int (if (p0 &&& (1 : Int32)) = (0 : Int32) then (0 : Int32) else (1 : Int32))), .val (.int (if (p0 &&& (2 : Int32)) = (0 : Int32) then (0 : Int32) else (1 : Int32))), .val (.int (1 : Int32)), .val (.int (0 : Int32)), .val (.int ia), .val (.int ib), .val (.int (1 : Int32)), .unset, .unset, .unset, .unset, .unset, .unset, .unset, .unset] [])
            refine WP.iload K at_87 rfl (pc' := 89) rfl ?_
            refine WP.if0T K at_89 (by decide) (by decide) (pc' := 100) (by decide) ?_
            refine WP.iload K at_100 rfl (pc' := 102) rfl ?_
            refine WP.istore K at_102 (L' := #[.val (.int p0), .val (.int p1), .val (.int p2), .val (.int p3), .val (.int p4), .val (.int p5), .val (.int (if (p0 &&& (1 : Int32)) = (0 : Int32) then (0 : Int32) else (1 : Int32))), .val (.int (if (p0 &&& (2 : Int32)) = (0 : Int32) then (0 : Int32) else (1 : Int32))), .val (.int (1 : Int32)), .val (.int (0 : Int32)), .val (.int ia), .val (.int ib), .val (.int (1 : Int32)), .val (.int p4), .unset, .unset, .unset, .unset, .unset, .unset, .unset]) rfl (pc' := 104) rfl ?_
            refine WP.new K (w_2 hw) (w_3 hw) (w_4 hw) at_104 (k' := 1) (n' := 9) rfl rfl (by decide) (by decide) (pc' := 107) rfl fun h160 mp g160 E160 X160 D160 => ?_
            have old_mp : n0 ≤ mp := by have q_ := Z0; omega
            have Z0 := Nat.le_trans Z0 E160.1
            have O_mp : IsMap Z h160 mp (.int (0 : Int32)) (.int (0 : Int32)) .null (.int (0 : Int32)) .null (.int (0 : Int32)) .null (.int (0 : Int32)) (.int (0 : Int32)) := ⟨X160, D160 (O := "com/example/weir/weir/engine/IntIntMap") (f := "width") (d := "I") (Or.inr (w_12 hw)) (ty := .int) (by decide), D160 (O := "com/example/weir/weir/engine/IntIntMap") (f := "stride") (d := "I") (Or.inr (w_14 hw)) (ty := .int) (by decide), D160 (O := "com/example/weir/weir/engine/IntIntMap") (f := "entries") (d := "[I") (Or.inl (w_21 hw)) (ty := (.array .int)) (by decide), D160 (O := "com/example/weir/weir/engine/IntIntMap") (f := "slots") (d := "I") (Or.inl (w_23 hw)) (ty := .int) (by decide), D160 (O := "com/example/weir/weir/engine/IntIntMap") (f := "objects") (d := "[Ljava/lang/Object;") (Or.inl (w_25 hw)) (ty := (.array (.object "java/lang/Object"))) (by decide), D160 (O := "com/example/weir/weir/engine/IntIntMap") (f := "greatestKey") (d := "I") (Or.inl (w_27 hw)) (ty := .int) (by decide), D160 (O := "com/example/weir/weir/engine/IntIntMap") (f := "values") (d := "[I") (Or.inl (w_34 hw)) (ty := (.array .int)) (by decide), D160 (O := "com/example/weir/weir/engine/IntIntMap") (f := "size") (d := "I") (Or.inl (w_36 hw)) (ty := .int) (by decide), D160 (O := "com/example/weir/weir/engine/IntIntMap") (f := "keys") (d := "I") (Or.inl (w_46 hw)) (ty := .int) (by decide)⟩
            refine WP.dup K at_107 rfl (pc' := 108) rfl ?_
            refine WP.iconst K at_108 (v := (3 : Int32)) rfl (pc' := 109) rfl ?_
            refine WP.callI K (a := mp) (argsL := [(.int (3 : Int32))]) (S := [(.ref mp)]) rfl (w_5 hw) (w_6 hw) (rm_minit w l Z a0 hw mp _ _ _ _ _ _ _ _ _ h160 n0 Z0 O_mp old_mp) (w_7 hw) (w_4 hw) (by decide) rfl (lenOf pd_8 rfl) rfl (W := 1) rfl (by decide) (by decide) (k' := 2) (n' := 41) rfl rfl (by decide) (by decide) at_109 (pc' := 112) rfl fun v h161 hq => ?_
            obtain ⟨rfl, K0, en, kE, s_en, O_mp, A_en⟩ := hq
            have Z0 := Nat.le_trans Z0 K0.1
            show WP κ h161 2 41 (mkF κ.m 112 #[.val (.int p0), .val (.int p1), .val (.int p2), .val (.int p3), .val (.int p4), .val (.int p5), .val (.int (if (p0 &&& (1 : Int32)) = (0 : Int32) then (0 : Int32) else (1 : Int32))), .val (.int (if (p0 &&& (2 : Int32)) = (0 : Int32) then (0 : Int32) else (1 : Int32))), .val (.int (1 : Int32)), .val (.int (0 : Int32)), .val (.int ia), .val (.int ib), .val (.int (1 : Int32)), .val (.int p4), .unset, .unset, .unset, .unset, .unset, .unset, .unset] [(.ref mp)])
            have old_en : n0 ≤ en := by omega
            refine WP.astore K at_112 rfl (L' := #[.val (.int p0), .val (.int p1), .val (.int p2), .val (.int p3), .val (.int p4), .val (.int p5), .val (.int (if (p0 &&& (1 : Int32)) = (0 : Int32) then (0 : Int32) else (1 : Int32))), .val (.int (if (p0 &&& (2 : Int32)) = (0 : Int32) then (0 : Int32) else (1 : Int32))), .val (.int (1 : Int32)), .val (.int (0 : Int32)), .val (.int ia), .val (.int ib), .val (.int (1 : Int32)), .val (.int p4), .val (.ref mp), .unset, .unset, .unset, .unset, .unset, .unset]) rfl (pc' := 114) rfl ?_
            refine WP.aload K at_114 rfl rfl (pc' := 116) rfl ?_
            refine WP.iload K at_116 rfl (pc' := 118) rfl ?_
            refine WP.iload K at_118 rfl (pc' := 120) rfl ?_
            have nq_en_mp : en ≠ mp := (Ne.symm (Ary.ne (IsMap.exa O_mp) A_en (w_3 hw)))
            refine WP.callV K (a := mp) (argsL := [(.int (1 : Int32)), (.int ia)]) (S := []) (w_28 hw) (w_29 hw) (fun vm0 hZ => notFace_of_selects (args := #[]) (mvT (s := κ.s.setVm vm0) hZ (w_31 hw))) (w_31 hw) (w_30 hw) (by decide) (IsMap.exa O_mp) (rm_addA1_1 w l Z a0 hw mp en kE ia _ h161 n0 Z0 O_mp A_en old_mp) (w_32 hw) (w_4 hw) (by decide) rfl (lenOf pd_3 rfl) rfl (W := 0) rfl (by decide) (by decide) (k' := 3) (n' := 47) rfl rfl (by decide) (by decide) at_120 (pc' := 123) rfl fun v h162 hq => ?_
            obtain ⟨rfl, K1, va, kV, s_va, O_mp, A_va⟩ := hq
            have A_en := Ary.keep K1 A_en (ninS nq_en_mp nin0)
            have Z0 := Nat.le_trans Z0 K1.1
            show WP κ h162 3 47 (mkF κ.m 123 #[.val (.int p0), .val (.int p1), .val (.int p2), .val (.int p3), .val (.int p4), .val (.int p5), .val (.int (if (p0 &&& (1 : Int32)) = (0 : Int32) then (0 : Int32) else (1 : Int32))), .val (.int (if (p0 &&& (2 : Int32)) = (0 : Int32) then (0 : Int32) else (1 : Int32))), .val (.int (1 : Int32)), .val (.int (0 : Int32)), .val (.int ia), .val (.int ib), .val (.int (1 : Int32)), .val (.int p4), .val (.ref mp), .unset, .unset, .unset, .unset, .unset, .unset] [(.int (1 : Int32))])
            have old_va : n0 ≤ va := by omega
            refine WP.pop K at_123 rfl (pc' := 124) rfl ?_
            refine WP.aload K at_124 rfl rfl (pc' := 126) rfl ?_
            refine WP.iload K at_126 rfl (pc' := 128) rfl ?_
            refine WP.iload K at_128 rfl (pc' := 130) rfl ?_
            refine WP.callV K (a := mp) (argsL := [(.int (0 : Int32)), (.int ib)]) (S := []) (w_28 hw) (w_29 hw) (fun vm0 hZ => notFace_of_selects (args := #[]) (mvT (s := κ.s.setVm vm0) hZ (w_31 hw))) (w_31 hw) (w_30 hw) (by decide) (IsMap.exa O_mp) (rm_addA2_1 w l Z a0 hw (fset (own_fill (fun _ => (0 : Int32)) 0 6 (-1)) 3 ia) mp va kV ib _ _ _ h162 n0 Z0 O_mp A_va old_mp old_va) (w_32 hw) (w_4 hw) (by decide) rfl (lenOf pd_3 rfl) rfl (W := 0) rfl (by decide) (by decide) (k' := 3) (n' := 47) rfl rfl (by decide) (by decide) at_130 (pc' := 133) rfl fun v h163 hq => ?_
            obtain ⟨rfl, nw, kN, old_nw, Z9, K2, O_mp, A_nw⟩ := hq
            have Z0 := Nat.le_trans Z0 K2.1
            show WP κ h163 3 47 (mkF κ.m 133 #[.val (.int p0), .val (.int p1), .val (.int p2), .val (.int p3), .val (.int p4), .val (.int p5), .val (.int (if (p0 &&& (1 : Int32)) = (0 : Int32) then (0 : Int32) else (1 : Int32))), .val (.int (if (p0 &&& (2 : Int32)) = (0 : Int32) then (0 : Int32) else (1 : Int32))), .val (.int (1 : Int32)), .val (.int (0 : Int32)), .val (.int ia), .val (.int ib), .val (.int (1 : Int32)), .val (.int p4), .val (.ref mp), .unset, .unset, .unset, .unset, .unset, .unset] [(.int (0 : Int32))])
            obtain ⟨F2, hF2⟩ : ∃ F2, F2 = (fset (fset (own_fill (fun _ => (0 : Int32)) 0 6 (-1)) 3 ia) 0 ib) := ⟨_, rfl⟩
            rw [← hF2] at A_nw
            have fa0 : F2 (3 * 1 + 0) = ia := by rw [hF2]; rfl
            have fb0 : F2 (3 * 0 + 0) = ib := by rw [hF2]; rfl
            have fa1 : F2 (3 * 1 + 1) = (-1 : Int32) := by rw [hF2]; rfl
            have fb1 : F2 (3 * 0 + 1) = (-1 : Int32) := by rw [hF2]; rfl
            have fa2 : F2 (3 * 1 + 2) = (-1 : Int32) := by rw [hF2]; rfl
            have fb2 : F2 (3 * 0 + 2) = (-1 : Int32) := by rw [hF2]; rfl
            refine WP.istore K at_133 (L' := #[.val (.int p0), .val (.int p1), .val (.int p2), .val (.int p3), .val (.int p4), .val (.int p5), .val (.int (if (p0 &&& (1 : Int32)) = (0 : Int32) then (0 : Int32) else (1 : Int32))), .val (.int (if (p0 &&& (2 : Int32)) = (0 : Int32) then (0 : Int32) else (1 : Int32))), .val (.int (1 : Int32)), .val (.int (0 : Int32)), .val (.int ia), .val (.int ib), .val (.int (1 : Int32)), .val (.int p4), .val (.ref mp), .val (.int (0 : Int32)), .unset, .unset, .unset, .unset, .unset]) rfl (pc' := 135) rfl ?_
            refine WP.aload K at_135 rfl rfl (pc' := 137) rfl ?_
            refine WP.iload K at_137 rfl (pc' := 139) rfl ?_
            refine WP.callV K (a := mp) (argsL := [(.int (1 : Int32))]) (S := []) (w_51 hw) (w_52 hw) (fun vm0 hZ => notFace_of_selects (args := #[]) (mvT (s := κ.s.setVm vm0) hZ (w_54 hw))) (w_54 hw) (w_53 hw) (by decide) (IsMap.exa O_mp) (rm_placeA1 w l Z a0 hw F2 mp nw kN _ _ _ _ _ h163 n0 Z0 O_mp A_nw (by rw [show F2 3 = ia from fa0]; exact hia)) (w_55 hw) (w_4 hw) (by decide) rfl (lenOf pd_4 rfl) rfl (W := 0) rfl (by decide) (by decide) (k' := 3) (n' := 47) rfl rfl (by decide) (by decide) at_139 (pc' := 142) rfl fun v h164 hq => ?_
            obtain ⟨rfl, rfl⟩ := hq
            show WP κ h163 3 47 (mkF κ.m 142 #[.val (.int p0), .val (.int p1), .val (.int p2), .val (.int p3), .val (.int p4), .val (.int p5), .val (.int (if (p0 &&& (1 : Int32)) = (0 : Int32) then (0 : Int32) else (1 : Int32))), .val (.int (if (p0 &&& (2 : Int32)) = (0 : Int32) then (0 : Int32) else (1 : Int32))), .val (.int (1 : Int32)), .val (.int (0 : Int32)), .val (.int ia), .val (.int ib), .val (.int (1 : Int32)), .val (.int p4), .val (.ref mp), .val (.int (0 : Int32)), .unset, .unset, .unset, .unset, .unset] [(.int (1 : Int32))])
            refine WP.istore K at_142 (L' := #[.val (.int p0), .val (.int p1), .val (.int p2), .val (.int p3), .val (.int p4), .val (.int p5), .val (.int (if (p0 &&& (1 : Int32)) = (0 : Int32) then (0 : Int32) else (1 : Int32))), .val (.int (if (p0 &&& (2 : Int32)) = (0 : Int32) then (0 : Int32) else (1 : Int32))), .val (.int (1 : Int32)), .val (.int (0 : Int32)), .val (.int ia), .val (.int ib), .val (.int (1 : Int32)), .val (.int p4), .val (.ref mp), .val (.int (0 : Int32)), .val (.int (1 : Int32)), .unset, .unset, .unset, .unset]) rfl (pc' := 144) rfl ?_
            refine WP.iload K at_144 rfl (pc' := 146) rfl ?_
            by_cases cs : (p0 &&& (2 : Int32)) = (0 : Int32)
            · refine WP.if0T K at_146 (by rw [if_pos cs]; decide) (by decide) (pc' := 154) (by decide) ?_
              refine WP.iload K at_154 rfl (pc' := 156) rfl ?_
              refine WP.istore K at_156 (L' := #[.val (.int p0), .val (.int p1), .val (.int p2), .val (.int p3), .val (.int p4), .val (.int p5), .val (.int (if (p0 &&& (1 : Int32)) = (0 : Int32) then (0 : Int32) else (1 : Int32))), .val (.int (if (p0 &&& (2 : Int32)) = (0 : Int32) then (0 : Int32) else (1 : Int32))), .val (.int (1 : Int32)), .val (.int (0 : Int32)), .val (.int ia), .val (.int ib), .val (.int (1 : Int32)), .val (.int p4), .val (.ref mp), .val (.int (0 : Int32)), .val (.int (1 : Int32)), .val (.int (1 : Int32)), .unset, .unset, .unset]) rfl (pc' := 158) rfl ?_
              refine WP.iload K at_158 rfl (pc' := 160) rfl ?_
              refine WP.if0T K at_160 (by rw [if_pos cs]; decide) (by decide) (pc' := 168) (by decide) ?_
              refine WP.iload K at_168 rfl (pc' := 170) rfl ?_
              refine WP.istore K at_170 (L' := #[.val (.int p0), .val (.int p1), .val (.int p2), .val (.int p3), .val (.int p4), .val (.int p5), .val (.int (if (p0 &&& (1 : Int32)) = (0 : Int32) then (0 : Int32) else (1 : Int32))), .val (.int (if (p0 &&& (2 : Int32)) = (0 : Int32) then (0 : Int32) else (1 : Int32))), .val (.int (1 : Int32)), .val (.int (0 : Int32)), .val (.int ia), .val (.int ib), .val (.int (1 : Int32)), .val (.int p4), .val (.ref mp), .val (.int (0 : Int32)), .val (.int (1 : Int32)), .val (.int (1 : Int32)), .val (.int (0 : Int32)), .unset, .unset]) rfl (pc' := 172) rfl ?_
              refine WP.iload K at_172 rfl (pc' := 174) rfl ?_
              refine WP.if0T K at_174 (by rw [if_pos cs]; decide) (by decide) (pc' := 182) (by decide) ?_
              refine WP.iload K at_182 rfl (pc' := 184) rfl ?_
              refine WP.istore K at_184 (L' := #[.val (.int p0), .val (.int p1), .val (.int p2), .val (.int p3), .val (.int p4), .val (.int p5), .val (.int (if (p0 &&& (1 : Int32)) = (0 : Int32) then (0 : Int32) else (1 : Int32))), .val (.int (if (p0 &&& (2 : Int32)) = (0 : Int32) then (0 : Int32) else (1 : Int32))), .val (.int (1 : Int32)), .val (.int (0 : Int32)), .val (.int ia), .val (.int ib), .val (.int (1 : Int32)), .val (.int p4), .val (.ref mp), .val (.int (0 : Int32)), .val (.int (1 : Int32)), .val (.int (1 : Int32)), .val (.int (0 : Int32)), .val (.int ia), .unset]) rfl (pc' := 186) rfl ?_
              refine WP.iload K at_186 rfl (pc' := 188) rfl ?_
              refine WP.if0T K at_188 (by rw [if_pos cs]; decide) (by decide) (pc' := 196) (by decide) ?_
              refine WP.iload K at_196 rfl (pc' := 198) rfl ?_
              refine WP.istore K at_198 (L' := #[.val (.int p0), .val (.int p1), .val (.int p2), .val (.int p3), .val (.int p4), .val (.int p5), .val (.int (if (p0 &&& (1 : Int32)) = (0 : Int32) then (0 : Int32) else (1 : Int32))), .val (.int (if (p0 &&& (2 : Int32)) = (0 : Int32) then (0 : Int32) else (1 : Int32))), .val (.int (1 : Int32)), .val (.int (0 : Int32)), .val (.int ia), .val (.int ib), .val (.int (1 : Int32)), .val (.int p4), .val (.ref mp), .val (.int (0 : Int32)), .val (.int (1 : Int32)), .val (.int (1 : Int32)), .val (.int (0 : Int32)), .val (.int ia), .val (.int ib)]) rfl (pc' := 200) rfl ?_
              refine WP.aload K at_200 rfl rfl (pc' := 202) rfl ?_
              refine WP.iload K at_202 rfl (pc' := 204) rfl ?_
              refine WP.iload K at_204 rfl (pc' := 206) rfl ?_
              refine WP.iload K at_206 rfl (pc' := 208) rfl ?_
              refine WP.callV K (a := mp) (argsL := [(.int (1 : Int32)), (.int (1 : Int32)), (.int p4)]) (S := []) (w_56 hw) (w_57 hw) (fun vm0 hZ => notFace_of_selects (args := #[]) (mvT (s := κ.s.setVm vm0) hZ (w_59 hw))) (w_59 hw) (w_58 hw) (by decide) (IsMap.exa O_mp) (rm_setA1 w l Z a0 hw F2 mp nw kN (1 : Int32) p4 1 _ _ _ _ _ _ h163 n0 Z0 O_mp A_nw rfl (by decide) old_nw) (w_60 hw) (w_4 hw) (by decide) rfl (lenOf pd_2 rfl) rfl (W := 0) rfl (by decide) (by decide) (k' := 3) (n' := 47) rfl rfl (by decide) (by decide) at_208 (pc' := 211) rfl fun v h165 hq => ?_
              obtain ⟨rfl, K9, O_mp, A_nw⟩ := hq
              have Z0 := Nat.le_trans Z0 K9.1
              show WP κ h165 3 47 (mkF κ.m 211 #[.val (.int p0), .val (.int p1), .val (.int p2), .val (.int p3), .val (.int p4), .val (.int p5), .val (.int (if (p0 &&& (1 : Int32)) = (0 : Int32) then (0 : Int32) else (1 : Int32))), .val (.int (if (p0 &&& (2 : Int32)) = (0 : Int32) then (0 : Int32) else (1 : Int32))), .val (.int (1 : Int32)), .val (.int (0 : Int32)), .val (.int ia), .val (.int ib), .val (.int (1 : Int32)), .val (.int p4), .val (.ref mp), .val (.int (0 : Int32)), .val (.int (1 : Int32)), .val (.int (1 : Int32)), .val (.int (0 : Int32)), .val (.int ia), .val (.int ib)] [])
              refine WP.aload K at_211 rfl rfl (pc' := 213) rfl ?_
              refine WP.iload K at_213 rfl (pc' := 215) rfl ?_
              refine WP.iload K at_215 rfl (pc' := 217) rfl ?_
              refine WP.if0T K at_217 (by decide) (by decide) (pc' := 225) (by decide) ?_
              refine WP.iload K at_225 rfl (pc' := 227) rfl ?_
              refine WP.iload K at_227 rfl (pc' := 229) rfl ?_
              refine WP.iconst K at_229 (v := (1 : Int32)) rfl (pc' := 230) rfl ?_
              refine WP.icmpF K at_230 (by decide) (pc' := 233) rfl ?_
              refine WP.iload K at_233 rfl (pc' := 235) rfl ?_
              refine WP.goto K at_235 (by decide) (pc' := 239) (by decide) ?_
              refine WP.iload K at_239 rfl (pc' := 241) rfl ?_
              refine WP.iconst K at_241 (v := (2 : Int32)) rfl (pc' := 242) rfl ?_
              refine WP.icmpT K at_242 (by decide) (by decide) (pc' := 250) (by decide) ?_
              refine WP.iconst K at_250 (v := (-1 : Int32)) rfl (pc' := 251) rfl ?_
              refine WP.callS K (argsL := [(.ref mp), (.int (1 : Int32)), (.int ia), (.int p4), (.int (-1 : Int32))]) (S := []) (w_61 hw) (w_62 hw) (rm_holdsA w l Z a0 hw (fset F2 (3 * 1 + 1) p4) mp nw kN (1 : Int32) ia p4 (-1 : Int32) 1 _ _ _ _ _ _ h165 n0 Z0 O_mp A_nw rfl (by decide) ((fset_ne _ _ (by omega)).trans fa0) (fset_same _ _ _) ((fset_ne _ _ (by omega)).trans fa2)) (w_64 hw) (w_63 hw) (by decide) rfl (lenOf pd_9 rfl) rfl (W := 0) rfl (by decide) (by decide) (k' := 3) (n' := 47) rfl rfl (by decide) (by decide) at_251 (pc' := 254) rfl fun v h166 hq => ?_
              obtain ⟨rfl, rfl⟩ := hq
              show WP κ h165 3 47 (mkF κ.m 254 #[.val (.int p0), .val (.int p1), .val (.int p2), .val (.int p3), .val (.int p4), .val (.int p5), .val (.int (if (p0 &&& (1 : Int32)) = (0 : Int32) then (0 : Int32) else (1 : Int32))), .val (.int (if (p0 &&& (2 : Int32)) = (0 : Int32) then (0 : Int32) else (1 : Int32))), .val (.int (1 : Int32)), .val (.int (0 : Int32)), .val (.int ia), .val (.int ib), .val (.int (1 : Int32)), .val (.int p4), .val (.ref mp), .val (.int (0 : Int32)), .val (.int (1 : Int32)), .val (.int (1 : Int32)), .val (.int (0 : Int32)), .val (.int ia), .val (.int ib)] [(.int (1 : Int32))])
              refine WP.if0F K at_254 (by decide) (pc' := 257) rfl ?_
              refine WP.aload K at_257 rfl rfl (pc' := 259) rfl ?_
              refine WP.iload K at_259 rfl (pc' := 261) rfl ?_
              refine WP.iload K at_261 rfl (pc' := 263) rfl ?_
              refine WP.iconst K at_263 (v := (-1 : Int32)) rfl (pc' := 264) rfl ?_
              refine WP.iconst K at_264 (v := (-1 : Int32)) rfl (pc' := 265) rfl ?_
              refine WP.callS K (argsL := [(.ref mp), (.int (0 : Int32)), (.int ib), (.int (-1 : Int32)), (.int (-1 : Int32))]) (S := []) (w_61 hw) (w_62 hw) (rm_holdsA w l Z a0 hw (fset F2 (3 * 1 + 1) p4) mp nw kN (0 : Int32) ib (-1 : Int32) (-1 : Int32) 0 _ _ _ _ _ _ h165 n0 Z0 O_mp A_nw rfl (by decide) ((fset_ne _ _ (by omega)).trans fb0) ((fset_ne _ _ (by omega)).trans fb1) ((fset_ne _ _ (by omega)).trans fb2)) (w_64 hw) (w_63 hw) (by decide) rfl (lenOf pd_9 rfl) rfl (W := 0) rfl (by decide) (by decide) (k' := 3) (n' := 47) rfl rfl (by decide) (by decide) at_265 (pc' := 268) rfl fun v h167 hq => ?_
              obtain ⟨rfl, rfl⟩ := hq
              show WP κ h165 3 47 (mkF κ.m 268 #[.val (.int p0), .val (.int p1), .val (.int p2), .val (.int p3), .val (.int p4), .val (.int p5), .val (.int (if (p0 &&& (1 : Int32)) = (0 : Int32) then (0 : Int32) else (1 : Int32))), .val (.int (if (p0 &&& (2 : Int32)) = (0 : Int32) then (0 : Int32) else (1 : Int32))), .val (.int (1 : Int32)), .val (.int (0 : Int32)), .val (.int ia), .val (.int ib), .val (.int (1 : Int32)), .val (.int p4), .val (.ref mp), .val (.int (0 : Int32)), .val (.int (1 : Int32)), .val (.int (1 : Int32)), .val (.int (0 : Int32)), .val (.int ia), .val (.int ib)] [(.int (1 : Int32))])
              refine WP.if0F K at_268 (by decide) (pc' := 271) rfl ?_
              refine WP.iconst K at_271 (v := (1 : Int32)) rfl (pc' := 272) rfl ?_
              refine WP.goto K at_272 (by decide) (pc' := 276) (by decide) ?_
              exact WP.retN K (ty := .boolean) (by decide) at_276 (by decide) (by decide) rfl
            · refine WP.if0F K at_146 (by rw [if_neg cs]; decide) (pc' := 149) rfl ?_
              refine WP.iload K at_149 rfl (pc' := 151) rfl ?_
              refine WP.goto K at_151 (by decide) (pc' := 156) (by decide) ?_
              refine WP.istore K at_156 (L' := #[.val (.int p0), .val (.int p1), .val (.int p2), .val (.int p3), .val (.int p4), .val (.int p5), .val (.int (if (p0 &&& (1 : Int32)) = (0 : Int32) then (0 : Int32) else (1 : Int32))), .val (.int (if (p0 &&& (2 : Int32)) = (0 : Int32) then (0 : Int32) else (1 : Int32))), .val (.int (1 : Int32)), .val (.int (0 : Int32)), .val (.int ia), .val (.int ib), .val (.int (1 : Int32)), .val (.int p4), .val (.ref mp), .val (.int (0 : Int32)), .val (.int (1 : Int32)), .val (.int (0 : Int32)), .unset, .unset, .unset]) rfl (pc' := 158) rfl ?_
              refine WP.iload K at_158 rfl (pc' := 160) rfl ?_
              refine WP.if0F K at_160 (by rw [if_neg cs]; decide) (pc' := 163) rfl ?_
              refine WP.iload K at_163 rfl (pc' := 165) rfl ?_
              refine WP.goto K at_165 (by decide) (pc' := 170) (by decide) ?_
              refine WP.istore K at_170 (L' := #[.val (.int p0), .val (.int p1), .val (.int p2), .val (.int p3), .val (.int p4), .val (.int p5), .val (.int (if (p0 &&& (1 : Int32)) = (0 : Int32) then (0 : Int32) else (1 : Int32))), .val (.int (if (p0 &&& (2 : Int32)) = (0 : Int32) then (0 : Int32) else (1 : Int32))), .val (.int (1 : Int32)), .val (.int (0 : Int32)), .val (.int ia), .val (.int ib), .val (.int (1 : Int32)), .val (.int p4), .val (.ref mp), .val (.int (0 : Int32)), .val (.int (1 : Int32)), .val (.int (0 : Int32)), .val (.int (1 : Int32)), .unset, .unset]) rfl (pc' := 172) rfl ?_
              refine WP.iload K at_172 rfl (pc' := 174) rfl ?_
              refine WP.if0F K at_174 (by rw [if_neg cs]; decide) (pc' := 177) rfl ?_
              refine WP.iload K at_177 rfl (pc' := 179) rfl ?_
              refine WP.goto K at_179 (by decide) (pc' := 184) (by decide) ?_
              refine WP.istore K at_184 (L' := #[.val (.int p0), .val (.int p1), .val (.int p2), .val (.int p3), .val (.int p4), .val (.int p5), .val (.int (if (p0 &&& (1 : Int32)) = (0 : Int32) then (0 : Int32) else (1 : Int32))), .val (.int (if (p0 &&& (2 : Int32)) = (0 : Int32) then (0 : Int32) else (1 : Int32))), .val (.int (1 : Int32)), .val (.int (0 : Int32)), .val (.int ia), .val (.int ib), .val (.int (1 : Int32)), .val (.int p4), .val (.ref mp), .val (.int (0 : Int32)), .val (.int (1 : Int32)), .val (.int (0 : Int32)), .val (.int (1 : Int32)), .val (.int ib), .unset]) rfl (pc' := 186) rfl ?_
              refine WP.iload K at_186 rfl (pc' := 188) rfl ?_
              refine WP.if0F K at_188 (by rw [if_neg cs]; decide) (pc' := 191) rfl ?_
              refine WP.iload K at_191 rfl (pc' := 193) rfl ?_
              refine WP.goto K at_193 (by decide) (pc' := 198) (by decide) ?_
              refine WP.istore K at_198 (L' := #[.val (.int p0), .val (.int p1), .val (.int p2), .val (.int p3), .val (.int p4), .val (.int p5), .val (.int (if (p0 &&& (1 : Int32)) = (0 : Int32) then (0 : Int32) else (1 : Int32))), .val (.int (if (p0 &&& (2 : Int32)) = (0 : Int32) then (0 : Int32) else (1 : Int32))), .val (.int (1 : Int32)), .val (.int (0 : Int32)), .val (.int ia), .val (.int ib), .val (.int (1 : Int32)), .val (.int p4), .val (.ref mp), .val (.int (0 : Int32)), .val (.int (1 : Int32)), .val (.int (0 : Int32)), .val (.int (1 : Int32)), .val (.int ib), .val (.int ia)]) rfl (pc' := 200) rfl ?_
              refine WP.aload K at_200 rfl rfl (pc' := 202) rfl ?_
              refine WP.iload K at_202 rfl (pc' := 204) rfl ?_
              refine WP.iload K at_204 rfl (pc' := 206) rfl ?_
              refine WP.iload K at_206 rfl (pc' := 208) rfl ?_
              refine WP.callV K (a := mp) (argsL := [(.int (0 : Int32)), (.int (1 : Int32)), (.int p4)]) (S := []) (w_56 hw) (w_57 hw) (fun vm0 hZ => notFace_of_selects (args := #[]) (mvT (s := κ.s.setVm vm0) hZ (w_59 hw))) (w_59 hw) (w_58 hw) (by decide) (IsMap.exa O_mp) (rm_setA1 w l Z a0 hw F2 mp nw kN (0 : Int32) p4 0 _ _ _ _ _ _ h163 n0 Z0 O_mp A_nw rfl (by decide) old_nw) (w_60 hw) (w_4 hw) (by decide) rfl (lenOf pd_2 rfl) rfl (W := 0) rfl (by decide) (by decide) (k' := 3) (n' := 47) rfl rfl (by decide) (by decide) at_208 (pc' := 211) rfl fun v h168 hq => ?_
              obtain ⟨rfl, K9, O_mp, A_nw⟩ := hq
              have Z0 := Nat.le_trans Z0 K9.1
              show WP κ h168 3 47 (mkF κ.m 211 #[.val (.int p0), .val (.int p1), .val (.int p2), .val (.int p3), .val (.int p4), .val (.int p5), .val (.int (if (p0 &&& (1 : Int32)) = (0 : Int32) then (0 : Int32) else (1 : Int32))), .val (.int (if (p0 &&& (2 : Int32)) = (0 : Int32) then (0 : Int32) else (1 : Int32))), .val (.int (1 : Int32)), .val (.int (0 : Int32)), .val (.int ia), .val (.int ib), .val (.int (1 : Int32)), .val (.int p4), .val (.ref mp), .val (.int (0 : Int32)), .val (.int (1 : Int32)), .val (.int (0 : Int32)), .val (.int (1 : Int32)), .val (.int ib), .val (.int ia)] [])
              refine WP.aload K at_211 rfl rfl (pc' := 213) rfl ?_
              refine WP.iload K at_213 rfl (pc' := 215) rfl ?_
              refine WP.iload K at_215 rfl (pc' := 217) rfl ?_
              refine WP.if0T K at_217 (by decide) (by decide) (pc' := 225) (by decide) ?_
              refine WP.iload K at_225 rfl (pc' := 227) rfl ?_
              refine WP.iload K at_227 rfl (pc' := 229) rfl ?_
              refine WP.iconst K at_229 (v := (1 : Int32)) rfl (pc' := 230) rfl ?_
              refine WP.icmpF K at_230 (by decide) (pc' := 233) rfl ?_
              refine WP.iload K at_233 rfl (pc' := 235) rfl ?_
              refine WP.goto K at_235 (by decide) (pc' := 239) (by decide) ?_
              refine WP.iload K at_239 rfl (pc' := 241) rfl ?_
              refine WP.iconst K at_241 (v := (2 : Int32)) rfl (pc' := 242) rfl ?_
              refine WP.icmpT K at_242 (by decide) (by decide) (pc' := 250) (by decide) ?_
              refine WP.iconst K at_250 (v := (-1 : Int32)) rfl (pc' := 251) rfl ?_
              refine WP.callS K (argsL := [(.ref mp), (.int (0 : Int32)), (.int ib), (.int p4), (.int (-1 : Int32))]) (S := []) (w_61 hw) (w_62 hw) (rm_holdsA w l Z a0 hw (fset F2 (3 * 0 + 1) p4) mp nw kN (0 : Int32) ib p4 (-1 : Int32) 0 _ _ _ _ _ _ h168 n0 Z0 O_mp A_nw rfl (by decide) ((fset_ne _ _ (by omega)).trans fb0) (fset_same _ _ _) ((fset_ne _ _ (by omega)).trans fb2)) (w_64 hw) (w_63 hw) (by decide) rfl (lenOf pd_9 rfl) rfl (W := 0) rfl (by decide) (by decide) (k' := 3) (n' := 47) rfl rfl (by decide) (by decide) at_251 (pc' := 254) rfl fun v h169 hq => ?_
              obtain ⟨rfl, rfl⟩ := hq
              show WP κ h168 3 47 (mkF κ.m 254 #[.val (.int p0), .val (.int p1), .val (.int p2), .val (.int p3), .val (.int p4), .val (.int p5), .val (.int (if (p0 &&& (1 : Int32)) = (0 : Int32) then (0 : Int32) else (1 : Int32))), .val (.int (if (p0 &&& (2 : Int32)) = (0 : Int32) then (0 : Int32) else (1 : Int32))), .val (.int (1 : Int32)), .val (.int (0 : Int32)), .val (.int ia), .val (.int ib), .val (.int (1 : Int32)), .val (.int p4), .val (.ref mp), .val (.int (0 : Int32)), .val (.int (1 : Int32)), .val (.int (0 : Int32)), .val (.int (1 : Int32)), .val (.int ib), .val (.int ia)] [(.int (1 : Int32))])
              refine WP.if0F K at_254 (by decide) (pc' := 257) rfl ?_
              refine WP.aload K at_257 rfl rfl (pc' := 259) rfl ?_
              refine WP.iload K at_259 rfl (pc' := 261) rfl ?_
              refine WP.iload K at_261 rfl (pc' := 263) rfl ?_
              refine WP.iconst K at_263 (v := (-1 : Int32)) rfl (pc' := 264) rfl ?_
              refine WP.iconst K at_264 (v := (-1 : Int32)) rfl (pc' := 265) rfl ?_
              refine WP.callS K (argsL := [(.ref mp), (.int (1 : Int32)), (.int ia), (.int (-1 : Int32)), (.int (-1 : Int32))]) (S := []) (w_61 hw) (w_62 hw) (rm_holdsA w l Z a0 hw (fset F2 (3 * 0 + 1) p4) mp nw kN (1 : Int32) ia (-1 : Int32) (-1 : Int32) 1 _ _ _ _ _ _ h168 n0 Z0 O_mp A_nw rfl (by decide) ((fset_ne _ _ (by omega)).trans fa0) ((fset_ne _ _ (by omega)).trans fa1) ((fset_ne _ _ (by omega)).trans fa2)) (w_64 hw) (w_63 hw) (by decide) rfl (lenOf pd_9 rfl) rfl (W := 0) rfl (by decide) (by decide) (k' := 3) (n' := 47) rfl rfl (by decide) (by decide) at_265 (pc' := 268) rfl fun v h170 hq => ?_
              obtain ⟨rfl, rfl⟩ := hq
              show WP κ h168 3 47 (mkF κ.m 268 #[.val (.int p0), .val (.int p1), .val (.int p2), .val (.int p3), .val (.int p4), .val (.int p5), .val (.int (if (p0 &&& (1 : Int32)) = (0 : Int32) then (0 : Int32) else (1 : Int32))), .val (.int (if (p0 &&& (2 : Int32)) = (0 : Int32) then (0 : Int32) else (1 : Int32))), .val (.int (1 : Int32)), .val (.int (0 : Int32)), .val (.int ia), .val (.int ib), .val (.int (1 : Int32)), .val (.int p4), .val (.ref mp), .val (.int (0 : Int32)), .val (.int (1 : Int32)), .val (.int (0 : Int32)), .val (.int (1 : Int32)), .val (.int ib), .val (.int ia)] [(.int (1 : Int32))])
              refine WP.if0F K at_268 (by decide) (pc' := 271) rfl ?_
              refine WP.iconst K at_271 (v := (1 : Int32)) rfl (pc' := 272) rfl ?_
              refine WP.goto K at_272 (by decide) (pc' := 276) (by decide) ?_
              exact WP.retN K (ty := .boolean) (by decide) at_276 (by decide) (by decide) rfl
          · show WP κ h0 0 0 (mkF κ.m 87 #[.val (.int p0), .val (.int p1), .val (.int p2), .val (.int p3), .val (.int p4), .val (.int p5), .val (.int (if (p0 &&& (1 : Int32)) = (0 : Int32) then (0 : Int32) else (1 : Int32))), .val (.int (if (p0 &&& (2 : Int32)) = (0 : Int32) then (0 : Int32) else (1 : Int32))), .val (.int (1 : Int32)), .val (.int (0 : Int32)), .val (.int ia), .val (.int ib), .val (.int (2 : Int32)), .unset, .unset, .unset, .unset, .unset, .unset, .unset, .unset] [])
            refine WP.iload K at_87 rfl (pc' := 89) rfl ?_
            refine WP.if0T K at_89 (by decide) (by decide) (pc' := 100) (by decide) ?_
            refine WP.iload K at_100 rfl (pc' := 102) rfl ?_
            refine WP.istore K at_102 (L' := #[.val (.int p0), .val (.int p1), .val (.int p2), .val (.int p3), .val (.int p4), .val (.int p5), .val (.int (if (p0 &&& (1 : Int32)) = (0 : Int32) then (0 : Int32) else (1 : Int32))), .val (.int (if (p0 &&& (2 : Int32)) = (0 : Int32) then (0 : Int32) else (1 : Int32))), .val (.int (1 : Int32)), .val (.int (0 : Int32)), .val (.int ia), .val (.int ib), .val (.int (2 : Int32)), .val (.int p4), .unset, .unset, .unset, .unset, .unset, .unset, .unset]) rfl (pc' := 104) rfl ?_
            refine WP.new K (w_2 hw) (w_3 hw) (w_4 hw) at_104 (k' := 1) (n' := 9) rfl rfl (by decide) (by decide) (pc' := 107) rfl fun h171 mp g171 E171 X171 D171 => ?_
            have old_mp : n0 ≤ mp := by have q_ := Z0; omega
            have Z0 := Nat.le_trans Z0 E171.1
            have O_mp : IsMap Z h171 mp (.int (0 : Int32)) (.int (0 : Int32)) .null (.int (0 : Int32)) .null (.int (0 : Int32)) .null (.int (0 : Int32)) (.int (0 : Int32)) := ⟨X171, D171 (O := "com/example/weir/weir/engine/IntIntMap") (f := "width") (d := "I") (Or.inr (w_12 hw)) (ty := .int) (by decide), D171 (O := "com/example/weir/weir/engine/IntIntMap") (f := "stride") (d := "I") (Or.inr (w_14 hw)) (ty := .int) (by decide), D171 (O := "com/example/weir/weir/engine/IntIntMap") (f := "entries") (d := "[I") (Or.inl (w_21 hw)) (ty := (.array .int)) (by decide), D171 (O := "com/example/weir/weir/engine/IntIntMap") (f := "slots") (d := "I") (Or.inl (w_23 hw)) (ty := .int) (by decide), D171 (O := "com/example/weir/weir/engine/IntIntMap") (f := "objects") (d := "[Ljava/lang/Object;") (Or.inl (w_25 hw)) (ty := (.array (.object "java/lang/Object"))) (by decide), D171 (O := "com/example/weir/weir/engine/IntIntMap") (f := "greatestKey") (d := "I") (Or.inl (w_27 hw)) (ty := .int) (by decide), D171 (O := "com/example/weir/weir/engine/IntIntMap") (f := "values") (d := "[I") (Or.inl (w_34 hw)) (ty := (.array .int)) (by decide), D171 (O := "com/example/weir/weir/engine/IntIntMap") (f := "size") (d := "I") (Or.inl (w_36 hw)) (ty := .int) (by decide), D171 (O := "com/example/weir/weir/engine/IntIntMap") (f := "keys") (d := "I") (Or.inl (w_46 hw)) (ty := .int) (by decide)⟩
            refine WP.dup K at_107 rfl (pc' := 108) rfl ?_
            refine WP.iconst K at_108 (v := (3 : Int32)) rfl (pc' := 109) rfl ?_
            refine WP.callI K (a := mp) (argsL := [(.int (3 : Int32))]) (S := [(.ref mp)]) rfl (w_5 hw) (w_6 hw) (rm_minit w l Z a0 hw mp _ _ _ _ _ _ _ _ _ h171 n0 Z0 O_mp old_mp) (w_7 hw) (w_4 hw) (by decide) rfl (lenOf pd_8 rfl) rfl (W := 1) rfl (by decide) (by decide) (k' := 2) (n' := 41) rfl rfl (by decide) (by decide) at_109 (pc' := 112) rfl fun v h172 hq => ?_
            obtain ⟨rfl, K0, en, kE, s_en, O_mp, A_en⟩ := hq
            have Z0 := Nat.le_trans Z0 K0.1
            show WP κ h172 2 41 (mkF κ.m 112 #[.val (.int p0), .val (.int p1), .val (.int p2), .val (.int p3), .val (.int p4), .val (.int p5), .val (.int (if (p0 &&& (1 : Int32)) = (0 : Int32) then (0 : Int32) else (1 : Int32))), .val (.int (if (p0 &&& (2 : Int32)) = (0 : Int32) then (0 : Int32) else (1 : Int32))), .val (.int (1 : Int32)), .val (.int (0 : Int32)), .val (.int ia), .val (.int ib), .val (.int (2 : Int32)), .val (.int p4), .unset, .unset, .unset, .unset, .unset, .unset, .unset] [(.ref mp)])
            have old_en : n0 ≤ en := by omega
            refine WP.astore K at_112 rfl (L' := #[.val (.int p0), .val (.int p1), .val (.int p2), .val (.int p3), .val (.int p4), .val (.int p5), .val (.int (if (p0 &&& (1 : Int32)) = (0 : Int32) then (0 : Int32) else (1 : Int32))), .val (.int (if (p0 &&& (2 : Int32)) = (0 : Int32) then (0 : Int32) else (1 : Int32))), .val (.int (1 : Int32)), .val (.int (0 : Int32)), .val (.int ia), .val (.int ib), .val (.int (2 : Int32)), .val (.int p4), .val (.ref mp), .unset, .unset, .unset, .unset, .unset, .unset]) rfl (pc' := 114) rfl ?_
            refine WP.aload K at_114 rfl rfl (pc' := 116) rfl ?_
            refine WP.iload K at_116 rfl (pc' := 118) rfl ?_
            refine WP.iload K at_118 rfl (pc' := 120) rfl ?_
            have nq_en_mp : en ≠ mp := (Ne.symm (Ary.ne (IsMap.exa O_mp) A_en (w_3 hw)))
            refine WP.callV K (a := mp) (argsL := [(.int (1 : Int32)), (.int ia)]) (S := []) (w_28 hw) (w_29 hw) (fun vm0 hZ => notFace_of_selects (args := #[]) (mvT (s := κ.s.setVm vm0) hZ (w_31 hw))) (w_31 hw) (w_30 hw) (by decide) (IsMap.exa O_mp) (rm_addA1_1 w l Z a0 hw mp en kE ia _ h172 n0 Z0 O_mp A_en old_mp) (w_32 hw) (w_4 hw) (by decide) rfl (lenOf pd_3 rfl) rfl (W := 0) rfl (by decide) (by decide) (k' := 3) (n' := 47) rfl rfl (by decide) (by decide) at_120 (pc' := 123) rfl fun v h173 hq => ?_
            obtain ⟨rfl, K1, va, kV, s_va, O_mp, A_va⟩ := hq
            have A_en := Ary.keep K1 A_en (ninS nq_en_mp nin0)
            have Z0 := Nat.le_trans Z0 K1.1
            show WP κ h173 3 47 (mkF κ.m 123 #[.val (.int p0), .val (.int p1), .val (.int p2), .val (.int p3), .val (.int p4), .val (.int p5), .val (.int (if (p0 &&& (1 : Int32)) = (0 : Int32) then (0 : Int32) else (1 : Int32))), .val (.int (if (p0 &&& (2 : Int32)) = (0 : Int32) then (0 : Int32) else (1 : Int32))), .val (.int (1 : Int32)), .val (.int (0 : Int32)), .val (.int ia), .val (.int ib), .val (.int (2 : Int32)), .val (.int p4), .val (.ref mp), .unset, .unset, .unset, .unset, .unset, .unset] [(.int (1 : Int32))])
            have old_va : n0 ≤ va := by omega
            refine WP.pop K at_123 rfl (pc' := 124) rfl ?_
            refine WP.aload K at_124 rfl rfl (pc' := 126) rfl ?_
            refine WP.iload K at_126 rfl (pc' := 128) rfl ?_
            refine WP.iload K at_128 rfl (pc' := 130) rfl ?_
            refine WP.callV K (a := mp) (argsL := [(.int (0 : Int32)), (.int ib)]) (S := []) (w_28 hw) (w_29 hw) (fun vm0 hZ => notFace_of_selects (args := #[]) (mvT (s := κ.s.setVm vm0) hZ (w_31 hw))) (w_31 hw) (w_30 hw) (by decide) (IsMap.exa O_mp) (rm_addA2_1 w l Z a0 hw (fset (own_fill (fun _ => (0 : Int32)) 0 6 (-1)) 3 ia) mp va kV ib _ _ _ h173 n0 Z0 O_mp A_va old_mp old_va) (w_32 hw) (w_4 hw) (by decide) rfl (lenOf pd_3 rfl) rfl (W := 0) rfl (by decide) (by decide) (k' := 3) (n' := 47) rfl rfl (by decide) (by decide) at_130 (pc' := 133) rfl fun v h174 hq => ?_
            obtain ⟨rfl, nw, kN, old_nw, Z9, K2, O_mp, A_nw⟩ := hq
            have Z0 := Nat.le_trans Z0 K2.1
            show WP κ h174 3 47 (mkF κ.m 133 #[.val (.int p0), .val (.int p1), .val (.int p2), .val (.int p3), .val (.int p4), .val (.int p5), .val (.int (if (p0 &&& (1 : Int32)) = (0 : Int32) then (0 : Int32) else (1 : Int32))), .val (.int (if (p0 &&& (2 : Int32)) = (0 : Int32) then (0 : Int32) else (1 : Int32))), .val (.int (1 : Int32)), .val (.int (0 : Int32)), .val (.int ia), .val (.int ib), .val (.int (2 : Int32)), .val (.int p4), .val (.ref mp), .unset, .unset, .unset, .unset, .unset, .unset] [(.int (0 : Int32))])
            obtain ⟨F2, hF2⟩ : ∃ F2, F2 = (fset (fset (own_fill (fun _ => (0 : Int32)) 0 6 (-1)) 3 ia) 0 ib) := ⟨_, rfl⟩
            rw [← hF2] at A_nw
            have fa0 : F2 (3 * 1 + 0) = ia := by rw [hF2]; rfl
            have fb0 : F2 (3 * 0 + 0) = ib := by rw [hF2]; rfl
            have fa1 : F2 (3 * 1 + 1) = (-1 : Int32) := by rw [hF2]; rfl
            have fb1 : F2 (3 * 0 + 1) = (-1 : Int32) := by rw [hF2]; rfl
            have fa2 : F2 (3 * 1 + 2) = (-1 : Int32) := by rw [hF2]; rfl
            have fb2 : F2 (3 * 0 + 2) = (-1 : Int32) := by rw [hF2]; rfl
            refine WP.istore K at_133 (L' := #[.val (.int p0), .val (.int p1), .val (.int p2), .val (.int p3), .val (.int p4), .val (.int p5), .val (.int (if (p0 &&& (1 : Int32)) = (0 : Int32) then (0 : Int32) else (1 : Int32))), .val (.int (if (p0 &&& (2 : Int32)) = (0 : Int32) then (0 : Int32) else (1 : Int32))), .val (.int (1 : Int32)), .val (.int (0 : Int32)), .val (.int ia), .val (.int ib), .val (.int (2 : Int32)), .val (.int p4), .val (.ref mp), .val (.int (0 : Int32)), .unset, .unset, .unset, .unset, .unset]) rfl (pc' := 135) rfl ?_
            refine WP.aload K at_135 rfl rfl (pc' := 137) rfl ?_
            refine WP.iload K at_137 rfl (pc' := 139) rfl ?_
            refine WP.callV K (a := mp) (argsL := [(.int (1 : Int32))]) (S := []) (w_51 hw) (w_52 hw) (fun vm0 hZ => notFace_of_selects (args := #[]) (mvT (s := κ.s.setVm vm0) hZ (w_54 hw))) (w_54 hw) (w_53 hw) (by decide) (IsMap.exa O_mp) (rm_placeA1 w l Z a0 hw F2 mp nw kN _ _ _ _ _ h174 n0 Z0 O_mp A_nw (by rw [show F2 3 = ia from fa0]; exact hia)) (w_55 hw) (w_4 hw) (by decide) rfl (lenOf pd_4 rfl) rfl (W := 0) rfl (by decide) (by decide) (k' := 3) (n' := 47) rfl rfl (by decide) (by decide) at_139 (pc' := 142) rfl fun v h175 hq => ?_
            obtain ⟨rfl, rfl⟩ := hq
            show WP κ h174 3 47 (mkF κ.m 142 #[.val (.int p0), .val (.int p1), .val (.int p2), .val (.int p3), .val (.int p4), .val (.int p5), .val (.int (if (p0 &&& (1 : Int32)) = (0 : Int32) then (0 : Int32) else (1 : Int32))), .val (.int (if (p0 &&& (2 : Int32)) = (0 : Int32) then (0 : Int32) else (1 : Int32))), .val (.int (1 : Int32)), .val (.int (0 : Int32)), .val (.int ia), .val (.int ib), .val (.int (2 : Int32)), .val (.int p4), .val (.ref mp), .val (.int (0 : Int32)), .unset, .unset, .unset, .unset, .unset] [(.int (1 : Int32))])
            refine WP.istore K at_142 (L' := #[.val (.int p0), .val (.int p1), .val (.int p2), .val (.int p3), .val (.int p4), .val (.int p5), .val (.int (if (p0 &&& (1 : Int32)) = (0 : Int32) then (0 : Int32) else (1 : Int32))), .val (.int (if (p0 &&& (2 : Int32)) = (0 : Int32) then (0 : Int32) else (1 : Int32))), .val (.int (1 : Int32)), .val (.int (0 : Int32)), .val (.int ia), .val (.int ib), .val (.int (2 : Int32)), .val (.int p4), .val (.ref mp), .val (.int (0 : Int32)), .val (.int (1 : Int32)), .unset, .unset, .unset, .unset]) rfl (pc' := 144) rfl ?_
            refine WP.iload K at_144 rfl (pc' := 146) rfl ?_
            by_cases cs : (p0 &&& (2 : Int32)) = (0 : Int32)
            · refine WP.if0T K at_146 (by rw [if_pos cs]; decide) (by decide) (pc' := 154) (by decide) ?_
              refine WP.iload K at_154 rfl (pc' := 156) rfl ?_
              refine WP.istore K at_156 (L' := #[.val (.int p0), .val (.int p1), .val (.int p2), .val (.int p3), .val (.int p4), .val (.int p5), .val (.int (if (p0 &&& (1 : Int32)) = (0 : Int32) then (0 : Int32) else (1 : Int32))), .val (.int (if (p0 &&& (2 : Int32)) = (0 : Int32) then (0 : Int32) else (1 : Int32))), .val (.int (1 : Int32)), .val (.int (0 : Int32)), .val (.int ia), .val (.int ib), .val (.int (2 : Int32)), .val (.int p4), .val (.ref mp), .val (.int (0 : Int32)), .val (.int (1 : Int32)), .val (.int (1 : Int32)), .unset, .unset, .unset]) rfl (pc' := 158) rfl ?_
              refine WP.iload K at_158 rfl (pc' := 160) rfl ?_
              refine WP.if0T K at_160 (by rw [if_pos cs]; decide) (by decide) (pc' := 168) (by decide) ?_
              refine WP.iload K at_168 rfl (pc' := 170) rfl ?_
              refine WP.istore K at_170 (L' := #[.val (.int p0), .val (.int p1), .val (.int p2), .val (.int p3), .val (.int p4), .val (.int p5), .val (.int (if (p0 &&& (1 : Int32)) = (0 : Int32) then (0 : Int32) else (1 : Int32))), .val (.int (if (p0 &&& (2 : Int32)) = (0 : Int32) then (0 : Int32) else (1 : Int32))), .val (.int (1 : Int32)), .val (.int (0 : Int32)), .val (.int ia), .val (.int ib), .val (.int (2 : Int32)), .val (.int p4), .val (.ref mp), .val (.int (0 : Int32)), .val (.int (1 : Int32)), .val (.int (1 : Int32)), .val (.int (0 : Int32)), .unset, .unset]) rfl (pc' := 172) rfl ?_
              refine WP.iload K at_172 rfl (pc' := 174) rfl ?_
              refine WP.if0T K at_174 (by rw [if_pos cs]; decide) (by decide) (pc' := 182) (by decide) ?_
              refine WP.iload K at_182 rfl (pc' := 184) rfl ?_
              refine WP.istore K at_184 (L' := #[.val (.int p0), .val (.int p1), .val (.int p2), .val (.int p3), .val (.int p4), .val (.int p5), .val (.int (if (p0 &&& (1 : Int32)) = (0 : Int32) then (0 : Int32) else (1 : Int32))), .val (.int (if (p0 &&& (2 : Int32)) = (0 : Int32) then (0 : Int32) else (1 : Int32))), .val (.int (1 : Int32)), .val (.int (0 : Int32)), .val (.int ia), .val (.int ib), .val (.int (2 : Int32)), .val (.int p4), .val (.ref mp), .val (.int (0 : Int32)), .val (.int (1 : Int32)), .val (.int (1 : Int32)), .val (.int (0 : Int32)), .val (.int ia), .unset]) rfl (pc' := 186) rfl ?_
              refine WP.iload K at_186 rfl (pc' := 188) rfl ?_
              refine WP.if0T K at_188 (by rw [if_pos cs]; decide) (by decide) (pc' := 196) (by decide) ?_
              refine WP.iload K at_196 rfl (pc' := 198) rfl ?_
              refine WP.istore K at_198 (L' := #[.val (.int p0), .val (.int p1), .val (.int p2), .val (.int p3), .val (.int p4), .val (.int p5), .val (.int (if (p0 &&& (1 : Int32)) = (0 : Int32) then (0 : Int32) else (1 : Int32))), .val (.int (if (p0 &&& (2 : Int32)) = (0 : Int32) then (0 : Int32) else (1 : Int32))), .val (.int (1 : Int32)), .val (.int (0 : Int32)), .val (.int ia), .val (.int ib), .val (.int (2 : Int32)), .val (.int p4), .val (.ref mp), .val (.int (0 : Int32)), .val (.int (1 : Int32)), .val (.int (1 : Int32)), .val (.int (0 : Int32)), .val (.int ia), .val (.int ib)]) rfl (pc' := 200) rfl ?_
              refine WP.aload K at_200 rfl rfl (pc' := 202) rfl ?_
              refine WP.iload K at_202 rfl (pc' := 204) rfl ?_
              refine WP.iload K at_204 rfl (pc' := 206) rfl ?_
              refine WP.iload K at_206 rfl (pc' := 208) rfl ?_
              refine WP.callV K (a := mp) (argsL := [(.int (1 : Int32)), (.int (2 : Int32)), (.int p4)]) (S := []) (w_56 hw) (w_57 hw) (fun vm0 hZ => notFace_of_selects (args := #[]) (mvT (s := κ.s.setVm vm0) hZ (w_59 hw))) (w_59 hw) (w_58 hw) (by decide) (IsMap.exa O_mp) (rm_setA2 w l Z a0 hw F2 mp nw kN (1 : Int32) p4 1 _ _ _ _ _ _ h174 n0 Z0 O_mp A_nw rfl (by decide) old_nw) (w_60 hw) (w_4 hw) (by decide) rfl (lenOf pd_2 rfl) rfl (W := 0) rfl (by decide) (by decide) (k' := 3) (n' := 47) rfl rfl (by decide) (by decide) at_208 (pc' := 211) rfl fun v h176 hq => ?_
              obtain ⟨rfl, K9, O_mp, A_nw⟩ := hq
              have Z0 := Nat.le_trans Z0 K9.1
              show WP κ h176 3 47 (mkF κ.m 211 #[.val (.int p0), .val (.int p1), .val (.int p2), .val (.int p3), .val (.int p4), .val (.int p5), .val (.int (if (p0 &&& (1 : Int32)) = (0 : Int32) then (0 : Int32) else (1 : Int32))), .val (.int (if (p0 &&& (2 : Int32)) = (0 : Int32) then (0 : Int32) else (1 : Int32))), .val (.int (1 : Int32)), .val (.int (0 : Int32)), .val (.int ia), .val (.int ib), .val (.int (2 : Int32)), .val (.int p4), .val (.ref mp), .val (.int (0 : Int32)), .val (.int (1 : Int32)), .val (.int (1 : Int32)), .val (.int (0 : Int32)), .val (.int ia), .val (.int ib)] [])
              refine WP.aload K at_211 rfl rfl (pc' := 213) rfl ?_
              refine WP.iload K at_213 rfl (pc' := 215) rfl ?_
              refine WP.iload K at_215 rfl (pc' := 217) rfl ?_
              refine WP.if0T K at_217 (by decide) (by decide) (pc' := 225) (by decide) ?_
              refine WP.iload K at_225 rfl (pc' := 227) rfl ?_
              refine WP.iload K at_227 rfl (pc' := 229) rfl ?_
              refine WP.iconst K at_229 (v := (1 : Int32)) rfl (pc' := 230) rfl ?_
              refine WP.icmpT K at_230 (by decide) (by decide) (pc' := 238) (by decide) ?_
              refine WP.iconst K at_238 (v := (-1 : Int32)) rfl (pc' := 239) rfl ?_
              refine WP.iload K at_239 rfl (pc' := 241) rfl ?_
              refine WP.iconst K at_241 (v := (2 : Int32)) rfl (pc' := 242) rfl ?_
              refine WP.icmpF K at_242 (by decide) (pc' := 245) rfl ?_
              refine WP.iload K at_245 rfl (pc' := 247) rfl ?_
              refine WP.goto K at_247 (by decide) (pc' := 251) (by decide) ?_
              refine WP.callS K (argsL := [(.ref mp), (.int (1 : Int32)), (.int ia), (.int (-1 : Int32)), (.int p4)]) (S := []) (w_61 hw) (w_62 hw) (rm_holdsA w l Z a0 hw (fset F2 (3 * 1 + 2) p4) mp nw kN (1 : Int32) ia (-1 : Int32) p4 1 _ _ _ _ _ _ h176 n0 Z0 O_mp A_nw rfl (by decide) ((fset_ne _ _ (by omega)).trans fa0) ((fset_ne _ _ (by omega)).trans fa1) (fset_same _ _ _)) (w_64 hw) (w_63 hw) (by decide) rfl (lenOf pd_9 rfl) rfl (W := 0) rfl (by decide) (by decide) (k' := 3) (n' := 47) rfl rfl (by decide) (by decide) at_251 (pc' := 254) rfl fun v h177 hq => ?_
              obtain ⟨rfl, rfl⟩ := hq
              show WP κ h176 3 47 (mkF κ.m 254 #[.val (.int p0), .val (.int p1), .val (.int p2), .val (.int p3), .val (.int p4), .val (.int p5), .val (.int (if (p0 &&& (1 : Int32)) = (0 : Int32) then (0 : Int32) else (1 : Int32))), .val (.int (if (p0 &&& (2 : Int32)) = (0 : Int32) then (0 : Int32) else (1 : Int32))), .val (.int (1 : Int32)), .val (.int (0 : Int32)), .val (.int ia), .val (.int ib), .val (.int (2 : Int32)), .val (.int p4), .val (.ref mp), .val (.int (0 : Int32)), .val (.int (1 : Int32)), .val (.int (1 : Int32)), .val (.int (0 : Int32)), .val (.int ia), .val (.int ib)] [(.int (1 : Int32))])
              refine WP.if0F K at_254 (by decide) (pc' := 257) rfl ?_
              refine WP.aload K at_257 rfl rfl (pc' := 259) rfl ?_
              refine WP.iload K at_259 rfl (pc' := 261) rfl ?_
              refine WP.iload K at_261 rfl (pc' := 263) rfl ?_
              refine WP.iconst K at_263 (v := (-1 : Int32)) rfl (pc' := 264) rfl ?_
              refine WP.iconst K at_264 (v := (-1 : Int32)) rfl (pc' := 265) rfl ?_
              refine WP.callS K (argsL := [(.ref mp), (.int (0 : Int32)), (.int ib), (.int (-1 : Int32)), (.int (-1 : Int32))]) (S := []) (w_61 hw) (w_62 hw) (rm_holdsA w l Z a0 hw (fset F2 (3 * 1 + 2) p4) mp nw kN (0 : Int32) ib (-1 : Int32) (-1 : Int32) 0 _ _ _ _ _ _ h176 n0 Z0 O_mp A_nw rfl (by decide) ((fset_ne _ _ (by omega)).trans fb0) ((fset_ne _ _ (by omega)).trans fb1) ((fset_ne _ _ (by omega)).trans fb2)) (w_64 hw) (w_63 hw) (by decide) rfl (lenOf pd_9 rfl) rfl (W := 0) rfl (by decide) (by decide) (k' := 3) (n' := 47) rfl rfl (by decide) (by decide) at_265 (pc' := 268) rfl fun v h178 hq => ?_
              obtain ⟨rfl, rfl⟩ := hq
              show WP κ h176 3 47 (mkF κ.m 268 #[.val (.int p0), .val (.int p1), .val (.int p2), .val (.int p3), .val (.int p4), .val (.int p5), .val (.int (if (p0 &&& (1 : Int32)) = (0 : Int32) then (0 : Int32) else (1 : Int32))), .val (.int (if (p0 &&& (2 : Int32)) = (0 : Int32) then (0 : Int32) else (1 : Int32))), .val (.int (1 : Int32)), .val (.int (0 : Int32)), .val (.int ia), .val (.int ib), .val (.int (2 : Int32)), .val (.int p4), .val (.ref mp), .val (.int (0 : Int32)), .val (.int (1 : Int32)), .val (.int (1 : Int32)), .val (.int (0 : Int32)), .val (.int ia), .val (.int ib)] [(.int (1 : Int32))])
              refine WP.if0F K at_268 (by decide) (pc' := 271) rfl ?_
              refine WP.iconst K at_271 (v := (1 : Int32)) rfl (pc' := 272) rfl ?_
              refine WP.goto K at_272 (by decide) (pc' := 276) (by decide) ?_
              exact WP.retN K (ty := .boolean) (by decide) at_276 (by decide) (by decide) rfl
            · refine WP.if0F K at_146 (by rw [if_neg cs]; decide) (pc' := 149) rfl ?_
              refine WP.iload K at_149 rfl (pc' := 151) rfl ?_
              refine WP.goto K at_151 (by decide) (pc' := 156) (by decide) ?_
              refine WP.istore K at_156 (L' := #[.val (.int p0), .val (.int p1), .val (.int p2), .val (.int p3), .val (.int p4), .val (.int p5), .val (.int (if (p0 &&& (1 : Int32)) = (0 : Int32) then (0 : Int32) else (1 : Int32))), .val (.int (if (p0 &&& (2 : Int32)) = (0 : Int32) then (0 : Int32) else (1 : Int32))), .val (.int (1 : Int32)), .val (.int (0 : Int32)), .val (.int ia), .val (.int ib), .val (.int (2 : Int32)), .val (.int p4), .val (.ref mp), .val (.int (0 : Int32)), .val (.int (1 : Int32)), .val (.int (0 : Int32)), .unset, .unset, .unset]) rfl (pc' := 158) rfl ?_
              refine WP.iload K at_158 rfl (pc' := 160) rfl ?_
              refine WP.if0F K at_160 (by rw [if_neg cs]; decide) (pc' := 163) rfl ?_
              refine WP.iload K at_163 rfl (pc' := 165) rfl ?_
              refine WP.goto K at_165 (by decide) (pc' := 170) (by decide) ?_
              refine WP.istore K at_170 (L' := #[.val (.int p0), .val (.int p1), .val (.int p2), .val (.int p3), .val (.int p4), .val (.int p5), .val (.int (if (p0 &&& (1 : Int32)) = (0 : Int32) then (0 : Int32) else (1 : Int32))), .val (.int (if (p0 &&& (2 : Int32)) = (0 : Int32) then (0 : Int32) else (1 : Int32))), .val (.int (1 : Int32)), .val (.int (0 : Int32)), .val (.int ia), .val (.int ib), .val (.int (2 : Int32)), .val (.int p4), .val (.ref mp), .val (.int (0 : Int32)), .val (.int (1 : Int32)), .val (.int (0 : Int32)), .val (.int (1 : Int32)), .unset, .unset]) rfl (pc' := 172) rfl ?_
              refine WP.iload K at_172 rfl (pc' := 174) rfl ?_
              refine WP.if0F K at_174 (by rw [if_neg cs]; decide) (pc' := 177) rfl ?_
              refine WP.iload K at_177 rfl (pc' := 179) rfl ?_
              refine WP.goto K at_179 (by decide) (pc' := 184) (by decide) ?_
              refine WP.istore K at_184 (L' := #[.val (.int p0), .val (.int p1), .val (.int p2), .val (.int p3), .val (.int p4), .val (.int p5), .val (.int (if (p0 &&& (1 : Int32)) = (0 : Int32) then (0 : Int32) else (1 : Int32))), .val (.int (if (p0 &&& (2 : Int32)) = (0 : Int32) then (0 : Int32) else (1 : Int32))), .val (.int (1 : Int32)), .val (.int (0 : Int32)), .val (.int ia), .val (.int ib), .val (.int (2 : Int32)), .val (.int p4), .val (.ref mp), .val (.int (0 : Int32)), .val (.int (1 : Int32)), .val (.int (0 : Int32)), .val (.int (1 : Int32)), .val (.int ib), .unset]) rfl (pc' := 186) rfl ?_
              refine WP.iload K at_186 rfl (pc' := 188) rfl ?_
              refine WP.if0F K at_188 (by rw [if_neg cs]; decide) (pc' := 191) rfl ?_
              refine WP.iload K at_191 rfl (pc' := 193) rfl ?_
              refine WP.goto K at_193 (by decide) (pc' := 198) (by decide) ?_
              refine WP.istore K at_198 (L' := #[.val (.int p0), .val (.int p1), .val (.int p2), .val (.int p3), .val (.int p4), .val (.int p5), .val (.int (if (p0 &&& (1 : Int32)) = (0 : Int32) then (0 : Int32) else (1 : Int32))), .val (.int (if (p0 &&& (2 : Int32)) = (0 : Int32) then (0 : Int32) else (1 : Int32))), .val (.int (1 : Int32)), .val (.int (0 : Int32)), .val (.int ia), .val (.int ib), .val (.int (2 : Int32)), .val (.int p4), .val (.ref mp), .val (.int (0 : Int32)), .val (.int (1 : Int32)), .val (.int (0 : Int32)), .val (.int (1 : Int32)), .val (.int ib), .val (.int ia)]) rfl (pc' := 200) rfl ?_
              refine WP.aload K at_200 rfl rfl (pc' := 202) rfl ?_
              refine WP.iload K at_202 rfl (pc' := 204) rfl ?_
              refine WP.iload K at_204 rfl (pc' := 206) rfl ?_
              refine WP.iload K at_206 rfl (pc' := 208) rfl ?_
              refine WP.callV K (a := mp) (argsL := [(.int (0 : Int32)), (.int (2 : Int32)), (.int p4)]) (S := []) (w_56 hw) (w_57 hw) (fun vm0 hZ => notFace_of_selects (args := #[]) (mvT (s := κ.s.setVm vm0) hZ (w_59 hw))) (w_59 hw) (w_58 hw) (by decide) (IsMap.exa O_mp) (rm_setA2 w l Z a0 hw F2 mp nw kN (0 : Int32) p4 0 _ _ _ _ _ _ h174 n0 Z0 O_mp A_nw rfl (by decide) old_nw) (w_60 hw) (w_4 hw) (by decide) rfl (lenOf pd_2 rfl) rfl (W := 0) rfl (by decide) (by decide) (k' := 3) (n' := 47) rfl rfl (by decide) (by decide) at_208 (pc' := 211) rfl fun v h179 hq => ?_
              obtain ⟨rfl, K9, O_mp, A_nw⟩ := hq
              have Z0 := Nat.le_trans Z0 K9.1
              show WP κ h179 3 47 (mkF κ.m 211 #[.val (.int p0), .val (.int p1), .val (.int p2), .val (.int p3), .val (.int p4), .val (.int p5), .val (.int (if (p0 &&& (1 : Int32)) = (0 : Int32) then (0 : Int32) else (1 : Int32))), .val (.int (if (p0 &&& (2 : Int32)) = (0 : Int32) then (0 : Int32) else (1 : Int32))), .val (.int (1 : Int32)), .val (.int (0 : Int32)), .val (.int ia), .val (.int ib), .val (.int (2 : Int32)), .val (.int p4), .val (.ref mp), .val (.int (0 : Int32)), .val (.int (1 : Int32)), .val (.int (0 : Int32)), .val (.int (1 : Int32)), .val (.int ib), .val (.int ia)] [])
              refine WP.aload K at_211 rfl rfl (pc' := 213) rfl ?_
              refine WP.iload K at_213 rfl (pc' := 215) rfl ?_
              refine WP.iload K at_215 rfl (pc' := 217) rfl ?_
              refine WP.if0T K at_217 (by decide) (by decide) (pc' := 225) (by decide) ?_
              refine WP.iload K at_225 rfl (pc' := 227) rfl ?_
              refine WP.iload K at_227 rfl (pc' := 229) rfl ?_
              refine WP.iconst K at_229 (v := (1 : Int32)) rfl (pc' := 230) rfl ?_
              refine WP.icmpT K at_230 (by decide) (by decide) (pc' := 238) (by decide) ?_
              refine WP.iconst K at_238 (v := (-1 : Int32)) rfl (pc' := 239) rfl ?_
              refine WP.iload K at_239 rfl (pc' := 241) rfl ?_
              refine WP.iconst K at_241 (v := (2 : Int32)) rfl (pc' := 242) rfl ?_
              refine WP.icmpF K at_242 (by decide) (pc' := 245) rfl ?_
              refine WP.iload K at_245 rfl (pc' := 247) rfl ?_
              refine WP.goto K at_247 (by decide) (pc' := 251) (by decide) ?_
              refine WP.callS K (argsL := [(.ref mp), (.int (0 : Int32)), (.int ib), (.int (-1 : Int32)), (.int p4)]) (S := []) (w_61 hw) (w_62 hw) (rm_holdsA w l Z a0 hw (fset F2 (3 * 0 + 2) p4) mp nw kN (0 : Int32) ib (-1 : Int32) p4 0 _ _ _ _ _ _ h179 n0 Z0 O_mp A_nw rfl (by decide) ((fset_ne _ _ (by omega)).trans fb0) ((fset_ne _ _ (by omega)).trans fb1) (fset_same _ _ _)) (w_64 hw) (w_63 hw) (by decide) rfl (lenOf pd_9 rfl) rfl (W := 0) rfl (by decide) (by decide) (k' := 3) (n' := 47) rfl rfl (by decide) (by decide) at_251 (pc' := 254) rfl fun v h180 hq => ?_
              obtain ⟨rfl, rfl⟩ := hq
              show WP κ h179 3 47 (mkF κ.m 254 #[.val (.int p0), .val (.int p1), .val (.int p2), .val (.int p3), .val (.int p4), .val (.int p5), .val (.int (if (p0 &&& (1 : Int32)) = (0 : Int32) then (0 : Int32) else (1 : Int32))), .val (.int (if (p0 &&& (2 : Int32)) = (0 : Int32) then (0 : Int32) else (1 : Int32))), .val (.int (1 : Int32)), .val (.int (0 : Int32)), .val (.int ia), .val (.int ib), .val (.int (2 : Int32)), .val (.int p4), .val (.ref mp), .val (.int (0 : Int32)), .val (.int (1 : Int32)), .val (.int (0 : Int32)), .val (.int (1 : Int32)), .val (.int ib), .val (.int ia)] [(.int (1 : Int32))])
              refine WP.if0F K at_254 (by decide) (pc' := 257) rfl ?_
              refine WP.aload K at_257 rfl rfl (pc' := 259) rfl ?_
              refine WP.iload K at_259 rfl (pc' := 261) rfl ?_
              refine WP.iload K at_261 rfl (pc' := 263) rfl ?_
              refine WP.iconst K at_263 (v := (-1 : Int32)) rfl (pc' := 264) rfl ?_
              refine WP.iconst K at_264 (v := (-1 : Int32)) rfl (pc' := 265) rfl ?_
              refine WP.callS K (argsL := [(.ref mp), (.int (1 : Int32)), (.int ia), (.int (-1 : Int32)), (.int (-1 : Int32))]) (S := []) (w_61 hw) (w_62 hw) (rm_holdsA w l Z a0 hw (fset F2 (3 * 0 + 2) p4) mp nw kN (1 : Int32) ia (-1 : Int32) (-1 : Int32) 1 _ _ _ _ _ _ h179 n0 Z0 O_mp A_nw rfl (by decide) ((fset_ne _ _ (by omega)).trans fa0) ((fset_ne _ _ (by omega)).trans fa1) ((fset_ne _ _ (by omega)).trans fa2)) (w_64 hw) (w_63 hw) (by decide) rfl (lenOf pd_9 rfl) rfl (W := 0) rfl (by decide) (by decide) (k' := 3) (n' := 47) rfl rfl (by decide) (by decide) at_265 (pc' := 268) rfl fun v h181 hq => ?_
              obtain ⟨rfl, rfl⟩ := hq
              show WP κ h179 3 47 (mkF κ.m 268 #[.val (.int p0), .val (.int p1), .val (.int p2), .val (.int p3), .val (.int p4), .val (.int p5), .val (.int (if (p0 &&& (1 : Int32)) = (0 : Int32) then (0 : Int32) else (1 : Int32))), .val (.int (if (p0 &&& (2 : Int32)) = (0 : Int32) then (0 : Int32) else (1 : Int32))), .val (.int (1 : Int32)), .val (.int (0 : Int32)), .val (.int ia), .val (.int ib), .val (.int (2 : Int32)), .val (.int p4), .val (.ref mp), .val (.int (0 : Int32)), .val (.int (1 : Int32)), .val (.int (0 : Int32)), .val (.int (1 : Int32)), .val (.int ib), .val (.int ia)] [(.int (1 : Int32))])
              refine WP.if0F K at_268 (by decide) (pc' := 271) rfl ?_
              refine WP.iconst K at_271 (v := (1 : Int32)) rfl (pc' := 272) rfl ?_
              refine WP.goto K at_272 (by decide) (pc' := 276) (by decide) ?_
              exact WP.retN K (ty := .boolean) (by decide) at_276 (by decide) (by decide) rfl
      · refine WP.if0F K at_28 (by rw [if_neg ct]; decide) (pc' := 31) rfl ?_
        refine WP.iconst K at_31 (v := (4 : Int32)) rfl (pc' := 32) rfl ?_
        refine WP.iloadN K at_32 rfl (pc' := 33) rfl ?_
        refine WP.ldcI K (w_90 hw) at_33 (pc' := 35) rfl ?_
        refine WP.iand K at_35 (pc' := 36) rfl ?_
        refine WP.iadd K at_36 (pc' := 37) rfl ?_
        refine WP.istore K at_37 (L' := #[.val (.int p0), .val (.int p1), .val (.int p2), .val (.int p3), .val (.int p4), .val (.int p5), .val (.int (if (p0 &&& (1 : Int32)) = (0 : Int32) then (0 : Int32) else (1 : Int32))), .val (.int (if (p0 &&& (2 : Int32)) = (0 : Int32) then (0 : Int32) else (1 : Int32))), .val (.int ((4 : Int32) + (p1 &&& (1073741823 : Int32)))), .unset, .unset, .unset, .unset, .unset, .unset, .unset, .unset, .unset, .unset, .unset, .unset]) rfl (pc' := 39) rfl ?_
        refine WP.iload K at_39 rfl (pc' := 41) rfl ?_
        refine WP.iconst K at_41 (v := (1 : Int32)) rfl (pc' := 42) rfl ?_
        refine WP.iadd K at_42 (pc' := 43) rfl ?_
        refine WP.iloadN K at_43 rfl (pc' := 44) rfl ?_
        refine WP.sipush K at_44 (v := (255 : Int32)) rfl (pc' := 47) rfl ?_
        refine WP.iand K at_47 (pc' := 48) rfl ?_
        refine WP.iadd K at_48 (pc' := 49) rfl ?_
        refine WP.istore K at_49 (L' := #[.val (.int p0), .val (.int p1), .val (.int p2), .val (.int p3), .val (.int p4), .val (.int p5), .val (.int (if (p0 &&& (1 : Int32)) = (0 : Int32) then (0 : Int32) else (1 : Int32))), .val (.int (if (p0 &&& (2 : Int32)) = (0 : Int32) then (0 : Int32) else (1 : Int32))), .val (.int ((4 : Int32) + (p1 &&& (1073741823 : Int32)))), .val (.int ((((4 : Int32) + (p1 &&& (1073741823 : Int32))) + (1 : Int32)) + (p2 &&& (255 : Int32)))), .unset, .unset, .unset, .unset, .unset, .unset, .unset, .unset, .unset, .unset, .unset]) rfl (pc' := 51) rfl ?_
        have ha := own_keya p1
        have hb := own_keyb p2 ha
        generalize e_a : ((4 : Int32) + (p1 &&& (1073741823 : Int32))) = a at ha hb ⊢
        generalize e_b : ((a + (1 : Int32)) + (p2 &&& (255 : Int32))) = b at hb ⊢
        refine WP.goto K at_51 (by decide) (pc' := 65) (by decide) ?_
        refine WP.iload K at_65 rfl (pc' := 67) rfl ?_
        refine WP.ldcI K (w_0 hw) at_67 (pc' := 69) rfl ?_
        refine WP.iand K at_69 (pc' := 70) rfl ?_
        refine WP.istore K at_70 (L' := #[.val (.int p0), .val (.int p1), .val (.int p2), .val (.int p3), .val (.int p4), .val (.int p5), .val (.int (if (p0 &&& (1 : Int32)) = (0 : Int32) then (0 : Int32) else (1 : Int32))), .val (.int (if (p0 &&& (2 : Int32)) = (0 : Int32) then (0 : Int32) else (1 : Int32))), .val (.int a), .val (.int b), .val (.int (p5 &&& (65535 : Int32))), .unset, .unset, .unset, .unset, .unset, .unset, .unset, .unset, .unset, .unset]) rfl (pc' := 72) rfl ?_
        refine WP.iload K at_72 rfl (pc' := 74) rfl ?_
        refine WP.bipush K at_74 (v := (16 : Int32)) rfl (pc' := 76) rfl ?_
        refine WP.iushr K at_76 (pc' := 77) rfl ?_
        refine WP.istore K at_77 (L' := #[.val (.int p0), .val (.int p1), .val (.int p2), .val (.int p3), .val (.int p4), .val (.int p5), .val (.int (if (p0 &&& (1 : Int32)) = (0 : Int32) then (0 : Int32) else (1 : Int32))), .val (.int (if (p0 &&& (2 : Int32)) = (0 : Int32) then (0 : Int32) else (1 : Int32))), .val (.int a), .val (.int b), .val (.int (p5 &&& (65535 : Int32))), .val (.int (((p5).toUInt32 >>> ((16 : Int32) &&& 31).toUInt32).toInt32)), .unset, .unset, .unset, .unset, .unset, .unset, .unset, .unset, .unset]) rfl (pc' := 79) rfl ?_
        have hia := own_ia p5
        generalize e_ia : (p5 &&& (65535 : Int32)) = ia at hia ⊢
        generalize e_ib : (((p5).toUInt32 >>> ((16 : Int32) &&& 31).toUInt32).toInt32) = ib at ⊢
        refine WP.iloadN K at_79 rfl (pc' := 80) rfl ?_
        refine WP.ldcI K (w_1 hw) at_80 (pc' := 82) rfl ?_
        refine WP.iand K at_82 (pc' := 83) rfl ?_
        refine WP.iconst K at_83 (v := (3 : Int32)) rfl (pc' := 84) rfl ?_
        refine WP.irem K at_84 (by decide) (pc' := 85) rfl ?_
        refine WP.istore K at_85 (L' := #[.val (.int p0), .val (.int p1), .val (.int p2), .val (.int p3), .val (.int p4), .val (.int p5), .val (.int (if (p0 &&& (1 : Int32)) = (0 : Int32) then (0 : Int32) else (1 : Int32))), .val (.int (if (p0 &&& (2 : Int32)) = (0 : Int32) then (0 : Int32) else (1 : Int32))), .val (.int a), .val (.int b), .val (.int ia), .val (.int ib), .val (.int ((p3 &&& (2147483647 : Int32)) % (3 : Int32))), .unset, .unset, .unset, .unset, .unset, .unset, .unset, .unset]) rfl (pc' := 87) rfl ?_
        have hf := own_mod3 p3
        generalize e_fd : ((p3 &&& (2147483647 : Int32)) % (3 : Int32)) = fd at hf ⊢
        rcases hf with rfl | rfl | rfl
        · show WP κ h0 0 0 (mkF κ.m 87 #[.val (.int p0), .val (.int p1), .val (.int p2), .val (.int p3), .val (.int p4), .val (.int p5), .val (.int (if (p0 &&& (1 : Int32)) = (0 : Int32) then (0 : Int32) else (1 : Int32))), .val (.int (if (p0 &&& (2 : Int32)) = (0 : Int32) then (0 : Int32) else (1 : Int32))), .val (.int a), .val (.int b), .val (.int ia), .val (.int ib), .val (.int (0 : Int32)), .unset, .unset, .unset, .unset, .unset, .unset, .unset, .unset] [])
          refine WP.iload K at_87 rfl (pc' := 89) rfl ?_
          refine WP.if0F K at_89 (by decide) (pc' := 92) rfl ?_
          refine WP.iload K at_92 rfl (pc' := 94) rfl ?_
          refine WP.ldcI K (w_1 hw) at_94 (pc' := 96) rfl ?_
          refine WP.iand K at_96 (pc' := 97) rfl ?_
          refine WP.goto K at_97 (by decide) (pc' := 102) (by decide) ?_
          refine WP.istore K at_102 (L' := #[.val (.int p0), .val (.int p1), .val (.int p2), .val (.int p3), .val (.int p4), .val (.int p5), .val (.int (if (p0 &&& (1 : Int32)) = (0 : Int32) then (0 : Int32) else (1 : Int32))), .val (.int (if (p0 &&& (2 : Int32)) = (0 : Int32) then (0 : Int32) else (1 : Int32))), .val (.int a), .val (.int b), .val (.int ia), .val (.int ib), .val (.int (0 : Int32)), .val (.int (p4 &&& (2147483647 : Int32))), .unset, .unset, .unset, .unset, .unset, .unset, .unset]) rfl (pc' := 104) rfl ?_
          generalize e_val : (p4 &&& (2147483647 : Int32)) = val at ⊢
          refine WP.new K (w_2 hw) (w_3 hw) (w_4 hw) at_104 (k' := 1) (n' := 9) rfl rfl (by decide) (by decide) (pc' := 107) rfl fun h83 mp g83 E83 X83 D83 => ?_
          have old_mp : n0 ≤ mp := by have q_ := Z0; omega
          have Z0 := Nat.le_trans Z0 E83.1
          have O_mp : IsMap Z h83 mp (.int (0 : Int32)) (.int (0 : Int32)) .null (.int (0 : Int32)) .null (.int (0 : Int32)) .null (.int (0 : Int32)) (.int (0 : Int32)) := ⟨X83, D83 (O := "com/example/weir/weir/engine/IntIntMap") (f := "width") (d := "I") (Or.inr (w_12 hw)) (ty := .int) (by decide), D83 (O := "com/example/weir/weir/engine/IntIntMap") (f := "stride") (d := "I") (Or.inr (w_14 hw)) (ty := .int) (by decide), D83 (O := "com/example/weir/weir/engine/IntIntMap") (f := "entries") (d := "[I") (Or.inl (w_21 hw)) (ty := (.array .int)) (by decide), D83 (O := "com/example/weir/weir/engine/IntIntMap") (f := "slots") (d := "I") (Or.inl (w_23 hw)) (ty := .int) (by decide), D83 (O := "com/example/weir/weir/engine/IntIntMap") (f := "objects") (d := "[Ljava/lang/Object;") (Or.inl (w_25 hw)) (ty := (.array (.object "java/lang/Object"))) (by decide), D83 (O := "com/example/weir/weir/engine/IntIntMap") (f := "greatestKey") (d := "I") (Or.inl (w_27 hw)) (ty := .int) (by decide), D83 (O := "com/example/weir/weir/engine/IntIntMap") (f := "values") (d := "[I") (Or.inl (w_34 hw)) (ty := (.array .int)) (by decide), D83 (O := "com/example/weir/weir/engine/IntIntMap") (f := "size") (d := "I") (Or.inl (w_36 hw)) (ty := .int) (by decide), D83 (O := "com/example/weir/weir/engine/IntIntMap") (f := "keys") (d := "I") (Or.inl (w_46 hw)) (ty := .int) (by decide)⟩
          refine WP.dup K at_107 rfl (pc' := 108) rfl ?_
          refine WP.iconst K at_108 (v := (3 : Int32)) rfl (pc' := 109) rfl ?_
          refine WP.callI K (a := mp) (argsL := [(.int (3 : Int32))]) (S := [(.ref mp)]) rfl (w_5 hw) (w_6 hw) (rm_minit w l Z a0 hw mp _ _ _ _ _ _ _ _ _ h83 n0 Z0 O_mp old_mp) (w_7 hw) (w_4 hw) (by decide) rfl (lenOf pd_8 rfl) rfl (W := 1) rfl (by decide) (by decide) (k' := 2) (n' := 41) rfl rfl (by decide) (by decide) at_109 (pc' := 112) rfl fun v h84 hq => ?_
          obtain ⟨rfl, K0, en, kE, s_en, O_mp, A_en⟩ := hq
          have Z0 := Nat.le_trans Z0 K0.1
          show WP κ h84 2 41 (mkF κ.m 112 #[.val (.int p0), .val (.int p1), .val (.int p2), .val (.int p3), .val (.int p4), .val (.int p5), .val (.int (if (p0 &&& (1 : Int32)) = (0 : Int32) then (0 : Int32) else (1 : Int32))), .val (.int (if (p0 &&& (2 : Int32)) = (0 : Int32) then (0 : Int32) else (1 : Int32))), .val (.int a), .val (.int b), .val (.int ia), .val (.int ib), .val (.int (0 : Int32)), .val (.int val), .unset, .unset, .unset, .unset, .unset, .unset, .unset] [(.ref mp)])
          have old_en : n0 ≤ en := by omega
          refine WP.astore K at_112 rfl (L' := #[.val (.int p0), .val (.int p1), .val (.int p2), .val (.int p3), .val (.int p4), .val (.int p5), .val (.int (if (p0 &&& (1 : Int32)) = (0 : Int32) then (0 : Int32) else (1 : Int32))), .val (.int (if (p0 &&& (2 : Int32)) = (0 : Int32) then (0 : Int32) else (1 : Int32))), .val (.int a), .val (.int b), .val (.int ia), .val (.int ib), .val (.int (0 : Int32)), .val (.int val), .val (.ref mp), .unset, .unset, .unset, .unset, .unset, .unset]) rfl (pc' := 114) rfl ?_
          refine WP.aload K at_114 rfl rfl (pc' := 116) rfl ?_
          refine WP.iload K at_116 rfl (pc' := 118) rfl ?_
          refine WP.iload K at_118 rfl (pc' := 120) rfl ?_
          refine WP.callV K (a := mp) (argsL := [(.int a), (.int ia)]) (S := []) (w_28 hw) (w_29 hw) (fun vm0 hZ => notFace_of_selects (args := #[]) (mvT (s := κ.s.setVm vm0) hZ (w_31 hw))) (w_31 hw) (w_30 hw) (by decide) (IsMap.exa O_mp) (rm_addT0 w l Z a0 hw (fun _ => (0 : Int32)) mp en kE a ia (0 : Int32) _ h84 n0 Z0 O_mp A_en old_mp old_en (own_thr (n := 2) rfl (by omega) (by omega) (by decide)) (Or.inl rfl)) (w_32 hw) (w_4 hw) (by decide) rfl (lenOf pd_3 rfl) rfl (W := 0) rfl (by decide) (by decide) (k' := 2) (n' := 41) rfl rfl (by decide) (by decide) at_120 (pc' := 123) rfl fun v h85 hq => ?_
          obtain ⟨⟨za, rfl, hza⟩, K1, O_mp, A_en⟩ := hq
          have Z0 := Nat.le_trans Z0 K1.1
          show WP κ h85 2 41 (mkF κ.m 123 #[.val (.int p0), .val (.int p1), .val (.int p2), .val (.int p3), .val (.int p4), .val (.int p5), .val (.int (if (p0 &&& (1 : Int32)) = (0 : Int32) then (0 : Int32) else (1 : Int32))), .val (.int (if (p0 &&& (2 : Int32)) = (0 : Int32) then (0 : Int32) else (1 : Int32))), .val (.int a), .val (.int b), .val (.int ia), .val (.int ib), .val (.int (0 : Int32)), .val (.int val), .val (.ref mp), .unset, .unset, .unset, .unset, .unset, .unset] [(.int za)])
          rw [own_fndz] at hza A_en
          have h8a := (own_home_e a).2
          generalize hra : own_home a = ra at hza A_en h8a
          obtain ⟨F1, hF1⟩ : ∃ F1, F1 = own_put (fun _ => (0 : Int32)) ra (a + (1 : Int32)) ia := ⟨_, rfl⟩
          have A_en : Ary Z h85 en kE .int 32 (fun j => .int (F1 j)) := by rw [hF1]; exact A_en
          have k0 : F1 (4 * ra) = a + (1 : Int32) := by rw [hF1]; exact own_put0 _ _ _ _
          have kz : ∀ t, t ≠ ra → F1 (4 * t) = 0 := fun t ht => by rw [hF1]; exact own_putz _ _ _ ht
          have mx := own_maxv (0 : Int32) a
          have e00 : (0 : Int32).toInt = 0 := rfl
          have hsn := own_snd (k2 := b + (1 : Int32)) (s := own_home b) h8a (own_home_e b).2 k0 (own_ne0 (by omega) (by omega)) (own_nab (by omega) (by omega) (by omega) (by omega)) kz
          refine WP.pop K at_123 rfl (pc' := 124) rfl ?_
          refine WP.aload K at_124 rfl rfl (pc' := 126) rfl ?_
          refine WP.iload K at_126 rfl (pc' := 128) rfl ?_
          refine WP.iload K at_128 rfl (pc' := 130) rfl ?_
          refine WP.callV K (a := mp) (argsL := [(.int b), (.int ib)]) (S := []) (w_28 hw) (w_29 hw) (fun vm0 hZ => notFace_of_selects (args := #[]) (mvT (s := κ.s.setVm vm0) hZ (w_31 hw))) (w_31 hw) (w_30 hw) (by decide) (IsMap.exa O_mp) (rm_addT1 w l Z a0 hw F1 mp en kE b ib (own_max (0 : Int32) a) _ h85 n0 Z0 O_mp A_en old_mp old_en (own_thr (n := 4) rfl (by omega) (by omega) (by omega)) (Or.inl hsn.2)) (w_32 hw) (w_4 hw) (by decide) rfl (lenOf pd_3 rfl) rfl (W := 0) rfl (by decide) (by decide) (k' := 2) (n' := 41) rfl rfl (by decide) (by decide) at_130 (pc' := 133) rfl fun v h86 hq => ?_
          obtain ⟨⟨zb, rfl, hzb⟩, K2, O_mp, A_en⟩ := hq
          have Z0 := Nat.le_trans Z0 K2.1
          show WP κ h86 2 41 (mkF κ.m 133 #[.val (.int p0), .val (.int p1), .val (.int p2), .val (.int p3), .val (.int p4), .val (.int p5), .val (.int (if (p0 &&& (1 : Int32)) = (0 : Int32) then (0 : Int32) else (1 : Int32))), .val (.int (if (p0 &&& (2 : Int32)) = (0 : Int32) then (0 : Int32) else (1 : Int32))), .val (.int a), .val (.int b), .val (.int ia), .val (.int ib), .val (.int (0 : Int32)), .val (.int val), .val (.ref mp), .unset, .unset, .unset, .unset, .unset, .unset] [(.int zb)])
          have h8b := own_fnd_lt F1 (b + (1 : Int32)) 8 _ (own_home_e b).2
          generalize own_fnd F1 (b + (1 : Int32)) 8 (own_home b) = rb at hzb A_en hsn h8b
          obtain ⟨F2, hF2⟩ : ∃ F2, F2 = own_put F1 rb (b + (1 : Int32)) ib := ⟨_, rfl⟩
          have A_en : Ary Z h86 en kE .int 32 (fun j => .int (F2 j)) := by rw [hF2]; exact A_en
          have q0 : F2 (4 * ra) = a + (1 : Int32) := by rw [hF2]; exact (own_putz _ _ _ (Ne.symm hsn.1)).trans k0
          have fa0 : F2 (4 * ra + 1) = ia := by rw [hF2, own_putn _ _ _ (by decide) (Ne.symm hsn.1), hF1]; exact own_put1 _ _ _ _
          have fb0 : F2 (4 * rb + 1) = ib := by rw [hF2]; exact own_put1 _ _ _ _
          have fa1 : F2 (4 * ra + 2) = (-1 : Int32) := by rw [hF2, own_putn _ _ _ (by decide) (Ne.symm hsn.1), hF1]; exact own_put2 _ _ _ _
          have fb1 : F2 (4 * rb + 2) = (-1 : Int32) := by rw [hF2]; exact own_put2 _ _ _ _
          have fa2 : F2 (4 * ra + 3) = (-1 : Int32) := by rw [hF2, own_putn _ _ _ (by decide) (Ne.symm hsn.1), hF1]; exact own_put3 _ _ _ _
          have fb2 : F2 (4 * rb + 3) = (-1 : Int32) := by rw [hF2]; exact own_put3 _ _ _ _
          refine WP.istore K at_133 (L' := #[.val (.int p0), .val (.int p1), .val (.int p2), .val (.int p3), .val (.int p4), .val (.int p5), .val (.int (if (p0 &&& (1 : Int32)) = (0 : Int32) then (0 : Int32) else (1 : Int32))), .val (.int (if (p0 &&& (2 : Int32)) = (0 : Int32) then (0 : Int32) else (1 : Int32))), .val (.int a), .val (.int b), .val (.int ia), .val (.int ib), .val (.int (0 : Int32)), .val (.int val), .val (.ref mp), .val (.int zb), .unset, .unset, .unset, .unset, .unset]) rfl (pc' := 135) rfl ?_
          refine WP.aload K at_135 rfl rfl (pc' := 137) rfl ?_
          refine WP.iload K at_137 rfl (pc' := 139) rfl ?_
          refine WP.callV K (a := mp) (argsL := [(.int a)]) (S := []) (w_51 hw) (w_52 hw) (fun vm0 hZ => notFace_of_selects (args := #[]) (mvT (s := κ.s.setVm vm0) hZ (w_54 hw))) (w_54 hw) (w_53 hw) (by decide) (IsMap.exa O_mp) (rm_placeT w l Z a0 hw F2 mp en kE a _ _ _ _ h86 n0 Z0 O_mp A_en (by rw [hra, own_fndk q0]; exact q0) (own_ne0 (by omega) (by omega))) (w_55 hw) (w_4 hw) (by decide) rfl (lenOf pd_4 rfl) rfl (W := 0) rfl (by decide) (by decide) (k' := 2) (n' := 41) rfl rfl (by decide) (by decide) at_139 (pc' := 142) rfl fun v h87 hq => ?_
          obtain ⟨⟨zp, rfl, hzp⟩, rfl⟩ := hq
          show WP κ h86 2 41 (mkF κ.m 142 #[.val (.int p0), .val (.int p1), .val (.int p2), .val (.int p3), .val (.int p4), .val (.int p5), .val (.int (if (p0 &&& (1 : Int32)) = (0 : Int32) then (0 : Int32) else (1 : Int32))), .val (.int (if (p0 &&& (2 : Int32)) = (0 : Int32) then (0 : Int32) else (1 : Int32))), .val (.int a), .val (.int b), .val (.int ia), .val (.int ib), .val (.int (0 : Int32)), .val (.int val), .val (.ref mp), .val (.int zb), .unset, .unset, .unset, .unset, .unset] [(.int zp)])
          rw [hra, own_fndk q0] at hzp
          refine WP.istore K at_142 (L' := #[.val (.int p0), .val (.int p1), .val (.int p2), .val (.int p3), .val (.int p4), .val (.int p5), .val (.int (if (p0 &&& (1 : Int32)) = (0 : Int32) then (0 : Int32) else (1 : Int32))), .val (.int (if (p0 &&& (2 : Int32)) = (0 : Int32) then (0 : Int32) else (1 : Int32))), .val (.int a), .val (.int b), .val (.int ia), .val (.int ib), .val (.int (0 : Int32)), .val (.int val), .val (.ref mp), .val (.int zb), .val (.int zp), .unset, .unset, .unset, .unset]) rfl (pc' := 144) rfl ?_
          refine WP.iload K at_144 rfl (pc' := 146) rfl ?_
          by_cases cs : (p0 &&& (2 : Int32)) = (0 : Int32)
          · refine WP.if0T K at_146 (by rw [if_pos cs]; decide) (by decide) (pc' := 154) (by decide) ?_
            refine WP.iload K at_154 rfl (pc' := 156) rfl ?_
            refine WP.istore K at_156 (L' := #[.val (.int p0), .val (.int p1), .val (.int p2), .val (.int p3), .val (.int p4), .val (.int p5), .val (.int (if (p0 &&& (1 : Int32)) = (0 : Int32) then (0 : Int32) else (1 : Int32))), .val (.int (if (p0 &&& (2 : Int32)) = (0 : Int32) then (0 : Int32) else (1 : Int32))), .val (.int a), .val (.int b), .val (.int ia), .val (.int ib), .val (.int (0 : Int32)), .val (.int val), .val (.ref mp), .val (.int zb), .val (.int zp), .val (.int zp), .unset, .unset, .unset]) rfl (pc' := 158) rfl ?_
            refine WP.iload K at_158 rfl (pc' := 160) rfl ?_
            refine WP.if0T K at_160 (by rw [if_pos cs]; decide) (by decide) (pc' := 168) (by decide) ?_
            refine WP.iload K at_168 rfl (pc' := 170) rfl ?_
            refine WP.istore K at_170 (L' := #[.val (.int p0), .val (.int p1), .val (.int p2), .val (.int p3), .val (.int p4), .val (.int p5), .val (.int (if (p0 &&& (1 : Int32)) = (0 : Int32) then (0 : Int32) else (1 : Int32))), .val (.int (if (p0 &&& (2 : Int32)) = (0 : Int32) then (0 : Int32) else (1 : Int32))), .val (.int a), .val (.int b), .val (.int ia), .val (.int ib), .val (.int (0 : Int32)), .val (.int val), .val (.ref mp), .val (.int zb), .val (.int zp), .val (.int zp), .val (.int zb), .unset, .unset]) rfl (pc' := 172) rfl ?_
            refine WP.iload K at_172 rfl (pc' := 174) rfl ?_
            refine WP.if0T K at_174 (by rw [if_pos cs]; decide) (by decide) (pc' := 182) (by decide) ?_
            refine WP.iload K at_182 rfl (pc' := 184) rfl ?_
            refine WP.istore K at_184 (L' := #[.val (.int p0), .val (.int p1), .val (.int p2), .val (.int p3), .val (.int p4), .val (.int p5), .val (.int (if (p0 &&& (1 : Int32)) = (0 : Int32) then (0 : Int32) else (1 : Int32))), .val (.int (if (p0 &&& (2 : Int32)) = (0 : Int32) then (0 : Int32) else (1 : Int32))), .val (.int a), .val (.int b), .val (.int ia), .val (.int ib), .val (.int (0 : Int32)), .val (.int val), .val (.ref mp), .val (.int zb), .val (.int zp), .val (.int zp), .val (.int zb), .val (.int ia), .unset]) rfl (pc' := 186) rfl ?_
            refine WP.iload K at_186 rfl (pc' := 188) rfl ?_
            refine WP.if0T K at_188 (by rw [if_pos cs]; decide) (by decide) (pc' := 196) (by decide) ?_
            refine WP.iload K at_196 rfl (pc' := 198) rfl ?_
            refine WP.istore K at_198 (L' := #[.val (.int p0), .val (.int p1), .val (.int p2), .val (.int p3), .val (.int p4), .val (.int p5), .val (.int (if (p0 &&& (1 : Int32)) = (0 : Int32) then (0 : Int32) else (1 : Int32))), .val (.int (if (p0 &&& (2 : Int32)) = (0 : Int32) then (0 : Int32) else (1 : Int32))), .val (.int a), .val (.int b), .val (.int ia), .val (.int ib), .val (.int (0 : Int32)), .val (.int val), .val (.ref mp), .val (.int zb), .val (.int zp), .val (.int zp), .val (.int zb), .val (.int ia), .val (.int ib)]) rfl (pc' := 200) rfl ?_
            refine WP.aload K at_200 rfl rfl (pc' := 202) rfl ?_
            refine WP.iload K at_202 rfl (pc' := 204) rfl ?_
            refine WP.iload K at_204 rfl (pc' := 206) rfl ?_
            refine WP.iload K at_206 rfl (pc' := 208) rfl ?_
            refine WP.callV K (a := mp) (argsL := [(.int zp), (.int (0 : Int32)), (.int val)]) (S := []) (w_56 hw) (w_57 hw) (fun vm0 hZ => notFace_of_selects (args := #[]) (mvT (s := κ.s.setVm vm0) hZ (w_59 hw))) (w_59 hw) (w_58 hw) (by decide) (IsMap.exa O_mp) (rm_setT0 w l Z a0 hw F2 mp en kE zp val ra _ _ _ _ _ h86 n0 Z0 O_mp A_en hzp (by omega) old_en) (w_60 hw) (w_4 hw) (by decide) rfl (lenOf pd_2 rfl) rfl (W := 0) rfl (by decide) (by decide) (k' := 2) (n' := 41) rfl rfl (by decide) (by decide) at_208 (pc' := 211) rfl fun v h88 hq => ?_
            obtain ⟨rfl, K9, O_mp, A_en⟩ := hq
            have Z0 := Nat.le_trans Z0 K9.1
            show WP κ h88 2 41 (mkF κ.m 211 #[.val (.int p0), .val (.int p1), .val (.int p2), .val (.int p3), .val (.int p4), .val (.int p5), .val (.int (if (p0 &&& (1 : Int32)) = (0 : Int32) then (0 : Int32) else (1 : Int32))), .val (.int (if (p0 &&& (2 : Int32)) = (0 : Int32) then (0 : Int32) else (1 : Int32))), .val (.int a), .val (.int b), .val (.int ia), .val (.int ib), .val (.int (0 : Int32)), .val (.int val), .val (.ref mp), .val (.int zb), .val (.int zp), .val (.int zp), .val (.int zb), .val (.int ia), .val (.int ib)] [])
            refine WP.aload K at_211 rfl rfl (pc' := 213) rfl ?_
            refine WP.iload K at_213 rfl (pc' := 215) rfl ?_
            refine WP.iload K at_215 rfl (pc' := 217) rfl ?_
            refine WP.if0F K at_217 (by decide) (pc' := 220) rfl ?_
            refine WP.iload K at_220 rfl (pc' := 222) rfl ?_
            refine WP.goto K at_222 (by decide) (pc' := 227) (by decide) ?_
            refine WP.iload K at_227 rfl (pc' := 229) rfl ?_
            refine WP.iconst K at_229 (v := (1 : Int32)) rfl (pc' := 230) rfl ?_
            refine WP.icmpT K at_230 (by decide) (by decide) (pc' := 238) (by decide) ?_
            refine WP.iconst K at_238 (v := (-1 : Int32)) rfl (pc' := 239) rfl ?_
            refine WP.iload K at_239 rfl (pc' := 241) rfl ?_
            refine WP.iconst K at_241 (v := (2 : Int32)) rfl (pc' := 242) rfl ?_
            refine WP.icmpT K at_242 (by decide) (by decide) (pc' := 250) (by decide) ?_
            refine WP.iconst K at_250 (v := (-1 : Int32)) rfl (pc' := 251) rfl ?_
            refine WP.callS K (argsL := [(.ref mp), (.int zp), (.int val), (.int (-1 : Int32)), (.int (-1 : Int32))]) (S := []) (w_61 hw) (w_62 hw) (rm_holdsT w l Z a0 hw (fset F2 (4 * ra + 1) val) mp en kE zp val (-1 : Int32) (-1 : Int32) ra _ _ _ _ _ h88 n0 Z0 O_mp A_en hzp (by omega) (fset_same _ _ _) ((fset_ne _ _ (by omega)).trans fa1) ((fset_ne _ _ (by omega)).trans fa2)) (w_64 hw) (w_63 hw) (by decide) rfl (lenOf pd_9 rfl) rfl (W := 0) rfl (by decide) (by decide) (k' := 2) (n' := 41) rfl rfl (by decide) (by decide) at_251 (pc' := 254) rfl fun v h89 hq => ?_
            obtain ⟨rfl, rfl⟩ := hq
            show WP κ h88 2 41 (mkF κ.m 254 #[.val (.int p0), .val (.int p1), .val (.int p2), .val (.int p3), .val (.int p4), .val (.int p5), .val (.int (if (p0 &&& (1 : Int32)) = (0 : Int32) then (0 : Int32) else (1 : Int32))), .val (.int (if (p0 &&& (2 : Int32)) = (0 : Int32) then (0 : Int32) else (1 : Int32))), .val (.int a), .val (.int b), .val (.int ia), .val (.int ib), .val (.int (0 : Int32)), .val (.int val), .val (.ref mp), .val (.int zb), .val (.int zp), .val (.int zp), .val (.int zb), .val (.int ia), .val (.int ib)] [(.int (1 : Int32))])
            refine WP.if0F K at_254 (by decide) (pc' := 257) rfl ?_
            refine WP.aload K at_257 rfl rfl (pc' := 259) rfl ?_
            refine WP.iload K at_259 rfl (pc' := 261) rfl ?_
            refine WP.iload K at_261 rfl (pc' := 263) rfl ?_
            refine WP.iconst K at_263 (v := (-1 : Int32)) rfl (pc' := 264) rfl ?_
            refine WP.iconst K at_264 (v := (-1 : Int32)) rfl (pc' := 265) rfl ?_
            refine WP.callS K (argsL := [(.ref mp), (.int zb), (.int ib), (.int (-1 : Int32)), (.int (-1 : Int32))]) (S := []) (w_61 hw) (w_62 hw) (rm_holdsT w l Z a0 hw (fset F2 (4 * ra + 1) val) mp en kE zb ib (-1 : Int32) (-1 : Int32) rb _ _ _ _ _ h88 n0 Z0 O_mp A_en hzb (by omega) ((fset_ne _ _ (by omega)).trans fb0) ((fset_ne _ _ (by omega)).trans fb1) ((fset_ne _ _ (by omega)).trans fb2)) (w_64 hw) (w_63 hw) (by decide) rfl (lenOf pd_9 rfl) rfl (W := 0) rfl (by decide) (by decide) (k' := 2) (n' := 41) rfl rfl (by decide) (by decide) at_265 (pc' := 268) rfl fun v h90 hq => ?_
            obtain ⟨rfl, rfl⟩ := hq
            show WP κ h88 2 41 (mkF κ.m 268 #[.val (.int p0), .val (.int p1), .val (.int p2), .val (.int p3), .val (.int p4), .val (.int p5), .val (.int (if (p0 &&& (1 : Int32)) = (0 : Int32) then (0 : Int32) else (1 : Int32))), .val (.int (if (p0 &&& (2 : Int32)) = (0 : Int32) then (0 : Int32) else (1 : Int32))), .val (.int a), .val (.int b), .val (.int ia), .val (.int ib), .val (.int (0 : Int32)), .val (.int val), .val (.ref mp), .val (.int zb), .val (.int zp), .val (.int zp), .val (.int zb), .val (.int ia), .val (.int ib)] [(.int (1 : Int32))])
            refine WP.if0F K at_268 (by decide) (pc' := 271) rfl ?_
            refine WP.iconst K at_271 (v := (1 : Int32)) rfl (pc' := 272) rfl ?_
            refine WP.goto K at_272 (by decide) (pc' := 276) (by decide) ?_
            exact WP.retN K (ty := .boolean) (by decide) at_276 (by decide) (by decide) rfl
          · refine WP.if0F K at_146 (by rw [if_neg cs]; decide) (pc' := 149) rfl ?_
            refine WP.iload K at_149 rfl (pc' := 151) rfl ?_
            refine WP.goto K at_151 (by decide) (pc' := 156) (by decide) ?_
            refine WP.istore K at_156 (L' := #[.val (.int p0), .val (.int p1), .val (.int p2), .val (.int p3), .val (.int p4), .val (.int p5), .val (.int (if (p0 &&& (1 : Int32)) = (0 : Int32) then (0 : Int32) else (1 : Int32))), .val (.int (if (p0 &&& (2 : Int32)) = (0 : Int32) then (0 : Int32) else (1 : Int32))), .val (.int a), .val (.int b), .val (.int ia), .val (.int ib), .val (.int (0 : Int32)), .val (.int val), .val (.ref mp), .val (.int zb), .val (.int zp), .val (.int zb), .unset, .unset, .unset]) rfl (pc' := 158) rfl ?_
            refine WP.iload K at_158 rfl (pc' := 160) rfl ?_
            refine WP.if0F K at_160 (by rw [if_neg cs]; decide) (pc' := 163) rfl ?_
            refine WP.iload K at_163 rfl (pc' := 165) rfl ?_
            refine WP.goto K at_165 (by decide) (pc' := 170) (by decide) ?_
            refine WP.istore K at_170 (L' := #[.val (.int p0), .val (.int p1), .val (.int p2), .val (.int p3), .val (.int p4), .val (.int p5), .val (.int (if (p0 &&& (1 : Int32)) = (0 : Int32) then (0 : Int32) else (1 : Int32))), .val (.int (if (p0 &&& (2 : Int32)) = (0 : Int32) then (0 : Int32) else (1 : Int32))), .val (.int a), .val (.int b), .val (.int ia), .val (.int ib), .val (.int (0 : Int32)), .val (.int val), .val (.ref mp), .val (.int zb), .val (.int zp), .val (.int zb), .val (.int zp), .unset, .unset]) rfl (pc' := 172) rfl ?_
            refine WP.iload K at_172 rfl (pc' := 174) rfl ?_
            refine WP.if0F K at_174 (by rw [if_neg cs]; decide) (pc' := 177) rfl ?_
            refine WP.iload K at_177 rfl (pc' := 179) rfl ?_
            refine WP.goto K at_179 (by decide) (pc' := 184) (by decide) ?_
            refine WP.istore K at_184 (L' := #[.val (.int p0), .val (.int p1), .val (.int p2), .val (.int p3), .val (.int p4), .val (.int p5), .val (.int (if (p0 &&& (1 : Int32)) = (0 : Int32) then (0 : Int32) else (1 : Int32))), .val (.int (if (p0 &&& (2 : Int32)) = (0 : Int32) then (0 : Int32) else (1 : Int32))), .val (.int a), .val (.int b), .val (.int ia), .val (.int ib), .val (.int (0 : Int32)), .val (.int val), .val (.ref mp), .val (.int zb), .val (.int zp), .val (.int zb), .val (.int zp), .val (.int ib), .unset]) rfl (pc' := 186) rfl ?_
            refine WP.iload K at_186 rfl (pc' := 188) rfl ?_
            refine WP.if0F K at_188 (by rw [if_neg cs]; decide) (pc' := 191) rfl ?_
            refine WP.iload K at_191 rfl (pc' := 193) rfl ?_
            refine WP.goto K at_193 (by decide) (pc' := 198) (by decide) ?_
            refine WP.istore K at_198 (L' := #[.val (.int p0), .val (.int p1), .val (.int p2), .val (.int p3), .val (.int p4), .val (.int p5), .val (.int (if (p0 &&& (1 : Int32)) = (0 : Int32) then (0 : Int32) else (1 : Int32))), .val (.int (if (p0 &&& (2 : Int32)) = (0 : Int32) then (0 : Int32) else (1 : Int32))), .val (.int a), .val (.int b), .val (.int ia), .val (.int ib), .val (.int (0 : Int32)), .val (.int val), .val (.ref mp), .val (.int zb), .val (.int zp), .val (.int zb), .val (.int zp), .val (.int ib), .val (.int ia)]) rfl (pc' := 200) rfl ?_
            refine WP.aload K at_200 rfl rfl (pc' := 202) rfl ?_
            refine WP.iload K at_202 rfl (pc' := 204) rfl ?_
            refine WP.iload K at_204 rfl (pc' := 206) rfl ?_
            refine WP.iload K at_206 rfl (pc' := 208) rfl ?_
            refine WP.callV K (a := mp) (argsL := [(.int zb), (.int (0 : Int32)), (.int val)]) (S := []) (w_56 hw) (w_57 hw) (fun vm0 hZ => notFace_of_selects (args := #[]) (mvT (s := κ.s.setVm vm0) hZ (w_59 hw))) (w_59 hw) (w_58 hw) (by decide) (IsMap.exa O_mp) (rm_setT0 w l Z a0 hw F2 mp en kE zb val rb _ _ _ _ _ h86 n0 Z0 O_mp A_en hzb (by omega) old_en) (w_60 hw) (w_4 hw) (by decide) rfl (lenOf pd_2 rfl) rfl (W := 0) rfl (by decide) (by decide) (k' := 2) (n' := 41) rfl rfl (by decide) (by decide) at_208 (pc' := 211) rfl fun v h91 hq => ?_
            obtain ⟨rfl, K9, O_mp, A_en⟩ := hq
            have Z0 := Nat.le_trans Z0 K9.1
            show WP κ h91 2 41 (mkF κ.m 211 #[.val (.int p0), .val (.int p1), .val (.int p2), .val (.int p3), .val (.int p4), .val (.int p5), .val (.int (if (p0 &&& (1 : Int32)) = (0 : Int32) then (0 : Int32) else (1 : Int32))), .val (.int (if (p0 &&& (2 : Int32)) = (0 : Int32) then (0 : Int32) else (1 : Int32))), .val (.int a), .val (.int b), .val (.int ia), .val (.int ib), .val (.int (0 : Int32)), .val (.int val), .val (.ref mp), .val (.int zb), .val (.int zp), .val (.int zb), .val (.int zp), .val (.int ib), .val (.int ia)] [])
            refine WP.aload K at_211 rfl rfl (pc' := 213) rfl ?_
            refine WP.iload K at_213 rfl (pc' := 215) rfl ?_
            refine WP.iload K at_215 rfl (pc' := 217) rfl ?_
            refine WP.if0F K at_217 (by decide) (pc' := 220) rfl ?_
            refine WP.iload K at_220 rfl (pc' := 222) rfl ?_
            refine WP.goto K at_222 (by decide) (pc' := 227) (by decide) ?_
            refine WP.iload K at_227 rfl (pc' := 229) rfl ?_
            refine WP.iconst K at_229 (v := (1 : Int32)) rfl (pc' := 230) rfl ?_
            refine WP.icmpT K at_230 (by decide) (by decide) (pc' := 238) (by decide) ?_
            refine WP.iconst K at_238 (v := (-1 : Int32)) rfl (pc' := 239) rfl ?_
            refine WP.iload K at_239 rfl (pc' := 241) rfl ?_
            refine WP.iconst K at_241 (v := (2 : Int32)) rfl (pc' := 242) rfl ?_
            refine WP.icmpT K at_242 (by decide) (by decide) (pc' := 250) (by decide) ?_
            refine WP.iconst K at_250 (v := (-1 : Int32)) rfl (pc' := 251) rfl ?_
            refine WP.callS K (argsL := [(.ref mp), (.int zb), (.int val), (.int (-1 : Int32)), (.int (-1 : Int32))]) (S := []) (w_61 hw) (w_62 hw) (rm_holdsT w l Z a0 hw (fset F2 (4 * rb + 1) val) mp en kE zb val (-1 : Int32) (-1 : Int32) rb _ _ _ _ _ h91 n0 Z0 O_mp A_en hzb (by omega) (fset_same _ _ _) ((fset_ne _ _ (by omega)).trans fb1) ((fset_ne _ _ (by omega)).trans fb2)) (w_64 hw) (w_63 hw) (by decide) rfl (lenOf pd_9 rfl) rfl (W := 0) rfl (by decide) (by decide) (k' := 2) (n' := 41) rfl rfl (by decide) (by decide) at_251 (pc' := 254) rfl fun v h92 hq => ?_
            obtain ⟨rfl, rfl⟩ := hq
            show WP κ h91 2 41 (mkF κ.m 254 #[.val (.int p0), .val (.int p1), .val (.int p2), .val (.int p3), .val (.int p4), .val (.int p5), .val (.int (if (p0 &&& (1 : Int32)) = (0 : Int32) then (0 : Int32) else (1 : Int32))), .val (.int (if (p0 &&& (2 : Int32)) = (0 : Int32) then (0 : Int32) else (1 : Int32))), .val (.int a), .val (.int b), .val (.int ia), .val (.int ib), .val (.int (0 : Int32)), .val (.int val), .val (.ref mp), .val (.int zb), .val (.int zp), .val (.int zb), .val (.int zp), .val (.int ib), .val (.int ia)] [(.int (1 : Int32))])
            refine WP.if0F K at_254 (by decide) (pc' := 257) rfl ?_
            refine WP.aload K at_257 rfl rfl (pc' := 259) rfl ?_
            refine WP.iload K at_259 rfl (pc' := 261) rfl ?_
            refine WP.iload K at_261 rfl (pc' := 263) rfl ?_
            refine WP.iconst K at_263 (v := (-1 : Int32)) rfl (pc' := 264) rfl ?_
            refine WP.iconst K at_264 (v := (-1 : Int32)) rfl (pc' := 265) rfl ?_
            refine WP.callS K (argsL := [(.ref mp), (.int zp), (.int ia), (.int (-1 : Int32)), (.int (-1 : Int32))]) (S := []) (w_61 hw) (w_62 hw) (rm_holdsT w l Z a0 hw (fset F2 (4 * rb + 1) val) mp en kE zp ia (-1 : Int32) (-1 : Int32) ra _ _ _ _ _ h91 n0 Z0 O_mp A_en hzp (by omega) ((fset_ne _ _ (by omega)).trans fa0) ((fset_ne _ _ (by omega)).trans fa1) ((fset_ne _ _ (by omega)).trans fa2)) (w_64 hw) (w_63 hw) (by decide) rfl (lenOf pd_9 rfl) rfl (W := 0) rfl (by decide) (by decide) (k' := 2) (n' := 41) rfl rfl (by decide) (by decide) at_265 (pc' := 268) rfl fun v h93 hq => ?_
            obtain ⟨rfl, rfl⟩ := hq
            show WP κ h91 2 41 (mkF κ.m 268 #[.val (.int p0), .val (.int p1), .val (.int p2), .val (.int p3), .val (.int p4), .val (.int p5), .val (.int (if (p0 &&& (1 : Int32)) = (0 : Int32) then (0 : Int32) else (1 : Int32))), .val (.int (if (p0 &&& (2 : Int32)) = (0 : Int32) then (0 : Int32) else (1 : Int32))), .val (.int a), .val (.int b), .val (.int ia), .val (.int ib), .val (.int (0 : Int32)), .val (.int val), .val (.ref mp), .val (.int zb), .val (.int zp), .val (.int zb), .val (.int zp), .val (.int ib), .val (.int ia)] [(.int (1 : Int32))])
            refine WP.if0F K at_268 (by decide) (pc' := 271) rfl ?_
            refine WP.iconst K at_271 (v := (1 : Int32)) rfl (pc' := 272) rfl ?_
            refine WP.goto K at_272 (by decide) (pc' := 276) (by decide) ?_
            exact WP.retN K (ty := .boolean) (by decide) at_276 (by decide) (by decide) rfl
        · show WP κ h0 0 0 (mkF κ.m 87 #[.val (.int p0), .val (.int p1), .val (.int p2), .val (.int p3), .val (.int p4), .val (.int p5), .val (.int (if (p0 &&& (1 : Int32)) = (0 : Int32) then (0 : Int32) else (1 : Int32))), .val (.int (if (p0 &&& (2 : Int32)) = (0 : Int32) then (0 : Int32) else (1 : Int32))), .val (.int a), .val (.int b), .val (.int ia), .val (.int ib), .val (.int (1 : Int32)), .unset, .unset, .unset, .unset, .unset, .unset, .unset, .unset] [])
          refine WP.iload K at_87 rfl (pc' := 89) rfl ?_
          refine WP.if0T K at_89 (by decide) (by decide) (pc' := 100) (by decide) ?_
          refine WP.iload K at_100 rfl (pc' := 102) rfl ?_
          refine WP.istore K at_102 (L' := #[.val (.int p0), .val (.int p1), .val (.int p2), .val (.int p3), .val (.int p4), .val (.int p5), .val (.int (if (p0 &&& (1 : Int32)) = (0 : Int32) then (0 : Int32) else (1 : Int32))), .val (.int (if (p0 &&& (2 : Int32)) = (0 : Int32) then (0 : Int32) else (1 : Int32))), .val (.int a), .val (.int b), .val (.int ia), .val (.int ib), .val (.int (1 : Int32)), .val (.int p4), .unset, .unset, .unset, .unset, .unset, .unset, .unset]) rfl (pc' := 104) rfl ?_
          refine WP.new K (w_2 hw) (w_3 hw) (w_4 hw) at_104 (k' := 1) (n' := 9) rfl rfl (by decide) (by decide) (pc' := 107) rfl fun h94 mp g94 E94 X94 D94 => ?_
          have old_mp : n0 ≤ mp := by have q_ := Z0; omega
          have Z0 := Nat.le_trans Z0 E94.1
          have O_mp : IsMap Z h94 mp (.int (0 : Int32)) (.int (0 : Int32)) .null (.int (0 : Int32)) .null (.int (0 : Int32)) .null (.int (0 : Int32)) (.int (0 : Int32)) := ⟨X94, D94 (O := "com/example/weir/weir/engine/IntIntMap") (f := "width") (d := "I") (Or.inr (w_12 hw)) (ty := .int) (by decide), D94 (O := "com/example/weir/weir/engine/IntIntMap") (f := "stride") (d := "I") (Or.inr (w_14 hw)) (ty := .int) (by decide), D94 (O := "com/example/weir/weir/engine/IntIntMap") (f := "entries") (d := "[I") (Or.inl (w_21 hw)) (ty := (.array .int)) (by decide), D94 (O := "com/example/weir/weir/engine/IntIntMap") (f := "slots") (d := "I") (Or.inl (w_23 hw)) (ty := .int) (by decide), D94 (O := "com/example/weir/weir/engine/IntIntMap") (f := "objects") (d := "[Ljava/lang/Object;") (Or.inl (w_25 hw)) (ty := (.array (.object "java/lang/Object"))) (by decide), D94 (O := "com/example/weir/weir/engine/IntIntMap") (f := "greatestKey") (d := "I") (Or.inl (w_27 hw)) (ty := .int) (by decide), D94 (O := "com/example/weir/weir/engine/IntIntMap") (f := "values") (d := "[I") (Or.inl (w_34 hw)) (ty := (.array .int)) (by decide), D94 (O := "com/example/weir/weir/engine/IntIntMap") (f := "size") (d := "I") (Or.inl (w_36 hw)) (ty := .int) (by decide), D94 (O := "com/example/weir/weir/engine/IntIntMap") (f := "keys") (d := "I") (Or.inl (w_46 hw)) (ty := .int) (by decide)⟩
          refine WP.dup K at_107 rfl (pc' := 108) rfl ?_
          refine WP.iconst K at_108 (v := (3 : Int32)) rfl (pc' := 109) rfl ?_
          refine WP.callI K (a := mp) (argsL := [(.int (3 : Int32))]) (S := [(.ref mp)]) rfl (w_5 hw) (w_6 hw) (rm_minit w l Z a0 hw mp _ _ _ _ _ _ _ _ _ h94 n0 Z0 O_mp old_mp) (w_7 hw) (w_4 hw) (by decide) rfl (lenOf pd_8 rfl) rfl (W := 1) rfl (by decide) (by decide) (k' := 2) (n' := 41) rfl rfl (by decide) (by decide) at_109 (pc' := 112) rfl fun v h95 hq => ?_
          obtain ⟨rfl, K0, en, kE, s_en, O_mp, A_en⟩ := hq
          have Z0 := Nat.le_trans Z0 K0.1
          show WP κ h95 2 41 (mkF κ.m 112 #[.val (.int p0), .val (.int p1), .val (.int p2), .val (.int p3), .val (.int p4), .val (.int p5), .val (.int (if (p0 &&& (1 : Int32)) = (0 : Int32) then (0 : Int32) else (1 : Int32))), .val (.int (if (p0 &&& (2 : Int32)) = (0 : Int32) then (0 : Int32) else (1 : Int32))), .val (.int a), .val (.int b), .val (.int ia), .val (.int ib), .val (.int (1 : Int32)), .val (.int p4), .unset, .unset, .unset, .unset, .unset, .unset, .unset] [(.ref mp)])
          have old_en : n0 ≤ en := by omega
          refine WP.astore K at_112 rfl (L' := #[.val (.int p0), .val (.int p1), .val (.int p2), .val (.int p3), .val (.int p4), .val (.int p5), .val (.int (if (p0 &&& (1 : Int32)) = (0 : Int32) then (0 : Int32) else (1 : Int32))), .val (.int (if (p0 &&& (2 : Int32)) = (0 : Int32) then (0 : Int32) else (1 : Int32))), .val (.int a), .val (.int b), .val (.int ia), .val (.int ib), .val (.int (1 : Int32)), .val (.int p4), .val (.ref mp), .unset, .unset, .unset, .unset, .unset, .unset]) rfl (pc' := 114) rfl ?_
          refine WP.aload K at_114 rfl rfl (pc' := 116) rfl ?_
          refine WP.iload K at_116 rfl (pc' := 118) rfl ?_
          refine WP.iload K at_118 rfl (pc' := 120) rfl ?_
          refine WP.callV K (a := mp) (argsL := [(.int a), (.int ia)]) (S := []) (w_28 hw) (w_29 hw) (fun vm0 hZ => notFace_of_selects (args := #[]) (mvT (s := κ.s.setVm vm0) hZ (w_31 hw))) (w_31 hw) (w_30 hw) (by decide) (IsMap.exa O_mp) (rm_addT0 w l Z a0 hw (fun _ => (0 : Int32)) mp en kE a ia (0 : Int32) _ h95 n0 Z0 O_mp A_en old_mp old_en (own_thr (n := 2) rfl (by omega) (by omega) (by decide)) (Or.inl rfl)) (w_32 hw) (w_4 hw) (by decide) rfl (lenOf pd_3 rfl) rfl (W := 0) rfl (by decide) (by decide) (k' := 2) (n' := 41) rfl rfl (by decide) (by decide) at_120 (pc' := 123) rfl fun v h96 hq => ?_
          obtain ⟨⟨za, rfl, hza⟩, K1, O_mp, A_en⟩ := hq
          have Z0 := Nat.le_trans Z0 K1.1
          show WP κ h96 2 41 (mkF κ.m 123 #[.val (.int p0), .val (.int p1), .val (.int p2), .val (.int p3), .val (.int p4), .val (.int p5), .val (.int (if (p0 &&& (1 : Int32)) = (0 : Int32) then (0 : Int32) else (1 : Int32))), .val (.int (if (p0 &&& (2 : Int32)) = (0 : Int32) then (0 : Int32) else (1 : Int32))), .val (.int a), .val (.int b), .val (.int ia), .val (.int ib), .val (.int (1 : Int32)), .val (.int p4), .val (.ref mp), .unset, .unset, .unset, .unset, .unset, .unset] [(.int za)])
          rw [own_fndz] at hza A_en
          have h8a := (own_home_e a).2
          generalize hra : own_home a = ra at hza A_en h8a
          obtain ⟨F1, hF1⟩ : ∃ F1, F1 = own_put (fun _ => (0 : Int32)) ra (a + (1 : Int32)) ia := ⟨_, rfl⟩
          have A_en : Ary Z h96 en kE .int 32 (fun j => .int (F1 j)) := by rw [hF1]; exact A_en
          have k0 : F1 (4 * ra) = a + (1 : Int32) := by rw [hF1]; exact own_put0 _ _ _ _
          have kz : ∀ t, t ≠ ra → F1 (4 * t) = 0 := fun t ht => by rw [hF1]; exact own_putz _ _ _ ht
          have mx := own_maxv (0 : Int32) a
          have e00 : (0 : Int32).toInt = 0 := rfl
          have hsn := own_snd (k2 := b + (1 : Int32)) (s := own_home b) h8a (own_home_e b).2 k0 (own_ne0 (by omega) (by omega)) (own_nab (by omega) (by omega) (by omega) (by omega)) kz
          refine WP.pop K at_123 rfl (pc' := 124) rfl ?_
          refine WP.aload K at_124 rfl rfl (pc' := 126) rfl ?_
          refine WP.iload K at_126 rfl (pc' := 128) rfl ?_
          refine WP.iload K at_128 rfl (pc' := 130) rfl ?_
          refine WP.callV K (a := mp) (argsL := [(.int b), (.int ib)]) (S := []) (w_28 hw) (w_29 hw) (fun vm0 hZ => notFace_of_selects (args := #[]) (mvT (s := κ.s.setVm vm0) hZ (w_31 hw))) (w_31 hw) (w_30 hw) (by decide) (IsMap.exa O_mp) (rm_addT1 w l Z a0 hw F1 mp en kE b ib (own_max (0 : Int32) a) _ h96 n0 Z0 O_mp A_en old_mp old_en (own_thr (n := 4) rfl (by omega) (by omega) (by omega)) (Or.inl hsn.2)) (w_32 hw) (w_4 hw) (by decide) rfl (lenOf pd_3 rfl) rfl (W := 0) rfl (by decide) (by decide) (k' := 2) (n' := 41) rfl rfl (by decide) (by decide) at_130 (pc' := 133) rfl fun v h97 hq => ?_
          obtain ⟨⟨zb, rfl, hzb⟩, K2, O_mp, A_en⟩ := hq
          have Z0 := Nat.le_trans Z0 K2.1
          show WP κ h97 2 41 (mkF κ.m 133 #[.val (.int p0), .val (.int p1), .val (.int p2), .val (.int p3), .val (.int p4), .val (.int p5), .val (.int (if (p0 &&& (1 : Int32)) = (0 : Int32) then (0 : Int32) else (1 : Int32))), .val (.int (if (p0 &&& (2 : Int32)) = (0 : Int32) then (0 : Int32) else (1 : Int32))), .val (.int a), .val (.int b), .val (.int ia), .val (.int ib), .val (.int (1 : Int32)), .val (.int p4), .val (.ref mp), .unset, .unset, .unset, .unset, .unset, .unset] [(.int zb)])
          have h8b := own_fnd_lt F1 (b + (1 : Int32)) 8 _ (own_home_e b).2
          generalize own_fnd F1 (b + (1 : Int32)) 8 (own_home b) = rb at hzb A_en hsn h8b
          obtain ⟨F2, hF2⟩ : ∃ F2, F2 = own_put F1 rb (b + (1 : Int32)) ib := ⟨_, rfl⟩
          have A_en : Ary Z h97 en kE .int 32 (fun j => .int (F2 j)) := by rw [hF2]; exact A_en
          have q0 : F2 (4 * ra) = a + (1 : Int32) := by rw [hF2]; exact (own_putz _ _ _ (Ne.symm hsn.1)).trans k0
          have fa0 : F2 (4 * ra + 1) = ia := by rw [hF2, own_putn _ _ _ (by decide) (Ne.symm hsn.1), hF1]; exact own_put1 _ _ _ _
          have fb0 : F2 (4 * rb + 1) = ib := by rw [hF2]; exact own_put1 _ _ _ _
          have fa1 : F2 (4 * ra + 2) = (-1 : Int32) := by rw [hF2, own_putn _ _ _ (by decide) (Ne.symm hsn.1), hF1]; exact own_put2 _ _ _ _
          have fb1 : F2 (4 * rb + 2) = (-1 : Int32) := by rw [hF2]; exact own_put2 _ _ _ _
          have fa2 : F2 (4 * ra + 3) = (-1 : Int32) := by rw [hF2, own_putn _ _ _ (by decide) (Ne.symm hsn.1), hF1]; exact own_put3 _ _ _ _
          have fb2 : F2 (4 * rb + 3) = (-1 : Int32) := by rw [hF2]; exact own_put3 _ _ _ _
          refine WP.istore K at_133 (L' := #[.val (.int p0), .val (.int p1), .val (.int p2), .val (.int p3), .val (.int p4), .val (.int p5), .val (.int (if (p0 &&& (1 : Int32)) = (0 : Int32) then (0 : Int32) else (1 : Int32))), .val (.int (if (p0 &&& (2 : Int32)) = (0 : Int32) then (0 : Int32) else (1 : Int32))), .val (.int a), .val (.int b), .val (.int ia), .val (.int ib), .val (.int (1 : Int32)), .val (.int p4), .val (.ref mp), .val (.int zb), .unset, .unset, .unset, .unset, .unset]) rfl (pc' := 135) rfl ?_
          refine WP.aload K at_135 rfl rfl (pc' := 137) rfl ?_
          refine WP.iload K at_137 rfl (pc' := 139) rfl ?_
          refine WP.callV K (a := mp) (argsL := [(.int a)]) (S := []) (w_51 hw) (w_52 hw) (fun vm0 hZ => notFace_of_selects (args := #[]) (mvT (s := κ.s.setVm vm0) hZ (w_54 hw))) (w_54 hw) (w_53 hw) (by decide) (IsMap.exa O_mp) (rm_placeT w l Z a0 hw F2 mp en kE a _ _ _ _ h97 n0 Z0 O_mp A_en (by rw [hra, own_fndk q0]; exact q0) (own_ne0 (by omega) (by omega))) (w_55 hw) (w_4 hw) (by decide) rfl (lenOf pd_4 rfl) rfl (W := 0) rfl (by decide) (by decide) (k' := 2) (n' := 41) rfl rfl (by decide) (by decide) at_139 (pc' := 142) rfl fun v h98 hq => ?_
          obtain ⟨⟨zp, rfl, hzp⟩, rfl⟩ := hq
          show WP κ h97 2 41 (mkF κ.m 142 #[.val (.int p0), .val (.int p1), .val (.int p2), .val (.int p3), .val (.int p4), .val (.int p5), .val (.int (if (p0 &&& (1 : Int32)) = (0 : Int32) then (0 : Int32) else (1 : Int32))), .val (.int (if (p0 &&& (2 : Int32)) = (0 : Int32) then (0 : Int32) else (1 : Int32))), .val (.int a), .val (.int b), .val (.int ia), .val (.int ib), .val (.int (1 : Int32)), .val (.int p4), .val (.ref mp), .val (.int zb), .unset, .unset, .unset, .unset, .unset] [(.int zp)])
          rw [hra, own_fndk q0] at hzp
          refine WP.istore K at_142 (L' := #[.val (.int p0), .val (.int p1), .val (.int p2), .val (.int p3), .val (.int p4), .val (.int p5), .val (.int (if (p0 &&& (1 : Int32)) = (0 : Int32) then (0 : Int32) else (1 : Int32))), .val (.int (if (p0 &&& (2 : Int32)) = (0 : Int32) then (0 : Int32) else (1 : Int32))), .val (.int a), .val (.int b), .val (.int ia), .val (.int ib), .val (.int (1 : Int32)), .val (.int p4), .val (.ref mp), .val (.int zb), .val (.int zp), .unset, .unset, .unset, .unset]) rfl (pc' := 144) rfl ?_
          refine WP.iload K at_144 rfl (pc' := 146) rfl ?_
          by_cases cs : (p0 &&& (2 : Int32)) = (0 : Int32)
          · refine WP.if0T K at_146 (by rw [if_pos cs]; decide) (by decide) (pc' := 154) (by decide) ?_
            refine WP.iload K at_154 rfl (pc' := 156) rfl ?_
            refine WP.istore K at_156 (L' := #[.val (.int p0), .val (.int p1), .val (.int p2), .val (.int p3), .val (.int p4), .val (.int p5), .val (.int (if (p0 &&& (1 : Int32)) = (0 : Int32) then (0 : Int32) else (1 : Int32))), .val (.int (if (p0 &&& (2 : Int32)) = (0 : Int32) then (0 : Int32) else (1 : Int32))), .val (.int a), .val (.int b), .val (.int ia), .val (.int ib), .val (.int (1 : Int32)), .val (.int p4), .val (.ref mp), .val (.int zb), .val (.int zp), .val (.int zp), .unset, .unset, .unset]) rfl (pc' := 158) rfl ?_
            refine WP.iload K at_158 rfl (pc' := 160) rfl ?_
            refine WP.if0T K at_160 (by rw [if_pos cs]; decide) (by decide) (pc' := 168) (by decide) ?_
            refine WP.iload K at_168 rfl (pc' := 170) rfl ?_
            refine WP.istore K at_170 (L' := #[.val (.int p0), .val (.int p1), .val (.int p2), .val (.int p3), .val (.int p4), .val (.int p5), .val (.int (if (p0 &&& (1 : Int32)) = (0 : Int32) then (0 : Int32) else (1 : Int32))), .val (.int (if (p0 &&& (2 : Int32)) = (0 : Int32) then (0 : Int32) else (1 : Int32))), .val (.int a), .val (.int b), .val (.int ia), .val (.int ib), .val (.int (1 : Int32)), .val (.int p4), .val (.ref mp), .val (.int zb), .val (.int zp), .val (.int zp), .val (.int zb), .unset, .unset]) rfl (pc' := 172) rfl ?_
            refine WP.iload K at_172 rfl (pc' := 174) rfl ?_
            refine WP.if0T K at_174 (by rw [if_pos cs]; decide) (by decide) (pc' := 182) (by decide) ?_
            refine WP.iload K at_182 rfl (pc' := 184) rfl ?_
            refine WP.istore K at_184 (L' := #[.val (.int p0), .val (.int p1), .val (.int p2), .val (.int p3), .val (.int p4), .val (.int p5), .val (.int (if (p0 &&& (1 : Int32)) = (0 : Int32) then (0 : Int32) else (1 : Int32))), .val (.int (if (p0 &&& (2 : Int32)) = (0 : Int32) then (0 : Int32) else (1 : Int32))), .val (.int a), .val (.int b), .val (.int ia), .val (.int ib), .val (.int (1 : Int32)), .val (.int p4), .val (.ref mp), .val (.int zb), .val (.int zp), .val (.int zp), .val (.int zb), .val (.int ia), .unset]) rfl (pc' := 186) rfl ?_
            refine WP.iload K at_186 rfl (pc' := 188) rfl ?_
            refine WP.if0T K at_188 (by rw [if_pos cs]; decide) (by decide) (pc' := 196) (by decide) ?_
            refine WP.iload K at_196 rfl (pc' := 198) rfl ?_
            refine WP.istore K at_198 (L' := #[.val (.int p0), .val (.int p1), .val (.int p2), .val (.int p3), .val (.int p4), .val (.int p5), .val (.int (if (p0 &&& (1 : Int32)) = (0 : Int32) then (0 : Int32) else (1 : Int32))), .val (.int (if (p0 &&& (2 : Int32)) = (0 : Int32) then (0 : Int32) else (1 : Int32))), .val (.int a), .val (.int b), .val (.int ia), .val (.int ib), .val (.int (1 : Int32)), .val (.int p4), .val (.ref mp), .val (.int zb), .val (.int zp), .val (.int zp), .val (.int zb), .val (.int ia), .val (.int ib)]) rfl (pc' := 200) rfl ?_
            refine WP.aload K at_200 rfl rfl (pc' := 202) rfl ?_
            refine WP.iload K at_202 rfl (pc' := 204) rfl ?_
            refine WP.iload K at_204 rfl (pc' := 206) rfl ?_
            refine WP.iload K at_206 rfl (pc' := 208) rfl ?_
            refine WP.callV K (a := mp) (argsL := [(.int zp), (.int (1 : Int32)), (.int p4)]) (S := []) (w_56 hw) (w_57 hw) (fun vm0 hZ => notFace_of_selects (args := #[]) (mvT (s := κ.s.setVm vm0) hZ (w_59 hw))) (w_59 hw) (w_58 hw) (by decide) (IsMap.exa O_mp) (rm_setT1 w l Z a0 hw F2 mp en kE zp p4 ra _ _ _ _ _ h97 n0 Z0 O_mp A_en hzp (by omega) old_en) (w_60 hw) (w_4 hw) (by decide) rfl (lenOf pd_2 rfl) rfl (W := 0) rfl (by decide) (by decide) (k' := 2) (n' := 41) rfl rfl (by decide) (by decide) at_208 (pc' := 211) rfl fun v h99 hq => ?_
            obtain ⟨rfl, K9, O_mp, A_en⟩ := hq
            have Z0 := Nat.le_trans Z0 K9.1
            show WP κ h99 2 41 (mkF κ.m 211 #[.val (.int p0), .val (.int p1), .val (.int p2), .val (.int p3), .val (.int p4), .val (.int p5), .val (.int (if (p0 &&& (1 : Int32)) = (0 : Int32) then (0 : Int32) else (1 : Int32))), .val (.int (if (p0 &&& (2 : Int32)) = (0 : Int32) then (0 : Int32) else (1 : Int32))), .val (.int a), .val (.int b), .val (.int ia), .val (.int ib), .val (.int (1 : Int32)), .val (.int p4), .val (.ref mp), .val (.int zb), .val (.int zp), .val (.int zp), .val (.int zb), .val (.int ia), .val (.int ib)] [])
            refine WP.aload K at_211 rfl rfl (pc' := 213) rfl ?_
            refine WP.iload K at_213 rfl (pc' := 215) rfl ?_
            refine WP.iload K at_215 rfl (pc' := 217) rfl ?_
            refine WP.if0T K at_217 (by decide) (by decide) (pc' := 225) (by decide) ?_
            refine WP.iload K at_225 rfl (pc' := 227) rfl ?_
            refine WP.iload K at_227 rfl (pc' := 229) rfl ?_
            refine WP.iconst K at_229 (v := (1 : Int32)) rfl (pc' := 230) rfl ?_
            refine WP.icmpF K at_230 (by decide) (pc' := 233) rfl ?_
            refine WP.iload K at_233 rfl (pc' := 235) rfl ?_
            refine WP.goto K at_235 (by decide) (pc' := 239) (by decide) ?_
            refine WP.iload K at_239 rfl (pc' := 241) rfl ?_
            refine WP.iconst K at_241 (v := (2 : Int32)) rfl (pc' := 242) rfl ?_
            refine WP.icmpT K at_242 (by decide) (by decide) (pc' := 250) (by decide) ?_
            refine WP.iconst K at_250 (v := (-1 : Int32)) rfl (pc' := 251) rfl ?_
            refine WP.callS K (argsL := [(.ref mp), (.int zp), (.int ia), (.int p4), (.int (-1 : Int32))]) (S := []) (w_61 hw) (w_62 hw) (rm_holdsT w l Z a0 hw (fset F2 (4 * ra + 2) p4) mp en kE zp ia p4 (-1 : Int32) ra _ _ _ _ _ h99 n0 Z0 O_mp A_en hzp (by omega) ((fset_ne _ _ (by omega)).trans fa0) (fset_same _ _ _) ((fset_ne _ _ (by omega)).trans fa2)) (w_64 hw) (w_63 hw) (by decide) rfl (lenOf pd_9 rfl) rfl (W := 0) rfl (by decide) (by decide) (k' := 2) (n' := 41) rfl rfl (by decide) (by decide) at_251 (pc' := 254) rfl fun v h100 hq => ?_
            obtain ⟨rfl, rfl⟩ := hq
            show WP κ h99 2 41 (mkF κ.m 254 #[.val (.int p0), .val (.int p1), .val (.int p2), .val (.int p3), .val (.int p4), .val (.int p5), .val (.int (if (p0 &&& (1 : Int32)) = (0 : Int32) then (0 : Int32) else (1 : Int32))), .val (.int (if (p0 &&& (2 : Int32)) = (0 : Int32) then (0 : Int32) else (1 : Int32))), .val (.int a), .val (.int b), .val (.int ia), .val (.int ib), .val (.int (1 : Int32)), .val (.int p4), .val (.ref mp), .val (.int zb), .val (.int zp), .val (.int zp), .val (.int zb), .val (.int ia), .val (.int ib)] [(.int (1 : Int32))])
            refine WP.if0F K at_254 (by decide) (pc' := 257) rfl ?_
            refine WP.aload K at_257 rfl rfl (pc' := 259) rfl ?_
            refine WP.iload K at_259 rfl (pc' := 261) rfl ?_
            refine WP.iload K at_261 rfl (pc' := 263) rfl ?_
            refine WP.iconst K at_263 (v := (-1 : Int32)) rfl (pc' := 264) rfl ?_
            refine WP.iconst K at_264 (v := (-1 : Int32)) rfl (pc' := 265) rfl ?_
            refine WP.callS K (argsL := [(.ref mp), (.int zb), (.int ib), (.int (-1 : Int32)), (.int (-1 : Int32))]) (S := []) (w_61 hw) (w_62 hw) (rm_holdsT w l Z a0 hw (fset F2 (4 * ra + 2) p4) mp en kE zb ib (-1 : Int32) (-1 : Int32) rb _ _ _ _ _ h99 n0 Z0 O_mp A_en hzb (by omega) ((fset_ne _ _ (by omega)).trans fb0) ((fset_ne _ _ (by omega)).trans fb1) ((fset_ne _ _ (by omega)).trans fb2)) (w_64 hw) (w_63 hw) (by decide) rfl (lenOf pd_9 rfl) rfl (W := 0) rfl (by decide) (by decide) (k' := 2) (n' := 41) rfl rfl (by decide) (by decide) at_265 (pc' := 268) rfl fun v h101 hq => ?_
            obtain ⟨rfl, rfl⟩ := hq
            show WP κ h99 2 41 (mkF κ.m 268 #[.val (.int p0), .val (.int p1), .val (.int p2), .val (.int p3), .val (.int p4), .val (.int p5), .val (.int (if (p0 &&& (1 : Int32)) = (0 : Int32) then (0 : Int32) else (1 : Int32))), .val (.int (if (p0 &&& (2 : Int32)) = (0 : Int32) then (0 : Int32) else (1 : Int32))), .val (.int a), .val (.int b), .val (.int ia), .val (.int ib), .val (.int (1 : Int32)), .val (.int p4), .val (.ref mp), .val (.int zb), .val (.int zp), .val (.int zp), .val (.int zb), .val (.int ia), .val (.int ib)] [(.int (1 : Int32))])
            refine WP.if0F K at_268 (by decide) (pc' := 271) rfl ?_
            refine WP.iconst K at_271 (v := (1 : Int32)) rfl (pc' := 272) rfl ?_
            refine WP.goto K at_272 (by decide) (pc' := 276) (by decide) ?_
            exact WP.retN K (ty := .boolean) (by decide) at_276 (by decide) (by decide) rfl
          · refine WP.if0F K at_146 (by rw [if_neg cs]; decide) (pc' := 149) rfl ?_
            refine WP.iload K at_149 rfl (pc' := 151) rfl ?_
            refine WP.goto K at_151 (by decide) (pc' := 156) (by decide) ?_
            refine WP.istore K at_156 (L' := #[.val (.int p0), .val (.int p1), .val (.int p2), .val (.int p3), .val (.int p4), .val (.int p5), .val (.int (if (p0 &&& (1 : Int32)) = (0 : Int32) then (0 : Int32) else (1 : Int32))), .val (.int (if (p0 &&& (2 : Int32)) = (0 : Int32) then (0 : Int32) else (1 : Int32))), .val (.int a), .val (.int b), .val (.int ia), .val (.int ib), .val (.int (1 : Int32)), .val (.int p4), .val (.ref mp), .val (.int zb), .val (.int zp), .val (.int zb), .unset, .unset, .unset]) rfl (pc' := 158) rfl ?_
            refine WP.iload K at_158 rfl (pc' := 160) rfl ?_
            refine WP.if0F K at_160 (by rw [if_neg cs]; decide) (pc' := 163) rfl ?_
            refine WP.iload K at_163 rfl (pc' := 165) rfl ?_
            refine WP.goto K at_165 (by decide) (pc' := 170) (by decide) ?_
            refine WP.istore K at_170 (L' := #[.val (.int p0), .val (.int p1), .val (.int p2), .val (.int p3), .val (.int p4), .val (.int p5), .val (.int (if (p0 &&& (1 : Int32)) = (0 : Int32) then (0 : Int32) else (1 : Int32))), .val (.int (if (p0 &&& (2 : Int32)) = (0 : Int32) then (0 : Int32) else (1 : Int32))), .val (.int a), .val (.int b), .val (.int ia), .val (.int ib), .val (.int (1 : Int32)), .val (.int p4), .val (.ref mp), .val (.int zb), .val (.int zp), .val (.int zb), .val (.int zp), .unset, .unset]) rfl (pc' := 172) rfl ?_
            refine WP.iload K at_172 rfl (pc' := 174) rfl ?_
            refine WP.if0F K at_174 (by rw [if_neg cs]; decide) (pc' := 177) rfl ?_
            refine WP.iload K at_177 rfl (pc' := 179) rfl ?_
            refine WP.goto K at_179 (by decide) (pc' := 184) (by decide) ?_
            refine WP.istore K at_184 (L' := #[.val (.int p0), .val (.int p1), .val (.int p2), .val (.int p3), .val (.int p4), .val (.int p5), .val (.int (if (p0 &&& (1 : Int32)) = (0 : Int32) then (0 : Int32) else (1 : Int32))), .val (.int (if (p0 &&& (2 : Int32)) = (0 : Int32) then (0 : Int32) else (1 : Int32))), .val (.int a), .val (.int b), .val (.int ia), .val (.int ib), .val (.int (1 : Int32)), .val (.int p4), .val (.ref mp), .val (.int zb), .val (.int zp), .val (.int zb), .val (.int zp), .val (.int ib), .unset]) rfl (pc' := 186) rfl ?_
            refine WP.iload K at_186 rfl (pc' := 188) rfl ?_
            refine WP.if0F K at_188 (by rw [if_neg cs]; decide) (pc' := 191) rfl ?_
            refine WP.iload K at_191 rfl (pc' := 193) rfl ?_
            refine WP.goto K at_193 (by decide) (pc' := 198) (by decide) ?_
            refine WP.istore K at_198 (L' := #[.val (.int p0), .val (.int p1), .val (.int p2), .val (.int p3), .val (.int p4), .val (.int p5), .val (.int (if (p0 &&& (1 : Int32)) = (0 : Int32) then (0 : Int32) else (1 : Int32))), .val (.int (if (p0 &&& (2 : Int32)) = (0 : Int32) then (0 : Int32) else (1 : Int32))), .val (.int a), .val (.int b), .val (.int ia), .val (.int ib), .val (.int (1 : Int32)), .val (.int p4), .val (.ref mp), .val (.int zb), .val (.int zp), .val (.int zb), .val (.int zp), .val (.int ib), .val (.int ia)]) rfl (pc' := 200) rfl ?_
            refine WP.aload K at_200 rfl rfl (pc' := 202) rfl ?_
            refine WP.iload K at_202 rfl (pc' := 204) rfl ?_
            refine WP.iload K at_204 rfl (pc' := 206) rfl ?_
            refine WP.iload K at_206 rfl (pc' := 208) rfl ?_
            refine WP.callV K (a := mp) (argsL := [(.int zb), (.int (1 : Int32)), (.int p4)]) (S := []) (w_56 hw) (w_57 hw) (fun vm0 hZ => notFace_of_selects (args := #[]) (mvT (s := κ.s.setVm vm0) hZ (w_59 hw))) (w_59 hw) (w_58 hw) (by decide) (IsMap.exa O_mp) (rm_setT1 w l Z a0 hw F2 mp en kE zb p4 rb _ _ _ _ _ h97 n0 Z0 O_mp A_en hzb (by omega) old_en) (w_60 hw) (w_4 hw) (by decide) rfl (lenOf pd_2 rfl) rfl (W := 0) rfl (by decide) (by decide) (k' := 2) (n' := 41) rfl rfl (by decide) (by decide) at_208 (pc' := 211) rfl fun v h102 hq => ?_
            obtain ⟨rfl, K9, O_mp, A_en⟩ := hq
            have Z0 := Nat.le_trans Z0 K9.1
            show WP κ h102 2 41 (mkF κ.m 211 #[.val (.int p0), .val (.int p1), .val (.int p2), .val (.int p3), .val (.int p4), .val (.int p5), .val (.int (if (p0 &&& (1 : Int32)) = (0 : Int32) then (0 : Int32) else (1 : Int32))), .val (.int (if (p0 &&& (2 : Int32)) = (0 : Int32) then (0 : Int32) else (1 : Int32))), .val (.int a), .val (.int b), .val (.int ia), .val (.int ib), .val (.int (1 : Int32)), .val (.int p4), .val (.ref mp), .val (.int zb), .val (.int zp), .val (.int zb), .val (.int zp), .val (.int ib), .val (.int ia)] [])
            refine WP.aload K at_211 rfl rfl (pc' := 213) rfl ?_
            refine WP.iload K at_213 rfl (pc' := 215) rfl ?_
            refine WP.iload K at_215 rfl (pc' := 217) rfl ?_
            refine WP.if0T K at_217 (by decide) (by decide) (pc' := 225) (by decide) ?_
            refine WP.iload K at_225 rfl (pc' := 227) rfl ?_
            refine WP.iload K at_227 rfl (pc' := 229) rfl ?_
            refine WP.iconst K at_229 (v := (1 : Int32)) rfl (pc' := 230) rfl ?_
            refine WP.icmpF K at_230 (by decide) (pc' := 233) rfl ?_
            refine WP.iload K at_233 rfl (pc' := 235) rfl ?_
            refine WP.goto K at_235 (by decide) (pc' := 239) (by decide) ?_
            refine WP.iload K at_239 rfl (pc' := 241) rfl ?_
            refine WP.iconst K at_241 (v := (2 : Int32)) rfl (pc' := 242) rfl ?_
            refine WP.icmpT K at_242 (by decide) (by decide) (pc' := 250) (by decide) ?_
            refine WP.iconst K at_250 (v := (-1 : Int32)) rfl (pc' := 251) rfl ?_
            refine WP.callS K (argsL := [(.ref mp), (.int zb), (.int ib), (.int p4), (.int (-1 : Int32))]) (S := []) (w_61 hw) (w_62 hw) (rm_holdsT w l Z a0 hw (fset F2 (4 * rb + 2) p4) mp en kE zb ib p4 (-1 : Int32) rb _ _ _ _ _ h102 n0 Z0 O_mp A_en hzb (by omega) ((fset_ne _ _ (by omega)).trans fb0) (fset_same _ _ _) ((fset_ne _ _ (by omega)).trans fb2)) (w_64 hw) (w_63 hw) (by decide) rfl (lenOf pd_9 rfl) rfl (W := 0) rfl (by decide) (by decide) (k' := 2) (n' := 41) rfl rfl (by decide) (by decide) at_251 (pc' := 254) rfl fun v h103 hq => ?_
            obtain ⟨rfl, rfl⟩ := hq
            show WP κ h102 2 41 (mkF κ.m 254 #[.val (.int p0), .val (.int p1), .val (.int p2), .val (.int p3), .val (.int p4), .val (.int p5), .val (.int (if (p0 &&& (1 : Int32)) = (0 : Int32) then (0 : Int32) else (1 : Int32))), .val (.int (if (p0 &&& (2 : Int32)) = (0 : Int32) then (0 : Int32) else (1 : Int32))), .val (.int a), .val (.int b), .val (.int ia), .val (.int ib), .val (.int (1 : Int32)), .val (.int p4), .val (.ref mp), .val (.int zb), .val (.int zp), .val (.int zb), .val (.int zp), .val (.int ib), .val (.int ia)] [(.int (1 : Int32))])
            refine WP.if0F K at_254 (by decide) (pc' := 257) rfl ?_
            refine WP.aload K at_257 rfl rfl (pc' := 259) rfl ?_
            refine WP.iload K at_259 rfl (pc' := 261) rfl ?_
            refine WP.iload K at_261 rfl (pc' := 263) rfl ?_
            refine WP.iconst K at_263 (v := (-1 : Int32)) rfl (pc' := 264) rfl ?_
            refine WP.iconst K at_264 (v := (-1 : Int32)) rfl (pc' := 265) rfl ?_
            refine WP.callS K (argsL := [(.ref mp), (.int zp), (.int ia), (.int (-1 : Int32)), (.int (-1 : Int32))]) (S := []) (w_61 hw) (w_62 hw) (rm_holdsT w l Z a0 hw (fset F2 (4 * rb + 2) p4) mp en kE zp ia (-1 : Int32) (-1 : Int32) ra _ _ _ _ _ h102 n0 Z0 O_mp A_en hzp (by omega) ((fset_ne _ _ (by omega)).trans fa0) ((fset_ne _ _ (by omega)).trans fa1) ((fset_ne _ _ (by omega)).trans fa2)) (w_64 hw) (w_63 hw) (by decide) rfl (lenOf pd_9 rfl) rfl (W := 0) rfl (by decide) (by decide) (k' := 2) (n' := 41) rfl rfl (by decide) (by decide) at_265 (pc' := 268) rfl fun v h104 hq => ?_
            obtain ⟨rfl, rfl⟩ := hq
            show WP κ h102 2 41 (mkF κ.m 268 #[.val (.int p0), .val (.int p1), .val (.int p2), .val (.int p3), .val (.int p4), .val (.int p5), .val (.int (if (p0 &&& (1 : Int32)) = (0 : Int32) then (0 : Int32) else (1 : Int32))), .val (.int (if (p0 &&& (2 : Int32)) = (0 : Int32) then (0 : Int32) else (1 : Int32))), .val (.int a), .val (.int b), .val (.int ia), .val (.int ib), .val (.int (1 : Int32)), .val (.int p4), .val (.ref mp), .val (.int zb), .val (.int zp), .val (.int zb), .val (.int zp), .val (.int ib), .val (.int ia)] [(.int (1 : Int32))])
            refine WP.if0F K at_268 (by decide) (pc' := 271) rfl ?_
            refine WP.iconst K at_271 (v := (1 : Int32)) rfl (pc' := 272) rfl ?_
            refine WP.goto K at_272 (by decide) (pc' := 276) (by decide) ?_
            exact WP.retN K (ty := .boolean) (by decide) at_276 (by decide) (by decide) rfl
        · show WP κ h0 0 0 (mkF κ.m 87 #[.val (.int p0), .val (.int p1), .val (.int p2), .val (.int p3), .val (.int p4), .val (.int p5), .val (.int (if (p0 &&& (1 : Int32)) = (0 : Int32) then (0 : Int32) else (1 : Int32))), .val (.int (if (p0 &&& (2 : Int32)) = (0 : Int32) then (0 : Int32) else (1 : Int32))), .val (.int a), .val (.int b), .val (.int ia), .val (.int ib), .val (.int (2 : Int32)), .unset, .unset, .unset, .unset, .unset, .unset, .unset, .unset] [])
          refine WP.iload K at_87 rfl (pc' := 89) rfl ?_
          refine WP.if0T K at_89 (by decide) (by decide) (pc' := 100) (by decide) ?_
          refine WP.iload K at_100 rfl (pc' := 102) rfl ?_
          refine WP.istore K at_102 (L' := #[.val (.int p0), .val (.int p1), .val (.int p2), .val (.int p3), .val (.int p4), .val (.int p5), .val (.int (if (p0 &&& (1 : Int32)) = (0 : Int32) then (0 : Int32) else (1 : Int32))), .val (.int (if (p0 &&& (2 : Int32)) = (0 : Int32) then (0 : Int32) else (1 : Int32))), .val (.int a), .val (.int b), .val (.int ia), .val (.int ib), .val (.int (2 : Int32)), .val (.int p4), .unset, .unset, .unset, .unset, .unset, .unset, .unset]) rfl (pc' := 104) rfl ?_
          refine WP.new K (w_2 hw) (w_3 hw) (w_4 hw) at_104 (k' := 1) (n' := 9) rfl rfl (by decide) (by decide) (pc' := 107) rfl fun h105 mp g105 E105 X105 D105 => ?_
          have old_mp : n0 ≤ mp := by have q_ := Z0; omega
          have Z0 := Nat.le_trans Z0 E105.1
          have O_mp : IsMap Z h105 mp (.int (0 : Int32)) (.int (0 : Int32)) .null (.int (0 : Int32)) .null (.int (0 : Int32)) .null (.int (0 : Int32)) (.int (0 : Int32)) := ⟨X105, D105 (O := "com/example/weir/weir/engine/IntIntMap") (f := "width") (d := "I") (Or.inr (w_12 hw)) (ty := .int) (by decide), D105 (O := "com/example/weir/weir/engine/IntIntMap") (f := "stride") (d := "I") (Or.inr (w_14 hw)) (ty := .int) (by decide), D105 (O := "com/example/weir/weir/engine/IntIntMap") (f := "entries") (d := "[I") (Or.inl (w_21 hw)) (ty := (.array .int)) (by decide), D105 (O := "com/example/weir/weir/engine/IntIntMap") (f := "slots") (d := "I") (Or.inl (w_23 hw)) (ty := .int) (by decide), D105 (O := "com/example/weir/weir/engine/IntIntMap") (f := "objects") (d := "[Ljava/lang/Object;") (Or.inl (w_25 hw)) (ty := (.array (.object "java/lang/Object"))) (by decide), D105 (O := "com/example/weir/weir/engine/IntIntMap") (f := "greatestKey") (d := "I") (Or.inl (w_27 hw)) (ty := .int) (by decide), D105 (O := "com/example/weir/weir/engine/IntIntMap") (f := "values") (d := "[I") (Or.inl (w_34 hw)) (ty := (.array .int)) (by decide), D105 (O := "com/example/weir/weir/engine/IntIntMap") (f := "size") (d := "I") (Or.inl (w_36 hw)) (ty := .int) (by decide), D105 (O := "com/example/weir/weir/engine/IntIntMap") (f := "keys") (d := "I") (Or.inl (w_46 hw)) (ty := .int) (by decide)⟩
          refine WP.dup K at_107 rfl (pc' := 108) rfl ?_
          refine WP.iconst K at_108 (v := (3 : Int32)) rfl (pc' := 109) rfl ?_
          refine WP.callI K (a := mp) (argsL := [(.int (3 : Int32))]) (S := [(.ref mp)]) rfl (w_5 hw) (w_6 hw) (rm_minit w l Z a0 hw mp _ _ _ _ _ _ _ _ _ h105 n0 Z0 O_mp old_mp) (w_7 hw) (w_4 hw) (by decide) rfl (lenOf pd_8 rfl) rfl (W := 1) rfl (by decide) (by decide) (k' := 2) (n' := 41) rfl rfl (by decide) (by decide) at_109 (pc' := 112) rfl fun v h106 hq => ?_
          obtain ⟨rfl, K0, en, kE, s_en, O_mp, A_en⟩ := hq
          have Z0 := Nat.le_trans Z0 K0.1
          show WP κ h106 2 41 (mkF κ.m 112 #[.val (.int p0), .val (.int p1), .val (.int p2), .val (.int p3), .val (.int p4), .val (.int p5), .val (.int (if (p0 &&& (1 : Int32)) = (0 : Int32) then (0 : Int32) else (1 : Int32))), .val (.int (if (p0 &&& (2 : Int32)) = (0 : Int32) then (0 : Int32) else (1 : Int32))), .val (.int a), .val (.int b), .val (.int ia), .val (.int ib), .val (.int (2 : Int32)), .val (.int p4), .unset, .unset, .unset, .unset, .unset, .unset, .unset] [(.ref mp)])
          have old_en : n0 ≤ en := by omega
          refine WP.astore K at_112 rfl (L' := #[.val (.int p0), .val (.int p1), .val (.int p2), .val (.int p3), .val (.int p4), .val (.int p5), .val (.int (if (p0 &&& (1 : Int32)) = (0 : Int32) then (0 : Int32) else (1 : Int32))), .val (.int (if (p0 &&& (2 : Int32)) = (0 : Int32) then (0 : Int32) else (1 : Int32))), .val (.int a), .val (.int b), .val (.int ia), .val (.int ib), .val (.int (2 : Int32)), .val (.int p4), .val (.ref mp), .unset, .unset, .unset, .unset, .unset, .unset]) rfl (pc' := 114) rfl ?_
          refine WP.aload K at_114 rfl rfl (pc' := 116) rfl ?_
          refine WP.iload K at_116 rfl (pc' := 118) rfl ?_
          refine WP.iload K at_118 rfl (pc' := 120) rfl ?_
          refine WP.callV K (a := mp) (argsL := [(.int a), (.int ia)]) (S := []) (w_28 hw) (w_29 hw) (fun vm0 hZ => notFace_of_selects (args := #[]) (mvT (s := κ.s.setVm vm0) hZ (w_31 hw))) (w_31 hw) (w_30 hw) (by decide) (IsMap.exa O_mp) (rm_addT0 w l Z a0 hw (fun _ => (0 : Int32)) mp en kE a ia (0 : Int32) _ h106 n0 Z0 O_mp A_en old_mp old_en (own_thr (n := 2) rfl (by omega) (by omega) (by decide)) (Or.inl rfl)) (w_32 hw) (w_4 hw) (by decide) rfl (lenOf pd_3 rfl) rfl (W := 0) rfl (by decide) (by decide) (k' := 2) (n' := 41) rfl rfl (by decide) (by decide) at_120 (pc' := 123) rfl fun v h107 hq => ?_
          obtain ⟨⟨za, rfl, hza⟩, K1, O_mp, A_en⟩ := hq
          have Z0 := Nat.le_trans Z0 K1.1
          show WP κ h107 2 41 (mkF κ.m 123 #[.val (.int p0), .val (.int p1), .val (.int p2), .val (.int p3), .val (.int p4), .val (.int p5), .val (.int (if (p0 &&& (1 : Int32)) = (0 : Int32) then (0 : Int32) else (1 : Int32))), .val (.int (if (p0 &&& (2 : Int32)) = (0 : Int32) then (0 : Int32) else (1 : Int32))), .val (.int a), .val (.int b), .val (.int ia), .val (.int ib), .val (.int (2 : Int32)), .val (.int p4), .val (.ref mp), .unset, .unset, .unset, .unset, .unset, .unset] [(.int za)])
          rw [own_fndz] at hza A_en
          have h8a := (own_home_e a).2
          generalize hra : own_home a = ra at hza A_en h8a
          obtain ⟨F1, hF1⟩ : ∃ F1, F1 = own_put (fun _ => (0 : Int32)) ra (a + (1 : Int32)) ia := ⟨_, rfl⟩
          have A_en : Ary Z h107 en kE .int 32 (fun j => .int (F1 j)) := by rw [hF1]; exact A_en
          have k0 : F1 (4 * ra) = a + (1 : Int32) := by rw [hF1]; exact own_put0 _ _ _ _
          have kz : ∀ t, t ≠ ra → F1 (4 * t) = 0 := fun t ht => by rw [hF1]; exact own_putz _ _ _ ht
          have mx := own_maxv (0 : Int32) a
          have e00 : (0 : Int32).toInt = 0 := rfl
          have hsn := own_snd (k2 := b + (1 : Int32)) (s := own_home b) h8a (own_home_e b).2 k0 (own_ne0 (by omega) (by omega)) (own_nab (by omega) (by omega) (by omega) (by omega)) kz
          refine WP.pop K at_123 rfl (pc' := 124) rfl ?_
          refine WP.aload K at_124 rfl rfl (pc' := 126) rfl ?_
          refine WP.iload K at_126 rfl (pc' := 128) rfl ?_
          refine WP.iload K at_128 rfl (pc' := 130) rfl ?_
          refine WP.callV K (a := mp) (argsL := [(.int b), (.int ib)]) (S := []) (w_28 hw) (w_29 hw) (fun vm0 hZ => notFace_of_selects (args := #[]) (mvT (s := κ.s.setVm vm0) hZ (w_31 hw))) (w_31 hw) (w_30 hw) (by decide) (IsMap.exa O_mp) (rm_addT1 w l Z a0 hw F1 mp en kE b ib (own_max (0 : Int32) a) _ h107 n0 Z0 O_mp A_en old_mp old_en (own_thr (n := 4) rfl (by omega) (by omega) (by omega)) (Or.inl hsn.2)) (w_32 hw) (w_4 hw) (by decide) rfl (lenOf pd_3 rfl) rfl (W := 0) rfl (by decide) (by decide) (k' := 2) (n' := 41) rfl rfl (by decide) (by decide) at_130 (pc' := 133) rfl fun v h108 hq => ?_
          obtain ⟨⟨zb, rfl, hzb⟩, K2, O_mp, A_en⟩ := hq
          have Z0 := Nat.le_trans Z0 K2.1
          show WP κ h108 2 41 (mkF κ.m 133 #[.val (.int p0), .val (.int p1), .val (.int p2), .val (.int p3), .val (.int p4), .val (.int p5), .val (.int (if (p0 &&& (1 : Int32)) = (0 : Int32) then (0 : Int32) else (1 : Int32))), .val (.int (if (p0 &&& (2 : Int32)) = (0 : Int32) then (0 : Int32) else (1 : Int32))), .val (.int a), .val (.int b), .val (.int ia), .val (.int ib), .val (.int (2 : Int32)), .val (.int p4), .val (.ref mp), .unset, .unset, .unset, .unset, .unset, .unset] [(.int zb)])
          have h8b := own_fnd_lt F1 (b + (1 : Int32)) 8 _ (own_home_e b).2
          generalize own_fnd F1 (b + (1 : Int32)) 8 (own_home b) = rb at hzb A_en hsn h8b
          obtain ⟨F2, hF2⟩ : ∃ F2, F2 = own_put F1 rb (b + (1 : Int32)) ib := ⟨_, rfl⟩
          have A_en : Ary Z h108 en kE .int 32 (fun j => .int (F2 j)) := by rw [hF2]; exact A_en
          have q0 : F2 (4 * ra) = a + (1 : Int32) := by rw [hF2]; exact (own_putz _ _ _ (Ne.symm hsn.1)).trans k0
          have fa0 : F2 (4 * ra + 1) = ia := by rw [hF2, own_putn _ _ _ (by decide) (Ne.symm hsn.1), hF1]; exact own_put1 _ _ _ _
          have fb0 : F2 (4 * rb + 1) = ib := by rw [hF2]; exact own_put1 _ _ _ _
          have fa1 : F2 (4 * ra + 2) = (-1 : Int32) := by rw [hF2, own_putn _ _ _ (by decide) (Ne.symm hsn.1), hF1]; exact own_put2 _ _ _ _
          have fb1 : F2 (4 * rb + 2) = (-1 : Int32) := by rw [hF2]; exact own_put2 _ _ _ _
          have fa2 : F2 (4 * ra + 3) = (-1 : Int32) := by rw [hF2, own_putn _ _ _ (by decide) (Ne.symm hsn.1), hF1]; exact own_put3 _ _ _ _
          have fb2 : F2 (4 * rb + 3) = (-1 : Int32) := by rw [hF2]; exact own_put3 _ _ _ _
          refine WP.istore K at_133 (L' := #[.val (.int p0), .val (.int p1), .val (.int p2), .val (.int p3), .val (.int p4), .val (.int p5), .val (.int (if (p0 &&& (1 : Int32)) = (0 : Int32) then (0 : Int32) else (1 : Int32))), .val (.int (if (p0 &&& (2 : Int32)) = (0 : Int32) then (0 : Int32) else (1 : Int32))), .val (.int a), .val (.int b), .val (.int ia), .val (.int ib), .val (.int (2 : Int32)), .val (.int p4), .val (.ref mp), .val (.int zb), .unset, .unset, .unset, .unset, .unset]) rfl (pc' := 135) rfl ?_
          refine WP.aload K at_135 rfl rfl (pc' := 137) rfl ?_
          refine WP.iload K at_137 rfl (pc' := 139) rfl ?_
          refine WP.callV K (a := mp) (argsL := [(.int a)]) (S := []) (w_51 hw) (w_52 hw) (fun vm0 hZ => notFace_of_selects (args := #[]) (mvT (s := κ.s.setVm vm0) hZ (w_54 hw))) (w_54 hw) (w_53 hw) (by decide) (IsMap.exa O_mp) (rm_placeT w l Z a0 hw F2 mp en kE a _ _ _ _ h108 n0 Z0 O_mp A_en (by rw [hra, own_fndk q0]; exact q0) (own_ne0 (by omega) (by omega))) (w_55 hw) (w_4 hw) (by decide) rfl (lenOf pd_4 rfl) rfl (W := 0) rfl (by decide) (by decide) (k' := 2) (n' := 41) rfl rfl (by decide) (by decide) at_139 (pc' := 142) rfl fun v h109 hq => ?_
          obtain ⟨⟨zp, rfl, hzp⟩, rfl⟩ := hq
          show WP κ h108 2 41 (mkF κ.m 142 #[.val (.int p0), .val (.int p1), .val (.int p2), .val (.int p3), .val (.int p4), .val (.int p5), .val (.int (if (p0 &&& (1 : Int32)) = (0 : Int32) then (0 : Int32) else (1 : Int32))), .val (.int (if (p0 &&& (2 : Int32)) = (0 : Int32) then (0 : Int32) else (1 : Int32))), .val (.int a), .val (.int b), .val (.int ia), .val (.int ib), .val (.int (2 : Int32)), .val (.int p4), .val (.ref mp), .val (.int zb), .unset, .unset, .unset, .unset, .unset] [(.int zp)])
          rw [hra, own_fndk q0] at hzp
          refine WP.istore K at_142 (L' := #[.val (.int p0), .val (.int p1), .val (.int p2), .val (.int p3), .val (.int p4), .val (.int p5), .val (.int (if (p0 &&& (1 : Int32)) = (0 : Int32) then (0 : Int32) else (1 : Int32))), .val (.int (if (p0 &&& (2 : Int32)) = (0 : Int32) then (0 : Int32) else (1 : Int32))), .val (.int a), .val (.int b), .val (.int ia), .val (.int ib), .val (.int (2 : Int32)), .val (.int p4), .val (.ref mp), .val (.int zb), .val (.int zp), .unset, .unset, .unset, .unset]) rfl (pc' := 144) rfl ?_
          refine WP.iload K at_144 rfl (pc' := 146) rfl ?_
          by_cases cs : (p0 &&& (2 : Int32)) = (0 : Int32)
          · refine WP.if0T K at_146 (by rw [if_pos cs]; decide) (by decide) (pc' := 154) (by decide) ?_
            refine WP.iload K at_154 rfl (pc' := 156) rfl ?_
            refine WP.istore K at_156 (L' := #[.val (.int p0), .val (.int p1), .val (.int p2), .val (.int p3), .val (.int p4), .val (.int p5), .val (.int (if (p0 &&& (1 : Int32)) = (0 : Int32) then (0 : Int32) else (1 : Int32))), .val (.int (if (p0 &&& (2 : Int32)) = (0 : Int32) then (0 : Int32) else (1 : Int32))), .val (.int a), .val (.int b), .val (.int ia), .val (.int ib), .val (.int (2 : Int32)), .val (.int p4), .val (.ref mp), .val (.int zb), .val (.int zp), .val (.int zp), .unset, .unset, .unset]) rfl (pc' := 158) rfl ?_
            refine WP.iload K at_158 rfl (pc' := 160) rfl ?_
            refine WP.if0T K at_160 (by rw [if_pos cs]; decide) (by decide) (pc' := 168) (by decide) ?_
            refine WP.iload K at_168 rfl (pc' := 170) rfl ?_
            refine WP.istore K at_170 (L' := #[.val (.int p0), .val (.int p1), .val (.int p2), .val (.int p3), .val (.int p4), .val (.int p5), .val (.int (if (p0 &&& (1 : Int32)) = (0 : Int32) then (0 : Int32) else (1 : Int32))), .val (.int (if (p0 &&& (2 : Int32)) = (0 : Int32) then (0 : Int32) else (1 : Int32))), .val (.int a), .val (.int b), .val (.int ia), .val (.int ib), .val (.int (2 : Int32)), .val (.int p4), .val (.ref mp), .val (.int zb), .val (.int zp), .val (.int zp), .val (.int zb), .unset, .unset]) rfl (pc' := 172) rfl ?_
            refine WP.iload K at_172 rfl (pc' := 174) rfl ?_
            refine WP.if0T K at_174 (by rw [if_pos cs]; decide) (by decide) (pc' := 182) (by decide) ?_
            refine WP.iload K at_182 rfl (pc' := 184) rfl ?_
            refine WP.istore K at_184 (L' := #[.val (.int p0), .val (.int p1), .val (.int p2), .val (.int p3), .val (.int p4), .val (.int p5), .val (.int (if (p0 &&& (1 : Int32)) = (0 : Int32) then (0 : Int32) else (1 : Int32))), .val (.int (if (p0 &&& (2 : Int32)) = (0 : Int32) then (0 : Int32) else (1 : Int32))), .val (.int a), .val (.int b), .val (.int ia), .val (.int ib), .val (.int (2 : Int32)), .val (.int p4), .val (.ref mp), .val (.int zb), .val (.int zp), .val (.int zp), .val (.int zb), .val (.int ia), .unset]) rfl (pc' := 186) rfl ?_
            refine WP.iload K at_186 rfl (pc' := 188) rfl ?_
            refine WP.if0T K at_188 (by rw [if_pos cs]; decide) (by decide) (pc' := 196) (by decide) ?_
            refine WP.iload K at_196 rfl (pc' := 198) rfl ?_
            refine WP.istore K at_198 (L' := #[.val (.int p0), .val (.int p1), .val (.int p2), .val (.int p3), .val (.int p4), .val (.int p5), .val (.int (if (p0 &&& (1 : Int32)) = (0 : Int32) then (0 : Int32) else (1 : Int32))), .val (.int (if (p0 &&& (2 : Int32)) = (0 : Int32) then (0 : Int32) else (1 : Int32))), .val (.int a), .val (.int b), .val (.int ia), .val (.int ib), .val (.int (2 : Int32)), .val (.int p4), .val (.ref mp), .val (.int zb), .val (.int zp), .val (.int zp), .val (.int zb), .val (.int ia), .val (.int ib)]) rfl (pc' := 200) rfl ?_
            refine WP.aload K at_200 rfl rfl (pc' := 202) rfl ?_
            refine WP.iload K at_202 rfl (pc' := 204) rfl ?_
            refine WP.iload K at_204 rfl (pc' := 206) rfl ?_
            refine WP.iload K at_206 rfl (pc' := 208) rfl ?_
            refine WP.callV K (a := mp) (argsL := [(.int zp), (.int (2 : Int32)), (.int p4)]) (S := []) (w_56 hw) (w_57 hw) (fun vm0 hZ => notFace_of_selects (args := #[]) (mvT (s := κ.s.setVm vm0) hZ (w_59 hw))) (w_59 hw) (w_58 hw) (by decide) (IsMap.exa O_mp) (rm_setT2 w l Z a0 hw F2 mp en kE zp p4 ra _ _ _ _ _ h108 n0 Z0 O_mp A_en hzp (by omega) old_en) (w_60 hw) (w_4 hw) (by decide) rfl (lenOf pd_2 rfl) rfl (W := 0) rfl (by decide) (by decide) (k' := 2) (n' := 41) rfl rfl (by decide) (by decide) at_208 (pc' := 211) rfl fun v h110 hq => ?_
            obtain ⟨rfl, K9, O_mp, A_en⟩ := hq
            have Z0 := Nat.le_trans Z0 K9.1
            show WP κ h110 2 41 (mkF κ.m 211 #[.val (.int p0), .val (.int p1), .val (.int p2), .val (.int p3), .val (.int p4), .val (.int p5), .val (.int (if (p0 &&& (1 : Int32)) = (0 : Int32) then (0 : Int32) else (1 : Int32))), .val (.int (if (p0 &&& (2 : Int32)) = (0 : Int32) then (0 : Int32) else (1 : Int32))), .val (.int a), .val (.int b), .val (.int ia), .val (.int ib), .val (.int (2 : Int32)), .val (.int p4), .val (.ref mp), .val (.int zb), .val (.int zp), .val (.int zp), .val (.int zb), .val (.int ia), .val (.int ib)] [])
            refine WP.aload K at_211 rfl rfl (pc' := 213) rfl ?_
            refine WP.iload K at_213 rfl (pc' := 215) rfl ?_
            refine WP.iload K at_215 rfl (pc' := 217) rfl ?_
            refine WP.if0T K at_217 (by decide) (by decide) (pc' := 225) (by decide) ?_
            refine WP.iload K at_225 rfl (pc' := 227) rfl ?_
            refine WP.iload K at_227 rfl (pc' := 229) rfl ?_
            refine WP.iconst K at_229 (v := (1 : Int32)) rfl (pc' := 230) rfl ?_
            refine WP.icmpT K at_230 (by decide) (by decide) (pc' := 238) (by decide) ?_
            refine WP.iconst K at_238 (v := (-1 : Int32)) rfl (pc' := 239) rfl ?_
            refine WP.iload K at_239 rfl (pc' := 241) rfl ?_
            refine WP.iconst K at_241 (v := (2 : Int32)) rfl (pc' := 242) rfl ?_
            refine WP.icmpF K at_242 (by decide) (pc' := 245) rfl ?_
            refine WP.iload K at_245 rfl (pc' := 247) rfl ?_
            refine WP.goto K at_247 (by decide) (pc' := 251) (by decide) ?_
            refine WP.callS K (argsL := [(.ref mp), (.int zp), (.int ia), (.int (-1 : Int32)), (.int p4)]) (S := []) (w_61 hw) (w_62 hw) (rm_holdsT w l Z a0 hw (fset F2 (4 * ra + 3) p4) mp en kE zp ia (-1 : Int32) p4 ra _ _ _ _ _ h110 n0 Z0 O_mp A_en hzp (by omega) ((fset_ne _ _ (by omega)).trans fa0) ((fset_ne _ _ (by omega)).trans fa1) (fset_same _ _ _)) (w_64 hw) (w_63 hw) (by decide) rfl (lenOf pd_9 rfl) rfl (W := 0) rfl (by decide) (by decide) (k' := 2) (n' := 41) rfl rfl (by decide) (by decide) at_251 (pc' := 254) rfl fun v h111 hq => ?_
            obtain ⟨rfl, rfl⟩ := hq
            show WP κ h110 2 41 (mkF κ.m 254 #[.val (.int p0), .val (.int p1), .val (.int p2), .val (.int p3), .val (.int p4), .val (.int p5), .val (.int (if (p0 &&& (1 : Int32)) = (0 : Int32) then (0 : Int32) else (1 : Int32))), .val (.int (if (p0 &&& (2 : Int32)) = (0 : Int32) then (0 : Int32) else (1 : Int32))), .val (.int a), .val (.int b), .val (.int ia), .val (.int ib), .val (.int (2 : Int32)), .val (.int p4), .val (.ref mp), .val (.int zb), .val (.int zp), .val (.int zp), .val (.int zb), .val (.int ia), .val (.int ib)] [(.int (1 : Int32))])
            refine WP.if0F K at_254 (by decide) (pc' := 257) rfl ?_
            refine WP.aload K at_257 rfl rfl (pc' := 259) rfl ?_
            refine WP.iload K at_259 rfl (pc' := 261) rfl ?_
            refine WP.iload K at_261 rfl (pc' := 263) rfl ?_
            refine WP.iconst K at_263 (v := (-1 : Int32)) rfl (pc' := 264) rfl ?_
            refine WP.iconst K at_264 (v := (-1 : Int32)) rfl (pc' := 265) rfl ?_
            refine WP.callS K (argsL := [(.ref mp), (.int zb), (.int ib), (.int (-1 : Int32)), (.int (-1 : Int32))]) (S := []) (w_61 hw) (w_62 hw) (rm_holdsT w l Z a0 hw (fset F2 (4 * ra + 3) p4) mp en kE zb ib (-1 : Int32) (-1 : Int32) rb _ _ _ _ _ h110 n0 Z0 O_mp A_en hzb (by omega) ((fset_ne _ _ (by omega)).trans fb0) ((fset_ne _ _ (by omega)).trans fb1) ((fset_ne _ _ (by omega)).trans fb2)) (w_64 hw) (w_63 hw) (by decide) rfl (lenOf pd_9 rfl) rfl (W := 0) rfl (by decide) (by decide) (k' := 2) (n' := 41) rfl rfl (by decide) (by decide) at_265 (pc' := 268) rfl fun v h112 hq => ?_
            obtain ⟨rfl, rfl⟩ := hq
            show WP κ h110 2 41 (mkF κ.m 268 #[.val (.int p0), .val (.int p1), .val (.int p2), .val (.int p3), .val (.int p4), .val (.int p5), .val (.int (if (p0 &&& (1 : Int32)) = (0 : Int32) then (0 : Int32) else (1 : Int32))), .val (.int (if (p0 &&& (2 : Int32)) = (0 : Int32) then (0 : Int32) else (1 : Int32))), .val (.int a), .val (.int b), .val (.int ia), .val (.int ib), .val (.int (2 : Int32)), .val (.int p4), .val (.ref mp), .val (.int zb), .val (.int zp), .val (.int zp), .val (.int zb), .val (.int ia), .val (.int ib)] [(.int (1 : Int32))])
            refine WP.if0F K at_268 (by decide) (pc' := 271) rfl ?_
            refine WP.iconst K at_271 (v := (1 : Int32)) rfl (pc' := 272) rfl ?_
            refine WP.goto K at_272 (by decide) (pc' := 276) (by decide) ?_
            exact WP.retN K (ty := .boolean) (by decide) at_276 (by decide) (by decide) rfl
          · refine WP.if0F K at_146 (by rw [if_neg cs]; decide) (pc' := 149) rfl ?_
            refine WP.iload K at_149 rfl (pc' := 151) rfl ?_
            refine WP.goto K at_151 (by decide) (pc' := 156) (by decide) ?_
            refine WP.istore K at_156 (L' := #[.val (.int p0), .val (.int p1), .val (.int p2), .val (.int p3), .val (.int p4), .val (.int p5), .val (.int (if (p0 &&& (1 : Int32)) = (0 : Int32) then (0 : Int32) else (1 : Int32))), .val (.int (if (p0 &&& (2 : Int32)) = (0 : Int32) then (0 : Int32) else (1 : Int32))), .val (.int a), .val (.int b), .val (.int ia), .val (.int ib), .val (.int (2 : Int32)), .val (.int p4), .val (.ref mp), .val (.int zb), .val (.int zp), .val (.int zb), .unset, .unset, .unset]) rfl (pc' := 158) rfl ?_
            refine WP.iload K at_158 rfl (pc' := 160) rfl ?_
            refine WP.if0F K at_160 (by rw [if_neg cs]; decide) (pc' := 163) rfl ?_
            refine WP.iload K at_163 rfl (pc' := 165) rfl ?_
            refine WP.goto K at_165 (by decide) (pc' := 170) (by decide) ?_
            refine WP.istore K at_170 (L' := #[.val (.int p0), .val (.int p1), .val (.int p2), .val (.int p3), .val (.int p4), .val (.int p5), .val (.int (if (p0 &&& (1 : Int32)) = (0 : Int32) then (0 : Int32) else (1 : Int32))), .val (.int (if (p0 &&& (2 : Int32)) = (0 : Int32) then (0 : Int32) else (1 : Int32))), .val (.int a), .val (.int b), .val (.int ia), .val (.int ib), .val (.int (2 : Int32)), .val (.int p4), .val (.ref mp), .val (.int zb), .val (.int zp), .val (.int zb), .val (.int zp), .unset, .unset]) rfl (pc' := 172) rfl ?_
            refine WP.iload K at_172 rfl (pc' := 174) rfl ?_
            refine WP.if0F K at_174 (by rw [if_neg cs]; decide) (pc' := 177) rfl ?_
            refine WP.iload K at_177 rfl (pc' := 179) rfl ?_
            refine WP.goto K at_179 (by decide) (pc' := 184) (by decide) ?_
            refine WP.istore K at_184 (L' := #[.val (.int p0), .val (.int p1), .val (.int p2), .val (.int p3), .val (.int p4), .val (.int p5), .val (.int (if (p0 &&& (1 : Int32)) = (0 : Int32) then (0 : Int32) else (1 : Int32))), .val (.int (if (p0 &&& (2 : Int32)) = (0 : Int32) then (0 : Int32) else (1 : Int32))), .val (.int a), .val (.int b), .val (.int ia), .val (.int ib), .val (.int (2 : Int32)), .val (.int p4), .val (.ref mp), .val (.int zb), .val (.int zp), .val (.int zb), .val (.int zp), .val (.int ib), .unset]) rfl (pc' := 186) rfl ?_
            refine WP.iload K at_186 rfl (pc' := 188) rfl ?_
            refine WP.if0F K at_188 (by rw [if_neg cs]; decide) (pc' := 191) rfl ?_
            refine WP.iload K at_191 rfl (pc' := 193) rfl ?_
            refine WP.goto K at_193 (by decide) (pc' := 198) (by decide) ?_
            refine WP.istore K at_198 (L' := #[.val (.int p0), .val (.int p1), .val (.int p2), .val (.int p3), .val (.int p4), .val (.int p5), .val (.int (if (p0 &&& (1 : Int32)) = (0 : Int32) then (0 : Int32) else (1 : Int32))), .val (.int (if (p0 &&& (2 : Int32)) = (0 : Int32) then (0 : Int32) else (1 : Int32))), .val (.int a), .val (.int b), .val (.int ia), .val (.int ib), .val (.int (2 : Int32)), .val (.int p4), .val (.ref mp), .val (.int zb), .val (.int zp), .val (.int zb), .val (.int zp), .val (.int ib), .val (.int ia)]) rfl (pc' := 200) rfl ?_
            refine WP.aload K at_200 rfl rfl (pc' := 202) rfl ?_
            refine WP.iload K at_202 rfl (pc' := 204) rfl ?_
            refine WP.iload K at_204 rfl (pc' := 206) rfl ?_
            refine WP.iload K at_206 rfl (pc' := 208) rfl ?_
            refine WP.callV K (a := mp) (argsL := [(.int zb), (.int (2 : Int32)), (.int p4)]) (S := []) (w_56 hw) (w_57 hw) (fun vm0 hZ => notFace_of_selects (args := #[]) (mvT (s := κ.s.setVm vm0) hZ (w_59 hw))) (w_59 hw) (w_58 hw) (by decide) (IsMap.exa O_mp) (rm_setT2 w l Z a0 hw F2 mp en kE zb p4 rb _ _ _ _ _ h108 n0 Z0 O_mp A_en hzb (by omega) old_en) (w_60 hw) (w_4 hw) (by decide) rfl (lenOf pd_2 rfl) rfl (W := 0) rfl (by decide) (by decide) (k' := 2) (n' := 41) rfl rfl (by decide) (by decide) at_208 (pc' := 211) rfl fun v h113 hq => ?_
            obtain ⟨rfl, K9, O_mp, A_en⟩ := hq
            have Z0 := Nat.le_trans Z0 K9.1
            show WP κ h113 2 41 (mkF κ.m 211 #[.val (.int p0), .val (.int p1), .val (.int p2), .val (.int p3), .val (.int p4), .val (.int p5), .val (.int (if (p0 &&& (1 : Int32)) = (0 : Int32) then (0 : Int32) else (1 : Int32))), .val (.int (if (p0 &&& (2 : Int32)) = (0 : Int32) then (0 : Int32) else (1 : Int32))), .val (.int a), .val (.int b), .val (.int ia), .val (.int ib), .val (.int (2 : Int32)), .val (.int p4), .val (.ref mp), .val (.int zb), .val (.int zp), .val (.int zb), .val (.int zp), .val (.int ib), .val (.int ia)] [])
            refine WP.aload K at_211 rfl rfl (pc' := 213) rfl ?_
            refine WP.iload K at_213 rfl (pc' := 215) rfl ?_
            refine WP.iload K at_215 rfl (pc' := 217) rfl ?_
            refine WP.if0T K at_217 (by decide) (by decide) (pc' := 225) (by decide) ?_
            refine WP.iload K at_225 rfl (pc' := 227) rfl ?_
            refine WP.iload K at_227 rfl (pc' := 229) rfl ?_
            refine WP.iconst K at_229 (v := (1 : Int32)) rfl (pc' := 230) rfl ?_
            refine WP.icmpT K at_230 (by decide) (by decide) (pc' := 238) (by decide) ?_
            refine WP.iconst K at_238 (v := (-1 : Int32)) rfl (pc' := 239) rfl ?_
            refine WP.iload K at_239 rfl (pc' := 241) rfl ?_
            refine WP.iconst K at_241 (v := (2 : Int32)) rfl (pc' := 242) rfl ?_
            refine WP.icmpF K at_242 (by decide) (pc' := 245) rfl ?_
            refine WP.iload K at_245 rfl (pc' := 247) rfl ?_
            refine WP.goto K at_247 (by decide) (pc' := 251) (by decide) ?_
            refine WP.callS K (argsL := [(.ref mp), (.int zb), (.int ib), (.int (-1 : Int32)), (.int p4)]) (S := []) (w_61 hw) (w_62 hw) (rm_holdsT w l Z a0 hw (fset F2 (4 * rb + 3) p4) mp en kE zb ib (-1 : Int32) p4 rb _ _ _ _ _ h113 n0 Z0 O_mp A_en hzb (by omega) ((fset_ne _ _ (by omega)).trans fb0) ((fset_ne _ _ (by omega)).trans fb1) (fset_same _ _ _)) (w_64 hw) (w_63 hw) (by decide) rfl (lenOf pd_9 rfl) rfl (W := 0) rfl (by decide) (by decide) (k' := 2) (n' := 41) rfl rfl (by decide) (by decide) at_251 (pc' := 254) rfl fun v h114 hq => ?_
            obtain ⟨rfl, rfl⟩ := hq
            show WP κ h113 2 41 (mkF κ.m 254 #[.val (.int p0), .val (.int p1), .val (.int p2), .val (.int p3), .val (.int p4), .val (.int p5), .val (.int (if (p0 &&& (1 : Int32)) = (0 : Int32) then (0 : Int32) else (1 : Int32))), .val (.int (if (p0 &&& (2 : Int32)) = (0 : Int32) then (0 : Int32) else (1 : Int32))), .val (.int a), .val (.int b), .val (.int ia), .val (.int ib), .val (.int (2 : Int32)), .val (.int p4), .val (.ref mp), .val (.int zb), .val (.int zp), .val (.int zb), .val (.int zp), .val (.int ib), .val (.int ia)] [(.int (1 : Int32))])
            refine WP.if0F K at_254 (by decide) (pc' := 257) rfl ?_
            refine WP.aload K at_257 rfl rfl (pc' := 259) rfl ?_
            refine WP.iload K at_259 rfl (pc' := 261) rfl ?_
            refine WP.iload K at_261 rfl (pc' := 263) rfl ?_
            refine WP.iconst K at_263 (v := (-1 : Int32)) rfl (pc' := 264) rfl ?_
            refine WP.iconst K at_264 (v := (-1 : Int32)) rfl (pc' := 265) rfl ?_
            refine WP.callS K (argsL := [(.ref mp), (.int zp), (.int ia), (.int (-1 : Int32)), (.int (-1 : Int32))]) (S := []) (w_61 hw) (w_62 hw) (rm_holdsT w l Z a0 hw (fset F2 (4 * rb + 3) p4) mp en kE zp ia (-1 : Int32) (-1 : Int32) ra _ _ _ _ _ h113 n0 Z0 O_mp A_en hzp (by omega) ((fset_ne _ _ (by omega)).trans fa0) ((fset_ne _ _ (by omega)).trans fa1) ((fset_ne _ _ (by omega)).trans fa2)) (w_64 hw) (w_63 hw) (by decide) rfl (lenOf pd_9 rfl) rfl (W := 0) rfl (by decide) (by decide) (k' := 2) (n' := 41) rfl rfl (by decide) (by decide) at_265 (pc' := 268) rfl fun v h115 hq => ?_
            obtain ⟨rfl, rfl⟩ := hq
            show WP κ h113 2 41 (mkF κ.m 268 #[.val (.int p0), .val (.int p1), .val (.int p2), .val (.int p3), .val (.int p4), .val (.int p5), .val (.int (if (p0 &&& (1 : Int32)) = (0 : Int32) then (0 : Int32) else (1 : Int32))), .val (.int (if (p0 &&& (2 : Int32)) = (0 : Int32) then (0 : Int32) else (1 : Int32))), .val (.int a), .val (.int b), .val (.int ia), .val (.int ib), .val (.int (2 : Int32)), .val (.int p4), .val (.ref mp), .val (.int zb), .val (.int zp), .val (.int zb), .val (.int zp), .val (.int ib), .val (.int ia)] [(.int (1 : Int32))])
            refine WP.if0F K at_268 (by decide) (pc' := 271) rfl ?_
            refine WP.iconst K at_271 (v := (1 : Int32)) rfl (pc' := 272) rfl ?_
            refine WP.goto K at_272 (by decide) (pc' := 276) (by decide) ?_
            exact WP.retN K (ty := .boolean) (by decide) at_276 (by decide) (by decide) rfl
set_option maxRecDepth 65536 in
set_option maxHeartbeats 40000000 in
theorem comes_1 {Post : Tables → Env → Array Value → State → Outcome → State → Prop} (hpost : ∀ tb e args s v u, (limb_1_1.after args s (.returned v) u = true ∧ limb_1_2.after args s (.returned v) u = true ∧ True) → FrameEnd s (.returned v) u (Jvm.fieldLocs frame_1_writes args s ++ Jvm.arrayLocs frame_1_arrays args s ++ Jvm.staticLocs frame_1_statics s) 16 192 → Post tb e args s (.returned v) u) :
    ArmFor flags0 classFile x code maxLocals ret World_1 tables_1 room_1 Calls_1 rest_1 Pre_1 Post := by
  intro l hfl _ _ p e ha hc hk s m args below hf hA hF happ hP
  obtain ⟨hcalls, hrest, hpre⟩ := hP
  obtain ⟨-, -, -, hnamed, -, -, -, hat⟩ := (Spec.applies_iff hf).mp happ
  obtain ⟨hg, hn⟩ := and_e (Cond.before_iff.mp (show (Jvm.Cond.and given_1 narrow_1).before args s = true from hpre))
  obtain ⟨q0, r0⟩ := and_e hg
  obtain ⟨q1, r1⟩ := and_e r0
  obtain ⟨q2, r2⟩ := and_e r1
  obtain ⟨q3, r3⟩ := and_e r2
  obtain ⟨q4, r4⟩ := and_e r3
  obtain ⟨q5, r5⟩ := and_e r4
  obtain ⟨v0, v1, v2, v3, v4, v5, rfl⟩ : ∃ v0 v1 v2 v3 v4 v5 : Value, args = #[v0, v1, v2, v3, v4, v5] := by
    have hs : args.size = 6 := by simpa [Cond.value, given_1] using q0
    obtain ⟨L⟩ := args
    match L, hs with
    | [v0, v1, v2, v3, v4, v5], _ => exact ⟨v0, v1, v2, v3, v4, v5, rfl⟩
  have hw := fun d (hd : d ∈ tables_1) => atoms_spec (ws := Jvm.Cond.code x code maxLocals ret :: tables_1) hat d (List.mem_cons_of_mem _ hd)
  obtain ⟨i0, ei0⟩ := is_v q1
  obtain rfl : v0 = (.int i0) := Option.some.inj ei0
  obtain ⟨i1, ei1⟩ := is_v q2
  obtain rfl : v1 = (.int i1) := Option.some.inj ei1
  obtain ⟨i2, ei2⟩ := is_v q3
  obtain rfl : v2 = (.int i2) := Option.some.inj ei2
  obtain ⟨i3, ei3⟩ := is_v q4
  obtain rfl : v3 = (.int i3) := Option.some.inj ei3
  obtain ⟨i4, ei4⟩ := is_v q5
  obtain rfl : v4 = (.int i4) := Option.some.inj ei4
  obtain ⟨i5, ei5⟩ := is_v r5
  obtain rfl : v5 = (.int i5) := Option.some.inj ei5
  obtain ⟨n, o, h1, h2, h3, _, L, rfl, ⟨rfl, N⟩, hq⟩ := rm_law false l s _ hw i0 i1 i2 i3 i4 i5 s.heap s.heap.size (Nat.le_refl _)  p e ha hc hk s m _ below hf ((Spec.applies_iff_loose hf).mp happ).1 ⟨rfl, State.Warmed39.refl s, rfl⟩ trivial
  refine ⟨n, _, h1, h2, h3, hpost _ _ _ _ _ _ ⟨Cond.after_iff.mpr rfl, Cond.after_iff.mpr (eq_i res_at (Term.int_eval (1)) rfl), trivial⟩ ⟨hq.1, hq.2.1, (hq.2.2.sift fun y hy => Or.inr (N y hy)).mono (by decide) (by decide)⟩⟩
theorem main_1_1 : Claimed_1_1 := comes_1 fun _ _ _ _ _ _ h hF => ⟨h.1, hF⟩
theorem main_1_2 : Claimed_1_2 := comes_1 fun _ _ _ _ _ _ h hF => ⟨h.2.1, hF⟩
end Jvm.Pilot.@@N@@
namespace Jvm.Pilot.@@N@@
open Jvm Jvm.ClassFile Sem Op Lib Jvm.Free Jvm.Stand Jvm.Pilot.@@N@@.Jvm.D
/-! MADE BY PROGRAM (witnessworld.py) out of the Statement's table words and the real class files: 13 classes; the members and pool entries that the words name. The judged class is class 1, her method 1. -/
namespace start1
open Jvm.ClassFile
def u (s : String) : CpInfo := .utf8 (stringToUtf16 s)
/-- a pool by its gaps: so many unusable entries, then the entry; so many at the end -/
def gap : Nat → List CpInfo → List CpInfo
  | 0, r => r
  | n + 1, r => .unusable :: gap n r
def poolList (es : List (Nat × CpInfo)) (last : Nat) : List CpInfo := es.foldr (fun e r => gap e.1 (e.2 :: r)) (gap last [])
def pool (es : List (Nat × CpInfo)) (last : Nat) : Array CpInfo := ⟨poolList es last⟩
def fileOf (pool : Array CpInfo) (this : Nat) (attrs : Array Attribute := #[]) (ms : Array MethodInfo := #[]) (fl : Nat := 33) (sup : Nat := 0) (ifs : Array Nat := #[]) (fds : Array FieldInfo := #[]) : ClassFile where
  minorVersion := 0
  majorVersion := 65
  constantPool := pool
  accessFlags := fl
  thisClass := this
  superClass := sup
  interfaces := ifs
  fields := fds
  methods := ms
  attributes := attrs
def plain (name : String) (sup : Option ClassId) : Class where
  name := name
  kind := .ordinary
  loader := none
  accessFlags := 33
  super := sup
  interfaces := #[]
  cf := none
  fields := #[]
  methods := #[]
  instanceTypes := #[]
  staticTypes := #[]
  resolved := #[]
  callSites := []
  init := .initialized
  statics := none
  mirror := none

def pool0 : Array CpInfo := pool [(5, u "<init>"), (0, u "()V"), (1, .class_ 10), (1, u "java/lang/Object")] 113

def k0c0 : Code := { maxStack := 0, maxLocals := 1, code := object_method_1_code, exceptionTable := #[], attributes := #[] }
def k0m0 : Method := { name := "<init>", desc := "()V", sig := { parameters := [], returnType := none }, accessFlags := 1, code := some k0c0 }
/-- java/lang/Object -/
def k0 : Class := { plain "java/lang/Object" none with
  accessFlags := 33
  interfaces := #[]
  cf := some (fileOf pool0 8 #[] #[{ accessFlags := 1, nameIndex := 5, descriptorIndex := 6, attributes := #[] }] 33 0 #[] #[])
  fields := #[]
  methods := #[k0m0]
  instanceTypes := #[]
  staticTypes := #[]
  resolved := Array.replicate 124 none
  statics := none }

def pool1 : Array CpInfo := pool [(2, .class_ 4), (1, u "java/lang/Object"), (0, u "<init>"), (0, u "()V"), (0, .integer 1073741823), (0, .integer 65535), (0, .integer 2147483647), (0, .class_ 11), (0, u "com/example/weir/weir/engine/IntIntMap"), (0, .methodref 10 13), (0, .nameAndType 5 14), (0, u "(I)V"), (0, .methodref 10 16), (0, .nameAndType 17 18), (0, u "add"), (0, u "(II)I"), (0, .methodref 10 20), (0, .nameAndType 21 22), (0, u "place"), (0, u "(I)I"), (0, .methodref 10 24), (0, .nameAndType 25 26), (0, u "setValue"), (0, u "(III)V"), (0, .methodref 28 29), (0, .class_ 30), (0, .nameAndType 31 32), (0, u "com/example/weir/weir/engine/IntIntMapSetValuePinLaw"), (0, u "holds"), (0, u "(Lcom/example/weir/weir/engine/IntIntMap;IIII)Z"), (0, .methodref 10 34), (0, .nameAndType 35 18), (0, u "value"), (2, u "law"), (0, u "(IIIIII)Z")] 3

def k1m0 : Method := { name := "<init>", desc := "()V", sig := { parameters := [], returnType := none }, accessFlags := 2, code := none }
def k1c1 : Code := { maxStack := 6, maxLocals := 21, code := code, exceptionTable := #[], attributes := #[] }
def k1m1 : Method := { name := "law", desc := "(IIIIII)Z", sig := { parameters := [.int, .int, .int, .int, .int, .int], returnType := some .boolean }, accessFlags := 9, code := some k1c1 }
def k1c2 : Code := { maxStack := 3, maxLocals := 5, code := method_3_code, exceptionTable := #[], attributes := #[] }
def k1m2 : Method := { name := "holds", desc := "(Lcom/example/weir/weir/engine/IntIntMap;IIII)Z", sig := { parameters := [(.object "com/example/weir/weir/engine/IntIntMap"), .int, .int, .int, .int], returnType := some .boolean }, accessFlags := 10, code := some k1c2 }
/-- com/example/weir/weir/engine/IntIntMapSetValuePinLaw -/
def k1 : Class := { plain "com/example/weir/weir/engine/IntIntMapSetValuePinLaw" (some 0) with
  accessFlags := 49
  interfaces := #[]
  cf := some (fileOf pool1 28 #[] #[{ accessFlags := 2, nameIndex := 5, descriptorIndex := 6, attributes := #[] }, { accessFlags := 9, nameIndex := 38, descriptorIndex := 39, attributes := #[] }, { accessFlags := 10, nameIndex := 31, descriptorIndex := 32, attributes := #[] }] 49 2 #[] #[])
  fields := #[]
  methods := #[k1m0, k1m1, k1m2]
  instanceTypes := #[]
  staticTypes := #[]
  resolved := Array.replicate 43 none
  statics := none }

def pool2 : Array CpInfo := pool [(2, .class_ 4), (1, u "com/example/weir/weir/engine/IntIntMap"), (0, u "<init>"), (0, u "(I)V"), (0, .methodref 8 9), (0, .class_ 10), (0, .nameAndType 5 11), (0, u "java/lang/Object"), (0, u "()V"), (0, .fieldref 2 13), (0, .nameAndType 14 15), (0, u "width"), (0, u "I"), (0, .fieldref 2 17), (0, .nameAndType 18 15), (0, u "stride"), (0, .methodref 2 20), (0, .nameAndType 21 22), (0, u "emptyTable"), (0, u "(IZ)V"), (0, .fieldref 2 24), (0, .nameAndType 25 15), (0, u "size"), (0, .fieldref 2 27), (0, .nameAndType 28 29), (0, u "values"), (0, u "[I"), (0, .fieldref 2 31), (0, .nameAndType 32 29), (0, u "entries"), (0, .fieldref 2 34), (0, .nameAndType 35 15), (0, u "keys"), (0, .methodref 2 37), (0, .nameAndType 38 39), (0, u "find"), (0, u "(I)I"), (2, u "place"), (2, u "add"), (0, u "(II)I"), (2, u "setValue"), (0, u "(III)V"), (3, .fieldref 2 55), (0, .nameAndType 56 15), (0, u "greatestKey"), (0, .methodref 58 59), (0, .class_ 60), (0, .nameAndType 61 46), (0, u "java/lang/Math"), (0, u "max"), (0, .methodref 2 63), (0, .nameAndType 64 6), (0, u "toArray"), (0, .methodref 2 66), (0, .nameAndType 67 6), (0, u "growArray"), (0, .fieldref 2 69), (0, .nameAndType 70 15), (0, u "slots"), (3, .methodref 75 76), (0, .class_ 77), (0, .nameAndType 78 79), (0, u "java/util/Arrays"), (0, u "fill"), (0, u "([IIII)V"), (0, .fieldref 2 81), (0, .nameAndType 82 83), (0, u "objects"), (0, u "[Ljava/lang/Object;"), (4, .methodref 89 90), (0, .class_ 91), (0, .nameAndType 92 93), (0, u "com/example/weir/weir/engine/LinearProbing"), (0, u "spread"), (0, u "(J)I"), (10, .methodref 75 105), (0, .nameAndType 106 107), (0, u "copyOf"), (0, u "([II)[I"), (8, u "value"), (16, .methodref 75 134), (0, .nameAndType 78 135), (0, u "([II)V"), (0, u "ABSENT"), (2, u "SMALLEST_TABLE"), (1, u "SMALLEST_SHRUNK_ARRAY")] 16

def k2m0 : Method := { name := "<init>", desc := "()V", sig := { parameters := [], returnType := none }, accessFlags := 0, code := none }
def k2c1 : Code := { maxStack := 3, maxLocals := 2, code := prog_26_method_2_code, exceptionTable := #[], attributes := #[] }
def k2m1 : Method := { name := "<init>", desc := "(I)V", sig := { parameters := [.int], returnType := none }, accessFlags := 0, code := some k2c1 }
def k2c2 : Code := { maxStack := 3, maxLocals := 3, code := prog_26_method_7_code, exceptionTable := #[], attributes := #[] }
def k2m2 : Method := { name := "place", desc := "(I)I", sig := { parameters := [.int], returnType := some .int }, accessFlags := 0, code := some k2c2 }
def k2c3 : Code := { maxStack := 5, maxLocals := 5, code := prog_26_method_8_code, exceptionTable := #[], attributes := #[] }
def k2m3 : Method := { name := "add", desc := "(II)I", sig := { parameters := [.int, .int], returnType := some .int }, accessFlags := 0, code := some k2c3 }
def k2c4 : Code := { maxStack := 3, maxLocals := 3, code := prog_26_method_9_code, exceptionTable := #[], attributes := #[] }
def k2m4 : Method := { name := "value", desc := "(II)I", sig := { parameters := [.int, .int], returnType := some .int }, accessFlags := 0, code := some k2c4 }
def k2c5 : Code := { maxStack := 3, maxLocals := 4, code := prog_26_method_10_code, exceptionTable := #[], attributes := #[] }
def k2m5 : Method := { name := "setValue", desc := "(III)V", sig := { parameters := [.int, .int, .int], returnType := none }, accessFlags := 0, code := some k2c5 }
def k2c6 : Code := { maxStack := 3, maxLocals := 4, code := prog_26_method_20_code, exceptionTable := #[], attributes := #[] }
def k2m6 : Method := { name := "find", desc := "(I)I", sig := { parameters := [.int], returnType := some .int }, accessFlags := 2, code := some k2c6 }
def k2c7 : Code := { maxStack := 3, maxLocals := 3, code := prog_26_method_22_code, exceptionTable := #[], attributes := #[] }
def k2m7 : Method := { name := "emptyTable", desc := "(IZ)V", sig := { parameters := [.int, .boolean], returnType := none }, accessFlags := 2, code := some k2c7 }
def k2c8 : Code := { maxStack := 5, maxLocals := 5, code := prog_26_method_24_code, exceptionTable := #[], attributes := #[] }
def k2m8 : Method := { name := "toArray", desc := "(I)V", sig := { parameters := [.int], returnType := none }, accessFlags := 2, code := some k2c8 }
def k2c9 : Code := { maxStack := 4, maxLocals := 2, code := prog_26_method_25_code, exceptionTable := #[], attributes := #[] }
def k2m9 : Method := { name := "growArray", desc := "(I)V", sig := { parameters := [.int], returnType := none }, accessFlags := 2, code := some k2c9 }
/-- com/example/weir/weir/engine/IntIntMap -/
def k2 : Class := { plain "com/example/weir/weir/engine/IntIntMap" (some 0) with
  accessFlags := 48
  interfaces := #[]
  cf := some (fileOf pool2 2 #[] #[{ accessFlags := 0, nameIndex := 5, descriptorIndex := 11, attributes := #[] }, { accessFlags := 0, nameIndex := 5, descriptorIndex := 6, attributes := #[] }, { accessFlags := 0, nameIndex := 42, descriptorIndex := 39, attributes := #[] }, { accessFlags := 0, nameIndex := 45, descriptorIndex := 46, attributes := #[] }, { accessFlags := 0, nameIndex := 116, descriptorIndex := 46, attributes := #[] }, { accessFlags := 0, nameIndex := 49, descriptorIndex := 50, attributes := #[] }, { accessFlags := 2, nameIndex := 38, descriptorIndex := 39, attributes := #[] }, { accessFlags := 2, nameIndex := 21, descriptorIndex := 22, attributes := #[] }, { accessFlags := 2, nameIndex := 64, descriptorIndex := 6, attributes := #[] }, { accessFlags := 2, nameIndex := 67, descriptorIndex := 6, attributes := #[] }] 48 8 #[] #[{ accessFlags := 24, nameIndex := 136, descriptorIndex := 15, attributes := #[] }, { accessFlags := 26, nameIndex := 139, descriptorIndex := 15, attributes := #[] }, { accessFlags := 26, nameIndex := 141, descriptorIndex := 15, attributes := #[] }, { accessFlags := 18, nameIndex := 14, descriptorIndex := 15, attributes := #[] }, { accessFlags := 18, nameIndex := 18, descriptorIndex := 15, attributes := #[] }, { accessFlags := 2, nameIndex := 32, descriptorIndex := 29, attributes := #[] }, { accessFlags := 2, nameIndex := 70, descriptorIndex := 15, attributes := #[] }, { accessFlags := 2, nameIndex := 28, descriptorIndex := 29, attributes := #[] }, { accessFlags := 2, nameIndex := 35, descriptorIndex := 15, attributes := #[] }, { accessFlags := 2, nameIndex := 82, descriptorIndex := 83, attributes := #[] }, { accessFlags := 2, nameIndex := 56, descriptorIndex := 15, attributes := #[] }, { accessFlags := 2, nameIndex := 25, descriptorIndex := 15, attributes := #[] }])
  fields := #[{ name := "ABSENT", type := .int, accessFlags := 24, slot := 0, constantValue := 0 }, { name := "SMALLEST_TABLE", type := .int, accessFlags := 26, slot := 1, constantValue := 0 }, { name := "SMALLEST_SHRUNK_ARRAY", type := .int, accessFlags := 26, slot := 2, constantValue := 0 }, { name := "width", type := .int, accessFlags := 18, slot := 0, constantValue := 0 }, { name := "stride", type := .int, accessFlags := 18, slot := 1, constantValue := 0 }, { name := "entries", type := (.array .int), accessFlags := 2, slot := 2, constantValue := 0 }, { name := "slots", type := .int, accessFlags := 2, slot := 3, constantValue := 0 }, { name := "values", type := (.array .int), accessFlags := 2, slot := 4, constantValue := 0 }, { name := "keys", type := .int, accessFlags := 2, slot := 5, constantValue := 0 }, { name := "objects", type := (.array (.object "java/lang/Object")), accessFlags := 2, slot := 6, constantValue := 0 }, { name := "greatestKey", type := .int, accessFlags := 2, slot := 7, constantValue := 0 }, { name := "size", type := .int, accessFlags := 2, slot := 8, constantValue := 0 }]
  methods := #[k2m0, k2m1, k2m2, k2m3, k2m4, k2m5, k2m6, k2m7, k2m8, k2m9]
  instanceTypes := #[.int, .int, (.array .int), .int, (.array .int), .int, (.array (.object "java/lang/Object")), .int, .int]
  staticTypes := #[.int, .int, .int]
  resolved := Array.replicate 158 none
  statics := none }

def pool3 : Array CpInfo := pool [(1, .class_ 2), (0, u "java/lang/Math"), (1, .class_ 6), (1, u "java/lang/Object"), (0, u "<init>"), (0, u "()V"), (89, .class_ 100), (1, u "java/lang/Math$RandomNumberGeneratorHolder"), (71, u "negativeZeroFloatBits"), (0, u "J"), (2, u "negativeZeroDoubleBits"), (21, u "max"), (2, u "min"), (43, u "$assertionsDisabled"), (0, u "Z"), (88, u "(II)I"), (2, u "twoToTheDoubleScaleDown"), (0, u "D"), (4, u "twoToTheDoubleScaleUp"), (9, u "E"), (3, u "PI"), (2, u "TAU"), (2, u "DEGREES_TO_RADIANS"), (0, u "RADIANS_TO_DEGREES")] 94

def k3m0 : Method := { name := "<init>", desc := "()V", sig := { parameters := [], returnType := none }, accessFlags := 2, code := none }
def k3c1 : Code := { maxStack := 2, maxLocals := 2, code := jdk_29_method_65_code, exceptionTable := #[], attributes := #[] }
def k3m1 : Method := { name := "max", desc := "(II)I", sig := { parameters := [.int, .int], returnType := some .int }, accessFlags := 9, code := some k3c1 }
def k3c2 : Code := { maxStack := 2, maxLocals := 2, code := jdk_29_method_69_code, exceptionTable := #[], attributes := #[] }
def k3m2 : Method := { name := "min", desc := "(II)I", sig := { parameters := [.int, .int], returnType := some .int }, accessFlags := 9, code := some k3c2 }
/-- java/lang/Math -/
def k3 : Class := { plain "java/lang/Math" (some 0) with
  accessFlags := 49
  interfaces := #[]
  cf := some (fileOf pool3 1 #[.nestMembers #[98]] #[{ accessFlags := 2, nameIndex := 7, descriptorIndex := 8, attributes := #[] }, { accessFlags := 9, nameIndex := 198, descriptorIndex := 335, attributes := #[] }, { accessFlags := 9, nameIndex := 201, descriptorIndex := 335, attributes := #[] }] 49 4 #[] #[{ accessFlags := 25, nameIndex := 354, descriptorIndex := 339, attributes := #[] }, { accessFlags := 25, nameIndex := 358, descriptorIndex := 339, attributes := #[] }, { accessFlags := 25, nameIndex := 361, descriptorIndex := 339, attributes := #[] }, { accessFlags := 26, nameIndex := 364, descriptorIndex := 339, attributes := #[] }, { accessFlags := 26, nameIndex := 365, descriptorIndex := 339, attributes := #[] }, { accessFlags := 26, nameIndex := 172, descriptorIndex := 173, attributes := #[] }, { accessFlags := 26, nameIndex := 176, descriptorIndex := 173, attributes := #[] }, { accessFlags := 8, nameIndex := 344, descriptorIndex := 339, attributes := #[] }, { accessFlags := 8, nameIndex := 338, descriptorIndex := 339, attributes := #[] }, { accessFlags := 4120, nameIndex := 245, descriptorIndex := 246, attributes := #[] }])
  fields := #[{ name := "E", type := .double, accessFlags := 25, slot := 0, constantValue := 0 }, { name := "PI", type := .double, accessFlags := 25, slot := 1, constantValue := 0 }, { name := "TAU", type := .double, accessFlags := 25, slot := 2, constantValue := 0 }, { name := "DEGREES_TO_RADIANS", type := .double, accessFlags := 26, slot := 3, constantValue := 0 }, { name := "RADIANS_TO_DEGREES", type := .double, accessFlags := 26, slot := 4, constantValue := 0 }, { name := "negativeZeroFloatBits", type := .long, accessFlags := 26, slot := 5, constantValue := 0 }, { name := "negativeZeroDoubleBits", type := .long, accessFlags := 26, slot := 6, constantValue := 0 }, { name := "twoToTheDoubleScaleUp", type := .double, accessFlags := 8, slot := 7, constantValue := 0 }, { name := "twoToTheDoubleScaleDown", type := .double, accessFlags := 8, slot := 8, constantValue := 0 }, { name := "$assertionsDisabled", type := .boolean, accessFlags := 4120, slot := 9, constantValue := 0 }]
  methods := #[k3m0, k3m1, k3m2]
  instanceTypes := #[]
  staticTypes := #[.double, .double, .double, .double, .double, .long, .long, .double, .double, .boolean]
  resolved := Array.replicate 460 none
  statics := none }

def pool4 : Array CpInfo := pool [(2, .class_ 4), (1, u "java/lang/Object"), (0, u "<init>"), (0, u "()V"), (5, u "([IIII)V"), (0, .methodref 14 15), (0, .class_ 16), (0, .nameAndType 17 18), (0, u "java/util/Arrays"), (0, u "rangeCheck"), (0, u "(III)V"), (55, .class_ 76), (1, u "java/util/Arrays$NaturalOrder"), (36, .class_ 115), (1, u "java/util/Arrays$LegacyMergeSort"), (1, u "Z"), (32, .methodref 151 152), (0, .class_ 153), (0, .nameAndType 154 155), (0, u "java/lang/System"), (0, u "arraycopy"), (0, u "(Ljava/lang/Object;ILjava/lang/Object;II)V"), (146, u "copyOf"), (1, .methodref 305 306), (0, .class_ 307), (0, .nameAndType 308 309), (0, u "java/lang/Math"), (0, u "min"), (0, u "(II)I"), (65, .class_ 376), (0, u "java/util/Arrays$ArrayList"), (68, u "$assertionsDisabled"), (269, u "MIN_ARRAY_SORT_GRAN"), (0, u "I"), (2, u "INSERTIONSORT_THRESHOLD"), (120, u "fill"), (4, u "([II)V"), (25, u "([II)[I"), (103, .class_ 976), (0, u "java/util/Arrays$ArrayItr")] 52

def k4m0 : Method := { name := "<init>", desc := "()V", sig := { parameters := [], returnType := none }, accessFlags := 2, code := none }
def k4c1 : Code := { maxStack := 4, maxLocals := 3, code := jdk_65_method_30_code, exceptionTable := #[], attributes := #[] }
def k4m1 : Method := { name := "rangeCheck", desc := "(III)V", sig := { parameters := [.int, .int, .int], returnType := none }, accessFlags := 8, code := some k4c1 }
def k4c2 : Code := { maxStack := 3, maxLocals := 4, code := jdk_65_method_103_code, exceptionTable := #[], attributes := #[] }
def k4m2 : Method := { name := "fill", desc := "([II)V", sig := { parameters := [(.array .int), .int], returnType := none }, accessFlags := 9, code := some k4c2 }
def k4c3 : Code := { maxStack := 3, maxLocals := 5, code := jdk_65_method_104_code, exceptionTable := #[], attributes := #[] }
def k4m3 : Method := { name := "fill", desc := "([IIII)V", sig := { parameters := [(.array .int), .int, .int, .int], returnType := none }, accessFlags := 9, code := some k4c3 }
def k4c4 : Code := { maxStack := 6, maxLocals := 3, code := jdk_65_method_123_code, exceptionTable := #[], attributes := #[] }
def k4m4 : Method := { name := "copyOf", desc := "([II)[I", sig := { parameters := [(.array .int), .int], returnType := some (.array .int) }, accessFlags := 9, code := some k4c4 }
/-- java/util/Arrays -/
def k4 : Class := { plain "java/util/Arrays" (some 0) with
  accessFlags := 49
  interfaces := #[]
  cf := some (fileOf pool4 14 #[.nestMembers #[975, 375, 113, 74]] #[{ accessFlags := 2, nameIndex := 5, descriptorIndex := 6, attributes := #[] }, { accessFlags := 8, nameIndex := 17, descriptorIndex := 18, attributes := #[] }, { accessFlags := 9, nameIndex := 840, descriptorIndex := 845, attributes := #[] }, { accessFlags := 9, nameIndex := 840, descriptorIndex := 12, attributes := #[] }, { accessFlags := 9, nameIndex := 302, descriptorIndex := 871, attributes := #[] }] 49 2 #[] #[{ accessFlags := 26, nameIndex := 715, descriptorIndex := 716, attributes := #[] }, { accessFlags := 26, nameIndex := 719, descriptorIndex := 716, attributes := #[] }, { accessFlags := 4120, nameIndex := 445, descriptorIndex := 117, attributes := #[] }])
  fields := #[{ name := "MIN_ARRAY_SORT_GRAN", type := .int, accessFlags := 26, slot := 0, constantValue := 0 }, { name := "INSERTIONSORT_THRESHOLD", type := .int, accessFlags := 26, slot := 1, constantValue := 0 }, { name := "$assertionsDisabled", type := .boolean, accessFlags := 4120, slot := 2, constantValue := 0 }]
  methods := #[k4m0, k4m1, k4m2, k4m3, k4m4]
  instanceTypes := #[]
  staticTypes := #[.int, .int, .boolean]
  resolved := Array.replicate 1029 none
  statics := none }

def pool5 : Array CpInfo := pool [(2, .class_ 4), (1, u "java/lang/Object"), (0, u "<init>"), (0, u "()V"), (1, .class_ 10), (1, u "java/lang/System"), (0, u "allowSecurityManager"), (0, u "I"), (16, u "cons"), (0, u "Ljava/io/Console;"), (77, .class_ 110), (1, u "java/lang/System$CallersHolder"), (43, u "initialErrStream"), (0, u "Ljava/io/PrintStream;"), (19, u "security"), (0, u "Ljava/lang/SecurityManager;"), (31, .class_ 209), (0, u "java/lang/System$1"), (7, u "props"), (0, u "Ljava/util/Properties;"), (2, u "lineSeparator"), (0, u "Ljava/lang/String;"), (96, .class_ 321), (1, u "java/lang/System$LoggerFinder"), (5, .class_ 328), (0, u "java/lang/System$Logger"), (67, u "err"), (2, u "out"), (91, u "notSupportedJnuEncoding"), (15, u "in"), (17, u "initialIn"), (0, u "Ljava/io/InputStream;"), (35, u "bootLayer"), (0, u "Ljava/lang/ModuleLayer;"), (99, .class_ 664), (0, u "java/lang/System$2"), (9, u "NEVER"), (2, u "MAYBE"), (49, u "arraycopy"), (0, u "(Ljava/lang/Object;ILjava/lang/Object;II)V"), (72, .class_ 802), (0, u "java/lang/System$Logger$Level")] 31

def k5m0 : Method := { name := "<init>", desc := "()V", sig := { parameters := [], returnType := none }, accessFlags := 2, code := none }
def k5m1 : Method := { name := "arraycopy", desc := "(Ljava/lang/Object;ILjava/lang/Object;II)V", sig := { parameters := [(.object "java/lang/Object"), .int, (.object "java/lang/Object"), .int, .int], returnType := none }, accessFlags := 265, code := none }
/-- java/lang/System -/
def k5 : Class := { plain "java/lang/System" (some 0) with
  accessFlags := 49
  interfaces := #[]
  cf := some (fileOf pool5 8 #[.nestMembers #[319, 327, 801, 108, 663, 208]] #[{ accessFlags := 2, nameIndex := 5, descriptorIndex := 6, attributes := #[] }, { accessFlags := 265, nameIndex := 727, descriptorIndex := 728, attributes := #[] }] 49 2 #[] #[{ accessFlags := 25, nameIndex := 507, descriptorIndex := 526, attributes := #[] }, { accessFlags := 25, nameIndex := 399, descriptorIndex := 155, attributes := #[] }, { accessFlags := 25, nameIndex := 396, descriptorIndex := 155, attributes := #[] }, { accessFlags := 10, nameIndex := 525, descriptorIndex := 526, attributes := #[] }, { accessFlags := 26, nameIndex := 674, descriptorIndex := 12, attributes := #[] }, { accessFlags := 26, nameIndex := 677, descriptorIndex := 12, attributes := #[] }, { accessFlags := 10, nameIndex := 11, descriptorIndex := 12, attributes := #[] }, { accessFlags := 74, nameIndex := 175, descriptorIndex := 176, attributes := #[] }, { accessFlags := 10, nameIndex := 491, descriptorIndex := 222, attributes := #[] }, { accessFlags := 74, nameIndex := 29, descriptorIndex := 30, attributes := #[] }, { accessFlags := 74, nameIndex := 154, descriptorIndex := 155, attributes := #[] }, { accessFlags := 10, nameIndex := 217, descriptorIndex := 218, attributes := #[] }, { accessFlags := 10, nameIndex := 221, descriptorIndex := 222, attributes := #[] }, { accessFlags := 8, nameIndex := 562, descriptorIndex := 563, attributes := #[] }])
  fields := #[{ name := "in", type := (.object "java/io/InputStream"), accessFlags := 25, slot := 0, constantValue := 0 }, { name := "out", type := (.object "java/io/PrintStream"), accessFlags := 25, slot := 1, constantValue := 0 }, { name := "err", type := (.object "java/io/PrintStream"), accessFlags := 25, slot := 2, constantValue := 0 }, { name := "initialIn", type := (.object "java/io/InputStream"), accessFlags := 10, slot := 3, constantValue := 0 }, { name := "NEVER", type := .int, accessFlags := 26, slot := 4, constantValue := 0 }, { name := "MAYBE", type := .int, accessFlags := 26, slot := 5, constantValue := 0 }, { name := "allowSecurityManager", type := .int, accessFlags := 10, slot := 6, constantValue := 0 }, { name := "security", type := (.object "java/lang/SecurityManager"), accessFlags := 74, slot := 7, constantValue := 0 }, { name := "notSupportedJnuEncoding", type := (.object "java/lang/String"), accessFlags := 10, slot := 8, constantValue := 0 }, { name := "cons", type := (.object "java/io/Console"), accessFlags := 74, slot := 9, constantValue := 0 }, { name := "initialErrStream", type := (.object "java/io/PrintStream"), accessFlags := 74, slot := 10, constantValue := 0 }, { name := "props", type := (.object "java/util/Properties"), accessFlags := 10, slot := 11, constantValue := 0 }, { name := "lineSeparator", type := (.object "java/lang/String"), accessFlags := 10, slot := 12, constantValue := 0 }, { name := "bootLayer", type := (.object "java/lang/ModuleLayer"), accessFlags := 8, slot := 13, constantValue := 0 }]
  methods := #[k5m0, k5m1]
  instanceTypes := #[]
  staticTypes := #[(.object "java/io/InputStream"), (.object "java/io/PrintStream"), (.object "java/io/PrintStream"), (.object "java/io/InputStream"), .int, .int, .int, (.object "java/lang/SecurityManager"), (.object "java/lang/String"), (.object "java/io/Console"), (.object "java/io/PrintStream"), (.object "java/util/Properties"), (.object "java/lang/String"), (.object "java/lang/ModuleLayer")]
  resolved := Array.replicate 834 none
  statics := none }

def pool6 : Array CpInfo := pool [(2, .class_ 4), (1, u "java/lang/Object"), (0, u "<init>"), (0, u "()V"), (0, .long 11400714819323198485), (1, .class_ 10), (0, u "com/example/weir/weir/engine/LinearProbing"), (2, u "spread"), (0, u "(J)I")] 5

def k6m0 : Method := { name := "<init>", desc := "()V", sig := { parameters := [], returnType := none }, accessFlags := 2, code := none }
def k6c1 : Code := { maxStack := 4, maxLocals := 2, code := prog_29_method_2_code, exceptionTable := #[], attributes := #[] }
def k6m1 : Method := { name := "spread", desc := "(J)I", sig := { parameters := [.long], returnType := some .int }, accessFlags := 8, code := some k6c1 }
/-- com/example/weir/weir/engine/LinearProbing -/
def k6 : Class := { plain "com/example/weir/weir/engine/LinearProbing" (some 0) with
  accessFlags := 48
  interfaces := #[]
  cf := some (fileOf pool6 9 #[] #[{ accessFlags := 2, nameIndex := 5, descriptorIndex := 6, attributes := #[] }, { accessFlags := 8, nameIndex := 13, descriptorIndex := 14, attributes := #[] }] 48 2 #[] #[])
  fields := #[]
  methods := #[k6m0, k6m1]
  instanceTypes := #[]
  staticTypes := #[]
  resolved := Array.replicate 20 none
  statics := none }

def pool7 : Array CpInfo := pool [(1, u "java/lang/Cloneable"), (0, .class_ 1), (0, u "java/lang/Object"), (0, .class_ 3)] 3

/-- java/lang/Cloneable -/
def k7 : Class := { plain "java/lang/Cloneable" (some 0) with
  accessFlags := 1537
  interfaces := #[]
  cf := some (fileOf pool7 2 #[] #[] 1537 4 #[] #[])
  fields := #[]
  methods := #[]
  instanceTypes := #[]
  staticTypes := #[]
  resolved := Array.replicate 8 none
  statics := none }

def pool8 : Array CpInfo := pool [(1, u "java/io/Serializable"), (0, .class_ 1), (0, u "java/lang/Object"), (0, .class_ 3)] 3

/-- java/io/Serializable -/
def k8 : Class := { plain "java/io/Serializable" (some 0) with
  accessFlags := 1537
  interfaces := #[]
  cf := some (fileOf pool8 2 #[] #[] 1537 4 #[] #[])
  fields := #[]
  methods := #[]
  instanceTypes := #[]
  staticTypes := #[]
  resolved := Array.replicate 8 none
  statics := none }

/-- the primitive byte -/
def k9 : Class := { plain "byte" none with kind := .primitive 'B', accessFlags := 0x411 }
/-- [B -/
def k10 : Class := { plain "[B" (some 0) with kind := .array 9 .byte, interfaces := #[7, 8], accessFlags := 1041 }

/-- the primitive int -/
def k11 : Class := { plain "int" none with kind := .primitive 'I', accessFlags := 0x411 }
/-- [I -/
def k12 : Class := { plain "[I" (some 0) with kind := .array 11 .int, interfaces := #[7, 8], accessFlags := 1041 }

def heap : Heap := #[]
def classes : Array Class := #[k0, k1, k2, k3, k4, k5, k6, k7, k8, k9, k10, k11, k12]
def interned : List (Array UInt16 × Addr) := []
def slotsUsed : Nat := 0
def theMethod : MethodId := ⟨1, 1⟩
def args0 : Array Value := #[.int 1, .int 7, .int 3, .int 4, .int 9, .int 2]
def aboutOver (below : List Frame) : State where
  vm := { classes := classes, interned := interned.toArray }
  heap := heap
  slotsUsed := slotsUsed
  threads := #[{ frames := .invoking theMethod args0 :: below }]
def below0 : List Frame := [.native { method := ⟨0, 0⟩, args := #[] }]
def about1 : State := aboutOver below0
def p0 : Program := .bare "" "" ""
def e0 : Env := launch0.env 0 0 0
theorem w_frames : about1.frames = Frame.invoking theMethod args0 :: below0 := rfl
set_option maxRecDepth 65536 in
theorem w_args : argsFit about1.vm theMethod args0 = true := by decide +kernel
set_option maxRecDepth 65536 in
theorem w_heap : heapFits about1 = true := by decide +kernel
set_option maxRecDepth 65536 in
theorem w_runnable : about1.curStatus? = some .runnable := by decide +kernel
set_option maxRecDepth 65536 in
theorem w_alone : about1.alone = true := by decide +kernel
set_option maxRecDepth 65536 in
theorem w_named : about1.methodNamed? x = some theMethod := by decide +kernel
set_option maxRecDepth 65536 in
theorem w_hears : about1.hears theMethod below0 = true := by decide +kernel
set_option maxRecDepth 65536 in
theorem w_ripe : about1.ripe theMethod args0 below0 = true := by decide +kernel
theorem w_running : about1.status = .running := rfl
set_option maxRecDepth 65536 in
theorem w_room : about1.hasRoom e0.platform room_1 = true :=
  launch0.hasRoom_least _ room_1 (by decide +kernel) (by decide +kernel) (by decide +kernel) (by decide +kernel) (by decide +kernel) (by decide +kernel)
theorem allAtoms_all (ts : List Jvm.Cond) (a : Array Jvm.Value) (st : Jvm.State) : (allAtoms ts).before a st = ts.all (fun c => c.before a st) := by
  induction ts with
  | nil => rfl
  | cons c t ih =>
    show (Jvm.Cond.and c (allAtoms t)).before a st = _
    rw [Jvm.Cond.before_and, ih, List.all_cons]
def words1 : List Jvm.Cond := Jvm.Cond.code x code maxLocals ret :: tables_1
/-- a 'code' word, met by the world's own term for the bytes: nothing is compared byte by byte -/
theorem code_word {y : MethodName} {bytes : ByteArray} {mx : Nat} {rt : Option FieldType} {a : Array Value} {s : State} {m : MethodId} {meth : Method} {c : Code} (h1 : s.methodNamed? y = some m) (h2 : s.vm.method? m = some meth) (h3 : meth.code = some c) (h4 : c.code = bytes)
    (h5 : (c.maxLocals == mx && c.exceptionTable.isEmpty && decide (c.maxStack ≤ mostOperands) && decide (meth.sig.returnType = rt) && !meth.locks && decide (parseMethodDescriptor y.desc = some meth.sig)) = true) : (Jvm.Cond.code y bytes mx rt).before a s = true := by
  simp only [Bool.and_eq_true, beq_iff_eq, Bool.not_eq_true', decide_eq_true_eq] at h5
  obtain ⟨⟨⟨⟨⟨g1, g2⟩, g3⟩, g4⟩, g5⟩, g6⟩ := h5
  simp [Cond.before, Cond.holds, Cond.value, h1, h2, h3, h4, g1, g2, g3, g4, g5, g6]
def isCode : Jvm.Cond → Bool
  | .code _ _ _ _ => true
  | _ => false
theorem all_split {L : List Jvm.Cond} {P : Jvm.Cond → Bool} (h1 : L.all (fun c => isCode c || P c) = true) (h2 : ∀ c ∈ L.filter isCode, P c = true) : L.all P = true := by
  refine List.all_eq_true.mpr fun c hc => ?_
  have h := List.all_eq_true.mp h1 c hc
  rcases Bool.eq_false_or_eq_true (isCode c) with hi | hi
  · exact h2 c (List.mem_filter.mpr ⟨hc, hi⟩)
  · simpa [hi] using h
set_option maxRecDepth 65536 in
theorem w_c0 : (Jvm.Cond.code x code maxLocals ret).before args0 about1 = true := code_word (m := ⟨1, 1⟩) (meth := k1m1) (c := k1c1) (by decide +kernel) rfl rfl rfl (by decide +kernel)
set_option maxRecDepth 65536 in
theorem w_c1 : (Jvm.Cond.code ({ cls := "com/example/weir/weir/engine/IntIntMap", name := "<init>", desc := "(I)V" } : Jvm.MethodName) prog_26_method_2_code (2 : Nat) (Option.none : Option Jvm.ClassFile.FieldType)).before args0 about1 = true := code_word (m := ⟨2, 1⟩) (meth := k2m1) (c := k2c1) (by decide +kernel) rfl rfl rfl (by decide +kernel)
set_option maxRecDepth 65536 in
theorem w_c2 : (Jvm.Cond.code ({ cls := "java/lang/Object", name := "<init>", desc := "()V" } : Jvm.MethodName) object_method_1_code (1 : Nat) (Option.none : Option Jvm.ClassFile.FieldType)).before args0 about1 = true := code_word (m := ⟨0, 0⟩) (meth := k0m0) (c := k0c0) (by decide +kernel) rfl rfl rfl (by decide +kernel)
set_option maxRecDepth 65536 in
theorem w_c3 : (Jvm.Cond.code ({ cls := "com/example/weir/weir/engine/IntIntMap", name := "emptyTable", desc := "(IZ)V" } : Jvm.MethodName) prog_26_method_22_code (3 : Nat) (Option.none : Option Jvm.ClassFile.FieldType)).before args0 about1 = true := code_word (m := ⟨2, 7⟩) (meth := k2m7) (c := k2c7) (by decide +kernel) rfl rfl rfl (by decide +kernel)
set_option maxRecDepth 65536 in
theorem w_c4 : (Jvm.Cond.code ({ cls := "com/example/weir/weir/engine/IntIntMap", name := "add", desc := "(II)I" } : Jvm.MethodName) prog_26_method_8_code (5 : Nat) (Option.some Jvm.ClassFile.FieldType.int)).before args0 about1 = true := code_word (m := ⟨2, 3⟩) (meth := k2m3) (c := k2c3) (by decide +kernel) rfl rfl rfl (by decide +kernel)
set_option maxRecDepth 65536 in
theorem w_c5 : (Jvm.Cond.code ({ cls := "java/lang/Math", name := "max", desc := "(II)I" } : Jvm.MethodName) jdk_29_method_65_code (2 : Nat) (Option.some Jvm.ClassFile.FieldType.int)).before args0 about1 = true := code_word (m := ⟨3, 1⟩) (meth := k3m1) (c := k3c1) (by decide +kernel) rfl rfl rfl (by decide +kernel)
set_option maxRecDepth 65536 in
theorem w_c6 : (Jvm.Cond.code ({ cls := "com/example/weir/weir/engine/IntIntMap", name := "toArray", desc := "(I)V" } : Jvm.MethodName) prog_26_method_24_code (5 : Nat) (Option.none : Option Jvm.ClassFile.FieldType)).before args0 about1 = true := code_word (m := ⟨2, 8⟩) (meth := k2m8) (c := k2c8) (by decide +kernel) rfl rfl rfl (by decide +kernel)
set_option maxRecDepth 65536 in
theorem w_c7 : (Jvm.Cond.code ({ cls := "java/util/Arrays", name := "fill", desc := "([II)V" } : Jvm.MethodName) jdk_65_method_103_code (4 : Nat) (Option.none : Option Jvm.ClassFile.FieldType)).before args0 about1 = true := code_word (m := ⟨4, 2⟩) (meth := k4m2) (c := k4c2) (by decide +kernel) rfl rfl rfl (by decide +kernel)
set_option maxRecDepth 65536 in
theorem w_c8 : (Jvm.Cond.code ({ cls := "com/example/weir/weir/engine/IntIntMap", name := "place", desc := "(I)I" } : Jvm.MethodName) prog_26_method_7_code (3 : Nat) (Option.some Jvm.ClassFile.FieldType.int)).before args0 about1 = true := code_word (m := ⟨2, 2⟩) (meth := k2m2) (c := k2c2) (by decide +kernel) rfl rfl rfl (by decide +kernel)
set_option maxRecDepth 65536 in
theorem w_c9 : (Jvm.Cond.code ({ cls := "com/example/weir/weir/engine/IntIntMap", name := "setValue", desc := "(III)V" } : Jvm.MethodName) prog_26_method_10_code (4 : Nat) (Option.none : Option Jvm.ClassFile.FieldType)).before args0 about1 = true := code_word (m := ⟨2, 5⟩) (meth := k2m5) (c := k2c5) (by decide +kernel) rfl rfl rfl (by decide +kernel)
set_option maxRecDepth 65536 in
theorem w_c10 : (Jvm.Cond.code ({ cls := "com/example/weir/weir/engine/IntIntMapSetValuePinLaw", name := "holds", desc := "(Lcom/example/weir/weir/engine/IntIntMap;IIII)Z" } : Jvm.MethodName) method_3_code (5 : Nat) (Option.some Jvm.ClassFile.FieldType.boolean)).before args0 about1 = true := code_word (m := ⟨1, 2⟩) (meth := k1m2) (c := k1c2) (by decide +kernel) rfl rfl rfl (by decide +kernel)
set_option maxRecDepth 65536 in
theorem w_c11 : (Jvm.Cond.code ({ cls := "com/example/weir/weir/engine/IntIntMap", name := "value", desc := "(II)I" } : Jvm.MethodName) prog_26_method_9_code (3 : Nat) (Option.some Jvm.ClassFile.FieldType.int)).before args0 about1 = true := code_word (m := ⟨2, 4⟩) (meth := k2m4) (c := k2c4) (by decide +kernel) rfl rfl rfl (by decide +kernel)
set_option maxRecDepth 65536 in
theorem w_c12 : (Jvm.Cond.code ({ cls := "com/example/weir/weir/engine/IntIntMap", name := "growArray", desc := "(I)V" } : Jvm.MethodName) prog_26_method_25_code (2 : Nat) (Option.none : Option Jvm.ClassFile.FieldType)).before args0 about1 = true := code_word (m := ⟨2, 9⟩) (meth := k2m9) (c := k2c9) (by decide +kernel) rfl rfl rfl (by decide +kernel)
set_option maxRecDepth 65536 in
theorem w_c13 : (Jvm.Cond.code ({ cls := "java/util/Arrays", name := "copyOf", desc := "([II)[I" } : Jvm.MethodName) jdk_65_method_123_code (3 : Nat) (Option.some (Jvm.ClassFile.FieldType.array Jvm.ClassFile.FieldType.int))).before args0 about1 = true := code_word (m := ⟨4, 4⟩) (meth := k4m4) (c := k4c4) (by decide +kernel) rfl rfl rfl (by decide +kernel)
set_option maxRecDepth 65536 in
theorem w_c14 : (Jvm.Cond.code ({ cls := "java/lang/Math", name := "min", desc := "(II)I" } : Jvm.MethodName) jdk_29_method_69_code (2 : Nat) (Option.some Jvm.ClassFile.FieldType.int)).before args0 about1 = true := code_word (m := ⟨3, 2⟩) (meth := k3m2) (c := k3c2) (by decide +kernel) rfl rfl rfl (by decide +kernel)
set_option maxRecDepth 65536 in
theorem w_c15 : (Jvm.Cond.code ({ cls := "java/util/Arrays", name := "fill", desc := "([IIII)V" } : Jvm.MethodName) jdk_65_method_104_code (5 : Nat) (Option.none : Option Jvm.ClassFile.FieldType)).before args0 about1 = true := code_word (m := ⟨4, 3⟩) (meth := k4m3) (c := k4c3) (by decide +kernel) rfl rfl rfl (by decide +kernel)
set_option maxRecDepth 65536 in
theorem w_c16 : (Jvm.Cond.code ({ cls := "java/util/Arrays", name := "rangeCheck", desc := "(III)V" } : Jvm.MethodName) jdk_65_method_30_code (3 : Nat) (Option.none : Option Jvm.ClassFile.FieldType)).before args0 about1 = true := code_word (m := ⟨4, 1⟩) (meth := k4m1) (c := k4c1) (by decide +kernel) rfl rfl rfl (by decide +kernel)
set_option maxRecDepth 65536 in
theorem w_c17 : (Jvm.Cond.code ({ cls := "com/example/weir/weir/engine/IntIntMap", name := "find", desc := "(I)I" } : Jvm.MethodName) prog_26_method_20_code (4 : Nat) (Option.some Jvm.ClassFile.FieldType.int)).before args0 about1 = true := code_word (m := ⟨2, 6⟩) (meth := k2m6) (c := k2c6) (by decide +kernel) rfl rfl rfl (by decide +kernel)
set_option maxRecDepth 65536 in
theorem w_c18 : (Jvm.Cond.code ({ cls := "com/example/weir/weir/engine/LinearProbing", name := "spread", desc := "(J)I" } : Jvm.MethodName) prog_29_method_2_code (2 : Nat) (Option.some Jvm.ClassFile.FieldType.int)).before args0 about1 = true := code_word (m := ⟨6, 1⟩) (meth := k6m1) (c := k6c1) (by decide +kernel) rfl rfl rfl (by decide +kernel)
def codes1 : List Jvm.Cond := [Jvm.Cond.code x code maxLocals ret, Jvm.Cond.code ({ cls := "com/example/weir/weir/engine/IntIntMap", name := "<init>", desc := "(I)V" } : Jvm.MethodName) prog_26_method_2_code (2 : Nat) (Option.none : Option Jvm.ClassFile.FieldType), Jvm.Cond.code ({ cls := "java/lang/Object", name := "<init>", desc := "()V" } : Jvm.MethodName) object_method_1_code (1 : Nat) (Option.none : Option Jvm.ClassFile.FieldType), Jvm.Cond.code ({ cls := "com/example/weir/weir/engine/IntIntMap", name := "emptyTable", desc := "(IZ)V" } : Jvm.MethodName) prog_26_method_22_code (3 : Nat) (Option.none : Option Jvm.ClassFile.FieldType), Jvm.Cond.code ({ cls := "com/example/weir/weir/engine/IntIntMap", name := "add", desc := "(II)I" } : Jvm.MethodName) prog_26_method_8_code (5 : Nat) (Option.some Jvm.ClassFile.FieldType.int), Jvm.Cond.code ({ cls := "java/lang/Math", name := "max", desc := "(II)I" } : Jvm.MethodName) jdk_29_method_65_code (2 : Nat) (Option.some Jvm.ClassFile.FieldType.int), Jvm.Cond.code ({ cls := "com/example/weir/weir/engine/IntIntMap", name := "toArray", desc := "(I)V" } : Jvm.MethodName) prog_26_method_24_code (5 : Nat) (Option.none : Option Jvm.ClassFile.FieldType), Jvm.Cond.code ({ cls := "java/util/Arrays", name := "fill", desc := "([II)V" } : Jvm.MethodName) jdk_65_method_103_code (4 : Nat) (Option.none : Option Jvm.ClassFile.FieldType), Jvm.Cond.code ({ cls := "com/example/weir/weir/engine/IntIntMap", name := "place", desc := "(I)I" } : Jvm.MethodName) prog_26_method_7_code (3 : Nat) (Option.some Jvm.ClassFile.FieldType.int), Jvm.Cond.code ({ cls := "com/example/weir/weir/engine/IntIntMap", name := "setValue", desc := "(III)V" } : Jvm.MethodName) prog_26_method_10_code (4 : Nat) (Option.none : Option Jvm.ClassFile.FieldType), Jvm.Cond.code ({ cls := "com/example/weir/weir/engine/IntIntMapSetValuePinLaw", name := "holds", desc := "(Lcom/example/weir/weir/engine/IntIntMap;IIII)Z" } : Jvm.MethodName) method_3_code (5 : Nat) (Option.some Jvm.ClassFile.FieldType.boolean), Jvm.Cond.code ({ cls := "com/example/weir/weir/engine/IntIntMap", name := "value", desc := "(II)I" } : Jvm.MethodName) prog_26_method_9_code (3 : Nat) (Option.some Jvm.ClassFile.FieldType.int), Jvm.Cond.code ({ cls := "com/example/weir/weir/engine/IntIntMap", name := "growArray", desc := "(I)V" } : Jvm.MethodName) prog_26_method_25_code (2 : Nat) (Option.none : Option Jvm.ClassFile.FieldType), Jvm.Cond.code ({ cls := "java/util/Arrays", name := "copyOf", desc := "([II)[I" } : Jvm.MethodName) jdk_65_method_123_code (3 : Nat) (Option.some (Jvm.ClassFile.FieldType.array Jvm.ClassFile.FieldType.int)), Jvm.Cond.code ({ cls := "java/lang/Math", name := "min", desc := "(II)I" } : Jvm.MethodName) jdk_29_method_69_code (2 : Nat) (Option.some Jvm.ClassFile.FieldType.int), Jvm.Cond.code ({ cls := "java/util/Arrays", name := "fill", desc := "([IIII)V" } : Jvm.MethodName) jdk_65_method_104_code (5 : Nat) (Option.none : Option Jvm.ClassFile.FieldType), Jvm.Cond.code ({ cls := "java/util/Arrays", name := "rangeCheck", desc := "(III)V" } : Jvm.MethodName) jdk_65_method_30_code (3 : Nat) (Option.none : Option Jvm.ClassFile.FieldType), Jvm.Cond.code ({ cls := "com/example/weir/weir/engine/IntIntMap", name := "find", desc := "(I)I" } : Jvm.MethodName) prog_26_method_20_code (4 : Nat) (Option.some Jvm.ClassFile.FieldType.int), Jvm.Cond.code ({ cls := "com/example/weir/weir/engine/LinearProbing", name := "spread", desc := "(J)I" } : Jvm.MethodName) prog_29_method_2_code (2 : Nat) (Option.some Jvm.ClassFile.FieldType.int)]
set_option maxRecDepth 65536 in
theorem codes_eq : words1.filter isCode = codes1 := rfl
theorem w_codes : ∀ c ∈ words1.filter isCode, c.before args0 about1 = true := by
  rw [codes_eq]
  intro c hc
  simp only [codes1, List.mem_cons, List.not_mem_nil, or_false] at hc
  rcases hc with rfl | rfl | rfl | rfl | rfl | rfl | rfl | rfl | rfl | rfl | rfl | rfl | rfl | rfl | rfl | rfl | rfl | rfl | rfl
  · exact w_c0
  · exact w_c1
  · exact w_c2
  · exact w_c3
  · exact w_c4
  · exact w_c5
  · exact w_c6
  · exact w_c7
  · exact w_c8
  · exact w_c9
  · exact w_c10
  · exact w_c11
  · exact w_c12
  · exact w_c13
  · exact w_c14
  · exact w_c15
  · exact w_c16
  · exact w_c17
  · exact w_c18
set_option maxRecDepth 65536 in
theorem w_t1 : (words1.take 24).all (fun c => isCode c || c.before args0 about1) = true := by decide +kernel
set_option maxRecDepth 65536 in
theorem w_t2 : ((words1.drop 24).take 24).all (fun c => isCode c || c.before args0 about1) = true := by decide +kernel
set_option maxRecDepth 65536 in
theorem w_t3 : (((words1.drop 24).drop 24).take 24).all (fun c => isCode c || c.before args0 about1) = true := by decide +kernel
set_option maxRecDepth 65536 in
theorem w_t4 : ((((words1.drop 24).drop 24).drop 24).take 24).all (fun c => isCode c || c.before args0 about1) = true := by decide +kernel
set_option maxRecDepth 65536 in
theorem w_t5 : ((((words1.drop 24).drop 24).drop 24).drop 24).all (fun c => isCode c || c.before args0 about1) = true := by decide +kernel
theorem w_tables : (allAtoms (Jvm.Cond.code x code maxLocals ret :: tables_1)).before args0 about1 = true := by
  rw [allAtoms_all]
  show words1.all (fun c => c.before args0 about1) = true
  refine all_split ?_ w_codes
  rw [← List.take_append_drop 24 words1, List.all_append, w_t1, ← List.take_append_drop 24 (words1.drop 24), List.all_append, w_t2, ← List.take_append_drop 24 ((words1.drop 24).drop 24), List.all_append, w_t3, ← List.take_append_drop 24 (((words1.drop 24).drop 24).drop 24), List.all_append, w_t4, w_t5]
  rfl
set_option maxRecDepth 65536 in
theorem w_case : (Jvm.Cond.and given_1 narrow_1).before args0 about1 = true := by decide +kernel
theorem w_applies : (headSpec (Jvm.Cond.code x code maxLocals ret :: tables_1) room_1).applies x e0.platform about1 = true :=
  (Spec.applies_iff w_frames).mpr ⟨w_running, w_runnable, w_alone, w_named, w_hears, w_ripe, w_room, w_tables⟩
theorem atStart : AtStart classFile x code maxLocals ret World_1 tables_1 room_1 Calls_1 rest_1 Pre_1 launch0 p0 e0 about1 theMethod args0 below0 :=
  ⟨lists_1, trivial, launch0.admits_env _ _ _, launch0.least_env, fairChoices_fair.cas, fairChoices_fair.clock, w_frames, w_args, w_heap, w_applies, trivial, trivial, w_case⟩
end start1
theorem witness_1 : WitnessClaimed_1 := ⟨start1.p0, start1.e0, start1.about1, start1.theMethod, start1.args0, start1.below0, start1.atStart⟩
end Jvm.Pilot.@@N@@
