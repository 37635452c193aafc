import JvmDerived
import JvmDerived.Pilot.@@N@@Statement
import JvmDerived.Pilot.@@N@@Code
set_option linter.unusedVariables false
set_option linter.unusedSimpArgs false
namespace Jvm.OwnW
open Sem ClassFile Op Lib Jvm.Stand Jvm.Free Jvm.LawKit Jvm.RoadKit
/-- false: nothing may have been interned; true: the wide word -/
def Md (w : Bool) (s : State) (vm0 : Vm) (n : Nat) : Prop := (w = false → vm0 = s.vm) ∧ ∃ k0, s.Since vm0 k0 ∧ k0 ≤ n
theorem Md.mono {w : Bool} {s : State} {vm0 : Vm} {n n' : Nat} (h : Md w s vm0 n) (q : n ≤ n') : Md w s vm0 n' := ⟨h.1, h.2.imp fun _ r => ⟨r.1, Nat.le_trans r.2 q⟩⟩
theorem Md.start (w : Bool) (s : State) (n : Nat) : Md w s s.vm n := ⟨fun _ => rfl, 0, (State.WarmedH.refl s).since 0, Nat.zero_le _⟩
def EndF (w : Bool) (s : State) (o : Outcome) (t : State) (L : List Loc) (k n : Nat) : Prop := match w with
  | false => FrameEnd s o t L k n
  | true => ReturnedEndW s o t L k n
abbrev Kx : Type := Bool × Program × Launch × Env × Room × State × MethodId × Array Value × List Frame × Method × Code × State × String × Nat × (Option Value → Heap → Prop)
abbrev Kx.w (κ : Kx) : Bool := κ.1
abbrev Kx.p (κ : Kx) : Program := κ.2.1
abbrev Kx.l (κ : Kx) : Launch := κ.2.2.1
abbrev Kx.e (κ : Kx) : Env := κ.2.2.2.1
abbrev Kx.R (κ : Kx) : Room := κ.2.2.2.2.1
abbrev Kx.s (κ : Kx) : State := κ.2.2.2.2.2.1
abbrev Kx.m (κ : Kx) : MethodId := κ.2.2.2.2.2.2.1
abbrev Kx.a (κ : Kx) : Array Value := κ.2.2.2.2.2.2.2.1
abbrev Kx.below (κ : Kx) : List Frame := κ.2.2.2.2.2.2.2.2.1
abbrev Kx.meth (κ : Kx) : Method := κ.2.2.2.2.2.2.2.2.2.1
abbrev Kx.c (κ : Kx) : Code := κ.2.2.2.2.2.2.2.2.2.2.1
abbrev Kx.Z (κ : Kx) : State := κ.2.2.2.2.2.2.2.2.2.2.2.1
abbrev Kx.own (κ : Kx) : String := κ.2.2.2.2.2.2.2.2.2.2.2.2.1
abbrev Kx.n0 (κ : Kx) : Nat := κ.2.2.2.2.2.2.2.2.2.2.2.2.2.1
abbrev Kx.Q (κ : Kx) : Option Value → Heap → Prop := κ.2.2.2.2.2.2.2.2.2.2.2.2.2.2
/-- the body's run from T with the frame g ends as κ.Q says -/
def Ends (κ : Kx) (T : State) (g : JFrame) : Prop := ∃ (t : State) (o : Outcome), Steps κ.p.tables κ.e κ.below (T.setTop g) t ∧ t.status = .running ∧ Ended t κ.below o ∧ ∃ v L, o = .returned v ∧ (κ.Q v t.heap ∧ Fr κ.n0 L) ∧ EndF κ.w κ.s o t L κ.R.cells κ.R.slots
def WP (κ : Kx) (h : Heap) (k n : Nat) (g : JFrame) : Prop :=
  ∀ (T : State) (locs : List Loc) (vm0 : Vm), Stand κ.p κ.l κ.e κ.R (κ.s.setVm vm0) κ.m κ.a κ.below κ.meth κ.c T locs k n → T.heap = h → Md κ.w κ.s vm0 h.size → κ.Z.Warmed39 vm0 → vm0.findClass κ.own = some κ.m.cls → Fr κ.n0 locs → Ends κ T g
/-- what stands fast through a body's walk -/
def Cx (κ : Kx) (w : Bool) (l : Launch) (Z : State) (own : String) (n0 : Nat) (rm : Room) (bytes : ByteArray) (maxL : Nat) (ret : Option FieldType) (nm : String) (Q : Option Value → Heap → Prop) : Prop :=
  κ.p.tables.exec = Jvm.exec ∧ κ.c.code = bytes ∧ κ.c.maxLocals = maxL ∧ κ.meth.sig.returnType = ret ∧ κ.meth.locks = false ∧ κ.meth.name = nm ∧ κ.w = w ∧ κ.l = l ∧ κ.Z = Z ∧ κ.own = own ∧ κ.n0 = n0 ∧ κ.R = rm ∧ κ.Q = Q
/-- a body's contract -/
def Met (w : Bool) (l : Launch) (Z : State) (y : MethodName) (bytes : ByteArray) (maxL : Nat) (ret : Option FieldType) (ws : List Cond) (rm : Room) (as' : Array Value) (h0 : Heap) (n0 : Nat) (Q : Option Value → Heap → Prop) : Prop :=
  MetFree l y (head1 (Cond.code y bytes maxL ret :: ws) rm) (fun a U => a = as' ∧ Z.Warmed39 U.vm ∧ U.heap = h0) (fun _ _ _ _ _ => True) (fun _ U o U' => ∃ v L, o = .returned v ∧ (Q v U'.heap ∧ Fr n0 L) ∧ EndF w U o U' L rm.cells rm.slots)
theorem Met.of {w : Bool} {l : Launch} {Z : State} {y : MethodName} {bytes : ByteArray} {maxL : Nat} {ret : Option FieldType} {ws : List Cond} {rm : Room} {as' : Array Value} {h0 : Heap} {n0 : Nat} {Q : Option Value → Heap → Prop} (hp : plainFor y = true)
    (body : ∀ κ : Kx, Cx κ w l Z y.cls n0 rm bytes maxL ret y.name Q → WP κ h0 0 0 (entryFrame κ.m as' maxL)) : Met w l Z y bytes maxL ret ws rm as' h0 n0 Q := by
  refine MetFree.of_bodySF hp hisR ?_
  intro p e s m args below meth c s₁ Bd hml0 hP hK
  obtain ⟨rfl, hZ, hh⟩ := hP
  exact body (w, p, l, e, rm, s, m, args, below, meth, c, Z, y.cls, n0, Q) ⟨Bd.exec, Bd.bytes, hml0, Bd.returns, Bd.notSynchronized, (name_of_methodNamed Bd.named Bd.method).1, rfl, rfl, rfl, rfl, rfl, rfl, rfl⟩ s₁ [] s.vm (Stand.of_body Bd) (by rw [← hh, Bd.state]; rfl) (Md.start _ _ _) hZ (findClass_of_methodNamed Bd.named) (Fr.nil n0)
theorem EndF.widen {w : Bool} {s : State} {o : Outcome} {t : State} {L : List Loc} {k n : Nat} (h : EndF w s o t L k n) : ReturnedEndW s o t L k n := by
  cases w
  · exact ReturnedEndW.of_narrow h.1 h.2.1 h.2.2
  · exact h
section Rules
variable {κ : Kx} {w : Bool} {l : Launch} {Z : State} {own nm : String} {n0 : Nat} {rm : Room} {bytes : ByteArray} {maxL : Nat} {ret : Option FieldType} {Q : Option Value → Heap → Prop} {h h' : Heap} {k n k' n' : Nat} {pc pc' : Nat} {L L' : Array Slot} {S : List Value} {a0 : Array Value}
theorem WP.go {g g' : JFrame} (st : ∀ (T : State) (locs : List Loc) (vm0 : Vm), Stand κ.p κ.l κ.e κ.R (κ.s.setVm vm0) κ.m κ.a κ.below κ.meth κ.c T locs k n → T.heap = h → κ.Z.Warmed39 vm0 → vm0.findClass κ.own = some κ.m.cls → ∀ t, Steps κ.p.tables κ.e κ.below (T.setTop g') t → Steps κ.p.tables κ.e κ.below (T.setTop g) t)
    (H : WP κ h k n g') : WP κ h k n g := fun T locs vm0 X e M hZ ho N => by
  obtain ⟨t, o, h1, r⟩ := H T locs vm0 X e M hZ ho N
  exact ⟨t, o, st T locs vm0 X e hZ ho t h1, r⟩
theorem WP.frame {g g' : JFrame} (q : g = g') (H : WP κ h k n g') : WP κ h k n g := q ▸ H
theorem WP.more {g : JFrame} (H : WP κ h k' n' g) (hk : k ≤ k') (hn : n ≤ n') : WP κ h k n g := fun T locs vm0 X e M hZ ho N => H T locs vm0 (X.mono hk hn) e M hZ ho N
/-- a pure stretch with several roads that meet again -/
theorem WP.meet {g g' : JFrame} (H : WP κ h k n g' → WP κ h k n g) (K : WP κ h k n g') : WP κ h k n g := H K
theorem WP.iadd (K : Cx κ w l Z own n0 rm bytes maxL ret nm Q) {x y : Int32} (hd : decode bytes pc = .ok (.iadd, 1))  (hp : pc + 1 = pc') (H : WP κ h k n (mkF κ.m pc' L (.int (x + y) :: S))) : WP κ h k n (mkF κ.m pc L (.int y :: .int x :: S)) := by
  obtain ⟨hx, hby, -⟩ := K
  subst hp
  exact WP.go (fun T locs vm0 X e hZ ho t k => XS.iadd X.here hx rfl (hb hby hd) rfl k) H
theorem WP.isub (K : Cx κ w l Z own n0 rm bytes maxL ret nm Q) {x y : Int32} (hd : decode bytes pc = .ok (.isub, 1))  (hp : pc + 1 = pc') (H : WP κ h k n (mkF κ.m pc' L (.int (x - y) :: S))) : WP κ h k n (mkF κ.m pc L (.int y :: .int x :: S)) := by
  obtain ⟨hx, hby, -⟩ := K
  subst hp
  exact WP.go (fun T locs vm0 X e hZ ho t k => XS.isub X.here hx rfl (hb hby hd) rfl k) H
theorem WP.imul (K : Cx κ w l Z own n0 rm bytes maxL ret nm Q) {x y : Int32} (hd : decode bytes pc = .ok (.imul, 1))  (hp : pc + 1 = pc') (H : WP κ h k n (mkF κ.m pc' L (.int (x * y) :: S))) : WP κ h k n (mkF κ.m pc L (.int y :: .int x :: S)) := by
  obtain ⟨hx, hby, -⟩ := K
  subst hp
  exact WP.go (fun T locs vm0 X e hZ ho t k => XS.imul X.here hx rfl (hb hby hd) rfl k) H
theorem WP.iand (K : Cx κ w l Z own n0 rm bytes maxL ret nm Q) {x y : Int32} (hd : decode bytes pc = .ok (.iand, 1))  (hp : pc + 1 = pc') (H : WP κ h k n (mkF κ.m pc' L (.int (x &&& y) :: S))) : WP κ h k n (mkF κ.m pc L (.int y :: .int x :: S)) := by
  obtain ⟨hx, hby, -⟩ := K
  subst hp
  exact WP.go (fun T locs vm0 X e hZ ho t k => XS.iand X.here hx rfl (hb hby hd) rfl k) H
theorem WP.ixor (K : Cx κ w l Z own n0 rm bytes maxL ret nm Q) {x y : Int32} (hd : decode bytes pc = .ok (.ixor, 1))  (hp : pc + 1 = pc') (H : WP κ h k n (mkF κ.m pc' L (.int (x ^^^ y) :: S))) : WP κ h k n (mkF κ.m pc L (.int y :: .int x :: S)) := by
  obtain ⟨hx, hby, -⟩ := K
  subst hp
  exact WP.go (fun T locs vm0 X e hZ ho t k => XS.ixor X.here hx rfl (hb hby hd) rfl k) H
theorem WP.ior (K : Cx κ w l Z own n0 rm bytes maxL ret nm Q) {x y : Int32} (hd : decode bytes pc = .ok (.ior, 1))  (hp : pc + 1 = pc') (H : WP κ h k n (mkF κ.m pc' L (.int (x ||| y) :: S))) : WP κ h k n (mkF κ.m pc L (.int y :: .int x :: S)) := by
  obtain ⟨hx, hby, -⟩ := K
  subst hp
  exact WP.go (fun T locs vm0 X e hZ ho t k => XS.ior X.here hx rfl (hb hby hd) rfl k) H
theorem WP.ishl (K : Cx κ w l Z own n0 rm bytes maxL ret nm Q) {x y : Int32} (hd : decode bytes pc = .ok (.ishl, 1))  (hp : pc + 1 = pc') (H : WP κ h k n (mkF κ.m pc' L (.int (x <<< (y &&& 31)) :: S))) : WP κ h k n (mkF κ.m pc L (.int y :: .int x :: S)) := by
  obtain ⟨hx, hby, -⟩ := K
  subst hp
  exact WP.go (fun T locs vm0 X e hZ ho t k => XS.ishl X.here hx rfl (hb hby hd) rfl k) H
theorem WP.ishr (K : Cx κ w l Z own n0 rm bytes maxL ret nm Q) {x y : Int32} (hd : decode bytes pc = .ok (.ishr, 1))  (hp : pc + 1 = pc') (H : WP κ h k n (mkF κ.m pc' L (.int (x >>> (y &&& 31)) :: S))) : WP κ h k n (mkF κ.m pc L (.int y :: .int x :: S)) := by
  obtain ⟨hx, hby, -⟩ := K
  subst hp
  exact WP.go (fun T locs vm0 X e hZ ho t k => XS.ishr X.here hx rfl (hb hby hd) rfl k) H
theorem WP.iushr (K : Cx κ w l Z own n0 rm bytes maxL ret nm Q) {x y : Int32} (hd : decode bytes pc = .ok (.iushr, 1))  (hp : pc + 1 = pc') (H : WP κ h k n (mkF κ.m pc' L (.int ((x.toUInt32 >>> (y &&& 31).toUInt32).toInt32) :: S))) : WP κ h k n (mkF κ.m pc L (.int y :: .int x :: S)) := by
  obtain ⟨hx, hby, -⟩ := K
  subst hp
  exact WP.go (fun T locs vm0 X e hZ ho t k => XS.iushr X.here hx rfl (hb hby hd) rfl k) H
theorem WP.ladd (K : Cx κ w l Z own n0 rm bytes maxL ret nm Q) {x y : Int64} (hd : decode bytes pc = .ok (.ladd, 1))  (hp : pc + 1 = pc') (H : WP κ h k n (mkF κ.m pc' L (.long (x + y) :: S))) : WP κ h k n (mkF κ.m pc L (.long y :: .long x :: S)) := by
  obtain ⟨hx, hby, -⟩ := K
  subst hp
  exact WP.go (fun T locs vm0 X e hZ ho t k => XS.ladd X.here hx rfl (hb hby hd) rfl k) H
theorem WP.lsub (K : Cx κ w l Z own n0 rm bytes maxL ret nm Q) {x y : Int64} (hd : decode bytes pc = .ok (.lsub, 1))  (hp : pc + 1 = pc') (H : WP κ h k n (mkF κ.m pc' L (.long (x - y) :: S))) : WP κ h k n (mkF κ.m pc L (.long y :: .long x :: S)) := by
  obtain ⟨hx, hby, -⟩ := K
  subst hp
  exact WP.go (fun T locs vm0 X e hZ ho t k => XS.lsub X.here hx rfl (hb hby hd) rfl k) H
theorem WP.lmul (K : Cx κ w l Z own n0 rm bytes maxL ret nm Q) {x y : Int64} (hd : decode bytes pc = .ok (.lmul, 1))  (hp : pc + 1 = pc') (H : WP κ h k n (mkF κ.m pc' L (.long (x * y) :: S))) : WP κ h k n (mkF κ.m pc L (.long y :: .long x :: S)) := by
  obtain ⟨hx, hby, -⟩ := K
  subst hp
  exact WP.go (fun T locs vm0 X e hZ ho t k => XS.lmul X.here hx rfl (hb hby hd) rfl k) H
theorem WP.land (K : Cx κ w l Z own n0 rm bytes maxL ret nm Q) {x y : Int64} (hd : decode bytes pc = .ok (.land, 1))  (hp : pc + 1 = pc') (H : WP κ h k n (mkF κ.m pc' L (.long (x &&& y) :: S))) : WP κ h k n (mkF κ.m pc L (.long y :: .long x :: S)) := by
  obtain ⟨hx, hby, -⟩ := K
  subst hp
  exact WP.go (fun T locs vm0 X e hZ ho t k => XS.land X.here hx rfl (hb hby hd) rfl k) H
theorem WP.lor (K : Cx κ w l Z own n0 rm bytes maxL ret nm Q) {x y : Int64} (hd : decode bytes pc = .ok (.lor, 1))  (hp : pc + 1 = pc') (H : WP κ h k n (mkF κ.m pc' L (.long (x ||| y) :: S))) : WP κ h k n (mkF κ.m pc L (.long y :: .long x :: S)) := by
  obtain ⟨hx, hby, -⟩ := K
  subst hp
  exact WP.go (fun T locs vm0 X e hZ ho t k => XS.lor X.here hx rfl (hb hby hd) rfl k) H
theorem WP.lxor (K : Cx κ w l Z own n0 rm bytes maxL ret nm Q) {x y : Int64} (hd : decode bytes pc = .ok (.lxor, 1))  (hp : pc + 1 = pc') (H : WP κ h k n (mkF κ.m pc' L (.long (x ^^^ y) :: S))) : WP κ h k n (mkF κ.m pc L (.long y :: .long x :: S)) := by
  obtain ⟨hx, hby, -⟩ := K
  subst hp
  exact WP.go (fun T locs vm0 X e hZ ho t k => XS.lxor X.here hx rfl (hb hby hd) rfl k) H
theorem WP.idiv (K : Cx κ w l Z own n0 rm bytes maxL ret nm Q) {x y : Int32} (hd : decode bytes pc = .ok (.idiv, 1)) (hy : y ≠ 0) (hp : pc + 1 = pc') (H : WP κ h k n (mkF κ.m pc' L (.int (x / y) :: S))) : WP κ h k n (mkF κ.m pc L (.int y :: .int x :: S)) := by
  obtain ⟨hx, hby, -⟩ := K
  subst hp
  exact WP.go (fun T locs vm0 X e hZ ho t k => XS.idiv X.here hx rfl (hb hby hd) rfl hy k) H
theorem WP.irem (K : Cx κ w l Z own n0 rm bytes maxL ret nm Q) {x y : Int32} (hd : decode bytes pc = .ok (.irem, 1)) (hy : y ≠ 0) (hp : pc + 1 = pc') (H : WP κ h k n (mkF κ.m pc' L (.int (x % y) :: S))) : WP κ h k n (mkF κ.m pc L (.int y :: .int x :: S)) := by
  obtain ⟨hx, hby, -⟩ := K
  subst hp
  exact WP.go (fun T locs vm0 X e hZ ho t k => iremM X hx rfl (hb hby hd) rfl hy k) H
theorem WP.ldiv (K : Cx κ w l Z own n0 rm bytes maxL ret nm Q) {x y : Int64} (hd : decode bytes pc = .ok (.ldiv, 1)) (hy : y ≠ 0) (hp : pc + 1 = pc') (H : WP κ h k n (mkF κ.m pc' L (.long (x / y) :: S))) : WP κ h k n (mkF κ.m pc L (.long y :: .long x :: S)) := by
  obtain ⟨hx, hby, -⟩ := K
  subst hp
  exact WP.go (fun T locs vm0 X e hZ ho t k => XT.ldiv X.here hx rfl (hb hby hd) rfl hy k) H
theorem WP.lrem (K : Cx κ w l Z own n0 rm bytes maxL ret nm Q) {x y : Int64} (hd : decode bytes pc = .ok (.lrem, 1)) (hy : y ≠ 0) (hp : pc + 1 = pc') (H : WP κ h k n (mkF κ.m pc' L (.long (x % y) :: S))) : WP κ h k n (mkF κ.m pc L (.long y :: .long x :: S)) := by
  obtain ⟨hx, hby, -⟩ := K
  subst hp
  exact WP.go (fun T locs vm0 X e hZ ho t k => XT.lrem X.here hx rfl (hb hby hd) rfl hy (by rw [lrem_mod]; exact k)) H
theorem WP.ineg (K : Cx κ w l Z own n0 rm bytes maxL ret nm Q) {x : Int32} (hd : decode bytes pc = .ok (.ineg, 1))  (hp : pc + 1 = pc') (H : WP κ h k n (mkF κ.m pc' L (.int (-x) :: S))) : WP κ h k n (mkF κ.m pc L (.int x :: S)) := by
  obtain ⟨hx, hby, -⟩ := K
  subst hp
  exact WP.go (fun T locs vm0 X e hZ ho t k => XS.ineg X.here hx rfl (hb hby hd) rfl k) H
theorem WP.lneg (K : Cx κ w l Z own n0 rm bytes maxL ret nm Q) {x : Int64} (hd : decode bytes pc = .ok (.lneg, 1))  (hp : pc + 1 = pc') (H : WP κ h k n (mkF κ.m pc' L (.long (-x) :: S))) : WP κ h k n (mkF κ.m pc L (.long x :: S)) := by
  obtain ⟨hx, hby, -⟩ := K
  subst hp
  exact WP.go (fun T locs vm0 X e hZ ho t k => XT.lneg X.here hx rfl (hb hby hd) rfl k) H
theorem WP.lshl (K : Cx κ w l Z own n0 rm bytes maxL ret nm Q) {x : Int64} {y : Int32} (hd : decode bytes pc = .ok (.lshl, 1))  (hp : pc + 1 = pc') (H : WP κ h k n (mkF κ.m pc' L (.long (x <<< (y &&& 0x3f).toInt64) :: S))) : WP κ h k n (mkF κ.m pc L (.int y :: .long x :: S)) := by
  obtain ⟨hx, hby, -⟩ := K
  subst hp
  exact WP.go (fun T locs vm0 X e hZ ho t k => XS.lshl X.here hx rfl (hb hby hd) rfl k) H
theorem WP.lshr (K : Cx κ w l Z own n0 rm bytes maxL ret nm Q) {x : Int64} {y : Int32} (hd : decode bytes pc = .ok (.lshr, 1))  (hp : pc + 1 = pc') (H : WP κ h k n (mkF κ.m pc' L (.long (x >>> (y &&& 0x3f).toInt64) :: S))) : WP κ h k n (mkF κ.m pc L (.int y :: .long x :: S)) := by
  obtain ⟨hx, hby, -⟩ := K
  subst hp
  exact WP.go (fun T locs vm0 X e hZ ho t k => XS.lshr X.here hx rfl (hb hby hd) rfl k) H
theorem WP.lushr (K : Cx κ w l Z own n0 rm bytes maxL ret nm Q) {x : Int64} {y : Int32} (hd : decode bytes pc = .ok (.lushr, 1))  (hp : pc + 1 = pc') (H : WP κ h k n (mkF κ.m pc' L (.long ((x.toUInt64 >>> (y &&& 0x3f).toInt64.toUInt64).toInt64) :: S))) : WP κ h k n (mkF κ.m pc L (.int y :: .long x :: S)) := by
  obtain ⟨hx, hby, -⟩ := K
  subst hp
  exact WP.go (fun T locs vm0 X e hZ ho t k => XS.lushr X.here hx rfl (hb hby hd) rfl k) H
theorem WP.i2l (K : Cx κ w l Z own n0 rm bytes maxL ret nm Q) {x : Int32} (hd : decode bytes pc = .ok (.i2l, 1))  (hp : pc + 1 = pc') (H : WP κ h k n (mkF κ.m pc' L (.long (x.toInt64) :: S))) : WP κ h k n (mkF κ.m pc L (.int x :: S)) := by
  obtain ⟨hx, hby, -⟩ := K
  subst hp
  exact WP.go (fun T locs vm0 X e hZ ho t k => XS.i2l X.here hx rfl (hb hby hd) rfl k) H
theorem WP.l2i (K : Cx κ w l Z own n0 rm bytes maxL ret nm Q) {x : Int64} (hd : decode bytes pc = .ok (.l2i, 1))  (hp : pc + 1 = pc') (H : WP κ h k n (mkF κ.m pc' L (.int (x.toInt32) :: S))) : WP κ h k n (mkF κ.m pc L (.long x :: S)) := by
  obtain ⟨hx, hby, -⟩ := K
  subst hp
  exact WP.go (fun T locs vm0 X e hZ ho t k => XS.l2i X.here hx rfl (hb hby hd) rfl k) H
theorem WP.i2b (K : Cx κ w l Z own n0 rm bytes maxL ret nm Q) {x : Int32} (hd : decode bytes pc = .ok (.i2b, 1))  (hp : pc + 1 = pc') (H : WP κ h k n (mkF κ.m pc' L (.int (x.toInt8.toInt32) :: S))) : WP κ h k n (mkF κ.m pc L (.int x :: S)) := by
  obtain ⟨hx, hby, -⟩ := K
  subst hp
  exact WP.go (fun T locs vm0 X e hZ ho t k => XS.i2b X.here hx rfl (hb hby hd) rfl k) H
theorem WP.i2c (K : Cx κ w l Z own n0 rm bytes maxL ret nm Q) {x : Int32} (hd : decode bytes pc = .ok (.i2c, 1))  (hp : pc + 1 = pc') (H : WP κ h k n (mkF κ.m pc' L (.int (x.toUInt32.toUInt16.toUInt32.toInt32) :: S))) : WP κ h k n (mkF κ.m pc L (.int x :: S)) := by
  obtain ⟨hx, hby, -⟩ := K
  subst hp
  exact WP.go (fun T locs vm0 X e hZ ho t k => XS.i2c X.here hx rfl (hb hby hd) rfl k) H
theorem WP.i2s (K : Cx κ w l Z own n0 rm bytes maxL ret nm Q) {x : Int32} (hd : decode bytes pc = .ok (.i2s, 1))  (hp : pc + 1 = pc') (H : WP κ h k n (mkF κ.m pc' L (.int (x.toInt16.toInt32) :: S))) : WP κ h k n (mkF κ.m pc L (.int x :: S)) := by
  obtain ⟨hx, hby, -⟩ := K
  subst hp
  exact WP.go (fun T locs vm0 X e hZ ho t k => XS.i2s X.here hx rfl (hb hby hd) rfl k) H
theorem WP.lcmp (K : Cx κ w l Z own n0 rm bytes maxL ret nm Q) {x y : Int64} (hd : decode bytes pc = .ok (.lcmp, 1))  (hp : pc + 1 = pc') (H : WP κ h k n (mkF κ.m pc' L (.int (lcmpW x y) :: S))) : WP κ h k n (mkF κ.m pc L (.long y :: .long x :: S)) := by
  obtain ⟨hx, hby, -⟩ := K
  subst hp
  exact WP.go (fun T locs vm0 X e hZ ho t k => XS.lcmp X.here hx rfl (hb hby hd) rfl k) H
theorem WP.iconst (K : Cx κ w l Z own n0 rm bytes maxL ret nm Q) {i : Int} {v : Int32} (hd : decode bytes pc = .ok (.iconst i, 1)) (hv : Int32.ofInt i = v) (hp : pc + 1 = pc') (H : WP κ h k n (mkF κ.m pc' L (.int v :: S))) : WP κ h k n (mkF κ.m pc L (S)) := by
  obtain ⟨hx, hby, -⟩ := K
  subst hp
  exact WP.go (fun T locs vm0 X e hZ ho t k => XT.iconstV X.here hx rfl v (hb hby hd) hv k) H
theorem WP.bipush (K : Cx κ w l Z own n0 rm bytes maxL ret nm Q) {i : Int} {v : Int32} (hd : decode bytes pc = .ok (.bipush i, 2)) (hv : (Int8.ofInt i).toInt32 = v) (hp : pc + 2 = pc') (H : WP κ h k n (mkF κ.m pc' L (.int v :: S))) : WP κ h k n (mkF κ.m pc L (S)) := by
  obtain ⟨hx, hby, -⟩ := K
  subst hp
  exact WP.go (fun T locs vm0 X e hZ ho t k => XT.bipushV X.here hx rfl v (hb hby hd) hv k) H
theorem WP.sipush (K : Cx κ w l Z own n0 rm bytes maxL ret nm Q) {i : Int} {v : Int32} (hd : decode bytes pc = .ok (.sipush i, 3)) (hv : (Int16.ofInt i).toInt32 = v) (hp : pc + 3 = pc') (H : WP κ h k n (mkF κ.m pc' L (.int v :: S))) : WP κ h k n (mkF κ.m pc L (S)) := by
  obtain ⟨hx, hby, -⟩ := K
  subst hp
  exact WP.go (fun T locs vm0 X e hZ ho t k => XT.sipushV X.here hx rfl v (hb hby hd) hv k) H
theorem WP.lconst (K : Cx κ w l Z own n0 rm bytes maxL ret nm Q) {i : Fin 2} {v : Int64} (hd : decode bytes pc = .ok (.lconst i, 1)) (hv : Int64.ofNat i = v) (hp : pc + 1 = pc') (H : WP κ h k n (mkF κ.m pc' L (.long v :: S))) : WP κ h k n (mkF κ.m pc L (S)) := by
  obtain ⟨hx, hby, -⟩ := K
  subst hp
  exact WP.go (fun T locs vm0 X e hZ ho t k => XT.lconstV X.here hx rfl v (hb hby hd) hv k) H
theorem WP.aconst_null (K : Cx κ w l Z own n0 rm bytes maxL ret nm Q)  (hd : decode bytes pc = .ok (.aconst_null, 1))  (hp : pc + 1 = pc') (H : WP κ h k n (mkF κ.m pc' L (.null :: S))) : WP κ h k n (mkF κ.m pc L (S)) := by
  obtain ⟨hx, hby, -⟩ := K
  subst hp
  exact WP.go (fun T locs vm0 X e hZ ho t k => XS.aconstNull X.here hx rfl (hb hby hd) k) H
theorem WP.iloadN (K : Cx κ w l Z own n0 rm bytes maxL ret nm Q) {j : Fin 4} {v : Int32} (hd : decode bytes pc = .ok (.iload_n j, 1)) (hl : L[j.val]? = some (.val (.int v))) (hp : pc + 1 = pc') (H : WP κ h k n (mkF κ.m pc' L (.int v :: S))) : WP κ h k n (mkF κ.m pc L (S)) := by
  obtain ⟨hx, hby, -⟩ := K
  subst hp
  exact WP.go (fun T locs vm0 X e hZ ho t k => XS.iloadN X.here hx rfl (hb hby hd) hl k) H
theorem WP.iload (K : Cx κ w l Z own n0 rm bytes maxL ret nm Q) {j : Nat} {v : Int32} (hd : decode bytes pc = .ok (.iload j, 2)) (hl : L[j]? = some (.val (.int v))) (hp : pc + 2 = pc') (H : WP κ h k n (mkF κ.m pc' L (.int v :: S))) : WP κ h k n (mkF κ.m pc L (S)) := by
  obtain ⟨hx, hby, -⟩ := K
  subst hp
  exact WP.go (fun T locs vm0 X e hZ ho t k => XS.iload X.here hx rfl (hb hby hd) hl k) H
theorem WP.lloadN (K : Cx κ w l Z own n0 rm bytes maxL ret nm Q) {j : Fin 4} {v : Int64} (hd : decode bytes pc = .ok (.lload_n j, 1)) (hl : L[j.val]? = some (.val (.long v))) (hp : pc + 1 = pc') (H : WP κ h k n (mkF κ.m pc' L (.long v :: S))) : WP κ h k n (mkF κ.m pc L (S)) := by
  obtain ⟨hx, hby, -⟩ := K
  subst hp
  exact WP.go (fun T locs vm0 X e hZ ho t k => XT.lloadN X.here hx rfl (hb hby hd) hl k) H
theorem WP.lload (K : Cx κ w l Z own n0 rm bytes maxL ret nm Q) {j : Nat} {v : Int64} (hd : decode bytes pc = .ok (.lload j, 2)) (hl : L[j]? = some (.val (.long v))) (hp : pc + 2 = pc') (H : WP κ h k n (mkF κ.m pc' L (.long v :: S))) : WP κ h k n (mkF κ.m pc L (S)) := by
  obtain ⟨hx, hby, -⟩ := K
  subst hp
  exact WP.go (fun T locs vm0 X e hZ ho t k => XT.lload X.here hx rfl (hb hby hd) hl k) H
theorem WP.aloadN (K : Cx κ w l Z own n0 rm bytes maxL ret nm Q) {j : Fin 4} {v : Value} (hd : decode bytes pc = .ok (.aload_n j, 1)) (hl : L[j.val]? = some (.val v)) (hv : v.isRef = true) (hp : pc + 1 = pc') (H : WP κ h k n (mkF κ.m pc' L (v :: S))) : WP κ h k n (mkF κ.m pc L (S)) := by
  obtain ⟨hx, hby, -⟩ := K
  subst hp
  exact WP.go (fun T locs vm0 X e hZ ho t k => XS.aloadN X.here hx rfl (hb hby hd) hl hv k) H
theorem WP.aload (K : Cx κ w l Z own n0 rm bytes maxL ret nm Q) {j : Nat} {v : Value} (hd : decode bytes pc = .ok (.aload j, 2)) (hl : L[j]? = some (.val v)) (hv : v.isRef = true) (hp : pc + 2 = pc') (H : WP κ h k n (mkF κ.m pc' L (v :: S))) : WP κ h k n (mkF κ.m pc L (S)) := by
  obtain ⟨hx, hby, -⟩ := K
  subst hp
  exact WP.go (fun T locs vm0 X e hZ ho t k => XS.aload X.here hx rfl (hb hby hd) hl hv k) H
theorem WP.dloadN (K : Cx κ w l Z own n0 rm bytes maxL ret nm Q) {j : Fin 4} {v : UInt64} (hd : decode bytes pc = .ok (.dload_n j, 1)) (hl : L[j.val]? = some (.val (.double v))) (hp : pc + 1 = pc') (H : WP κ h k n (mkF κ.m pc' L (.double v :: S))) : WP κ h k n (mkF κ.m pc L (S)) := by
  obtain ⟨hx, hby, -⟩ := K
  subst hp
  exact WP.go (fun T locs vm0 X e hZ ho t k => XT.dloadN X.here hx rfl (hb hby hd) hl k) H
theorem WP.dload (K : Cx κ w l Z own n0 rm bytes maxL ret nm Q) {j : Nat} {v : UInt64} (hd : decode bytes pc = .ok (.dload j, 2)) (hl : L[j]? = some (.val (.double v))) (hp : pc + 2 = pc') (H : WP κ h k n (mkF κ.m pc' L (.double v :: S))) : WP κ h k n (mkF κ.m pc L (S)) := by
  obtain ⟨hx, hby, -⟩ := K
  subst hp
  exact WP.go (fun T locs vm0 X e hZ ho t k => XT.dload X.here hx rfl (hb hby hd) hl k) H
theorem WP.dup (K : Cx κ w l Z own n0 rm bytes maxL ret nm Q) {x : Value} (hd : decode bytes pc = .ok (.dup, 1)) (hc : x.category = 1) (hp : pc + 1 = pc') (H : WP κ h k n (mkF κ.m pc' L (x :: x :: S))) : WP κ h k n (mkF κ.m pc L (x :: S)) := by
  obtain ⟨hx, hby, -⟩ := K
  subst hp
  exact WP.go (fun T locs vm0 X e hZ ho t k => XS.dup X.here hx rfl (hb hby hd) rfl hc k) H
theorem WP.pop (K : Cx κ w l Z own n0 rm bytes maxL ret nm Q) {x : Value} (hd : decode bytes pc = .ok (.pop, 1)) (hc : x.category = 1) (hp : pc + 1 = pc') (H : WP κ h k n (mkF κ.m pc' L (S))) : WP κ h k n (mkF κ.m pc L (x :: S)) := by
  obtain ⟨hx, hby, -⟩ := K
  subst hp
  exact WP.go (fun T locs vm0 X e hZ ho t k => XT.pop X.here hx rfl (hb hby hd) rfl hc k) H
theorem WP.dup_x1 (K : Cx κ w l Z own n0 rm bytes maxL ret nm Q) {x y : Value} (hd : decode bytes pc = .ok (.dup_x1, 1)) (hc : x.category = 1) (hc' : y.category = 1) (hp : pc + 1 = pc') (H : WP κ h k n (mkF κ.m pc' L (x :: y :: x :: S))) : WP κ h k n (mkF κ.m pc L (x :: y :: S)) := by
  obtain ⟨hx, hby, -⟩ := K
  subst hp
  exact WP.go (fun T locs vm0 X e hZ ho t k => XT.dupX1 X.here hx rfl (hb hby hd) rfl hc hc' k) H
theorem WP.dup2 (K : Cx κ w l Z own n0 rm bytes maxL ret nm Q) {x y : Value} (hd : decode bytes pc = .ok (.dup2, 1)) (hc : x.category = 1) (hc' : y.category = 1) (hp : pc + 1 = pc') (H : WP κ h k n (mkF κ.m pc' L (x :: y :: x :: y :: S))) : WP κ h k n (mkF κ.m pc L (x :: y :: S)) := by
  obtain ⟨hx, hby, -⟩ := K
  subst hp
  exact WP.go (fun T locs vm0 X e hZ ho t k => XT.dup2 X.here hx rfl (hb hby hd) rfl hc hc' k) H
theorem WP.dup2L (K : Cx κ w l Z own n0 rm bytes maxL ret nm Q) {x : Int64} (hd : decode bytes pc = .ok (.dup2, 1))  (hp : pc + 1 = pc') (H : WP κ h k n (mkF κ.m pc' L (.long x :: .long x :: S))) : WP κ h k n (mkF κ.m pc L (.long x :: S)) := by
  obtain ⟨hx, hby, -⟩ := K
  subst hp
  exact WP.go (fun T locs vm0 X e hZ ho t k => XT.dup2L X.here hx rfl (hb hby hd) rfl k) H
theorem WP.i2d (K : Cx κ w l Z own n0 rm bytes maxL ret nm Q) {x : Int32} (hd : decode bytes pc = .ok (.i2d, 1))  (hp : pc + 1 = pc') (H : WP κ h k n (mkF κ.m pc' L (.double (FP.i2d x) :: S))) : WP κ h k n (mkF κ.m pc L (.int x :: S)) := by
  obtain ⟨hx, hby, -⟩ := K
  subst hp
  exact WP.go (fun T locs vm0 X e hZ ho t k => Jvm.Free.XS.i2dS X.here hx rfl (hb hby hd) rfl rfl k) H
theorem WP.l2d (K : Cx κ w l Z own n0 rm bytes maxL ret nm Q) {x : Int64} (hd : decode bytes pc = .ok (.l2d, 1))  (hp : pc + 1 = pc') (H : WP κ h k n (mkF κ.m pc' L (.double (FP.l2d x) :: S))) : WP κ h k n (mkF κ.m pc L (.long x :: S)) := by
  obtain ⟨hx, hby, -⟩ := K
  subst hp
  exact WP.go (fun T locs vm0 X e hZ ho t k => Jvm.Free.XS.l2dS X.here hx rfl (hb hby hd) rfl rfl k) H
theorem WP.dcmp (K : Cx κ w l Z own n0 rm bytes maxL ret nm Q) {o : CmpOp} {x y : UInt64} (hd : decode bytes pc = .ok (.dcmp o, 1))  (hp : pc + 1 = pc') (H : WP κ h k n (mkF κ.m pc' L (.int (cmpValue (FP.dcmp x y) o) :: S))) : WP κ h k n (mkF κ.m pc L (.double y :: .double x :: S)) := by
  obtain ⟨hx, hby, -⟩ := K
  subst hp
  exact WP.go (fun T locs vm0 X e hZ ho t k => Jvm.Free.XS.dcmpS X.here hx rfl (hb hby hd) rfl rfl k) H
theorem WP.istoreN (K : Cx κ w l Z own n0 rm bytes maxL ret nm Q) {j : Fin 4} {x : Int32} (hd : decode bytes pc = .ok (.istore_n j, 1))  (hl : storeLocals L j.val (.int x) = some L') (hp : pc + 1 = pc') (H : WP κ h k n (mkF κ.m pc' L' S)) : WP κ h k n (mkF κ.m pc L ((.int x) :: S)) := by
  obtain ⟨hx, hby, -⟩ := K
  subst hp
  exact WP.go (fun T locs vm0 X e hZ ho t k => XS.istoreN X.here hx rfl (hb hby hd) rfl hl k) H
theorem WP.istore (K : Cx κ w l Z own n0 rm bytes maxL ret nm Q) {j : Nat} {x : Int32} (hd : decode bytes pc = .ok (.istore j, 2))  (hl : storeLocals L j (.int x) = some L') (hp : pc + 2 = pc') (H : WP κ h k n (mkF κ.m pc' L' S)) : WP κ h k n (mkF κ.m pc L ((.int x) :: S)) := by
  obtain ⟨hx, hby, -⟩ := K
  subst hp
  exact WP.go (fun T locs vm0 X e hZ ho t k => XS.istore X.here hx rfl (hb hby hd) rfl hl k) H
theorem WP.lstoreN (K : Cx κ w l Z own n0 rm bytes maxL ret nm Q) {j : Fin 4} {x : Int64} (hd : decode bytes pc = .ok (.lstore_n j, 1))  (hl : storeLocals L j.val (.long x) = some L') (hp : pc + 1 = pc') (H : WP κ h k n (mkF κ.m pc' L' S)) : WP κ h k n (mkF κ.m pc L ((.long x) :: S)) := by
  obtain ⟨hx, hby, -⟩ := K
  subst hp
  exact WP.go (fun T locs vm0 X e hZ ho t k => XT.lstoreN X.here hx rfl (hb hby hd) rfl hl k) H
theorem WP.lstore (K : Cx κ w l Z own n0 rm bytes maxL ret nm Q) {j : Nat} {x : Int64} (hd : decode bytes pc = .ok (.lstore j, 2))  (hl : storeLocals L j (.long x) = some L') (hp : pc + 2 = pc') (H : WP κ h k n (mkF κ.m pc' L' S)) : WP κ h k n (mkF κ.m pc L ((.long x) :: S)) := by
  obtain ⟨hx, hby, -⟩ := K
  subst hp
  exact WP.go (fun T locs vm0 X e hZ ho t k => XT.lstore X.here hx rfl (hb hby hd) rfl hl k) H
theorem WP.astoreN (K : Cx κ w l Z own n0 rm bytes maxL ret nm Q) {j : Fin 4} {x : Value} (hd : decode bytes pc = .ok (.astore_n j, 1)) (hv : x.isRef = true) (hl : storeLocals L j.val x = some L') (hp : pc + 1 = pc') (H : WP κ h k n (mkF κ.m pc' L' S)) : WP κ h k n (mkF κ.m pc L (x :: S)) := by
  obtain ⟨hx, hby, -⟩ := K
  subst hp
  exact WP.go (fun T locs vm0 X e hZ ho t k => XS.astoreN X.here hx rfl (hb hby hd) rfl hv hl k) H
theorem WP.astore (K : Cx κ w l Z own n0 rm bytes maxL ret nm Q) {j : Nat} {x : Value} (hd : decode bytes pc = .ok (.astore j, 2)) (hv : x.isRef = true) (hl : storeLocals L j x = some L') (hp : pc + 2 = pc') (H : WP κ h k n (mkF κ.m pc' L' S)) : WP κ h k n (mkF κ.m pc L (x :: S)) := by
  obtain ⟨hx, hby, -⟩ := K
  subst hp
  exact WP.go (fun T locs vm0 X e hZ ho t k => XS.astore X.here hx rfl (hb hby hd) rfl hv hl k) H
theorem WP.dstoreN (K : Cx κ w l Z own n0 rm bytes maxL ret nm Q) {j : Fin 4} {x : UInt64} (hd : decode bytes pc = .ok (.dstore_n j, 1))  (hl : storeLocals L j.val (.double x) = some L') (hp : pc + 1 = pc') (H : WP κ h k n (mkF κ.m pc' L' S)) : WP κ h k n (mkF κ.m pc L ((.double x) :: S)) := by
  obtain ⟨hx, hby, -⟩ := K
  subst hp
  exact WP.go (fun T locs vm0 X e hZ ho t k => Jvm.Free.XS.dstoreN X.here hx rfl (hb hby hd) rfl hl k) H
theorem WP.dstore (K : Cx κ w l Z own n0 rm bytes maxL ret nm Q) {j : Nat} {x : UInt64} (hd : decode bytes pc = .ok (.dstore j, 2))  (hl : storeLocals L j (.double x) = some L') (hp : pc + 2 = pc') (H : WP κ h k n (mkF κ.m pc' L' S)) : WP κ h k n (mkF κ.m pc L ((.double x) :: S)) := by
  obtain ⟨hx, hby, -⟩ := K
  subst hp
  exact WP.go (fun T locs vm0 X e hZ ho t k => Jvm.Free.XS.dstore X.here hx rfl (hb hby hd) rfl hl k) H
theorem WP.iinc (K : Cx κ w l Z own n0 rm bytes maxL ret nm Q) {j : Nat} {cst : Int} {x v : Int32} (hd : decode bytes pc = .ok (.iinc j cst, 3)) (hv : Int32.ofInt cst = v) (hl : L[j]? = some (.val (.int x))) (hl' : storeLocals L j (.int (x + v)) = some L') (hp : pc + 3 = pc') (H : WP κ h k n (mkF κ.m pc' L' S)) : WP κ h k n (mkF κ.m pc L S) := by
  obtain ⟨hx, hby, -⟩ := K
  subst hp
  exact WP.go (fun T locs vm0 X e hZ ho t k => XT.iincV X.here hx rfl v (hb hby hd) hv hl hl' k) H
theorem WP.goto (K : Cx κ w l Z own n0 rm bytes maxL ret nm Q) {o : Int} (hd : decode bytes pc = .ok (.goto o, 3)) (ho : 0 ≤ (pc : Int) + o) (hp : ((pc : Int) + o).toNat = pc') (H : WP κ h k n (mkF κ.m pc' L S)) : WP κ h k n (mkF κ.m pc L S) := by
  obtain ⟨hx, hby, -⟩ := K
  exact WP.go (fun T locs vm0 X e hZ ho' t k => XS.goto X.here hx rfl rfl (hb hby hd) ho hp k) H
theorem WP.if0T (K : Cx κ w l Z own n0 rm bytes maxL ret nm Q) {cd : ClassFile.Cond} {x : Int32} {o : Int} (hd : decode bytes pc = .ok (.ifCond cd o, 3)) (hc : ifCond.holds cd x = true) (ho : 0 ≤ (pc : Int) + o) (hp : ((pc : Int) + o).toNat = pc') (H : WP κ h k n (mkF κ.m pc' L S)) : WP κ h k n (mkF κ.m pc L (.int x :: S)) := by
  obtain ⟨hx, hby, -⟩ := K
  exact WP.go (fun T locs vm0 X e hZ ho' t k => XS.ifYes X.here hx rfl rfl (hb hby hd) rfl hc ho hp k) H
theorem WP.if0F (K : Cx κ w l Z own n0 rm bytes maxL ret nm Q) {cd : ClassFile.Cond} {x : Int32} {o : Int} (hd : decode bytes pc = .ok (.ifCond cd o, 3)) (hc : ifCond.holds cd x = false) (hp : pc + 3 = pc') (H : WP κ h k n (mkF κ.m pc' L S)) : WP κ h k n (mkF κ.m pc L (.int x :: S)) := by
  obtain ⟨hx, hby, -⟩ := K
  subst hp
  exact WP.go (fun T locs vm0 X e hZ ho' t k => XS.ifNo X.here hx rfl (hb hby hd) rfl hc k) H
theorem WP.icmpT (K : Cx κ w l Z own n0 rm bytes maxL ret nm Q) {cd : ClassFile.Cond} {x y : Int32} {o : Int} (hd : decode bytes pc = .ok (.if_icmp cd o, 3)) (hc : if_icmp.holds cd x y = true) (ho : 0 ≤ (pc : Int) + o) (hp : ((pc : Int) + o).toNat = pc') (H : WP κ h k n (mkF κ.m pc' L S)) : WP κ h k n (mkF κ.m pc L (.int y :: .int x :: S)) := by
  obtain ⟨hx, hby, -⟩ := K
  exact WP.go (fun T locs vm0 X e hZ ho' t k => XS.icmpYes X.here hx rfl rfl (hb hby hd) rfl hc ho hp k) H
theorem WP.icmpF (K : Cx κ w l Z own n0 rm bytes maxL ret nm Q) {cd : ClassFile.Cond} {x y : Int32} {o : Int} (hd : decode bytes pc = .ok (.if_icmp cd o, 3)) (hc : if_icmp.holds cd x y = false) (hp : pc + 3 = pc') (H : WP κ h k n (mkF κ.m pc' L S)) : WP κ h k n (mkF κ.m pc L (.int y :: .int x :: S)) := by
  obtain ⟨hx, hby, -⟩ := K
  subst hp
  exact WP.go (fun T locs vm0 X e hZ ho' t k => XS.icmpNo X.here hx rfl (hb hby hd) rfl hc k) H
theorem WP.acmpT (K : Cx κ w l Z own n0 rm bytes maxL ret nm Q) {cd : ClassFile.ACond} {x y : Value} {o : Int} (hd : decode bytes pc = .ok (.if_acmp cd o, 3)) (h1 : x.isRef = true) (h2 : y.isRef = true) (hc : XT.acmp cd x y = true) (ho : 0 ≤ (pc : Int) + o) (hp : ((pc : Int) + o).toNat = pc') (H : WP κ h k n (mkF κ.m pc' L S)) : WP κ h k n (mkF κ.m pc L (y :: x :: S)) := by
  obtain ⟨hx, hby, -⟩ := K
  exact WP.go (fun T locs vm0 X e hZ ho' t k => XT.acmpYes X.here hx rfl rfl (hb hby hd) rfl h1 h2 hc ho hp k) H
theorem WP.acmpF (K : Cx κ w l Z own n0 rm bytes maxL ret nm Q) {cd : ClassFile.ACond} {x y : Value} {o : Int} (hd : decode bytes pc = .ok (.if_acmp cd o, 3)) (h1 : x.isRef = true) (h2 : y.isRef = true) (hc : XT.acmp cd x y = false) (hp : pc + 3 = pc') (H : WP κ h k n (mkF κ.m pc' L S)) : WP κ h k n (mkF κ.m pc L (y :: x :: S)) := by
  obtain ⟨hx, hby, -⟩ := K
  subst hp
  exact WP.go (fun T locs vm0 X e hZ ho' t k => XT.acmpNo X.here hx rfl (hb hby hd) rfl h1 h2 hc k) H
theorem WP.ifnullT (K : Cx κ w l Z own n0 rm bytes maxL ret nm Q) {o : Int} {b : Addr} (hd : decode bytes pc = .ok (.ifnull o, 3)) (ho : 0 ≤ (pc : Int) + o) (hp : ((pc : Int) + o).toNat = pc') (H : WP κ h k n (mkF κ.m pc' L S)) : WP κ h k n (mkF κ.m pc L (.null :: S)) := by
  obtain ⟨hx, hby, -⟩ := K
  exact WP.go (fun T locs vm0 X e hZ ho' t k => XS.ifnullYes X.here hx rfl rfl (hb hby hd) rfl ho hp k) H
theorem WP.ifnullF (K : Cx κ w l Z own n0 rm bytes maxL ret nm Q) {o : Int} {b : Addr} (hd : decode bytes pc = .ok (.ifnull o, 3)) (hp : pc + 3 = pc') (H : WP κ h k n (mkF κ.m pc' L S)) : WP κ h k n (mkF κ.m pc L (.ref b :: S)) := by
  obtain ⟨hx, hby, -⟩ := K
  subst hp
  exact WP.go (fun T locs vm0 X e hZ ho' t k => XS.ifnullNo X.here hx rfl (hb hby hd) rfl k) H
theorem WP.ifnonnullT (K : Cx κ w l Z own n0 rm bytes maxL ret nm Q) {o : Int} {b : Addr} (hd : decode bytes pc = .ok (.ifnonnull o, 3)) (ho : 0 ≤ (pc : Int) + o) (hp : ((pc : Int) + o).toNat = pc') (H : WP κ h k n (mkF κ.m pc' L S)) : WP κ h k n (mkF κ.m pc L (.ref b :: S)) := by
  obtain ⟨hx, hby, -⟩ := K
  exact WP.go (fun T locs vm0 X e hZ ho' t k => XT.ifnonnullYes X.here hx rfl rfl (hb hby hd) rfl ho hp k) H
theorem WP.ifnonnullF (K : Cx κ w l Z own n0 rm bytes maxL ret nm Q) {o : Int} {b : Addr} (hd : decode bytes pc = .ok (.ifnonnull o, 3)) (hp : pc + 3 = pc') (H : WP κ h k n (mkF κ.m pc' L S)) : WP κ h k n (mkF κ.m pc L (.null :: S)) := by
  obtain ⟨hx, hby, -⟩ := K
  subst hp
  exact WP.go (fun T locs vm0 X e hZ ho' t k => XT.ifnonnullNo X.here hx rfl (hb hby hd) rfl k) H
theorem WP.ldcI (K : Cx κ w l Z own n0 rm bytes maxL ret nm Q) {i : Nat} {v : Int32} (wc : (Cond.constant own i v).before a0 Z = true) (hd : decode bytes pc = .ok (.ldc i, 2)) (hp : pc + 2 = pc') (H : WP κ h k n (mkF κ.m pc' L (.int v :: S))) : WP κ h k n (mkF κ.m pc L S) := by
  obtain ⟨hx, hby, -, -, -, -, -, -, rfl, rfl, -⟩ := K
  subst hp
  exact WP.go (fun T locs vm0 X e hZ ho t k => X.ldcInt hx (own := κ.own) ho (mvT (args := κ.a) (s := κ.s.setVm vm0) hZ wc) (g := mkF κ.m pc L S) rfl (hb hby hd) t k) H
theorem WP.ldcwI (K : Cx κ w l Z own n0 rm bytes maxL ret nm Q) {i : Nat} {v : Int32} (wc : (Cond.constant own i v).before a0 Z = true) (hd : decode bytes pc = .ok (.ldc_w i, 3)) (hp : pc + 3 = pc') (H : WP κ h k n (mkF κ.m pc' L (.int v :: S))) : WP κ h k n (mkF κ.m pc L S) := by
  obtain ⟨hx, hby, -, -, -, -, -, -, rfl, rfl, -⟩ := K
  subst hp
  exact WP.go (fun T locs vm0 X e hZ ho t k => X.ldcwInt hx (own := κ.own) ho (mvT (args := κ.a) (s := κ.s.setVm vm0) hZ wc) (g := mkF κ.m pc L S) rfl (hb hby hd) t k) H
theorem WP.ldc2J (K : Cx κ w l Z own n0 rm bytes maxL ret nm Q) {i : Nat} {v : Int64} (wc : (Cond.constantLong own i v).before a0 Z = true) (hd : decode bytes pc = .ok (.ldc2_w i, 3)) (hp : pc + 3 = pc') (H : WP κ h k n (mkF κ.m pc' L (.long v :: S))) : WP κ h k n (mkF κ.m pc L S) := by
  obtain ⟨hx, hby, -, -, -, -, -, -, rfl, rfl, -⟩ := K
  subst hp
  exact WP.go (fun T locs vm0 X e hZ ho t k => X.ldc2Long hx (own := κ.own) ho (mvT (args := κ.a) (s := κ.s.setVm vm0) hZ wc) (g := mkF κ.m pc L S) rfl (hb hby hd) t k) H
theorem Ends.of {T : State} {locs : List Loc} {vm0 : Vm} {v : Option Value} {g : JFrame} (X : Stand κ.p κ.l κ.e κ.R (κ.s.setVm vm0) κ.m κ.a κ.below κ.meth κ.c T locs k n) (M : Md κ.w κ.s vm0 T.heap.size) (N : Fr κ.n0 locs) (hv : κ.meth.sig.returnType = none → v = none) (hlk : κ.meth.locks = false) (hk : k ≤ κ.R.cells) (hn : n ≤ κ.R.slots) (hq : κ.Q v T.heap)
    (st : ∀ fs, (∀ (f : JFrame) (acts : List Action), f.method = κ.m → f.locked = none → f.entered = [] → (doReturn κ.e (T.setTop f) acts v).1 = T.setFrames fs) → Steps κ.p.tables κ.e κ.below (T.setTop g) (T.setFrames fs)) : Ends κ T g := by
  obtain ⟨k0, hS, hk0⟩ := M.2
  by_cases hw : κ.w = true
  · obtain ⟨fs, h1, h2, h3, h4⟩ := (X.mono hk hn).leaveW hS hk0 hv hlk
    exact ⟨_, _, st fs h1, h2, h3, v, locs, rfl, ⟨hq, N⟩, by rw [hw]; exact h4⟩
  · have hw' : κ.w = false := by simpa using hw
    have e := M.1 hw'
    subst e
    obtain ⟨fs, h1, h2, h3, h4, h5⟩ := (X.mono hk hn).leave hv hlk
    exact ⟨_, _, st fs h1, h2, h3, v, locs, rfl, ⟨hq, N⟩, by rw [hw']; exact ⟨⟨v, rfl⟩, h4, h5⟩⟩
theorem WP.ret0 (K : Cx κ w l Z own n0 rm bytes maxL none nm Q) (hd : decode bytes pc = .ok (.return_, 1)) (hk : k ≤ rm.cells) (hn : n ≤ rm.slots) (hq : Q none h) : WP κ h k n (mkF κ.m pc L ([])) := by
  obtain ⟨hx, hby, -, hr, hlk, -, -, -, rfl, rfl, rfl, rfl, rfl⟩ := K
  intro T locs vm0 X e M hZ ho N
  subst e
  exact Ends.of X M N (fun _ => rfl) hlk hk hn hq fun fs hl => X.returnOut hx hr (hb hby hd) hl
theorem WP.retI (K : Cx κ w l Z own n0 rm bytes maxL (some .int) nm Q) {z : Int32} (hd : decode bytes pc = .ok (.ireturn, 1)) (hk : k ≤ rm.cells) (hn : n ≤ rm.slots) (hq : Q (some (.int z)) h) : WP κ h k n (mkF κ.m pc L (.int z :: S)) := by
  obtain ⟨hx, hby, -, hr, hlk, -, -, -, rfl, rfl, rfl, rfl, rfl⟩ := K
  intro T locs vm0 X e M hZ ho N
  subst e
  exact Ends.of X M N (fun q => by rw [hr] at q; cases q) hlk hk hn hq fun fs hl => retOut X hx hr rfl (Or.inl ⟨rfl, Or.inl rfl, z, rfl⟩) (hb hby hd) hl
theorem WP.retJ (K : Cx κ w l Z own n0 rm bytes maxL (some .long) nm Q) {z : Int64} (hd : decode bytes pc = .ok (.lreturn, 1)) (hk : k ≤ rm.cells) (hn : n ≤ rm.slots) (hq : Q (some (.long z)) h) : WP κ h k n (mkF κ.m pc L (.long z :: S)) := by
  obtain ⟨hx, hby, -, hr, hlk, -, -, -, rfl, rfl, rfl, rfl, rfl⟩ := K
  intro T locs vm0 X e M hZ ho N
  subst e
  exact Ends.of X M N (fun q => by rw [hr] at q; cases q) hlk hk hn hq fun fs hl => retOut X hx hr rfl (Or.inr (Or.inl ⟨rfl, rfl, z, rfl⟩)) (hb hby hd) hl
theorem WP.retD (K : Cx κ w l Z own n0 rm bytes maxL (some .double) nm Q) {z : UInt64} (hd : decode bytes pc = .ok (.dreturn, 1)) (hk : k ≤ rm.cells) (hn : n ≤ rm.slots) (hq : Q (some (.double z)) h) : WP κ h k n (mkF κ.m pc L (.double z :: S)) := by
  obtain ⟨hx, hby, -, hr, hlk, -, -, -, rfl, rfl, rfl, rfl, rfl⟩ := K
  intro T locs vm0 X e M hZ ho N
  subst e
  exact Ends.of X M N (fun q => by rw [hr] at q; cases q) hlk hk hn hq fun fs hl => retOut X hx hr rfl (Or.inr (Or.inr (Or.inl ⟨rfl, rfl, z, rfl⟩))) (hb hby hd) hl
theorem WP.retR {ty : FieldType} (K : Cx κ w l Z own n0 rm bytes maxL (some ty) nm Q) {v : Value} (ht : ty.isReference = true) (hv : v.isRef = true) (hd : decode bytes pc = .ok (.areturn, 1)) (hk : k ≤ rm.cells) (hn : n ≤ rm.slots) (hq : Q (some v) h) : WP κ h k n (mkF κ.m pc L (v :: S)) := by
  obtain ⟨hx, hby, -, hr, hlk, -, -, -, rfl, rfl, rfl, rfl, rfl⟩ := K
  intro T locs vm0 X e M hZ ho N
  subst e
  exact Ends.of X M N (fun q => by rw [hr] at q; cases q) hlk hk hn hq fun fs hl => retOut X hx hr (by cases ty <;> first | rfl | (cases ht) | (rcases ref_cases hv with rfl | ⟨_, rfl⟩ <;> rfl)) (Or.inr (Or.inr (Or.inr (Or.inr ⟨rfl, ht, hv⟩)))) (hb hby hd) hl
theorem WP.retN {ty : FieldType} (K : Cx κ w l Z own n0 rm bytes maxL (some ty) nm Q) {z : Int32} (ht : ty = .boolean ∨ ty = .byte ∨ ty = .char ∨ ty = .short) (hd : decode bytes pc = .ok (.ireturn, 1)) (hk : k ≤ rm.cells) (hn : n ≤ rm.slots) (hq : Q (some (.int (nar ty z))) h) : WP κ h k n (mkF κ.m pc L (.int z :: S)) := by
  obtain ⟨hx, hby, -, hr, hlk, -, -, -, rfl, rfl, rfl, rfl, rfl⟩ := K
  intro T locs vm0 X e M hZ ho N
  subst e
  exact Ends.of X M N (fun q => by rw [hr] at q; cases q) hlk hk hn hq fun fs hl => RoadKit.retN X hx hr ht (hb hby hd) hl
theorem WP.getF (K : Cx κ w l Z own n0 rm bytes maxL ret nm Q) {i : Nat} {R0 O f d : String} {a : Addr} {v : Value} (wl : (Cond.fieldLink own i R0 f d).before a0 Z = true) (via : Via Z R0 O f d) (F : Fld Z h a O f d v) (hd : decode bytes pc = .ok (.getfield i, 3)) (hp : pc + 3 = pc') (H : WP κ h k n (mkF κ.m pc' L (v :: S))) : WP κ h k n (mkF κ.m pc L (.ref a :: S)) := by
  obtain ⟨hx, hby, -, -, -, hnm, -, -, rfl, rfl, rfl, rfl, -⟩ := K
  subst hp
  intro T locs vm0 X e M hZ ho N
  obtain ⟨T', X', e', st⟩ := RoadKit.getF X hx (s := κ.s.setVm vm0) hZ ho (host := "") (Or.inl wl) via e F (g := mkF κ.m pc L (.ref a :: S)) rfl rfl (hb hby hd)
  obtain ⟨t, o, h1, r⟩ := H T' locs vm0 X' e' M hZ ho N
  exact ⟨t, o, st _ h1, r⟩
theorem WP.getS (K : Cx κ w l Z own n0 rm bytes maxL ret nm Q) {i : Nat} {R0 O f d : String} {v : Value} (wl : (Cond.fieldLink own i R0 f d).before a0 Z = true) (via : Via Z R0 O f d) (F : Sta Z h O f d v) (hd : decode bytes pc = .ok (.getstatic i, 3)) (hp : pc + 3 = pc') (H : WP κ h k n (mkF κ.m pc' L (v :: S))) : WP κ h k n (mkF κ.m pc L S) := by
  obtain ⟨hx, hby, -, -, -, hnm, -, -, rfl, rfl, rfl, rfl, -⟩ := K
  subst hp
  intro T locs vm0 X e M hZ ho N
  obtain ⟨T', X', e', st⟩ := RoadKit.getS (host := "") X hx (s := κ.s.setVm vm0) hZ ho wl via e F (g := mkF κ.m pc L S) rfl (hb hby hd)
  obtain ⟨t, o, h1, r⟩ := H T' locs vm0 X' e' M hZ ho N
  exact ⟨t, o, st _ h1, r⟩
theorem WP.putF (K : Cx κ w l Z own n0 rm bytes maxL ret nm Q) {i kk : Nat} {R0 O f d C : String} {ty : FieldType} {a : Addr} {v old : Value} (wl : (Cond.fieldLink own i R0 f d).before a0 Z = true) (via : Via Z R0 O f d) (F : Fld Z h a O f d old) (E : Exa Z h a C) (la : (Cond.lays C O f d).before a0 Z = true ∨ ((Cond.laysFinal C O f d).before a0 Z = true ∧ own = O ∧ nm = "<init>")) (wi : (Cond.instantiable C kk).before a0 Z = true)
    (hty : parseFieldDescriptor d = some ty) (hn1 : narrow ty v = v) (hf : fits ty v = true) (ha : n0 ≤ a) (hd : decode bytes pc = .ok (.putfield i, 3)) (hp : pc + 3 = pc') (H : ∀ h', Wr h h' a (Jvm.RoadKit.slotOf Z O f d) v → WP κ h' k n (mkF κ.m pc' L S)) : WP κ h k n (mkF κ.m pc L (v :: .ref a :: S)) := by
  obtain ⟨hx, hby, -, -, -, hnm, -, -, rfl, rfl, rfl, rfl, -⟩ := K
  subst hp
  intro T locs vm0 X e M hZ ho N
  obtain ⟨T', h', X', e', W, st⟩ := RoadKit.putF X hx (s := κ.s.setVm vm0) hZ ho (host := "") (Or.inl wl) via e F E (la.imp id fun q => ⟨q.1, q.2.1, hnm.trans q.2.2⟩) wi hty hn1 hf (g := mkF κ.m pc L (v :: .ref a :: S)) rfl rfl (hb hby hd)
  obtain ⟨t, o, h1, r⟩ := H h' W T' _ vm0 X' e' (M.mono (Nat.le_of_eq W.size.symm)) hZ ho (Fr.snoc X' N ha)
  exact ⟨t, o, st _ h1, r⟩
theorem WP.putFN (K : Cx κ w l Z own n0 rm bytes maxL ret nm Q) {i kk : Nat} {R0 O f d C : String} {ty : FieldType} {a : Addr} {v v' old : Value} (wl : (Cond.fieldLink own i R0 f d).before a0 Z = true) (via : Via Z R0 O f d) (F : Fld Z h a O f d old) (E : Exa Z h a C) (la : (Cond.lays C O f d).before a0 Z = true ∨ ((Cond.laysFinal C O f d).before a0 Z = true ∧ own = O ∧ nm = "<init>")) (wi : (Cond.instantiable C kk).before a0 Z = true)
    (hty : parseFieldDescriptor d = some ty) (hn1 : narrow ty v = v') (hf : fits ty v' = true) (ha : n0 ≤ a) (hd : decode bytes pc = .ok (.putfield i, 3)) (hp : pc + 3 = pc') (H : ∀ h', Wr h h' a (Jvm.RoadKit.slotOf Z O f d) v' → WP κ h' k n (mkF κ.m pc' L S)) : WP κ h k n (mkF κ.m pc L (v :: .ref a :: S)) := by
  obtain ⟨hx, hby, -, -, -, hnm, -, -, rfl, rfl, rfl, rfl, -⟩ := K
  subst hp
  intro T locs vm0 X e M hZ ho N
  obtain ⟨T', h', X', e', W, st⟩ := RoadKit.putFN X hx (s := κ.s.setVm vm0) hZ ho wl via e F E (la.imp id fun q => ⟨q.1, q.2.1, hnm.trans q.2.2⟩) wi hty hn1 hf (g := mkF κ.m pc L (v :: .ref a :: S)) rfl rfl (hb hby hd)
  obtain ⟨t, o, h1, r⟩ := H h' W T' _ vm0 X' e' (M.mono (Nat.le_of_eq W.size.symm)) hZ ho (Fr.snoc X' N ha)
  exact ⟨t, o, st _ h1, r⟩
theorem WP.new (K : Cx κ w l Z own n0 rm bytes maxL ret nm Q) {i sl : Nat} {C : String} (w1 : (Cond.classLink own i C).before a0 Z = true) (w2 : (Cond.instantiable C sl).before a0 Z = true) (w3 : (Cond.initialized C).before a0 Z = true) (hd : decode bytes pc = .ok (.new i, 3)) (hk : k + 1 = k') (hn : n + sl = n') (hk' : k' ≤ rm.cells) (hn' : n' ≤ rm.slots) (hp : pc + 3 = pc')
    (H : ∀ (h' : Heap) (a : Addr), @Eq Nat h.size a → Ext h h' → Exa Z h' a C → (∀ {O f d : String} {ty : FieldType}, Laid Z a0 C O f d → parseFieldDescriptor d = some ty → Fld Z h' a O f d (defaultValue ty)) → WP κ h' k' n' (mkF κ.m pc' L (.ref a :: S))) : WP κ h k n (mkF κ.m pc L S) := by
  obtain ⟨hx, hby, -, -, -, hnm, -, -, rfl, rfl, rfl, rfl, -⟩ := K
  subst hp hk hn
  intro T locs vm0 X e M hZ ho N
  obtain ⟨T', h', X', e', E, A, D, -, st⟩ := newO X hx (s := κ.s.setVm vm0) hZ ho w1 w2 w3 e (g := mkF κ.m pc L S) rfl (hb hby hd) hk' hn'
  obtain ⟨t, o, h1, r⟩ := H h' _ rfl E A D T' _ vm0 X' e' (M.mono E.1) hZ ho N
  exact ⟨t, o, st _ h1, r⟩
theorem WP.initO (K : Cx κ w l Z own n0 rm bytes maxL ret nm Q) {i W : Nat} {a : Addr} (w1 : (Cond.methodLink own i Lib.objectInit).before a0 Z = true) (w2 : (Cond.instanceMethod Lib.objectInit).before a0 Z = true) (w3 : (Cond.code Lib.objectInit ⟨#[0xb1]⟩ 1 none).before a0 Z = true) (hd : decode bytes pc = .ok (.invokespecial i, 3)) (hL : L.size = maxL) (hf : 1 ≤ rm.frames) (hW : (S.map fun v => v.category).sum = W) (hl : W + 12 ≤ rm.locals) (hp : pc + 3 = pc')
    (H : WP κ h k n (mkF κ.m pc' L S)) : WP κ h k n (mkF κ.m pc L (.ref a :: S)) := by
  obtain ⟨hx, hby, hml, -, -, -, -, -, rfl, rfl, rfl, rfl, -⟩ := K
  subst hp
  intro T locs vm0 X e M hZ ho N
  obtain ⟨T', X', e', st⟩ := RoadKit.initO X hx (s := κ.s.setVm vm0) hZ ho w1 w2 w3 e (g := mkF κ.m pc L (.ref a :: S)) rfl (hL.trans hml.symm) rfl (hb hby hd) hf (W := W) (by show 2 * 0 + _ ≤ _; omega) hl
  obtain ⟨t, o, h1, r⟩ := H T' locs vm0 X' e' M hZ ho N
  exact ⟨t, o, st _ h1, r⟩
/-- an array: its class, its kind of component, its length, its components -/
def Ary (Z : State) (h : Heap) (a : Addr) (kA : ClassId) (ty : FieldType) (N : Nat) (f : Nat → Value) : Prop := ∃ c : Cell, Arr Z h a c ty ∧ c.cls = kA ∧ c.slots.size = N ∧ N < 2 ^ 31 ∧ (∀ i, i < N → c.slots[i]? = some (f i)) ∧ ∀ i, i < N → fits ty (f i) = true
def upd (f : Nat → Value) (i : Nat) (v : Value) : Nat → Value := fun j => if j = i then v else f j
theorem upd_same (f : Nat → Value) (i : Nat) (v : Value) : upd f i v i = v := if_pos rfl
theorem upd_ne (f : Nat → Value) {i j : Nat} (v : Value) (q : j ≠ i) : upd f i v j = f j := if_neg q
def fset {α : Type} (f : Nat → α) (i : Nat) (v : α) : Nat → α := fun j => if j = i then v else f j
theorem fset_same {α : Type} (f : Nat → α) (i : Nat) (v : α) : fset f i v i = v := if_pos rfl
theorem fset_ne {α : Type} (f : Nat → α) {i j : Nat} (v : α) (q : j ≠ i) : fset f i v j = f j := if_neg q
theorem upd_int (F : Nat → Int32) (i : Nat) (v : Int32) : upd (fun j => .int (F j)) i (.int v) = fun j => .int (fset F i v j) := by funext j; unfold upd fset; split <;> rfl
theorem upd_long (F : Nat → Int64) (i : Nat) (v : Int64) : upd (fun j => .long (F j)) i (.long v) = fun j => .long (fset F i v j) := by funext j; unfold upd fset; split <;> rfl
theorem upd_double (F : Nat → UInt64) (i : Nat) (v : UInt64) : upd (fun j => .double (F j)) i (.double v) = fun j => .double (fset F i v j) := by funext j; unfold upd fset; split <;> rfl
section Arrays
variable {a b : Addr} {kA : ClassId} {ty : FieldType} {N : Nat} {f f' : Nat → Value} {sl : Nat} {v : Value} {ws : List Addr}
theorem Ary.lt (A : Ary Z h a kA ty N f) : a < h.size := by obtain ⟨c, q, -⟩ := A; exact q.lt
theorem Ary.len (A : Ary Z h a kA ty N f) : N < 2 ^ 31 := by obtain ⟨c, -, -, -, q, -⟩ := A; exact q
theorem Ary.ext (E : Ext h h') (A : Ary Z h a kA ty N f) : Ary Z h' a kA ty N f := by obtain ⟨c, q, r⟩ := A; exact ⟨c, q.ext E, r⟩
theorem Ary.other (W : Wr h h' b sl v) (A : Ary Z h a kA ty N f) (q : a ≠ b) : Ary Z h' a kA ty N f := by obtain ⟨c, A, r⟩ := A; exact ⟨c, A.other W q, r⟩
theorem Ary.keep (K : Keep h h' ws) (A : Ary Z h a kA ty N f) (q : a ∉ ws) : Ary Z h' a kA ty N f := by obtain ⟨c, A, r⟩ := A; exact ⟨c, ⟨K.2.1 a c A.1 q, A.2⟩, r⟩
theorem Ary.congr (A : Ary Z h a kA ty N f) (q : ∀ i, i < N → f i = f' i) : Ary Z h a kA ty N f' := by obtain ⟨c, A, r1, r2, r3, r4, r5⟩ := A; exact ⟨c, A, r1, r2, r3, fun i hi => by rw [← q i hi]; exact r4 i hi, fun i hi => by rw [← q i hi]; exact r5 i hi⟩
theorem Ary.fits (A : Ary Z h a kA ty N f) {i : Nat} (hi : i < N) : Jvm.fits ty (f i) = true := by obtain ⟨c, -, -, -, -, -, q⟩ := A; exact q i hi
theorem Ary.set (W : Wr h h' a sl v) (A : Ary Z h a kA ty N f) (hv : Jvm.fits ty v = true) : Ary Z h' a kA ty N (upd f sl v) := by
  obtain ⟨c, A, r1, r2, r3, r4, r5⟩ := A
  refine ⟨_, A.same W, r1, by rw [sz_set]; exact r2, r3, fun i hi => ?_, fun i hi => ?_⟩
  · by_cases q : i = sl
    · subst q; rw [upd_same]; simp [Cell.setSlot, r2, hi]
    · rw [upd_ne f v q]; simp only [Cell.setSlot]; rw [Array.getElem?_setIfInBounds_ne (Ne.symm q)]; exact r4 i hi
  · by_cases q : i = sl
    · subst q; rw [upd_same]; exact hv
    · rw [upd_ne f v q]; exact r5 i hi
theorem Ary.ints (A : Ary Z h a kA ty N f) (ht : ty = .int ∨ ty = .boolean ∨ ty = .byte ∨ ty = .char ∨ ty = .short) : ∃ F : Nat → Int32, Ary Z h a kA ty N (fun i => .int (F i)) := by
  refine ⟨fun i => match f i with | .int x => x | _ => 0, A.congr fun i hi => ?_⟩
  obtain ⟨x, e⟩ := fit_I (A.fits hi) ht
  simp only [e]
theorem Ary.doubles (A : Ary Z h a kA .double N f) : ∃ F : Nat → UInt64, Ary Z h a kA .double N (fun i => .double (F i)) := by
  refine ⟨fun i => match f i with | .double x => x | _ => 0, A.congr fun i hi => ?_⟩
  obtain ⟨x, e⟩ := fit_D (A.fits hi)
  simp only [e]
theorem Ary.longs (A : Ary Z h a kA .long N f) : ∃ F : Nat → Int64, Ary Z h a kA .long N (fun i => .long (F i)) := by
  refine ⟨fun i => match f i with | .long x => x | _ => 0, A.congr fun i hi => ?_⟩
  obtain ⟨x, e⟩ := fit_J (A.fits hi)
  simp only [e]
theorem static_ary {s : State} {args : Array Value} {C nm d : String} {z : Int32} (hf : Fit s) (wl : (Cond.laysStatic C nm d).before args s = true) (wi : (Cond.initialized C).before args s = true) (hd : parseFieldDescriptor d = some (.array ty))
    (hA : (Cond.arrayOf (Term.static C nm d) ty).value args s none s [] = some true) (hL : (Cond.eq (Term.length (Term.static C nm d)) (Term.int z)).value args s none s [] = some true) (hz : z.toInt = (N : Int)) :
    ∃ (a : Addr) (kA : ClassId) (f : Nat → Value), Sta s s.heap C nm d (.ref a) ∧ Ary s s.heap a kA ty N f ∧ ∀ (i : Nat) (j v : Int32), j.toInt = (i : Int) → i < N → (Cond.eq (Term.elem (Term.static C nm d) (Term.int j)) (Term.int v)).value args s none s [] = some true → f i = .int v := by
  obtain ⟨v, ev, hv⟩ := static_fit hf wl hd
  have hr := fit_R hv rfl
  rcases ref_cases hr with rfl | ⟨a, rfl⟩
  · exfalso; simp [Cond.value, ev] at hA
  obtain ⟨c, A⟩ := Arr.start ev hA
  have hc := A.fin (Vm.Alike.refl _)
  have hs : c.slots.size < 2 ^ 31 ∧ c.slots.size.toInt32 = z := by
    obtain ⟨x, y, ex, ey⟩ := cmp_v (Or.inl hL)
    obtain ⟨a', c', ea, hc', rfl, q⟩ := Jvm.Free.SB.Term.length_small ex
    cases ev.symm.trans ea
    cases hc.symm.trans hc'
    exact ⟨q, by simpa [Cond.value, ex, Term.int_eval] using hL⟩
  have hN : c.slots.size = N := by have e := len_toInt hs.1; rw [hs.2, hz] at e; omega
  refine ⟨a, c.cls, fun i => c.slots.getD i .null, Sta.start ev (Or.inr ⟨wi, wl⟩), ⟨c, A, rfl, hN, by omega, fun i hi => ?_, fun i hi => ?_⟩, fun i j v hj hi he => ?_⟩
  · simp [Array.getD, hN, hi]
  · have q := hf A.1 (i := i) (by omega)
    obtain ⟨hst, k, hk, comp, hkind⟩ := A.2.1
    have e : s.slotType? c.cls c.vm i = some ty := by
      cases hq : c.vm <;> first | exact absurd hq (hst _) | simp [State.slotType?, hk, hkind]
    have hi' : i < c.slots.size := by omega
    simpa [State.fitsSlot, e, Array.getD, hi'] using q
  · have hi' : i < c.slots.size := by omega
    have hn : j.toNatClampNeg = i := by simp only [Int32.toNatClampNeg, hj]; omega
    obtain ⟨x, y, ex, ey⟩ := cmp_v (Or.inl he)
    obtain ⟨a', j', c', ea, ej, hc', -, hx⟩ := Term.elem_spec ex
    cases ev.symm.trans ea
    cases hc.symm.trans hc'
    cases (Term.int_eval j).symm.trans ej
    rw [hn] at hx
    have q : x = .int v := by
      have r := hf A.1 (i := i) hi'
      simp only [Cond.value, ex, Term.int_eval] at he
      cases x <;> simp at he
      rw [he]
    simp only [Array.getD, hi', dif_pos]
    rw [Array.getElem?_eq_getElem hi'] at hx
    exact (Option.some.inj hx).trans q
theorem Ary.of_new {cA : ClassId} {z : Int32} (A : Arr Z h a (newA cA ty z) ty) (hz : z.toInt = (N : Int)) : Ary Z h a cA ty N (fun _ => defaultValue ty) := by
  have e : z.toNatClampNeg = N := by simp only [Int32.toNatClampNeg]; omega
  have q := z.toInt_lt
  refine ⟨_, A, rfl, by rw [sz_new, e], by omega, fun i hi => ?_, fun i _ => by cases ty <;> rfl⟩
  simp [newA, e, hi]
theorem Ary.ne {a0 : Array Value} {C : String} {m : Nat} (E : Exa Z h b C) (A : Ary Z h a kA ty N f) (w : (Cond.instantiable C m).before a0 Z = true) : b ≠ a := by obtain ⟨c, q, -⟩ := A; exact ne_arr E w q
theorem in_of {c : Cell} {j : Int32} {i N : Nat} (S : c.slots.size = N) (hj : j.toInt = (i : Int)) (hi : i < N) : ¬ (j < 0 ∨ c.slots.size ≤ j.toNatClampNeg) := by
  rw [S, Int32.lt_iff_toInt_lt]; simp only [Int32.toNatClampNeg, hj]; have : (0 : Int32).toInt = 0 := rfl; omega
theorem nat_of {j : Int32} {i : Nat} (hj : j.toInt = (i : Int)) : j.toNatClampNeg = i := by simp only [Int32.toNatClampNeg, hj]; omega
end Arrays
theorem WP.iaload (K : Cx κ w l Z own n0 rm bytes maxL ret nm Q) {a : Addr} {kA : ClassId} {N i : Nat} {f : Nat → Value} {j : Int32} {v : Value} (A : Ary Z h a kA .int N f) (hj : j.toInt = (i : Int)) (hi : i < N) (hv : f i = v) (hd : decode bytes pc = .ok (.iaload, 1)) (hp : pc + 1 = pc') (H : WP κ h k n (mkF κ.m pc' L (v :: S))) : WP κ h k n (mkF κ.m pc L (.int j :: .ref a :: S)) := by
  obtain ⟨hx, hby, -, -, -, -, -, -, rfl, rfl, -⟩ := K
  subst hp hv
  obtain ⟨c, A, -, r2, -, r4, -⟩ := A
  refine WP.go (fun T locs vm0 X e hZ ho t k => ?_) H
  exact X.iaload hx (by rw [e]; exact A.1) (State.isArrayOf_alike (T := κ.s.setVm vm0) hZ.alike A.2.1) A.2.2 (in_of r2 hj hi) (by rw [nat_of hj]; exact r4 i hi) (g := mkF κ.m pc L (.int j :: .ref a :: S)) rfl rfl (hb hby hd) t k
theorem WP.laload (K : Cx κ w l Z own n0 rm bytes maxL ret nm Q) {a : Addr} {kA : ClassId} {N i : Nat} {f : Nat → Value} {j : Int32} {v : Value} (A : Ary Z h a kA .long N f) (hj : j.toInt = (i : Int)) (hi : i < N) (hv : f i = v) (hd : decode bytes pc = .ok (.laload, 1)) (hp : pc + 1 = pc') (H : WP κ h k n (mkF κ.m pc' L (v :: S))) : WP κ h k n (mkF κ.m pc L (.int j :: .ref a :: S)) := by
  obtain ⟨hx, hby, -, -, -, -, -, -, rfl, rfl, -⟩ := K
  subst hp hv
  obtain ⟨c, A, -, r2, -, r4, -⟩ := A
  refine WP.go (fun T locs vm0 X e hZ ho t k => ?_) H
  exact X.laload hx (by rw [e]; exact A.1) (State.isArrayOf_alike (T := κ.s.setVm vm0) hZ.alike A.2.1) A.2.2 (in_of r2 hj hi) (by rw [nat_of hj]; exact r4 i hi) (g := mkF κ.m pc L (.int j :: .ref a :: S)) rfl rfl (hb hby hd) t k
theorem WP.caload (K : Cx κ w l Z own n0 rm bytes maxL ret nm Q) {a : Addr} {kA : ClassId} {N i : Nat} {f : Nat → Value} {j : Int32} {v : Value} (A : Ary Z h a kA .char N f) (hj : j.toInt = (i : Int)) (hi : i < N) (hv : f i = v) (hd : decode bytes pc = .ok (.caload, 1)) (hp : pc + 1 = pc') (H : WP κ h k n (mkF κ.m pc' L (v :: S))) : WP κ h k n (mkF κ.m pc L (.int j :: .ref a :: S)) := by
  obtain ⟨hx, hby, -, -, -, -, -, -, rfl, rfl, -⟩ := K
  subst hp hv
  obtain ⟨c, A, -, r2, -, r4, -⟩ := A
  refine WP.go (fun T locs vm0 X e hZ ho t k => ?_) H
  exact X.caload hx (by rw [e]; exact A.1) (State.isArrayOf_alike (T := κ.s.setVm vm0) hZ.alike A.2.1) A.2.2 (in_of r2 hj hi) (by rw [nat_of hj]; exact r4 i hi) (g := mkF κ.m pc L (.int j :: .ref a :: S)) rfl rfl (hb hby hd) t k
theorem WP.baload (K : Cx κ w l Z own n0 rm bytes maxL ret nm Q) {a : Addr} {kA : ClassId} {N i : Nat} {f : Nat → Value} {j : Int32} {v : Value} (A : Ary Z h a kA .byte N f) (hj : j.toInt = (i : Int)) (hi : i < N) (hv : f i = v) (hd : decode bytes pc = .ok (.baload, 1)) (hp : pc + 1 = pc') (H : WP κ h k n (mkF κ.m pc' L (v :: S))) : WP κ h k n (mkF κ.m pc L (.int j :: .ref a :: S)) := by
  obtain ⟨hx, hby, -, -, -, -, -, -, rfl, rfl, -⟩ := K
  subst hp hv
  obtain ⟨c, A, -, r2, -, r4, -⟩ := A
  refine WP.go (fun T locs vm0 X e hZ ho t k => ?_) H
  exact X.baloadBytes hx (by rw [e]; exact A.1) (State.isArrayOf_alike (T := κ.s.setVm vm0) hZ.alike A.2.1) A.2.2 (in_of r2 hj hi) (by rw [nat_of hj]; exact r4 i hi) (g := mkF κ.m pc L (.int j :: .ref a :: S)) rfl rfl (hb hby hd) t k
theorem WP.baloadZ (K : Cx κ w l Z own n0 rm bytes maxL ret nm Q) {a : Addr} {kA : ClassId} {N i : Nat} {f : Nat → Value} {j : Int32} {v : Value} (A : Ary Z h a kA .boolean N f) (hj : j.toInt = (i : Int)) (hi : i < N) (hv : f i = v) (hd : decode bytes pc = .ok (.baload, 1)) (hp : pc + 1 = pc') (H : WP κ h k n (mkF κ.m pc' L (v :: S))) : WP κ h k n (mkF κ.m pc L (.int j :: .ref a :: S)) := by
  obtain ⟨hx, hby, -, -, -, -, -, -, rfl, rfl, -⟩ := K
  subst hp hv
  obtain ⟨c, A, -, r2, -, r4, -⟩ := A
  refine WP.go (fun T locs vm0 X e hZ ho t k => ?_) H
  exact X.baloadBooleans hx (by rw [e]; exact A.1) (State.isArrayOf_alike (T := κ.s.setVm vm0) hZ.alike A.2.1) A.2.2 (in_of r2 hj hi) (by rw [nat_of hj]; exact r4 i hi) (g := mkF κ.m pc L (.int j :: .ref a :: S)) rfl rfl (hb hby hd) t k
theorem WP.daload (K : Cx κ w l Z own n0 rm bytes maxL ret nm Q) {a : Addr} {kA : ClassId} {N i : Nat} {f : Nat → Value} {j : Int32} {v : Value} (A : Ary Z h a kA .double N f) (hj : j.toInt = (i : Int)) (hi : i < N) (hv : f i = v) (hd : decode bytes pc = .ok (.daload, 1)) (hp : pc + 1 = pc') (H : WP κ h k n (mkF κ.m pc' L (v :: S))) : WP κ h k n (mkF κ.m pc L (.int j :: .ref a :: S)) := by
  obtain ⟨hx, hby, -, -, -, -, -, -, rfl, rfl, -⟩ := K
  subst hp hv
  obtain ⟨c, A, -, r2, -, r4, -⟩ := A
  refine WP.go (fun T locs vm0 X e hZ ho t k => ?_) H
  exact X.daload hx (by rw [e]; exact A.1) (State.isArrayOf_alike (T := κ.s.setVm vm0) hZ.alike A.2.1) A.2.2 (in_of r2 hj hi) (by rw [nat_of hj]; exact r4 i hi) (g := mkF κ.m pc L (.int j :: .ref a :: S)) rfl rfl (hb hby hd) t k
theorem WP.aaload (K : Cx κ w l Z own n0 rm bytes maxL ret nm Q) {a : Addr} {kA : ClassId} {N i : Nat} {f : Nat → Value} {j : Int32} {v : Value} {ty : FieldType} (ht : ty.isReference = true) (A : Ary Z h a kA ty N f) (hj : j.toInt = (i : Int)) (hi : i < N) (hv : f i = v) (hd : decode bytes pc = .ok (.aaload, 1)) (hp : pc + 1 = pc') (H : WP κ h k n (mkF κ.m pc' L (v :: S))) : WP κ h k n (mkF κ.m pc L (.int j :: .ref a :: S)) := by
  obtain ⟨hx, hby, -, -, -, -, -, -, rfl, rfl, -⟩ := K
  subst hp hv
  obtain ⟨c, A, -, r2, -, r4, -⟩ := A
  refine WP.go (fun T locs vm0 X e hZ ho t k => ?_) H
  exact X.aaload hx (by rw [e]; exact A.1) (State.isArrayOf_alike (T := κ.s.setVm vm0) hZ.alike A.2.1) ht A.2.2 (in_of r2 hj hi) (by rw [nat_of hj]; exact r4 i hi) (g := mkF κ.m pc L (.int j :: .ref a :: S)) rfl rfl (hb hby hd) t k
theorem WP.arraylength (K : Cx κ w l Z own n0 rm bytes maxL ret nm Q) {a : Addr} {kA : ClassId} {ty : FieldType} {N : Nat} {f : Nat → Value} (A : Ary Z h a kA ty N f) (hd : decode bytes pc = .ok (.arraylength, 1)) (hp : pc + 1 = pc') (H : WP κ h k n (mkF κ.m pc' L (.int (Int32.ofNat N) :: S))) : WP κ h k n (mkF κ.m pc L (.ref a :: S)) := by
  obtain ⟨hx, hby, -, -, -, -, -, -, rfl, rfl, -⟩ := K
  subst hp
  obtain ⟨c, A, -, r2, -⟩ := A
  refine WP.go (fun T locs vm0 X e hZ ho t k => ?_) H
  exact X.arraylength hx (by rw [e]; exact A.1) (State.isArrayOf_alike (T := κ.s.setVm vm0) hZ.alike A.2.1) (g := mkF κ.m pc L (.ref a :: S)) rfl rfl (hb hby hd) t (by rw [r2]; exact k)
theorem WP.iastore (K : Cx κ w l Z own n0 rm bytes maxL ret nm Q) {a : Addr} {kA : ClassId} {N i : Nat} {f : Nat → Value} {j : Int32} {x : Int32} (A : Ary Z h a kA .int N f) (hj : j.toInt = (i : Int)) (hi : i < N) (ha : n0 ≤ a) (hd : decode bytes pc = .ok (.iastore, 1)) (hp : pc + 1 = pc')
    (H : ∀ h', Wr h h' a i (.int x) → Ary Z h' a kA .int N (upd f i (.int x)) → WP κ h' k n (mkF κ.m pc' L S)) : WP κ h k n (mkF κ.m pc L (.int x :: .int j :: .ref a :: S)) := by
  obtain ⟨hx, hby, -, -, -, hnm, -, -, rfl, rfl, rfl, rfl, -⟩ := K
  subst hp
  have A0 := A
  obtain ⟨c, A, -, r2, -⟩ := A
  intro T locs vm0 X e M hZ ho N
  obtain ⟨T', h', X', e', W, st⟩ := RoadKit.stI X hx (s := κ.s.setVm vm0) hZ e A (in_of r2 hj hi) (g := mkF κ.m pc L (.int x :: .int j :: .ref a :: S)) rfl rfl (hb hby hd)
  rw [nat_of hj] at W
  obtain ⟨t, o, h1, r⟩ := H h' W (A0.set W rfl) T' _ vm0 X' e' (M.mono (Nat.le_of_eq W.size.symm)) hZ ho (Fr.snoc X' N ha)
  exact ⟨t, o, st _ h1, r⟩
theorem WP.lastore (K : Cx κ w l Z own n0 rm bytes maxL ret nm Q) {a : Addr} {kA : ClassId} {N i : Nat} {f : Nat → Value} {j : Int32} {x : Int64} (A : Ary Z h a kA .long N f) (hj : j.toInt = (i : Int)) (hi : i < N) (ha : n0 ≤ a) (hd : decode bytes pc = .ok (.lastore, 1)) (hp : pc + 1 = pc')
    (H : ∀ h', Wr h h' a i (.long x) → Ary Z h' a kA .long N (upd f i (.long x)) → WP κ h' k n (mkF κ.m pc' L S)) : WP κ h k n (mkF κ.m pc L (.long x :: .int j :: .ref a :: S)) := by
  obtain ⟨hx, hby, -, -, -, hnm, -, -, rfl, rfl, rfl, rfl, -⟩ := K
  subst hp
  have A0 := A
  obtain ⟨c, A, -, r2, -⟩ := A
  intro T locs vm0 X e M hZ ho N
  obtain ⟨T', h', X', e', W, st⟩ := RoadKit.stJ X hx (s := κ.s.setVm vm0) hZ e A (in_of r2 hj hi) (g := mkF κ.m pc L (.long x :: .int j :: .ref a :: S)) rfl rfl (hb hby hd)
  rw [nat_of hj] at W
  obtain ⟨t, o, h1, r⟩ := H h' W (A0.set W rfl) T' _ vm0 X' e' (M.mono (Nat.le_of_eq W.size.symm)) hZ ho (Fr.snoc X' N ha)
  exact ⟨t, o, st _ h1, r⟩
theorem WP.castore (K : Cx κ w l Z own n0 rm bytes maxL ret nm Q) {a : Addr} {kA : ClassId} {N i : Nat} {f : Nat → Value} {j : Int32} {x : Int32} (A : Ary Z h a kA .char N f) (hj : j.toInt = (i : Int)) (hi : i < N) (ha : n0 ≤ a) (hd : decode bytes pc = .ok (.castore, 1)) (hp : pc + 1 = pc')
    (H : ∀ h', Wr h h' a i (.int (nar .char x)) → Ary Z h' a kA .char N (upd f i (.int (nar .char x))) → WP κ h' k n (mkF κ.m pc' L S)) : WP κ h k n (mkF κ.m pc L (.int x :: .int j :: .ref a :: S)) := by
  obtain ⟨hx, hby, -, -, -, hnm, -, -, rfl, rfl, rfl, rfl, -⟩ := K
  subst hp
  have A0 := A
  obtain ⟨c, A, -, r2, -⟩ := A
  intro T locs vm0 X e M hZ ho N
  obtain ⟨T', h', X', e', W, st⟩ := RoadKit.stC X hx (s := κ.s.setVm vm0) hZ e A (in_of r2 hj hi) (g := mkF κ.m pc L (.int x :: .int j :: .ref a :: S)) rfl rfl (hb hby hd)
  rw [nat_of hj] at W
  obtain ⟨t, o, h1, r⟩ := H h' W (A0.set W (fits_nar_char x)) T' _ vm0 X' e' (M.mono (Nat.le_of_eq W.size.symm)) hZ ho (Fr.snoc X' N ha)
  exact ⟨t, o, st _ h1, r⟩
theorem WP.bastore (K : Cx κ w l Z own n0 rm bytes maxL ret nm Q) {a : Addr} {kA : ClassId} {N i : Nat} {f : Nat → Value} {j : Int32} {x : Int32} (A : Ary Z h a kA .byte N f) (hj : j.toInt = (i : Int)) (hi : i < N) (ha : n0 ≤ a) (hd : decode bytes pc = .ok (.bastore, 1)) (hp : pc + 1 = pc')
    (H : ∀ h', Wr h h' a i (.int (nar .byte x)) → Ary Z h' a kA .byte N (upd f i (.int (nar .byte x))) → WP κ h' k n (mkF κ.m pc' L S)) : WP κ h k n (mkF κ.m pc L (.int x :: .int j :: .ref a :: S)) := by
  obtain ⟨hx, hby, -, -, -, hnm, -, -, rfl, rfl, rfl, rfl, -⟩ := K
  subst hp
  have A0 := A
  obtain ⟨c, A, -, r2, -⟩ := A
  intro T locs vm0 X e M hZ ho N
  obtain ⟨T', h', X', e', W, st⟩ := RoadKit.stB X hx (s := κ.s.setVm vm0) hZ e A (in_of r2 hj hi) (g := mkF κ.m pc L (.int x :: .int j :: .ref a :: S)) rfl rfl (hb hby hd)
  rw [nat_of hj] at W
  obtain ⟨t, o, h1, r⟩ := H h' W (A0.set W (fits_nar_byte x)) T' _ vm0 X' e' (M.mono (Nat.le_of_eq W.size.symm)) hZ ho (Fr.snoc X' N ha)
  exact ⟨t, o, st _ h1, r⟩
theorem WP.bastoreZ (K : Cx κ w l Z own n0 rm bytes maxL ret nm Q) {a : Addr} {kA : ClassId} {N i : Nat} {f : Nat → Value} {j : Int32} {x : Int32} (A : Ary Z h a kA .boolean N f) (hj : j.toInt = (i : Int)) (hi : i < N) (ha : n0 ≤ a) (hd : decode bytes pc = .ok (.bastore, 1)) (hp : pc + 1 = pc')
    (H : ∀ h', Wr h h' a i (.int (nar .boolean x)) → Ary Z h' a kA .boolean N (upd f i (.int (nar .boolean x))) → WP κ h' k n (mkF κ.m pc' L S)) : WP κ h k n (mkF κ.m pc L (.int x :: .int j :: .ref a :: S)) := by
  obtain ⟨hx, hby, -, -, -, hnm, -, -, rfl, rfl, rfl, rfl, -⟩ := K
  subst hp
  have A0 := A
  obtain ⟨c, A, -, r2, -⟩ := A
  intro T locs vm0 X e M hZ ho N
  obtain ⟨T', h', X', e', W, st⟩ := RoadKit.stZ X hx (s := κ.s.setVm vm0) hZ e A (in_of r2 hj hi) (g := mkF κ.m pc L (.int x :: .int j :: .ref a :: S)) rfl rfl (hb hby hd)
  rw [nat_of hj] at W
  obtain ⟨t, o, h1, r⟩ := H h' W (A0.set W (fits_nar_bool x)) T' _ vm0 X' e' (M.mono (Nat.le_of_eq W.size.symm)) hZ ho (Fr.snoc X' N ha)
  exact ⟨t, o, st _ h1, r⟩
theorem WP.dastore (K : Cx κ w l Z own n0 rm bytes maxL ret nm Q) {a : Addr} {kA : ClassId} {N i : Nat} {f : Nat → Value} {j : Int32} {x : UInt64} (A : Ary Z h a kA .double N f) (hj : j.toInt = (i : Int)) (hi : i < N) (ha : n0 ≤ a) (hd : decode bytes pc = .ok (.dastore, 1)) (hp : pc + 1 = pc')
    (H : ∀ h', Wr h h' a i (.double x) → Ary Z h' a kA .double N (upd f i (.double x)) → WP κ h' k n (mkF κ.m pc' L S)) : WP κ h k n (mkF κ.m pc L (.double x :: .int j :: .ref a :: S)) := by
  obtain ⟨hx, hby, -, -, -, hnm, -, -, rfl, rfl, rfl, rfl, -⟩ := K
  subst hp
  have A0 := A
  obtain ⟨c, A, -, r2, -⟩ := A
  intro T locs vm0 X e M hZ ho N
  obtain ⟨T', h', X', e', W, st⟩ := RoadKit.stD X hx (s := κ.s.setVm vm0) hZ e A (in_of r2 hj hi) (g := mkF κ.m pc L (.double x :: .int j :: .ref a :: S)) rfl rfl (hb hby hd)
  rw [nat_of hj] at W
  obtain ⟨t, o, h1, r⟩ := H h' W (A0.set W rfl) T' _ vm0 X' e' (M.mono (Nat.le_of_eq W.size.symm)) hZ ho (Fr.snoc X' N ha)
  exact ⟨t, o, st _ h1, r⟩
theorem WP.newarray (K : Cx κ w l Z own n0 rm bytes maxL ret nm Q) {aty : ArrayType} {z : Int32} {N cap : Nat} (w1 : (Cond.arrayClass (newarray.typeOf aty)).before a0 Z = true) (hd : decode bytes pc = .ok (.newarray aty, 2)) (hz : z.toInt = (N : Int)) (hcap : N ≤ cap) (hbig : cap * 8 ≤ 536870912) (hk : k + 1 = k') (hn : n + cap = n') (hk' : k' ≤ rm.cells) (hn' : n' ≤ rm.slots) (hp : pc + 2 = pc')
    (H : ∀ (h' : Heap) (a : Addr) (kA : ClassId), @Eq Nat h.size a → Ext h h' → Ary Z h' a kA (newarray.typeOf aty) N (fun _ => defaultValue (newarray.typeOf aty)) → WP κ h' k' n' (mkF κ.m pc' L (.ref a :: S))) : WP κ h k n (mkF κ.m pc L (.int z :: S)) := by
  obtain ⟨hx, hby, -, -, -, hnm, -, -, rfl, rfl, rfl, rfl, -⟩ := K
  subst hp hk hn
  intro T locs vm0 X e M hZ ho N
  obtain ⟨T', h', cA, X', e', E, A, st⟩ := newP X hx (s := κ.s.setVm vm0) hZ w1 e (g := mkF κ.m pc L (.int z :: S)) rfl (hb hby hd) rfl (by rw [Int32.lt_iff_toInt_lt, hz]; show ¬ _ < (0 : Int); omega) (cap := cap) (by rw [nat_of hz]; exact hcap) hbig hk' hn'
  obtain ⟨t, o, h1, r⟩ := H h' _ cA rfl E (Ary.of_new A hz) T' _ vm0 X' e' (M.mono E.1) hZ ho N
  exact ⟨t, o, st _ h1, r⟩
/-- what a call's law hands back, in both modes -/
theorem Met.back {y : MethodName} {by' : ByteArray} {mL' : Nat} {rt' : Option FieldType} {rm' : Room} {as' : Array Value} {Q' : Option Value → Heap → Prop} {len W : Nat} {R : Room} {p : Program} {e : Env} {below : List Frame} {s : State} {args : Array Value}
    (hM : Met false l Z y by' mL' rt' [] rm' as' h n0 Q') (hZ : Z.Warmed39 s.vm) (wc : (Cond.code y by' mL' rt').before a0 Z = true) (wz : (Cond.initialized y.cls).before a0 Z = true) (hf : rm'.frames + 1 ≤ R.frames) (hl : W + (mL' + 11) + rm'.locals ≤ R.locals) :
    Back l R p e below s args y len W (fun A a => a = as' ∧ A.U.heap = h ∧ A.cells + rm'.cells ≤ R.cells ∧ A.slots + rm'.slots ≤ R.slots) (fun A _ v B => ∃ L, (Q' v B.U.heap ∧ Fr n0 L) ∧ B.locs = A.locs ++ L ∧ B.cells = A.cells + rm'.cells ∧ B.slots = A.slots + rm'.slots) :=
  backOf (Q := fun v h L => Q' v h ∧ Fr n0 L) hM hZ wc wz hf hl
theorem Met.backW {y : MethodName} {by' : ByteArray} {mL' : Nat} {rt' : Option FieldType} {rm' : Room} {as' : Array Value} {Q' : Option Value → Heap → Prop} {len W : Nat} {R : Room} {p : Program} {e : Env} {below : List Frame} {s : State} {args : Array Value}
    (hM : Met true l Z y by' mL' rt' [] rm' as' h n0 Q') (hZ : Z.Warmed39 s.vm) (wc : (Cond.code y by' mL' rt').before a0 Z = true) (wz : (Cond.initialized y.cls).before a0 Z = true) (hf : rm'.frames + 1 ≤ R.frames) (hl : W + (mL' + 11) + rm'.locals ≤ R.locals) :
    BackS l R p e below s args y len W (fun A a => a = as' ∧ A.U.heap = h ∧ A.cells + rm'.cells ≤ R.cells ∧ A.slots + rm'.slots ≤ R.slots) (fun A _ v B => ∃ L, (Q' v B.U.heap ∧ Fr n0 L) ∧ B.locs = A.locs ++ L ∧ B.cells = A.cells + rm'.cells ∧ B.slots = A.slots + rm'.slots) :=
  backOfS (Q := fun v h L => Q' v h ∧ Fr n0 L) hM hZ wc wz hf hl
theorem Ends.call {T : State} {locs : List Loc} {vm0 : Vm} {g g' : JFrame} {rm' : Room} {Q' : Option Value → Heap → Prop} {T1 B : Pt} {v : Option Value} (M : Md κ.w κ.s vm0 h.size) (N : Fr κ.n0 locs) (hc : T1 = ⟨T1.1, locs, k, n⟩)
    (hpost : ∃ L, (Q' v B.U.heap ∧ Fr κ.n0 L) ∧ B.locs = T1.locs ++ L ∧ B.cells = T1.cells + rm'.cells ∧ B.slots = T1.slots + rm'.slots) (hk : k + rm'.cells = k') (hn : n + rm'.slots = n') {vm1 : Vm}
    (X' : Stand κ.p κ.l κ.e κ.R (κ.s.setVm vm1) κ.m κ.a κ.below κ.meth κ.c B.U B.locs B.cells B.slots) (M' : Md κ.w κ.s vm1 B.U.heap.size) (hZ : κ.Z.Warmed39 vm1) (ho : vm1.findClass κ.own = some κ.m.cls) (st : Steps κ.p.tables κ.e κ.below (T.setTop g) (B.U.setTop g'))
    (H : ∀ h', Q' v h' → WP κ h' k' n' g') : Ends κ T g := by
  obtain ⟨Lc, ⟨hQ, hN⟩, l1, l2, l3⟩ := hpost
  rw [hc] at l1 l2 l3
  dsimp only [Pt.U, Pt.locs, Pt.cells, Pt.slots] at l1 l2 l3 X' hQ M' st
  subst hk hn
  rw [l1, l2, l3] at X'
  obtain ⟨t, o, h1, r⟩ := H _ hQ _ _ vm1 X' rfl M' hZ ho (Fr.app N hN)
  exact ⟨t, o, st.trans h1, r⟩
theorem WP.callS (K : Cx κ w l Z own n0 rm bytes maxL ret nm Q) {y : MethodName} {by' : ByteArray} {mL' : Nat} {rt' : Option FieldType} {rm' : Room} {Q' : Option Value → Heap → Prop} {i W : Nat} {argsL : List Value} {S' : List Value} (w1 : (Cond.methodLink own i y).before a0 Z = true) (w2 : (Cond.static y).before a0 Z = true) (hM : Met w l Z y by' mL' rt' [] rm' argsL.toArray h n0 Q') (wc : (Cond.code y by' mL' rt').before a0 Z = true) (wz : (Cond.initialized y.cls).before a0 Z = true) (hy : y.cls ≠ "java/lang/invoke/MethodHandle" ∧ y.cls ≠ "java/lang/invoke/VarHandle")
    (hL : L.size = maxL) (hlen : ∀ sig, parseMethodDescriptor y.desc = some sig → argsL.length = sig.parameters.length) (hS : S' = argsL.reverse ++ S) (hW : (S.map fun v => v.category).sum = W) (hf : rm'.frames + 1 ≤ rm.frames) (hl : W + (mL' + 11) + rm'.locals ≤ rm.locals) (hk : k + rm'.cells = k') (hn : n + rm'.slots = n') (hk' : k' ≤ rm.cells) (hn' : n' ≤ rm.slots) (hd : decode bytes pc = .ok (.invokestatic i, 3)) (hp : pc + 3 = pc')
    (H : ∀ (v : Option Value) (h' : Heap), Q' v h' → WP κ h' k' n' (mkF κ.m pc' L (v.toList ++ S))) : WP κ h k n (mkF κ.m pc L S') := by
  obtain ⟨hx, hby, hml, -, -, -, rfl, rfl, rfl, rfl, rfl, rfl, -⟩ := K
  subst hp hS
  intro T locs vm0 X e M hZ ho N
  by_cases hw : κ.w = true
  · rw [hw] at hM
    obtain ⟨v, vm₁, B, -, X', hSi, hgr, hpost, st⟩ := callSS X hx (y := y) ho (mvT (s := κ.s.setVm vm0) hZ w1) (mvT (s := κ.s.setVm vm0) hZ w2) (mvT (s := κ.s.setVm vm0) hZ wz) (mvT (s := κ.s.setVm vm0) hZ wc) hy (Met.backW (s := κ.s.setVm vm0) hM hZ wc wz hf hl) (g := mkF κ.m pc L (argsL.reverse ++ S)) rfl (hL.trans hml.symm) (argsL := argsL) (rest := S) hlen rfl (by show 2 * 0 + _ ≤ _; omega) (hb hby hd) (fun _ _ => ⟨rfl, e, by rw [← hk] at hk'; exact hk', by rw [← hn] at hn'; exact hn'⟩)
    obtain ⟨k0, hS0, hk0⟩ := M.2
    obtain ⟨X'', hS1, hZ1, ho1⟩ := rebS hS0 hk0 X' hSi (e ▸ hgr) hZ ho
    exact Ends.call (Q' := Q') (T1 := ⟨T.setVm vm₁, locs, k, n⟩) M N rfl hpost hk hn X'' ⟨fun q => (by rw [hw] at q; cases q), _, hS1, Nat.le_refl _⟩ hZ1 ho1 st (H v)
  · have hw' : κ.w = false := by simpa using hw
    rw [hw'] at hM
    obtain ⟨v, vm₁, B, -, X', hpost, st⟩ := Jvm.LawKit.callS X hx (y := y) ho (mvT (s := κ.s.setVm vm0) hZ w1) (mvT (s := κ.s.setVm vm0) hZ w2) (mvT (s := κ.s.setVm vm0) hZ wz) (mvT (s := κ.s.setVm vm0) hZ wc) hy (Met.back (s := κ.s.setVm vm0) hM hZ wc wz hf hl) (g := mkF κ.m pc L (argsL.reverse ++ S)) rfl (hL.trans hml.symm) (argsL := argsL) (rest := S) hlen rfl (by show 2 * 0 + _ ≤ _; omega) (hb hby hd) (fun _ _ => ⟨rfl, e, by rw [← hk] at hk'; exact hk', by rw [← hn] at hn'; exact hn'⟩)
    refine Ends.call (Q' := Q') (T1 := ⟨T.setVm vm₁, locs, k, n⟩) M N rfl hpost hk hn X' ?_ hZ ho (st _ (Steps.refl _)) (H v)
    have e0 := M.1 hw'
    subst e0
    exact Md.start _ _ _
theorem WP.callI (K : Cx κ w l Z own n0 rm bytes maxL ret nm Q) {y : MethodName} {by' : ByteArray} {mL' : Nat}  {rm' : Room} {Q' : Option Value → Heap → Prop} {i W : Nat} {argsL : List Value} {S' : List Value} {a : Addr} (hy1 : y.name = "<init>") (w1 : (Cond.methodLink own i y).before a0 Z = true) (w2 : (Cond.instanceMethod y).before a0 Z = true) (hM : Met w l Z y by' mL' none [] rm' (.ref a :: argsL).toArray h n0 Q') (wc : (Cond.code y by' mL' none).before a0 Z = true) (wz : (Cond.initialized y.cls).before a0 Z = true) (hy : y.cls ≠ "java/lang/invoke/MethodHandle" ∧ y.cls ≠ "java/lang/invoke/VarHandle")
    (hL : L.size = maxL) (hlen : ∀ sig, parseMethodDescriptor y.desc = some sig → argsL.length = sig.parameters.length) (hS : S' = argsL.reverse ++ .ref a :: S) (hW : (S.map fun v => v.category).sum = W) (hf : rm'.frames + 1 ≤ rm.frames) (hl : W + (mL' + 11) + rm'.locals ≤ rm.locals) (hk : k + rm'.cells = k') (hn : n + rm'.slots = n') (hk' : k' ≤ rm.cells) (hn' : n' ≤ rm.slots) (hd : decode bytes pc = .ok (.invokespecial i, 3)) (hp : pc + 3 = pc')
    (H : ∀ (v : Option Value) (h' : Heap), Q' v h' → WP κ h' k' n' (mkF κ.m pc' L (v.toList ++ S))) : WP κ h k n (mkF κ.m pc L S') := by
  obtain ⟨hx, hby, hml, -, -, -, rfl, rfl, rfl, rfl, rfl, rfl, -⟩ := K
  subst hp hS
  intro T locs vm0 X e M hZ ho N
  by_cases hw : κ.w = true
  · rw [hw] at hM
    obtain ⟨v, vm₁, B, -, X', hSi, hgr, hpost, st⟩ := X.specialBackS hx (y := y) hy1 ho (mvT (s := κ.s.setVm vm0) hZ w1) (mvT (s := κ.s.setVm vm0) hZ w2) (mvT (s := κ.s.setVm vm0) hZ wc) hy (Met.backW (s := κ.s.setVm vm0) hM hZ wc wz hf hl) (g := mkF κ.m pc L (argsL.reverse ++ .ref a :: S)) rfl (hL.trans hml.symm) (Steps.refl _) (a := a) (argsL := argsL) (rest := S) hlen rfl (by show 2 * 0 + _ ≤ _; omega) (hb hby hd) (fun _ _ => ⟨rfl, e, by rw [← hk] at hk'; exact hk', by rw [← hn] at hn'; exact hn'⟩)
    obtain ⟨k0, hS0, hk0⟩ := M.2
    obtain ⟨X'', hS1, hZ1, ho1⟩ := rebS hS0 hk0 X' hSi (e ▸ hgr) hZ ho
    exact Ends.call (Q' := Q') (T1 := ⟨T.setVm vm₁, locs, k, n⟩) M N rfl hpost hk hn X'' ⟨fun q => (by rw [hw] at q; cases q), _, hS1, Nat.le_refl _⟩ hZ1 ho1 st (H v)
  · have hw' : κ.w = false := by simpa using hw
    rw [hw'] at hM
    obtain ⟨v, vm₁, B, -, X', hpost, st⟩ := X.specialBack hx (y := y) hy1 ho (mvT (s := κ.s.setVm vm0) hZ w1) (mvT (s := κ.s.setVm vm0) hZ w2) (mvT (s := κ.s.setVm vm0) hZ wc) hy (Met.back (s := κ.s.setVm vm0) hM hZ wc wz hf hl) (g := mkF κ.m pc L (argsL.reverse ++ .ref a :: S)) rfl (hL.trans hml.symm) (Steps.refl _) (a := a) (argsL := argsL) (rest := S) hlen rfl (by show 2 * 0 + _ ≤ _; omega) (hb hby hd) (fun _ _ => ⟨rfl, e, by rw [← hk] at hk'; exact hk', by rw [← hn] at hn'; exact hn'⟩)
    refine Ends.call (Q' := Q') (T1 := ⟨T.setVm vm₁, locs, k, n⟩) M N rfl hpost hk hn X' ?_ hZ ho st (H v)
    have e0 := M.1 hw'
    subst e0
    exact Md.start _ _ _
theorem WP.callV (K : Cx κ w l Z own n0 rm bytes maxL ret nm Q) {x y : MethodName} {by' : ByteArray} {mL' : Nat} {rt' : Option FieldType} {rm' : Room} {Q' : Option Value → Heap → Prop} {i W : Nat} {argsL : List Value} {S' : List Value} {a : Addr} {C : String} (w1 : (Cond.methodLink own i x).before a0 Z = true) (w2 : (Cond.declares x).before a0 Z = true) (nf : ∀ vm0 : Vm, Z.Warmed39 vm0 → NotFace (κ.s.setVm vm0) x) (w3 : (Cond.selects C x y).before a0 Z = true) (w4 : (Cond.instanceMethod y).before a0 Z = true) (hx' : x.cls ≠ "java/lang/invoke/MethodHandle" ∧ x.cls ≠ "java/lang/invoke/VarHandle") (E : Exa Z h a C) (hM : Met w l Z y by' mL' rt' [] rm' (.ref a :: argsL).toArray h n0 Q') (wc : (Cond.code y by' mL' rt').before a0 Z = true) (wz : (Cond.initialized y.cls).before a0 Z = true) (hy : y.cls ≠ "java/lang/invoke/MethodHandle" ∧ y.cls ≠ "java/lang/invoke/VarHandle")
    (hL : L.size = maxL) (hlen : ∀ sig, parseMethodDescriptor x.desc = some sig → argsL.length = sig.parameters.length) (hS : S' = argsL.reverse ++ .ref a :: S) (hW : (S.map fun v => v.category).sum = W) (hf : rm'.frames + 1 ≤ rm.frames) (hl : W + (mL' + 11) + rm'.locals ≤ rm.locals) (hk : k + rm'.cells = k') (hn : n + rm'.slots = n') (hk' : k' ≤ rm.cells) (hn' : n' ≤ rm.slots) (hd : decode bytes pc = .ok (.invokevirtual i, 3)) (hp : pc + 3 = pc')
    (H : ∀ (v : Option Value) (h' : Heap), Q' v h' → WP κ h' k' n' (mkF κ.m pc' L (v.toList ++ S))) : WP κ h k n (mkF κ.m pc L S') := by
  obtain ⟨hx, hby, hml, -, -, -, rfl, rfl, rfl, rfl, rfl, rfl, -⟩ := K
  subst hp hS
  intro T locs vm0 X e M hZ ho N
  obtain ⟨cB, kB, q1, q2, q3⟩ := isOf (s := κ.s.setVm vm0) hZ e E
  by_cases hw : κ.w = true
  · rw [hw] at hM
    obtain ⟨v, vm₁, B, -, X', hSi, hgr, hpost, st⟩ := X.virtualBackS hx (y := x) (z := y) ho (mvT (s := κ.s.setVm vm0) hZ w1) (mvT (s := κ.s.setVm vm0) hZ w2) (nf vm0 hZ) (mvT (s := κ.s.setVm vm0) hZ w3) (mvT (s := κ.s.setVm vm0) hZ w4) hx' (Met.backW (s := κ.s.setVm vm0) hM hZ wc wz hf hl) q1 q3 (g := mkF κ.m pc L (argsL.reverse ++ .ref a :: S)) rfl (hL.trans hml.symm) (Steps.refl _) (argsL := argsL) (rest := S) hlen rfl (by show 2 * 0 + _ ≤ _; omega) (hb hby hd) (fun _ _ => ⟨rfl, e, by rw [← hk] at hk'; exact hk', by rw [← hn] at hn'; exact hn'⟩)
    obtain ⟨k0, hS0, hk0⟩ := M.2
    obtain ⟨X'', hS1, hZ1, ho1⟩ := rebS hS0 hk0 X' hSi (e ▸ hgr) hZ ho
    exact Ends.call (Q' := Q') (T1 := ⟨T.setVm vm₁, locs, k, n⟩) M N rfl hpost hk hn X'' ⟨fun q => (by rw [hw] at q; cases q), _, hS1, Nat.le_refl _⟩ hZ1 ho1 st (H v)
  · have hw' : κ.w = false := by simpa using hw
    rw [hw'] at hM
    obtain ⟨v, vm₁, B, -, X', hpost, st⟩ := X.virtualBack hx (y := x) (z := y) ho (mvT (s := κ.s.setVm vm0) hZ w1) (mvT (s := κ.s.setVm vm0) hZ w2) (nf vm0 hZ) (mvT (s := κ.s.setVm vm0) hZ w3) (mvT (s := κ.s.setVm vm0) hZ w4) hx' (Met.back (s := κ.s.setVm vm0) hM hZ wc wz hf hl) q1 q3 (g := mkF κ.m pc L (argsL.reverse ++ .ref a :: S)) rfl (hL.trans hml.symm) (Steps.refl _) (argsL := argsL) (rest := S) hlen rfl (by show 2 * 0 + _ ≤ _; omega) (hb hby hd) (fun _ _ => ⟨rfl, e, by rw [← hk] at hk'; exact hk', by rw [← hn] at hn'; exact hn'⟩)
    refine Ends.call (Q' := Q') (T1 := ⟨T.setVm vm₁, locs, k, n⟩) M N rfl hpost hk hn X' ?_ hZ ho st (H v)
    have e0 := M.1 hw'
    subst e0
    exact Md.start _ _ _
theorem WP.callP (K : Cx κ w l Z own n0 rm bytes maxL ret nm Q) {y : MethodName} {by' : ByteArray} {mL' : Nat} {rt' : Option FieldType} {rm' : Room} {Q' : Option Value → Heap → Prop} {i W : Nat} {argsL : List Value} {S' : List Value} {a : Addr} {nI : Nat} {C : String} (w1 : (Cond.methodLink own i y).before a0 Z = true) (w2 : (Cond.instanceMethod y).before a0 Z = true) (wi : (Cond.instantiable y.cls nI).before a0 Z = true) (w3 : (Cond.privateMethod y).before a0 Z = true) (E : Exa Z h a C) (hM : Met w l Z y by' mL' rt' [] rm' (.ref a :: argsL).toArray h n0 Q') (wc : (Cond.code y by' mL' rt').before a0 Z = true) (wz : (Cond.initialized y.cls).before a0 Z = true) (hy : y.cls ≠ "java/lang/invoke/MethodHandle" ∧ y.cls ≠ "java/lang/invoke/VarHandle")
    (hL : L.size = maxL) (hlen : ∀ sig, parseMethodDescriptor y.desc = some sig → argsL.length = sig.parameters.length) (hS : S' = argsL.reverse ++ .ref a :: S) (hW : (S.map fun v => v.category).sum = W) (hf : rm'.frames + 1 ≤ rm.frames) (hl : W + (mL' + 11) + rm'.locals ≤ rm.locals) (hk : k + rm'.cells = k') (hn : n + rm'.slots = n') (hk' : k' ≤ rm.cells) (hn' : n' ≤ rm.slots) (hd : decode bytes pc = .ok (.invokevirtual i, 3)) (hp : pc + 3 = pc')
    (H : ∀ (v : Option Value) (h' : Heap), Q' v h' → WP κ h' k' n' (mkF κ.m pc' L (v.toList ++ S))) : WP κ h k n (mkF κ.m pc L S') := by
  obtain ⟨hx, hby, hml, -, -, -, rfl, rfl, rfl, rfl, rfl, rfl, -⟩ := K
  subst hp hS
  intro T locs vm0 X e M hZ ho N
  obtain ⟨cell, e1, e2⟩ := E.cell
  have hpr : (κ.s.setVm vm0).PrivateAt y := Cond.privateMethod_at (mvP (s := κ.s.setVm vm0) hZ w3 (args := #[]))
  have hsel : (Cond.selects y.cls y y).before κ.a (κ.s.setVm vm0) = true := by
    obtain ⟨c1, k1, i1, i2, i3, i4, -⟩ := Cond.instantiable_spec (mvT (args := κ.a) (s := κ.s.setVm vm0) hZ wi)
    rw [Bool.or_eq_false_iff] at i4
    exact Jvm.Stand.selects_self_of_private i1 i2 i4.1 hpr (mvT (s := κ.s.setVm vm0) hZ w2) hy
  by_cases hw : κ.w = true
  · rw [hw] at hM
    obtain ⟨v, vm₁, B, -, X', hSi, hgr, hpost, st⟩ := X.privateBackS hx (y := y) ho (mvT (s := κ.s.setVm vm0) hZ w1) (mvT (s := κ.s.setVm vm0) hZ w2) hsel hpr (mvT (s := κ.s.setVm vm0) hZ wc) hy (Met.backW (s := κ.s.setVm vm0) hM hZ wc wz hf hl) (g := mkF κ.m pc L (argsL.reverse ++ .ref a :: S)) rfl (hL.trans hml.symm) (Steps.refl _) (a := a) (by rw [e]; exact e1) e2 (argsL := argsL) (rest := S) hlen rfl (by show 2 * 0 + _ ≤ _; omega) (hb hby hd) (fun _ _ => ⟨rfl, e, by rw [← hk] at hk'; exact hk', by rw [← hn] at hn'; exact hn'⟩)
    obtain ⟨k0, hS0, hk0⟩ := M.2
    obtain ⟨X'', hS1, hZ1, ho1⟩ := rebS hS0 hk0 X' hSi (e ▸ hgr) hZ ho
    exact Ends.call (Q' := Q') (T1 := ⟨T.setVm vm₁, locs, k, n⟩) M N rfl hpost hk hn X'' ⟨fun q => (by rw [hw] at q; cases q), _, hS1, Nat.le_refl _⟩ hZ1 ho1 st (H v)
  · have hw' : κ.w = false := by simpa using hw
    rw [hw'] at hM
    obtain ⟨v, vm₁, B, -, X', hpost, st⟩ := X.privateBack hx (y := y) ho (mvT (s := κ.s.setVm vm0) hZ w1) (mvT (s := κ.s.setVm vm0) hZ w2) hsel hpr (mvT (s := κ.s.setVm vm0) hZ wc) hy (Met.back (s := κ.s.setVm vm0) hM hZ wc wz hf hl) (g := mkF κ.m pc L (argsL.reverse ++ .ref a :: S)) rfl (hL.trans hml.symm) (Steps.refl _) (a := a) (by rw [e]; exact e1) e2 (argsL := argsL) (rest := S) hlen rfl (by show 2 * 0 + _ ≤ _; omega) (hb hby hd) (fun _ _ => ⟨rfl, e, by rw [← hk] at hk'; exact hk', by rw [← hn] at hn'; exact hn'⟩)
    refine Ends.call (Q' := Q') (T1 := ⟨T.setVm vm₁, locs, k, n⟩) M N rfl hpost hk hn X' ?_ hZ ho st (H v)
    have e0 := M.1 hw'
    subst e0
    exact Md.start _ _ _
theorem Ary.arv {a : Addr} {kA : ClassId} {ty : FieldType} {N : Nat} {f : Nat → Value} (A : Ary Z h a kA ty N f) (dv : Value) : Arv Z h a kA ty (Int32.ofNat N) ((List.range N).map f) dv := by
  obtain ⟨c, A, r1, r2, r3, r4, r5⟩ := A
  have e : (Int32.ofNat N).toNatClampNeg = N := by simp only [Int32.toNatClampNeg, Int32.toInt_ofNat_small r3]; omega
  have g : ∀ i, i < N → ((List.range N).map f).getD i dv = f i := fun i hi => by simp [List.getD_eq_getElem?_getD, hi]
  refine ⟨c, A, r1, by rw [e]; exact r2, ?_, fun i hi => ?_, fun i hi => ?_⟩
  · rw [Int32.lt_iff_toInt_lt, Int32.toInt_ofNat_small r3]; show ¬ (N : Int) < 0; omega
  · rw [g i (by omega)]; exact r4 i (by omega)
  · rw [g i (by omega)]; exact r5 i (by omega)
theorem Arv.ary {a : Addr} {kA : ClassId} {ty : FieldType} {N : Nat} {vs : List Value} {dv : Value} (r3 : N < 2 ^ 31) (A : Arv Z h a kA ty (Int32.ofNat N) vs dv) : Ary Z h a kA ty N (fun i => vs.getD i dv) := by
  obtain ⟨c, A, r1, r2, -, H, G⟩ := A
  have e : (Int32.ofNat N).toNatClampNeg = N := by simp only [Int32.toNatClampNeg, Int32.toInt_ofNat_small r3]; omega
  rw [e] at r2
  exact ⟨c, A, r1, r2, r3, fun i hi => H i (by omega), fun i hi => G i (by omega)⟩
theorem cp_get {f g : Nat → Value} {N i j m : Nat} {dv : Value} (hj : j + m ≤ N) {x : Nat} (hx : x < N) : (((List.range N).map g).take j ++ ((List.range m).map fun t => f (i + t)) ++ ((List.range N).map g).drop (j + m)).getD x dv = if j ≤ x ∧ x < j + m then f (i + (x - j)) else g x := by
  simp only [List.getD_eq_getElem?_getD]
  by_cases h1 : x < j
  · rw [List.append_assoc, List.getElem?_append_left (by simp; omega), if_neg (by omega)]
    simp [List.getElem?_take, h1, hx]
  · by_cases h2 : x < j + m
    · rw [List.append_assoc, List.getElem?_append_right (by simp; omega), if_pos ⟨by omega, h2⟩]
      have e : (((List.range N).map g).take j).length = j := by simp; omega
      rw [e, List.getElem?_append_left (by simp; omega)]
      simp [show x - j < m by omega]
    · rw [List.getElem?_append_right (by simp; omega), if_neg (by omega)]
      have e : (((List.range N).map g).take j ++ ((List.range m).map fun t => f (i + t))).length = j + m := by simp; omega
      rw [e]
      simp [List.getElem?_drop, show j + m + (x - (j + m)) = x by omega, hx]
theorem WP.arraycopy (K : Cx κ w l Z own n0 rm bytes maxL ret nm Q) {i0 W : Nat} {a b : Addr} {kA kB : ClassId} {ty : FieldType} {N M i j m : Nat} {f g : Nat → Value} {sp dp nn : Int32} (w1 : (Cond.methodLink own i0 Jvm.Stand.acN).before a0 Z = true) (w2 : (Cond.native Jvm.Stand.acN).before a0 Z = true) (w3 : (Cond.static Jvm.Stand.acN).before a0 Z = true) (w4 : (Cond.initialized "java/lang/System").before a0 Z = true)
    (A : Ary Z h a kA ty N f) (B : Ary Z h b kB ty M g) (hp : refKind ty = false) (hsp : sp.toInt = (i : Int)) (hdp : dp.toInt = (j : Int)) (hnn : nn.toInt = (m : Int)) (h1 : i + m ≤ N) (h2 : j + m ≤ M) (ha : n0 ≤ b) (hd : decode bytes pc = .ok (.invokestatic i0, 3)) (hL : L.size = maxL) (hf : 1 ≤ rm.frames) (hW : (S.map fun v => v.category).sum = W) (hl : W + (nativeFrameWords "java/lang/System" "arraycopy" 5 + 11) ≤ rm.locals) (hpc : pc + 3 = pc')
    (H : ∀ h', Keep h h' [b] → Ary Z h' b kB ty M (fun x => if j ≤ x ∧ x < j + m then f (i + (x - j)) else g x) → WP κ h' k n (mkF κ.m pc' L S)) : WP κ h k n (mkF κ.m pc L (.int nn :: .int dp :: .ref b :: .int sp :: .ref a :: S)) := by
  obtain ⟨hx, hby, hml, -, -, hnm, -, -, rfl, rfl, rfl, rfl, -⟩ := K
  subst hpc
  intro T locs vm0 X e M' hZ ho N'
  have nA := A.len; have nB := B.len
  have eA : (Int32.ofNat N).toNatClampNeg = N := by simp only [Int32.toNatClampNeg, Int32.toInt_ofNat_small nA]; omega
  have eB : (Int32.ofNat M).toNatClampNeg = M := by simp only [Int32.toNatClampNeg, Int32.toInt_ofNat_small nB]; omega
  have nn0 : ∀ {z : Int32} {q : Nat}, z.toInt = (q : Int) → ¬ z < 0 := fun {z q} hz => by rw [Int32.lt_iff_toInt_lt, hz]; show ¬ (q : Int) < 0; omega
  obtain ⟨T', h', L', X', e', NF, K', A', st⟩ := cpA X hx (s := κ.s.setVm vm0) hZ ho w1 w2 w3 w4 e (A.arv .null) (B.arv .null) (Or.inl ⟨rfl, hp⟩) (nn0 hsp) (nn0 hdp) (nn0 hnn) (by rw [nat_of hsp, nat_of hnn, eA]; exact h1) (by rw [nat_of hdp, nat_of hnn, eB]; exact h2) rfl (by rw [nat_of hdp, nat_of hnn]; simpa using h2) N' ha (g := mkF κ.m pc L (.int nn :: .int dp :: .ref b :: .int sp :: .ref a :: S)) rfl (hL.trans hml.symm) rfl (hb hby hd) hf (W := W) (by show 2 * 0 + _ ≤ _; omega) hl
  have A2 := (Arv.ary nB A').congr (f' := fun x => if j ≤ x ∧ x < j + m then f (i + (x - j)) else g x) (fun x hx' => by
    rw [nat_of hdp, nat_of hnn, nat_of hsp]
    have q : (List.map (fun t => ((List.range N).map f).getD (i + t) Value.null) (List.range m)) = (List.range m).map fun t => f (i + t) := List.map_congr_left fun t ht => by
      have := List.mem_range.mp ht
      simp [List.getD_eq_getElem?_getD, show i + t < N by omega]
    rw [q]
    exact cp_get h2 hx')
  obtain ⟨t, o, h1', r⟩ := H h' K' A2 T' _ vm0 X' e' (M'.mono K'.1) hZ ho NF
  exact ⟨t, o, st _ h1', r⟩
theorem WP.callF (K : Cx κ w l Z own n0 rm bytes maxL ret nm Q) {x y : MethodName} {by' : ByteArray} {mL' : Nat} {rt' : Option FieldType} {rm' : Room} {Q' : Option Value → Heap → Prop} {i W : Nat} {argsL : List Value} {S' : List Value} {a : Addr} {C : String} {cnt : Nat} (w1 : (Cond.methodLink own i x).before a0 Z = true) (w2 : (Cond.declares x).before a0 Z = true) (w3 : ∀ vm0 : Vm, Z.Warmed39 vm0 → (Cond.interfaceMethod x.cls x.cls x.name x.desc).before κ.a (κ.s.setVm vm0) = true) (w4 : (Cond.selects C x y).before a0 Z = true) (w5 : (Cond.instanceMethod y).before a0 Z = true) (w6 : (Cond.publicMethod y).before a0 Z = true) (w7 : (Cond.unhidden C x.name x.desc).before a0 Z = true) (w8 : (Cond.castable C x.cls).before a0 Z = true) (hx' : x.cls ≠ "java/lang/invoke/MethodHandle" ∧ x.cls ≠ "java/lang/invoke/VarHandle") (E : Exa Z h a C) (hM : Met w l Z y by' mL' rt' [] rm' (.ref a :: argsL).toArray h n0 Q') (wc : (Cond.code y by' mL' rt').before a0 Z = true) (wz : (Cond.initialized y.cls).before a0 Z = true) (hy : y.cls ≠ "java/lang/invoke/MethodHandle" ∧ y.cls ≠ "java/lang/invoke/VarHandle")
    (hL : L.size = maxL) (hlen : ∀ sig, parseMethodDescriptor x.desc = some sig → argsL.length = sig.parameters.length) (hS : S' = argsL.reverse ++ .ref a :: S) (hW : (S.map fun v => v.category).sum = W) (hf : rm'.frames + 1 ≤ rm.frames) (hl : W + (mL' + 11) + rm'.locals ≤ rm.locals) (hk : k + rm'.cells = k') (hn : n + rm'.slots = n') (hk' : k' ≤ rm.cells) (hn' : n' ≤ rm.slots) (hd : decode bytes pc = .ok (.invokeinterface i cnt, 5)) (hp : pc + 5 = pc')
    (H : ∀ (v : Option Value) (h' : Heap), Q' v h' → WP κ h' k' n' (mkF κ.m pc' L (v.toList ++ S))) : WP κ h k n (mkF κ.m pc L S') := by
  obtain ⟨hx, hby, hml, -, -, -, rfl, rfl, rfl, rfl, rfl, rfl, -⟩ := K
  subst hp hS
  intro T locs vm0 X e M hZ ho N
  obtain ⟨cB, kB, q1, q2, q3⟩ := isOf (s := κ.s.setVm vm0) hZ e E
  by_cases hw : κ.w = true
  · rw [hw] at hM
    obtain ⟨v, vm₁, B, -, X', hSi, hgr, hpost, st⟩ := X.interfaceBackS hx (xi := x) (y := y) ho (mvT (s := κ.s.setVm vm0) hZ w1) (mvT (s := κ.s.setVm vm0) hZ w2) (w3 vm0 hZ) (mvT (s := κ.s.setVm vm0) hZ w4) (mvT (s := κ.s.setVm vm0) hZ w5) (mvT (s := κ.s.setVm vm0) hZ w6) (mvT (s := κ.s.setVm vm0) hZ w7) (mvT (s := κ.s.setVm vm0) hZ w8) hx' (Met.backW (s := κ.s.setVm vm0) hM hZ wc wz hf hl) q1 q2 q3 (g := mkF κ.m pc L (argsL.reverse ++ .ref a :: S)) rfl (hL.trans hml.symm) (Steps.refl _) (argsL := argsL) (rest := S) hlen rfl (by show 2 * 0 + _ ≤ _; omega) (hb hby hd) (fun _ _ => ⟨rfl, e, by rw [← hk] at hk'; exact hk', by rw [← hn] at hn'; exact hn'⟩)
    obtain ⟨k0, hS0, hk0⟩ := M.2
    obtain ⟨X'', hS1, hZ1, ho1⟩ := rebS hS0 hk0 X' hSi (e ▸ hgr) hZ ho
    exact Ends.call (Q' := Q') (T1 := ⟨T.setVm vm₁, locs, k, n⟩) M N rfl hpost hk hn X'' ⟨fun q => (by rw [hw] at q; cases q), _, hS1, Nat.le_refl _⟩ hZ1 ho1 st (H v)
  · have hw' : κ.w = false := by simpa using hw
    rw [hw'] at hM
    obtain ⟨v, vm₁, B, -, X', hpost, st⟩ := X.interfaceBack hx (xi := x) (y := y) ho (mvT (s := κ.s.setVm vm0) hZ w1) (mvT (s := κ.s.setVm vm0) hZ w2) (w3 vm0 hZ) (mvT (s := κ.s.setVm vm0) hZ w4) (mvT (s := κ.s.setVm vm0) hZ w5) (mvT (s := κ.s.setVm vm0) hZ w6) (mvT (s := κ.s.setVm vm0) hZ w7) (mvT (s := κ.s.setVm vm0) hZ w8) hx' (Met.back (s := κ.s.setVm vm0) hM hZ wc wz hf hl) q1 q2 q3 (g := mkF κ.m pc L (argsL.reverse ++ .ref a :: S)) rfl (hL.trans hml.symm) (Steps.refl _) (argsL := argsL) (rest := S) hlen rfl (by show 2 * 0 + _ ≤ _; omega) (hb hby hd) (fun _ _ => ⟨rfl, e, by rw [← hk] at hk'; exact hk', by rw [← hn] at hn'; exact hn'⟩)
    refine Ends.call (Q' := Q') (T1 := ⟨T.setVm vm₁, locs, k, n⟩) M N rfl hpost hk hn X' ?_ hZ ho st (H v)
    have e0 := M.1 hw'
    subst e0
    exact Md.start _ _ _
theorem Ary.newR {cA : ClassId} {C : String} {z : Int32} {a : Addr} {N : Nat} (A : Arr Z h a (newA cA (.object C) z) (.object C)) (hz : z.toInt = (N : Int)) : Ary Z h a cA (.object C) N (fun _ => .null) := Ary.of_new (ty := .object C) A hz
theorem WP.anewarray (K : Cx κ w l Z own n0 rm bytes maxL ret nm Q) {i : Nat} {C : String} {z : Int32} {N cap : Nat} (w1 : (Cond.classLink own i C).before a0 Z = true) (w2 : (Cond.arrayOver (.object C)).before a0 Z = true) (hd : decode bytes pc = .ok (.anewarray i, 3)) (hz : z.toInt = (N : Int)) (hcap : N ≤ cap) (hbig : cap * 8 ≤ 536870912) (hk : k + 1 = k') (hn : n + cap = n') (hk' : k' ≤ rm.cells) (hn' : n' ≤ rm.slots) (hp : pc + 3 = pc')
    (H : ∀ (h' : Heap) (a : Addr) (kA : ClassId), @Eq Nat h.size a → Ext h h' → Ary Z h' a kA (.object C) N (fun _ => .null) → Ovr Z kA C → WP κ h' k' n' (mkF κ.m pc' L (.ref a :: S))) : WP κ h k n (mkF κ.m pc L (.int z :: S)) := by
  obtain ⟨hx, hby, -, -, -, hnm, -, -, rfl, rfl, rfl, rfl, -⟩ := K
  subst hp hk hn
  intro T locs vm0 X e M hZ ho N
  obtain ⟨T', h', cA, X', e', E, A, O, st⟩ := RoadKit.newR X hx (s := κ.s.setVm vm0) hZ ho w1 w2 e (g := mkF κ.m pc L (.int z :: S)) rfl (hb hby hd) rfl (by rw [Int32.lt_iff_toInt_lt, hz]; show ¬ _ < (0 : Int); omega) (cap := cap) (by rw [nat_of hz]; exact hcap) hbig hk' hn'
  obtain ⟨t, o, h1, r⟩ := H h' _ cA rfl E (Ary.newR A hz) O T' _ vm0 X' e' (M.mono E.1) hZ ho N
  exact ⟨t, o, st _ h1, r⟩
theorem WP.aastore (K : Cx κ w l Z own n0 rm bytes maxL ret nm Q) {a y : Addr} {kA : ClassId} {ty : FieldType} {C : String} {N i : Nat} {f : Nat → Value} {j : Int32} (A : Ary Z h a kA ty N f) (ht : ty.isReference = true) (O : Ovr Z kA C) (I : Ins Z h y C true) (hj : j.toInt = (i : Int)) (hi : i < N) (ha : n0 ≤ a) (hd : decode bytes pc = .ok (.aastore, 1)) (hp : pc + 1 = pc')
    (H : ∀ h', Wr h h' a i (.ref y) → Ary Z h' a kA ty N (upd f i (.ref y)) → WP κ h' k n (mkF κ.m pc' L S)) : WP κ h k n (mkF κ.m pc L (.ref y :: .int j :: .ref a :: S)) := by
  obtain ⟨hx, hby, -, -, -, hnm, -, -, rfl, rfl, rfl, rfl, -⟩ := K
  subst hp
  have A0 := A
  obtain ⟨c, A, q, r2, -⟩ := A
  intro T locs vm0 X e M hZ ho N
  obtain ⟨T', h', X', e', W, st⟩ := RoadKit.stR X hx (s := κ.s.setVm vm0) hZ e A (in_of r2 hj hi) ht (Sto.ofV A q O I) (g := mkF κ.m pc L (.ref y :: .int j :: .ref a :: S)) rfl rfl (hb hby hd)
  rw [nat_of hj] at W
  obtain ⟨t, o, h1, r⟩ := H h' W (A0.set W (by cases ty <;> first | rfl | (cases ht))) T' _ vm0 X' e' (M.mono (Nat.le_of_eq W.size.symm)) hZ ho (Fr.snoc X' N ha)
  exact ⟨t, o, st _ h1, r⟩
theorem WP.checkcast (K : Cx κ w l Z own n0 rm bytes maxL ret nm Q) {i : Nat} {C : String} {a : Addr} (w1 : (Cond.classLink own i C).before a0 Z = true) (I : Ins Z h a C true) (hd : decode bytes pc = .ok (.checkcast i, 3)) (hp : pc + 3 = pc') (H : WP κ h k n (mkF κ.m pc' L (.ref a :: S))) : WP κ h k n (mkF κ.m pc L (.ref a :: S)) := by
  obtain ⟨hx, hby, -, -, -, hnm, -, -, rfl, rfl, rfl, rfl, -⟩ := K
  subst hp
  intro T locs vm0 X e M hZ ho N
  obtain ⟨T', X', e', st⟩ := castY X hx (s := κ.s.setVm vm0) hZ ho w1 e I (g := mkF κ.m pc L (.ref a :: S)) rfl rfl (hb hby hd)
  obtain ⟨t, o, h1, r⟩ := H T' locs vm0 X' e' M hZ ho N
  exact ⟨t, o, st _ h1, r⟩
theorem WP.instY (K : Cx κ w l Z own n0 rm bytes maxL ret nm Q) {i : Nat} {C : String} {a : Addr} (w1 : (Cond.classLink own i C).before a0 Z = true) (I : Ins Z h a C true) (hd : decode bytes pc = .ok (.instanceof i, 3)) (hp : pc + 3 = pc') (H : WP κ h k n (mkF κ.m pc' L (.int 1 :: S))) : WP κ h k n (mkF κ.m pc L (.ref a :: S)) := by
  obtain ⟨hx, hby, -, -, -, hnm, -, -, rfl, rfl, rfl, rfl, -⟩ := K
  subst hp
  intro T locs vm0 X e M hZ ho N
  obtain ⟨T', X', e', st⟩ := RoadKit.instY X hx (s := κ.s.setVm vm0) hZ ho w1 e I (g := mkF κ.m pc L (.ref a :: S)) rfl rfl (hb hby hd)
  obtain ⟨t, o, h1, r⟩ := H T' locs vm0 X' e' M hZ ho N
  exact ⟨t, o, st _ h1, r⟩
/-- 'ldc' of a String constant (the wide mode alone): some String, of whose text nothing is said -/
theorem WP.ldcS (K : Cx κ true l Z own n0 rm bytes maxL ret nm Q) {i cap : Nat} {text : String} (w1 : (Cond.stringLink own i text).before a0 Z = true) (wS : ∀ a ∈ Bundle.stringAtoms, a.before a0 Z = true) (hd : decode bytes pc = .ok (.ldc i, 2)) (hcap : 4 * text.toList.length ≤ cap) (hbig : cap ≤ 536870912) (hk : k + 2 = k') (hn : n + (cap + 4) = n') (hk' : k' ≤ rm.cells) (hn' : n' ≤ rm.slots) (hp : pc + 2 = pc')
    (H : ∀ (h' : Heap) (a : Addr), Ext h h' → WP κ h' k' n' (mkF κ.m pc' L (.ref a :: S))) : WP κ h k n (mkF κ.m pc L S) := by
  obtain ⟨hx, hby, -, -, -, -, hw, -, rfl, rfl, rfl, rfl, -⟩ := K
  subst hp hk hn
  intro T locs vm0 X e M hZ ho N
  obtain ⟨k0, hS, hk0⟩ := M.2
  obtain ⟨a, T', h', k1, X', e', E, hS', hk1, hZ', ho', st⟩ := RoadKit.ldcS X hx hZ ho w1 wS e hS hk0 (g := mkF κ.m pc L S) rfl (hb hby hd) hcap hbig hk' hn'
  obtain ⟨t, o, h1, r⟩ := H h' a E T' locs T'.vm X' e' ⟨fun q => (by rw [hw] at q; cases q), k1, hS', hk1⟩ hZ' ho' N
  exact ⟨t, o, st _ h1, r⟩
end Rules
end Jvm.OwnW
namespace Jvm.Pilot.@@N@@
open Jvm Jvm.ClassFile Sem Op Lib Jvm.Free Jvm.Stand Jvm.LawKit Jvm.RoadKit Bundle Jvm.OwnW Jvm.Pilot.@@N@@.Jvm.D

def own_max (x y : Int32) : Int32 := if x < y then y else x
def own_min (x y : Int32) : Int32 := if y < x then y else x

theorem own_n4 (p : Int32) : (p &&& (3 : Int32)) = 0 ∨ (p &&& (3 : Int32)) = 1 ∨ (p &&& (3 : Int32)) = 2 ∨ (p &&& (3 : Int32)) = 3 := by
  have e : (p &&& (3 : Int32)).toInt = p.toInt % 4 := c_mask p 3 2 (by decide) (by decide)
  have h : (p &&& (3 : Int32)).toInt = 0 ∨ (p &&& (3 : Int32)).toInt = 1 ∨ (p &&& (3 : Int32)).toInt = 2 ∨ (p &&& (3 : Int32)).toInt = 3 := by omega
  rcases h with h | h | h | h
  · exact Or.inl (Int32.toInt_inj.mp h)
  · exact Or.inr (Or.inl (Int32.toInt_inj.mp h))
  · exact Or.inr (Or.inr (Or.inl (Int32.toInt_inj.mp h)))
  · exact Or.inr (Or.inr (Or.inr (Int32.toInt_inj.mp h)))
theorem own_win (w : Int32) : ¬ own_max (2 : Int32) w < (2 : Int32) ∧ ¬ own_max (2 : Int32) w = (0 : Int32) := by
  unfold own_max
  have e2 : (2 : Int32).toInt = 2 := by decide
  have e0 : (0 : Int32).toInt = 0 := rfl
  by_cases h : (2 : Int32) < w
  · rw [if_pos h]; rw [Int32.lt_iff_toInt_lt] at h
    exact ⟨by rw [Int32.lt_iff_toInt_lt]; omega, fun z => by rw [z] at h; omega⟩
  · rw [if_neg h]; exact ⟨by decide, by decide⟩
theorem w_0 {Z : State} {a0 : Array Value} (hw : ∀ d ∈ tables_1, d.before a0 Z = true) : (Jvm.Cond.classLink "com/example/knotwork/knotwork/runfile/BlockingIsSortedNeighbourhoodPinLaw" (13 : Nat) "com/example/knotwork/knotwork/runfile/RunFile$BlockingKey").before a0 Z = true := hw _ (List.mem_of_getElem? (i := 0) rfl)
theorem w_1 {Z : State} {a0 : Array Value} (hw : ∀ d ∈ tables_1, d.before a0 Z = true) : (Jvm.Cond.instantiable "com/example/knotwork/knotwork/runfile/RunFile$BlockingKey" (1 : Nat)).before a0 Z = true := hw _ (List.mem_of_getElem? (i := 1) rfl)
theorem w_2 {Z : State} {a0 : Array Value} (hw : ∀ d ∈ tables_1, d.before a0 Z = true) : (Jvm.Cond.initialized "com/example/knotwork/knotwork/runfile/RunFile$BlockingKey").before a0 Z = true := hw _ (List.mem_of_getElem? (i := 2) rfl)
theorem w_3 {Z : State} {a0 : Array Value} (hw : ∀ d ∈ tables_1, d.before a0 Z = true) : (Jvm.Cond.classLink "com/example/knotwork/knotwork/runfile/BlockingIsSortedNeighbourhoodPinLaw" (15 : Nat) "java/util/ArrayList").before a0 Z = true := hw _ (List.mem_of_getElem? (i := 3) rfl)
theorem w_4 {Z : State} {a0 : Array Value} (hw : ∀ d ∈ tables_1, d.before a0 Z = true) : (Jvm.Cond.instantiable "java/util/ArrayList" (3 : Nat)).before a0 Z = true := hw _ (List.mem_of_getElem? (i := 4) rfl)
theorem w_5 {Z : State} {a0 : Array Value} (hw : ∀ d ∈ tables_1, d.before a0 Z = true) : (Jvm.Cond.initialized "java/util/ArrayList").before a0 Z = true := hw _ (List.mem_of_getElem? (i := 5) rfl)
theorem w_6 {Z : State} {a0 : Array Value} (hw : ∀ d ∈ tables_1, d.before a0 Z = true) : (Jvm.Cond.methodLink "com/example/knotwork/knotwork/runfile/BlockingIsSortedNeighbourhoodPinLaw" (17 : Nat) ({ cls := "java/util/ArrayList", name := "<init>", desc := "()V" } : Jvm.MethodName)).before a0 Z = true := hw _ (List.mem_of_getElem? (i := 6) rfl)
theorem w_7 {Z : State} {a0 : Array Value} (hw : ∀ d ∈ tables_1, d.before a0 Z = true) : (Jvm.Cond.instanceMethod ({ cls := "java/util/ArrayList", name := "<init>", desc := "()V" } : Jvm.MethodName)).before a0 Z = true := hw _ (List.mem_of_getElem? (i := 7) rfl)
theorem w_8 {Z : State} {a0 : Array Value} (hw : ∀ d ∈ tables_1, d.before a0 Z = true) : (Jvm.Cond.code ({ cls := "java/util/ArrayList", name := "<init>", desc := "()V" } : Jvm.MethodName) jdk_38_method_2_code (1 : Nat) (Option.none : Option Jvm.ClassFile.FieldType)).before a0 Z = true := hw _ (List.mem_of_getElem? (i := 8) rfl)
theorem w_9 {Z : State} {a0 : Array Value} (hw : ∀ d ∈ tables_1, d.before a0 Z = true) : (Jvm.Cond.methodLink "java/util/ArrayList" (1 : Nat) ({ cls := "java/util/AbstractList", name := "<init>", desc := "()V" } : Jvm.MethodName)).before a0 Z = true := hw _ (List.mem_of_getElem? (i := 9) rfl)
theorem w_10 {Z : State} {a0 : Array Value} (hw : ∀ d ∈ tables_1, d.before a0 Z = true) : (Jvm.Cond.instanceMethod ({ cls := "java/util/AbstractList", name := "<init>", desc := "()V" } : Jvm.MethodName)).before a0 Z = true := hw _ (List.mem_of_getElem? (i := 10) rfl)
theorem w_13 {Z : State} {a0 : Array Value} (hw : ∀ d ∈ tables_1, d.before a0 Z = true) : (Jvm.Cond.initialized "java/util/AbstractList").before a0 Z = true := hw _ (List.mem_of_getElem? (i := 13) rfl)
theorem w_14 {Z : State} {a0 : Array Value} (hw : ∀ d ∈ tables_1, d.before a0 Z = true) : (Jvm.Cond.code ({ cls := "java/util/AbstractList", name := "<init>", desc := "()V" } : Jvm.MethodName) jdk_39_method_1_code (1 : Nat) (Option.none : Option Jvm.ClassFile.FieldType)).before a0 Z = true := hw _ (List.mem_of_getElem? (i := 14) rfl)
theorem w_15 {Z : State} {a0 : Array Value} (hw : ∀ d ∈ tables_1, d.before a0 Z = true) : (Jvm.Cond.methodLink "java/util/AbstractList" (1 : Nat) ({ cls := "java/util/AbstractCollection", name := "<init>", desc := "()V" } : Jvm.MethodName)).before a0 Z = true := hw _ (List.mem_of_getElem? (i := 15) rfl)
theorem w_16 {Z : State} {a0 : Array Value} (hw : ∀ d ∈ tables_1, d.before a0 Z = true) : (Jvm.Cond.instanceMethod ({ cls := "java/util/AbstractCollection", name := "<init>", desc := "()V" } : Jvm.MethodName)).before a0 Z = true := hw _ (List.mem_of_getElem? (i := 16) rfl)
theorem w_19 {Z : State} {a0 : Array Value} (hw : ∀ d ∈ tables_1, d.before a0 Z = true) : (Jvm.Cond.initialized "java/util/AbstractCollection").before a0 Z = true := hw _ (List.mem_of_getElem? (i := 19) rfl)
theorem w_20 {Z : State} {a0 : Array Value} (hw : ∀ d ∈ tables_1, d.before a0 Z = true) : (Jvm.Cond.code ({ cls := "java/util/AbstractCollection", name := "<init>", desc := "()V" } : Jvm.MethodName) jdk_22_method_1_code (1 : Nat) (Option.none : Option Jvm.ClassFile.FieldType)).before a0 Z = true := hw _ (List.mem_of_getElem? (i := 20) rfl)
theorem w_21 {Z : State} {a0 : Array Value} (hw : ∀ d ∈ tables_1, d.before a0 Z = true) : (Jvm.Cond.methodLink "java/util/AbstractCollection" (1 : Nat) ({ cls := "java/lang/Object", name := "<init>", desc := "()V" } : Jvm.MethodName)).before a0 Z = true := hw _ (List.mem_of_getElem? (i := 21) rfl)
theorem w_22 {Z : State} {a0 : Array Value} (hw : ∀ d ∈ tables_1, d.before a0 Z = true) : (Jvm.Cond.instanceMethod ({ cls := "java/lang/Object", name := "<init>", desc := "()V" } : Jvm.MethodName)).before a0 Z = true := hw _ (List.mem_of_getElem? (i := 22) rfl)
theorem w_23 {Z : State} {a0 : Array Value} (hw : ∀ d ∈ tables_1, d.before a0 Z = true) : (Jvm.Cond.code ({ cls := "java/lang/Object", name := "<init>", desc := "()V" } : Jvm.MethodName) object_method_1_code (1 : Nat) (Option.none : Option Jvm.ClassFile.FieldType)).before a0 Z = true := hw _ (List.mem_of_getElem? (i := 23) rfl)
theorem w_24 {Z : State} {a0 : Array Value} (hw : ∀ d ∈ tables_1, d.before a0 Z = true) : (Jvm.Cond.fieldLink "java/util/AbstractList" (7 : Nat) "java/util/AbstractList" "modCount" "I").before a0 Z = true := hw _ (List.mem_of_getElem? (i := 24) rfl)
theorem w_25 {Z : State} {a0 : Array Value} (hw : ∀ d ∈ tables_1, d.before a0 Z = true) : (Jvm.Cond.lays "java/util/ArrayList" "java/util/AbstractList" "modCount" "I").before a0 Z = true := hw _ (List.mem_of_getElem? (i := 25) rfl)
theorem w_26 {Z : State} {a0 : Array Value} (hw : ∀ d ∈ tables_1, d.before a0 Z = true) : (Jvm.Cond.fieldLink "java/util/ArrayList" (39 : Nat) "java/util/ArrayList" "DEFAULTCAPACITY_EMPTY_ELEMENTDATA" "[Ljava/lang/Object;").before a0 Z = true := hw _ (List.mem_of_getElem? (i := 26) rfl)
theorem w_27 {Z : State} {a0 : Array Value} (hw : ∀ d ∈ tables_1, d.before a0 Z = true) : (Jvm.Cond.fieldLink "java/util/ArrayList" (9 : Nat) "java/util/ArrayList" "elementData" "[Ljava/lang/Object;").before a0 Z = true := hw _ (List.mem_of_getElem? (i := 27) rfl)
theorem w_28 {Z : State} {a0 : Array Value} (hw : ∀ d ∈ tables_1, d.before a0 Z = true) : (Jvm.Cond.lays "java/util/ArrayList" "java/util/ArrayList" "elementData" "[Ljava/lang/Object;").before a0 Z = true := hw _ (List.mem_of_getElem? (i := 28) rfl)
theorem w_29 {Z : State} {a0 : Array Value} (hw : ∀ d ∈ tables_1, d.before a0 Z = true) : (Jvm.Cond.methodLink "com/example/knotwork/knotwork/runfile/BlockingIsSortedNeighbourhoodPinLaw" (18 : Nat) ({ cls := "com/example/knotwork/knotwork/runfile/RunFile$BlockingKey", name := "<init>", desc := "(Ljava/util/List;)V" } : Jvm.MethodName)).before a0 Z = true := hw _ (List.mem_of_getElem? (i := 29) rfl)
theorem w_30 {Z : State} {a0 : Array Value} (hw : ∀ d ∈ tables_1, d.before a0 Z = true) : (Jvm.Cond.instanceMethod ({ cls := "com/example/knotwork/knotwork/runfile/RunFile$BlockingKey", name := "<init>", desc := "(Ljava/util/List;)V" } : Jvm.MethodName)).before a0 Z = true := hw _ (List.mem_of_getElem? (i := 30) rfl)
theorem w_31 {Z : State} {a0 : Array Value} (hw : ∀ d ∈ tables_1, d.before a0 Z = true) : (Jvm.Cond.code ({ cls := "com/example/knotwork/knotwork/runfile/RunFile$BlockingKey", name := "<init>", desc := "(Ljava/util/List;)V" } : Jvm.MethodName) prog_46_method_1_code (2 : Nat) (Option.none : Option Jvm.ClassFile.FieldType)).before a0 Z = true := hw _ (List.mem_of_getElem? (i := 31) rfl)
theorem w_32 {Z : State} {a0 : Array Value} (hw : ∀ d ∈ tables_1, d.before a0 Z = true) : (Jvm.Cond.methodLink "com/example/knotwork/knotwork/runfile/RunFile$BlockingKey" (1 : Nat) ({ cls := "java/lang/Record", name := "<init>", desc := "()V" } : Jvm.MethodName)).before a0 Z = true := hw _ (List.mem_of_getElem? (i := 32) rfl)
theorem w_33 {Z : State} {a0 : Array Value} (hw : ∀ d ∈ tables_1, d.before a0 Z = true) : (Jvm.Cond.instanceMethod ({ cls := "java/lang/Record", name := "<init>", desc := "()V" } : Jvm.MethodName)).before a0 Z = true := hw _ (List.mem_of_getElem? (i := 33) rfl)
theorem w_35 {Z : State} {a0 : Array Value} (hw : ∀ d ∈ tables_1, d.before a0 Z = true) : (Jvm.Cond.initialized "java/lang/Record").before a0 Z = true := hw _ (List.mem_of_getElem? (i := 35) rfl)
theorem w_36 {Z : State} {a0 : Array Value} (hw : ∀ d ∈ tables_1, d.before a0 Z = true) : (Jvm.Cond.code ({ cls := "java/lang/Record", name := "<init>", desc := "()V" } : Jvm.MethodName) jdk_30_method_1_code (1 : Nat) (Option.none : Option Jvm.ClassFile.FieldType)).before a0 Z = true := hw _ (List.mem_of_getElem? (i := 36) rfl)
theorem w_37 {Z : State} {a0 : Array Value} (hw : ∀ d ∈ tables_1, d.before a0 Z = true) : (Jvm.Cond.methodLink "java/lang/Record" (1 : Nat) ({ cls := "java/lang/Object", name := "<init>", desc := "()V" } : Jvm.MethodName)).before a0 Z = true := hw _ (List.mem_of_getElem? (i := 37) rfl)
theorem w_38 {Z : State} {a0 : Array Value} (hw : ∀ d ∈ tables_1, d.before a0 Z = true) : (Jvm.Cond.fieldLink "com/example/knotwork/knotwork/runfile/RunFile$BlockingKey" (7 : Nat) "com/example/knotwork/knotwork/runfile/RunFile$BlockingKey" "parts" "Ljava/util/List;").before a0 Z = true := hw _ (List.mem_of_getElem? (i := 38) rfl)
theorem w_39 {Z : State} {a0 : Array Value} (hw : ∀ d ∈ tables_1, d.before a0 Z = true) : (Jvm.Cond.laysFinal "com/example/knotwork/knotwork/runfile/RunFile$BlockingKey" "com/example/knotwork/knotwork/runfile/RunFile$BlockingKey" "parts" "Ljava/util/List;").before a0 Z = true := hw _ (List.mem_of_getElem? (i := 39) rfl)
theorem w_40 {Z : State} {a0 : Array Value} (hw : ∀ d ∈ tables_1, d.before a0 Z = true) : (Jvm.Cond.methodLink "com/example/knotwork/knotwork/runfile/BlockingIsSortedNeighbourhoodPinLaw" (21 : Nat) ({ cls := "java/util/List", name := "add", desc := "(Ljava/lang/Object;)Z" } : Jvm.MethodName)).before a0 Z = true := hw _ (List.mem_of_getElem? (i := 40) rfl)
theorem w_41 {Z : State} {a0 : Array Value} (hw : ∀ d ∈ tables_1, d.before a0 Z = true) : (Jvm.Cond.declares ({ cls := "java/util/List", name := "add", desc := "(Ljava/lang/Object;)Z" } : Jvm.MethodName)).before a0 Z = true := hw _ (List.mem_of_getElem? (i := 41) rfl)
theorem w_42 {Z : State} {a0 : Array Value} (hw : ∀ d ∈ tables_1, d.before a0 Z = true) : (Jvm.Cond.interfaceMethod "java/util/List" "java/util/List" "add" "(Ljava/lang/Object;)Z").before a0 Z = true := hw _ (List.mem_of_getElem? (i := 42) rfl)
theorem w_43 {Z : State} {a0 : Array Value} (hw : ∀ d ∈ tables_1, d.before a0 Z = true) : (Jvm.Cond.selects "java/util/ArrayList" ({ cls := "java/util/List", name := "add", desc := "(Ljava/lang/Object;)Z" } : Jvm.MethodName) ({ cls := "java/util/ArrayList", name := "add", desc := "(Ljava/lang/Object;)Z" } : Jvm.MethodName)).before a0 Z = true := hw _ (List.mem_of_getElem? (i := 43) rfl)
theorem w_44 {Z : State} {a0 : Array Value} (hw : ∀ d ∈ tables_1, d.before a0 Z = true) : (Jvm.Cond.instanceMethod ({ cls := "java/util/ArrayList", name := "add", desc := "(Ljava/lang/Object;)Z" } : Jvm.MethodName)).before a0 Z = true := hw _ (List.mem_of_getElem? (i := 44) rfl)
theorem w_45 {Z : State} {a0 : Array Value} (hw : ∀ d ∈ tables_1, d.before a0 Z = true) : (Jvm.Cond.publicMethod ({ cls := "java/util/ArrayList", name := "add", desc := "(Ljava/lang/Object;)Z" } : Jvm.MethodName)).before a0 Z = true := hw _ (List.mem_of_getElem? (i := 45) rfl)
theorem w_46 {Z : State} {a0 : Array Value} (hw : ∀ d ∈ tables_1, d.before a0 Z = true) : (Jvm.Cond.unhidden "java/util/ArrayList" "add" "(Ljava/lang/Object;)Z").before a0 Z = true := hw _ (List.mem_of_getElem? (i := 46) rfl)
theorem w_47 {Z : State} {a0 : Array Value} (hw : ∀ d ∈ tables_1, d.before a0 Z = true) : (Jvm.Cond.castable "java/util/ArrayList" "java/util/List").before a0 Z = true := hw _ (List.mem_of_getElem? (i := 47) rfl)
theorem w_48 {Z : State} {a0 : Array Value} (hw : ∀ d ∈ tables_1, d.before a0 Z = true) : (Jvm.Cond.code ({ cls := "java/util/ArrayList", name := "add", desc := "(Ljava/lang/Object;)Z" } : Jvm.MethodName) jdk_38_method_25_code (2 : Nat) (Option.some Jvm.ClassFile.FieldType.boolean)).before a0 Z = true := hw _ (List.mem_of_getElem? (i := 48) rfl)
theorem w_49 {Z : State} {a0 : Array Value} (hw : ∀ d ∈ tables_1, d.before a0 Z = true) : (Jvm.Cond.fieldLink "java/util/ArrayList" (63 : Nat) "java/util/ArrayList" "modCount" "I").before a0 Z = true := hw _ (List.mem_of_getElem? (i := 49) rfl)
theorem w_50 {Z : State} {a0 : Array Value} (hw : ∀ d ∈ tables_1, d.before a0 Z = true) : (Jvm.Cond.sameField "java/util/ArrayList" "java/util/AbstractList" "modCount" "I").before a0 Z = true := hw _ (List.mem_of_getElem? (i := 50) rfl)
theorem w_51 {Z : State} {a0 : Array Value} (hw : ∀ d ∈ tables_1, d.before a0 Z = true) : (Jvm.Cond.fieldLink "java/util/ArrayList" (48 : Nat) "java/util/ArrayList" "size" "I").before a0 Z = true := hw _ (List.mem_of_getElem? (i := 51) rfl)
theorem w_52 {Z : State} {a0 : Array Value} (hw : ∀ d ∈ tables_1, d.before a0 Z = true) : (Jvm.Cond.lays "java/util/ArrayList" "java/util/ArrayList" "size" "I").before a0 Z = true := hw _ (List.mem_of_getElem? (i := 52) rfl)
theorem w_53 {Z : State} {a0 : Array Value} (hw : ∀ d ∈ tables_1, d.before a0 Z = true) : (Jvm.Cond.methodLink "java/util/ArrayList" (131 : Nat) ({ cls := "java/util/ArrayList", name := "add", desc := "(Ljava/lang/Object;[Ljava/lang/Object;I)V" } : Jvm.MethodName)).before a0 Z = true := hw _ (List.mem_of_getElem? (i := 53) rfl)
theorem w_54 {Z : State} {a0 : Array Value} (hw : ∀ d ∈ tables_1, d.before a0 Z = true) : (Jvm.Cond.instanceMethod ({ cls := "java/util/ArrayList", name := "add", desc := "(Ljava/lang/Object;[Ljava/lang/Object;I)V" } : Jvm.MethodName)).before a0 Z = true := hw _ (List.mem_of_getElem? (i := 54) rfl)
theorem w_55 {Z : State} {a0 : Array Value} (hw : ∀ d ∈ tables_1, d.before a0 Z = true) : (Jvm.Cond.privateMethod ({ cls := "java/util/ArrayList", name := "add", desc := "(Ljava/lang/Object;[Ljava/lang/Object;I)V" } : Jvm.MethodName)).before a0 Z = true := hw _ (List.mem_of_getElem? (i := 55) rfl)
theorem w_57 {Z : State} {a0 : Array Value} (hw : ∀ d ∈ tables_1, d.before a0 Z = true) : (Jvm.Cond.code ({ cls := "java/util/ArrayList", name := "add", desc := "(Ljava/lang/Object;[Ljava/lang/Object;I)V" } : Jvm.MethodName) jdk_38_method_24_code (4 : Nat) (Option.none : Option Jvm.ClassFile.FieldType)).before a0 Z = true := hw _ (List.mem_of_getElem? (i := 57) rfl)
theorem w_58 {Z : State} {a0 : Array Value} (hw : ∀ d ∈ tables_1, d.before a0 Z = true) : (Jvm.Cond.methodLink "java/util/ArrayList" (129 : Nat) ({ cls := "java/util/ArrayList", name := "grow", desc := "()[Ljava/lang/Object;" } : Jvm.MethodName)).before a0 Z = true := hw _ (List.mem_of_getElem? (i := 58) rfl)
theorem w_59 {Z : State} {a0 : Array Value} (hw : ∀ d ∈ tables_1, d.before a0 Z = true) : (Jvm.Cond.instanceMethod ({ cls := "java/util/ArrayList", name := "grow", desc := "()[Ljava/lang/Object;" } : Jvm.MethodName)).before a0 Z = true := hw _ (List.mem_of_getElem? (i := 59) rfl)
theorem w_60 {Z : State} {a0 : Array Value} (hw : ∀ d ∈ tables_1, d.before a0 Z = true) : (Jvm.Cond.privateMethod ({ cls := "java/util/ArrayList", name := "grow", desc := "()[Ljava/lang/Object;" } : Jvm.MethodName)).before a0 Z = true := hw _ (List.mem_of_getElem? (i := 60) rfl)
theorem w_62 {Z : State} {a0 : Array Value} (hw : ∀ d ∈ tables_1, d.before a0 Z = true) : (Jvm.Cond.code ({ cls := "java/util/ArrayList", name := "grow", desc := "()[Ljava/lang/Object;" } : Jvm.MethodName) jdk_38_method_7_code (1 : Nat) (Option.some (Jvm.ClassFile.FieldType.array (Jvm.ClassFile.FieldType.object "java/lang/Object")))).before a0 Z = true := hw _ (List.mem_of_getElem? (i := 62) rfl)
theorem w_63 {Z : State} {a0 : Array Value} (hw : ∀ d ∈ tables_1, d.before a0 Z = true) : (Jvm.Cond.methodLink "java/util/ArrayList" (69 : Nat) ({ cls := "java/util/ArrayList", name := "grow", desc := "(I)[Ljava/lang/Object;" } : Jvm.MethodName)).before a0 Z = true := hw _ (List.mem_of_getElem? (i := 63) rfl)
theorem w_64 {Z : State} {a0 : Array Value} (hw : ∀ d ∈ tables_1, d.before a0 Z = true) : (Jvm.Cond.instanceMethod ({ cls := "java/util/ArrayList", name := "grow", desc := "(I)[Ljava/lang/Object;" } : Jvm.MethodName)).before a0 Z = true := hw _ (List.mem_of_getElem? (i := 64) rfl)
theorem w_65 {Z : State} {a0 : Array Value} (hw : ∀ d ∈ tables_1, d.before a0 Z = true) : (Jvm.Cond.privateMethod ({ cls := "java/util/ArrayList", name := "grow", desc := "(I)[Ljava/lang/Object;" } : Jvm.MethodName)).before a0 Z = true := hw _ (List.mem_of_getElem? (i := 65) rfl)
theorem w_67 {Z : State} {a0 : Array Value} (hw : ∀ d ∈ tables_1, d.before a0 Z = true) : (Jvm.Cond.code ({ cls := "java/util/ArrayList", name := "grow", desc := "(I)[Ljava/lang/Object;" } : Jvm.MethodName) jdk_38_method_6_code (4 : Nat) (Option.some (Jvm.ClassFile.FieldType.array (Jvm.ClassFile.FieldType.object "java/lang/Object")))).before a0 Z = true := hw _ (List.mem_of_getElem? (i := 67) rfl)
theorem w_68 {Z : State} {a0 : Array Value} (hw : ∀ d ∈ tables_1, d.before a0 Z = true) : (Jvm.Cond.methodLink "java/util/ArrayList" (79 : Nat) ({ cls := "java/lang/Math", name := "max", desc := "(II)I" } : Jvm.MethodName)).before a0 Z = true := hw _ (List.mem_of_getElem? (i := 68) rfl)
theorem w_69 {Z : State} {a0 : Array Value} (hw : ∀ d ∈ tables_1, d.before a0 Z = true) : (Jvm.Cond.static ({ cls := "java/lang/Math", name := "max", desc := "(II)I" } : Jvm.MethodName)).before a0 Z = true := hw _ (List.mem_of_getElem? (i := 69) rfl)
theorem w_70 {Z : State} {a0 : Array Value} (hw : ∀ d ∈ tables_1, d.before a0 Z = true) : (Jvm.Cond.initialized "java/lang/Math").before a0 Z = true := hw _ (List.mem_of_getElem? (i := 70) rfl)
theorem w_71 {Z : State} {a0 : Array Value} (hw : ∀ d ∈ tables_1, d.before a0 Z = true) : (Jvm.Cond.code ({ cls := "java/lang/Math", name := "max", desc := "(II)I" } : Jvm.MethodName) jdk_29_method_65_code (2 : Nat) (Option.some Jvm.ClassFile.FieldType.int)).before a0 Z = true := hw _ (List.mem_of_getElem? (i := 71) rfl)
theorem w_72 {Z : State} {a0 : Array Value} (hw : ∀ d ∈ tables_1, d.before a0 Z = true) : (Jvm.Cond.classLink "java/util/ArrayList" (7 : Nat) "java/lang/Object").before a0 Z = true := hw _ (List.mem_of_getElem? (i := 72) rfl)
theorem w_73 {Z : State} {a0 : Array Value} (hw : ∀ d ∈ tables_1, d.before a0 Z = true) : (Jvm.Cond.arrayOver (Jvm.ClassFile.FieldType.object "java/lang/Object")).before a0 Z = true := hw _ (List.mem_of_getElem? (i := 73) rfl)
theorem w_74 {Z : State} {a0 : Array Value} (hw : ∀ d ∈ tables_1, d.before a0 Z = true) : (Jvm.Cond.castable "com/example/knotwork/knotwork/runfile/RunFile$BlockingKey" "java/lang/Object").before a0 Z = true := hw _ (List.mem_of_getElem? (i := 74) rfl)
theorem w_75 {Z : State} {a0 : Array Value} (hw : ∀ d ∈ tables_1, d.before a0 Z = true) : (Jvm.Cond.classLink "com/example/knotwork/knotwork/runfile/BlockingIsSortedNeighbourhoodPinLaw" (27 : Nat) "com/example/knotwork/knotwork/runfile/RunFile$Blocking").before a0 Z = true := hw _ (List.mem_of_getElem? (i := 75) rfl)
theorem w_76 {Z : State} {a0 : Array Value} (hw : ∀ d ∈ tables_1, d.before a0 Z = true) : (Jvm.Cond.instantiable "com/example/knotwork/knotwork/runfile/RunFile$Blocking" (3 : Nat)).before a0 Z = true := hw _ (List.mem_of_getElem? (i := 76) rfl)
theorem w_77 {Z : State} {a0 : Array Value} (hw : ∀ d ∈ tables_1, d.before a0 Z = true) : (Jvm.Cond.initialized "com/example/knotwork/knotwork/runfile/RunFile$Blocking").before a0 Z = true := hw _ (List.mem_of_getElem? (i := 77) rfl)
theorem w_78 {Z : State} {a0 : Array Value} (hw : ∀ d ∈ tables_1, d.before a0 Z = true) : (Jvm.Cond.methodLink "com/example/knotwork/knotwork/runfile/BlockingIsSortedNeighbourhoodPinLaw" (29 : Nat) ({ cls := "com/example/knotwork/knotwork/runfile/RunFile$Blocking", name := "<init>", desc := "(Ljava/util/List;ILjava/util/List;)V" } : Jvm.MethodName)).before a0 Z = true := hw _ (List.mem_of_getElem? (i := 78) rfl)
theorem w_79 {Z : State} {a0 : Array Value} (hw : ∀ d ∈ tables_1, d.before a0 Z = true) : (Jvm.Cond.instanceMethod ({ cls := "com/example/knotwork/knotwork/runfile/RunFile$Blocking", name := "<init>", desc := "(Ljava/util/List;ILjava/util/List;)V" } : Jvm.MethodName)).before a0 Z = true := hw _ (List.mem_of_getElem? (i := 79) rfl)
theorem w_80 {Z : State} {a0 : Array Value} (hw : ∀ d ∈ tables_1, d.before a0 Z = true) : (Jvm.Cond.code ({ cls := "com/example/knotwork/knotwork/runfile/RunFile$Blocking", name := "<init>", desc := "(Ljava/util/List;ILjava/util/List;)V" } : Jvm.MethodName) prog_45_method_1_code (4 : Nat) (Option.none : Option Jvm.ClassFile.FieldType)).before a0 Z = true := hw _ (List.mem_of_getElem? (i := 80) rfl)
theorem w_81 {Z : State} {a0 : Array Value} (hw : ∀ d ∈ tables_1, d.before a0 Z = true) : (Jvm.Cond.methodLink "com/example/knotwork/knotwork/runfile/RunFile$Blocking" (1 : Nat) ({ cls := "java/lang/Record", name := "<init>", desc := "()V" } : Jvm.MethodName)).before a0 Z = true := hw _ (List.mem_of_getElem? (i := 81) rfl)
theorem w_82 {Z : State} {a0 : Array Value} (hw : ∀ d ∈ tables_1, d.before a0 Z = true) : (Jvm.Cond.fieldLink "com/example/knotwork/knotwork/runfile/RunFile$Blocking" (22 : Nat) "com/example/knotwork/knotwork/runfile/RunFile$Blocking" "keys" "Ljava/util/List;").before a0 Z = true := hw _ (List.mem_of_getElem? (i := 82) rfl)
theorem w_83 {Z : State} {a0 : Array Value} (hw : ∀ d ∈ tables_1, d.before a0 Z = true) : (Jvm.Cond.laysFinal "com/example/knotwork/knotwork/runfile/RunFile$Blocking" "com/example/knotwork/knotwork/runfile/RunFile$Blocking" "keys" "Ljava/util/List;").before a0 Z = true := hw _ (List.mem_of_getElem? (i := 83) rfl)
theorem w_84 {Z : State} {a0 : Array Value} (hw : ∀ d ∈ tables_1, d.before a0 Z = true) : (Jvm.Cond.fieldLink "com/example/knotwork/knotwork/runfile/RunFile$Blocking" (28 : Nat) "com/example/knotwork/knotwork/runfile/RunFile$Blocking" "window" "I").before a0 Z = true := hw _ (List.mem_of_getElem? (i := 84) rfl)
theorem w_85 {Z : State} {a0 : Array Value} (hw : ∀ d ∈ tables_1, d.before a0 Z = true) : (Jvm.Cond.laysFinal "com/example/knotwork/knotwork/runfile/RunFile$Blocking" "com/example/knotwork/knotwork/runfile/RunFile$Blocking" "window" "I").before a0 Z = true := hw _ (List.mem_of_getElem? (i := 85) rfl)
theorem w_86 {Z : State} {a0 : Array Value} (hw : ∀ d ∈ tables_1, d.before a0 Z = true) : (Jvm.Cond.fieldLink "com/example/knotwork/knotwork/runfile/RunFile$Blocking" (32 : Nat) "com/example/knotwork/knotwork/runfile/RunFile$Blocking" "through" "Ljava/util/List;").before a0 Z = true := hw _ (List.mem_of_getElem? (i := 86) rfl)
theorem w_87 {Z : State} {a0 : Array Value} (hw : ∀ d ∈ tables_1, d.before a0 Z = true) : (Jvm.Cond.laysFinal "com/example/knotwork/knotwork/runfile/RunFile$Blocking" "com/example/knotwork/knotwork/runfile/RunFile$Blocking" "through" "Ljava/util/List;").before a0 Z = true := hw _ (List.mem_of_getElem? (i := 87) rfl)
theorem w_88 {Z : State} {a0 : Array Value} (hw : ∀ d ∈ tables_1, d.before a0 Z = true) : (Jvm.Cond.methodLink "com/example/knotwork/knotwork/runfile/BlockingIsSortedNeighbourhoodPinLaw" (32 : Nat) ({ cls := "com/example/knotwork/knotwork/runfile/RunFile$Blocking", name := "isSortedNeighbourhood", desc := "()Z" } : Jvm.MethodName)).before a0 Z = true := hw _ (List.mem_of_getElem? (i := 88) rfl)
theorem w_89 {Z : State} {a0 : Array Value} (hw : ∀ d ∈ tables_1, d.before a0 Z = true) : (Jvm.Cond.declares ({ cls := "com/example/knotwork/knotwork/runfile/RunFile$Blocking", name := "isSortedNeighbourhood", desc := "()Z" } : Jvm.MethodName)).before a0 Z = true := hw _ (List.mem_of_getElem? (i := 89) rfl)
theorem w_90 {Z : State} {a0 : Array Value} (hw : ∀ d ∈ tables_1, d.before a0 Z = true) : (Jvm.Cond.instanceMethod ({ cls := "com/example/knotwork/knotwork/runfile/RunFile$Blocking", name := "isSortedNeighbourhood", desc := "()Z" } : Jvm.MethodName)).before a0 Z = true := hw _ (List.mem_of_getElem? (i := 90) rfl)
theorem w_91 {Z : State} {a0 : Array Value} (hw : ∀ d ∈ tables_1, d.before a0 Z = true) : (Jvm.Cond.selects "com/example/knotwork/knotwork/runfile/RunFile$Blocking" ({ cls := "com/example/knotwork/knotwork/runfile/RunFile$Blocking", name := "isSortedNeighbourhood", desc := "()Z" } : Jvm.MethodName) ({ cls := "com/example/knotwork/knotwork/runfile/RunFile$Blocking", name := "isSortedNeighbourhood", desc := "()Z" } : Jvm.MethodName)).before a0 Z = true := hw _ (List.mem_of_getElem? (i := 91) rfl)
theorem w_92 {Z : State} {a0 : Array Value} (hw : ∀ d ∈ tables_1, d.before a0 Z = true) : (Jvm.Cond.code ({ cls := "com/example/knotwork/knotwork/runfile/RunFile$Blocking", name := "isSortedNeighbourhood", desc := "()Z" } : Jvm.MethodName) prog_45_method_4_code (1 : Nat) (Option.some Jvm.ClassFile.FieldType.boolean)).before a0 Z = true := hw _ (List.mem_of_getElem? (i := 92) rfl)
theorem w_93 {Z : State} {a0 : Array Value} (hw : ∀ d ∈ tables_1, d.before a0 Z = true) : (Jvm.Cond.methodLink "com/example/knotwork/knotwork/runfile/BlockingIsSortedNeighbourhoodPinLaw" (7 : Nat) ({ cls := "java/lang/Math", name := "max", desc := "(II)I" } : Jvm.MethodName)).before a0 Z = true := hw _ (List.mem_of_getElem? (i := 93) rfl)
theorem w_94 {Z : State} {a0 : Array Value} (hw : ∀ d ∈ tables_1, d.before a0 Z = true) : (Jvm.Cond.methodLink "com/example/knotwork/knotwork/runfile/RunFile$Blocking" (7 : Nat) ({ cls := "java/util/List", name := "size", desc := "()I" } : Jvm.MethodName)).before a0 Z = true := hw _ (List.mem_of_getElem? (i := 94) rfl)
theorem w_95 {Z : State} {a0 : Array Value} (hw : ∀ d ∈ tables_1, d.before a0 Z = true) : (Jvm.Cond.declares ({ cls := "java/util/List", name := "size", desc := "()I" } : Jvm.MethodName)).before a0 Z = true := hw _ (List.mem_of_getElem? (i := 95) rfl)
theorem w_96 {Z : State} {a0 : Array Value} (hw : ∀ d ∈ tables_1, d.before a0 Z = true) : (Jvm.Cond.interfaceMethod "java/util/List" "java/util/List" "size" "()I").before a0 Z = true := hw _ (List.mem_of_getElem? (i := 96) rfl)
theorem w_97 {Z : State} {a0 : Array Value} (hw : ∀ d ∈ tables_1, d.before a0 Z = true) : (Jvm.Cond.selects "java/util/ArrayList" ({ cls := "java/util/List", name := "size", desc := "()I" } : Jvm.MethodName) ({ cls := "java/util/ArrayList", name := "size", desc := "()I" } : Jvm.MethodName)).before a0 Z = true := hw _ (List.mem_of_getElem? (i := 97) rfl)
theorem w_98 {Z : State} {a0 : Array Value} (hw : ∀ d ∈ tables_1, d.before a0 Z = true) : (Jvm.Cond.instanceMethod ({ cls := "java/util/ArrayList", name := "size", desc := "()I" } : Jvm.MethodName)).before a0 Z = true := hw _ (List.mem_of_getElem? (i := 98) rfl)
theorem w_99 {Z : State} {a0 : Array Value} (hw : ∀ d ∈ tables_1, d.before a0 Z = true) : (Jvm.Cond.publicMethod ({ cls := "java/util/ArrayList", name := "size", desc := "()I" } : Jvm.MethodName)).before a0 Z = true := hw _ (List.mem_of_getElem? (i := 99) rfl)
theorem w_100 {Z : State} {a0 : Array Value} (hw : ∀ d ∈ tables_1, d.before a0 Z = true) : (Jvm.Cond.unhidden "java/util/ArrayList" "size" "()I").before a0 Z = true := hw _ (List.mem_of_getElem? (i := 100) rfl)
theorem w_101 {Z : State} {a0 : Array Value} (hw : ∀ d ∈ tables_1, d.before a0 Z = true) : (Jvm.Cond.code ({ cls := "java/util/ArrayList", name := "size", desc := "()I" } : Jvm.MethodName) jdk_38_method_8_code (1 : Nat) (Option.some Jvm.ClassFile.FieldType.int)).before a0 Z = true := hw _ (List.mem_of_getElem? (i := 101) rfl)
theorem pd_0 : parseMethodDescriptor "()V" = some ⟨[], none⟩ := by decide +kernel
theorem pd_1 : parseMethodDescriptor "(II)I" = some ⟨[.int, .int], some .int⟩ := by decide +kernel
theorem pd_2 : parseMethodDescriptor "(I)[Ljava/lang/Object;" = some ⟨[.int], some (.array (.object "java/lang/Object"))⟩ := by decide +kernel
theorem pd_3 : parseMethodDescriptor "()[Ljava/lang/Object;" = some ⟨[], some (.array (.object "java/lang/Object"))⟩ := by decide +kernel
theorem pd_4 : parseMethodDescriptor "(Ljava/lang/Object;[Ljava/lang/Object;I)V" = some ⟨[(.object "java/lang/Object"), (.array (.object "java/lang/Object")), .int], none⟩ := by decide +kernel
theorem pd_5 : parseMethodDescriptor "()I" = some ⟨[], some .int⟩ := by decide +kernel
theorem pd_6 : parseMethodDescriptor "(Ljava/util/List;)V" = some ⟨[(.object "java/util/List")], none⟩ := by decide +kernel
theorem pd_7 : parseMethodDescriptor "(Ljava/lang/Object;)Z" = some ⟨[(.object "java/lang/Object")], some .boolean⟩ := by decide +kernel
theorem pd_8 : parseMethodDescriptor "(Ljava/util/List;ILjava/util/List;)V" = some ⟨[(.object "java/util/List"), .int, (.object "java/util/List")], none⟩ := by decide +kernel
theorem pd_9 : parseMethodDescriptor "()Z" = some ⟨[], some .boolean⟩ := by decide +kernel
theorem d10_0 : decode jdk_38_method_6_code 0 = .ok (.aload_n 0, 1) := by decide +kernel
theorem d10_1 : decode jdk_38_method_6_code 1 = .ok (.getfield 9, 3) := by decide +kernel
theorem d10_10 : decode jdk_38_method_6_code 10 = .ok (.aload_n 0, 1) := by decide +kernel
theorem d10_11 : decode jdk_38_method_6_code 11 = .ok (.getfield 9, 3) := by decide +kernel
theorem d10_14 : decode jdk_38_method_6_code 14 = .ok (.getstatic 39, 3) := by decide +kernel
theorem d10_17 : decode jdk_38_method_6_code 17 = .ok (.if_acmp .eq 28, 3) := by decide +kernel
theorem d10_4 : decode jdk_38_method_6_code 4 = .ok (.arraylength, 1) := by decide +kernel
theorem d10_45 : decode jdk_38_method_6_code 45 = .ok (.aload_n 0, 1) := by decide +kernel
theorem d10_46 : decode jdk_38_method_6_code 46 = .ok (.bipush 10, 2) := by decide +kernel
theorem d10_48 : decode jdk_38_method_6_code 48 = .ok (.iload_n 1, 1) := by decide +kernel
theorem d10_49 : decode jdk_38_method_6_code 49 = .ok (.invokestatic 79, 3) := by decide +kernel
theorem d10_5 : decode jdk_38_method_6_code 5 = .ok (.istore_n 2, 1) := by decide +kernel
theorem d10_52 : decode jdk_38_method_6_code 52 = .ok (.anewarray 7, 3) := by decide +kernel
theorem d10_55 : decode jdk_38_method_6_code 55 = .ok (.dup_x1, 1) := by decide +kernel
theorem d10_56 : decode jdk_38_method_6_code 56 = .ok (.putfield 9, 3) := by decide +kernel
theorem d10_59 : decode jdk_38_method_6_code 59 = .ok (.areturn, 1) := by decide +kernel
theorem d10_6 : decode jdk_38_method_6_code 6 = .ok (.iload_n 2, 1) := by decide +kernel
theorem d10_7 : decode jdk_38_method_6_code 7 = .ok (.ifCond .gt 13, 3) := by decide +kernel
theorem d11_0 : decode jdk_29_method_65_code 0 = .ok (.iload_n 0, 1) := by decide +kernel
theorem d11_1 : decode jdk_29_method_65_code 1 = .ok (.iload_n 1, 1) := by decide +kernel
theorem d11_10 : decode jdk_29_method_65_code 10 = .ok (.ireturn, 1) := by decide +kernel
theorem d11_2 : decode jdk_29_method_65_code 2 = .ok (.if_icmp .lt 7, 3) := by decide +kernel
theorem d11_5 : decode jdk_29_method_65_code 5 = .ok (.iload_n 0, 1) := by decide +kernel
theorem d11_6 : decode jdk_29_method_65_code 6 = .ok (.goto 4, 3) := by decide +kernel
theorem d11_9 : decode jdk_29_method_65_code 9 = .ok (.iload_n 1, 1) := by decide +kernel
theorem d12_0 : decode prog_45_method_1_code 0 = .ok (.aload_n 0, 1) := by decide +kernel
theorem d12_1 : decode prog_45_method_1_code 1 = .ok (.invokespecial 1, 3) := by decide +kernel
theorem d12_10 : decode prog_45_method_1_code 10 = .ok (.if_icmp .lt 13, 3) := by decide +kernel
theorem d12_13 : decode prog_45_method_1_code 13 = .ok (.aload_n 1, 1) := by decide +kernel
theorem d12_14 : decode prog_45_method_1_code 14 = .ok (.invokeinterface 7 1, 5) := by decide +kernel
theorem d12_19 : decode prog_45_method_1_code 19 = .ok (.iconst 1, 1) := by decide +kernel
theorem d12_20 : decode prog_45_method_1_code 20 = .ok (.if_icmp .eq 23, 3) := by decide +kernel
theorem d12_4 : decode prog_45_method_1_code 4 = .ok (.iload_n 2, 1) := by decide +kernel
theorem d12_43 : decode prog_45_method_1_code 43 = .ok (.aload_n 0, 1) := by decide +kernel
theorem d12_44 : decode prog_45_method_1_code 44 = .ok (.aload_n 1, 1) := by decide +kernel
theorem d12_45 : decode prog_45_method_1_code 45 = .ok (.putfield 22, 3) := by decide +kernel
theorem d12_48 : decode prog_45_method_1_code 48 = .ok (.aload_n 0, 1) := by decide +kernel
theorem d12_49 : decode prog_45_method_1_code 49 = .ok (.iload_n 2, 1) := by decide +kernel
theorem d12_5 : decode prog_45_method_1_code 5 = .ok (.ifCond .eq 38, 3) := by decide +kernel
theorem d12_50 : decode prog_45_method_1_code 50 = .ok (.putfield 28, 3) := by decide +kernel
theorem d12_53 : decode prog_45_method_1_code 53 = .ok (.aload_n 0, 1) := by decide +kernel
theorem d12_54 : decode prog_45_method_1_code 54 = .ok (.aload_n 3, 1) := by decide +kernel
theorem d12_55 : decode prog_45_method_1_code 55 = .ok (.putfield 32, 3) := by decide +kernel
theorem d12_58 : decode prog_45_method_1_code 58 = .ok (.return_, 1) := by decide +kernel
theorem d12_8 : decode prog_45_method_1_code 8 = .ok (.iload_n 2, 1) := by decide +kernel
theorem d12_9 : decode prog_45_method_1_code 9 = .ok (.iconst 2, 1) := by decide +kernel
theorem d13_0 : decode prog_45_method_4_code 0 = .ok (.aload_n 0, 1) := by decide +kernel
theorem d13_1 : decode prog_45_method_4_code 1 = .ok (.getfield 28, 3) := by decide +kernel
theorem d13_11 : decode prog_45_method_4_code 11 = .ok (.iconst 0, 1) := by decide +kernel
theorem d13_12 : decode prog_45_method_4_code 12 = .ok (.ireturn, 1) := by decide +kernel
theorem d13_4 : decode prog_45_method_4_code 4 = .ok (.ifCond .eq 7, 3) := by decide +kernel
theorem d13_7 : decode prog_45_method_4_code 7 = .ok (.iconst 1, 1) := by decide +kernel
theorem d13_8 : decode prog_45_method_4_code 8 = .ok (.goto 4, 3) := by decide +kernel
theorem d14_0 : decode jdk_38_method_8_code 0 = .ok (.aload_n 0, 1) := by decide +kernel
theorem d14_1 : decode jdk_38_method_8_code 1 = .ok (.getfield 48, 3) := by decide +kernel
theorem d14_4 : decode jdk_38_method_8_code 4 = .ok (.ireturn, 1) := by decide +kernel
theorem d1_0 : decode jdk_38_method_2_code 0 = .ok (.aload_n 0, 1) := by decide +kernel
theorem d1_1 : decode jdk_38_method_2_code 1 = .ok (.invokespecial 1, 3) := by decide +kernel
theorem d1_11 : decode jdk_38_method_2_code 11 = .ok (.return_, 1) := by decide +kernel
theorem d1_4 : decode jdk_38_method_2_code 4 = .ok (.aload_n 0, 1) := by decide +kernel
theorem d1_5 : decode jdk_38_method_2_code 5 = .ok (.getstatic 39, 3) := by decide +kernel
theorem d1_8 : decode jdk_38_method_2_code 8 = .ok (.putfield 9, 3) := by decide +kernel
theorem d2_0 : decode jdk_39_method_1_code 0 = .ok (.aload_n 0, 1) := by decide +kernel
theorem d2_1 : decode jdk_39_method_1_code 1 = .ok (.invokespecial 1, 3) := by decide +kernel
theorem d2_4 : decode jdk_39_method_1_code 4 = .ok (.aload_n 0, 1) := by decide +kernel
theorem d2_5 : decode jdk_39_method_1_code 5 = .ok (.iconst 0, 1) := by decide +kernel
theorem d2_6 : decode jdk_39_method_1_code 6 = .ok (.putfield 7, 3) := by decide +kernel
theorem d2_9 : decode jdk_39_method_1_code 9 = .ok (.return_, 1) := by decide +kernel
theorem d3_0 : decode jdk_22_method_1_code 0 = .ok (.aload_n 0, 1) := by decide +kernel
theorem d3_1 : decode jdk_22_method_1_code 1 = .ok (.invokespecial 1, 3) := by decide +kernel
theorem d3_4 : decode jdk_22_method_1_code 4 = .ok (.return_, 1) := by decide +kernel
theorem d5_0 : decode prog_46_method_1_code 0 = .ok (.aload_n 0, 1) := by decide +kernel
theorem d5_1 : decode prog_46_method_1_code 1 = .ok (.invokespecial 1, 3) := by decide +kernel
theorem d5_4 : decode prog_46_method_1_code 4 = .ok (.aload_n 0, 1) := by decide +kernel
theorem d5_5 : decode prog_46_method_1_code 5 = .ok (.aload_n 1, 1) := by decide +kernel
theorem d5_6 : decode prog_46_method_1_code 6 = .ok (.putfield 7, 3) := by decide +kernel
theorem d5_9 : decode prog_46_method_1_code 9 = .ok (.return_, 1) := by decide +kernel
theorem d6_0 : decode jdk_30_method_1_code 0 = .ok (.aload_n 0, 1) := by decide +kernel
theorem d6_1 : decode jdk_30_method_1_code 1 = .ok (.invokespecial 1, 3) := by decide +kernel
theorem d6_4 : decode jdk_30_method_1_code 4 = .ok (.return_, 1) := by decide +kernel
theorem d7_0 : decode jdk_38_method_25_code 0 = .ok (.aload_n 0, 1) := by decide +kernel
theorem d7_1 : decode jdk_38_method_25_code 1 = .ok (.dup, 1) := by decide +kernel
theorem d7_10 : decode jdk_38_method_25_code 10 = .ok (.aload_n 0, 1) := by decide +kernel
theorem d7_11 : decode jdk_38_method_25_code 11 = .ok (.aload_n 1, 1) := by decide +kernel
theorem d7_12 : decode jdk_38_method_25_code 12 = .ok (.aload_n 0, 1) := by decide +kernel
theorem d7_13 : decode jdk_38_method_25_code 13 = .ok (.getfield 9, 3) := by decide +kernel
theorem d7_16 : decode jdk_38_method_25_code 16 = .ok (.aload_n 0, 1) := by decide +kernel
theorem d7_17 : decode jdk_38_method_25_code 17 = .ok (.getfield 48, 3) := by decide +kernel
theorem d7_2 : decode jdk_38_method_25_code 2 = .ok (.getfield 63, 3) := by decide +kernel
theorem d7_20 : decode jdk_38_method_25_code 20 = .ok (.invokevirtual 131, 3) := by decide +kernel
theorem d7_23 : decode jdk_38_method_25_code 23 = .ok (.iconst 1, 1) := by decide +kernel
theorem d7_24 : decode jdk_38_method_25_code 24 = .ok (.ireturn, 1) := by decide +kernel
theorem d7_5 : decode jdk_38_method_25_code 5 = .ok (.iconst 1, 1) := by decide +kernel
theorem d7_6 : decode jdk_38_method_25_code 6 = .ok (.iadd, 1) := by decide +kernel
theorem d7_7 : decode jdk_38_method_25_code 7 = .ok (.putfield 63, 3) := by decide +kernel
theorem d8_0 : decode jdk_38_method_24_code 0 = .ok (.iload_n 3, 1) := by decide +kernel
theorem d8_1 : decode jdk_38_method_24_code 1 = .ok (.aload_n 2, 1) := by decide +kernel
theorem d8_10 : decode jdk_38_method_24_code 10 = .ok (.astore_n 2, 1) := by decide +kernel
theorem d8_11 : decode jdk_38_method_24_code 11 = .ok (.aload_n 2, 1) := by decide +kernel
theorem d8_12 : decode jdk_38_method_24_code 12 = .ok (.iload_n 3, 1) := by decide +kernel
theorem d8_13 : decode jdk_38_method_24_code 13 = .ok (.aload_n 1, 1) := by decide +kernel
theorem d8_14 : decode jdk_38_method_24_code 14 = .ok (.aastore, 1) := by decide +kernel
theorem d8_15 : decode jdk_38_method_24_code 15 = .ok (.aload_n 0, 1) := by decide +kernel
theorem d8_16 : decode jdk_38_method_24_code 16 = .ok (.iload_n 3, 1) := by decide +kernel
theorem d8_17 : decode jdk_38_method_24_code 17 = .ok (.iconst 1, 1) := by decide +kernel
theorem d8_18 : decode jdk_38_method_24_code 18 = .ok (.iadd, 1) := by decide +kernel
theorem d8_19 : decode jdk_38_method_24_code 19 = .ok (.putfield 48, 3) := by decide +kernel
theorem d8_2 : decode jdk_38_method_24_code 2 = .ok (.arraylength, 1) := by decide +kernel
theorem d8_22 : decode jdk_38_method_24_code 22 = .ok (.return_, 1) := by decide +kernel
theorem d8_3 : decode jdk_38_method_24_code 3 = .ok (.if_icmp .ne 8, 3) := by decide +kernel
theorem d8_6 : decode jdk_38_method_24_code 6 = .ok (.aload_n 0, 1) := by decide +kernel
theorem d8_7 : decode jdk_38_method_24_code 7 = .ok (.invokevirtual 129, 3) := by decide +kernel
theorem d9_0 : decode jdk_38_method_7_code 0 = .ok (.aload_n 0, 1) := by decide +kernel
theorem d9_1 : decode jdk_38_method_7_code 1 = .ok (.aload_n 0, 1) := by decide +kernel
theorem d9_10 : decode jdk_38_method_7_code 10 = .ok (.areturn, 1) := by decide +kernel
theorem d9_2 : decode jdk_38_method_7_code 2 = .ok (.getfield 48, 3) := by decide +kernel
theorem d9_5 : decode jdk_38_method_7_code 5 = .ok (.iconst 1, 1) := by decide +kernel
theorem d9_6 : decode jdk_38_method_7_code 6 = .ok (.iadd, 1) := by decide +kernel
theorem d9_7 : decode jdk_38_method_7_code 7 = .ok (.invokevirtual 69, 3) := by decide +kernel
/-- an object of class com/example/knotwork/knotwork/runfile/RunFile$BlockingKey, and what its fields hold -/
def IsBK (Z : State) (h : Heap) (a : Addr) (v_parts : Value) : Prop := Exa Z h a "com/example/knotwork/knotwork/runfile/RunFile$BlockingKey" ∧ Fld Z h a "com/example/knotwork/knotwork/runfile/RunFile$BlockingKey" "parts" "Ljava/util/List;" v_parts
theorem IsBK.exa {Z : State} {h : Heap} {a : Addr} {v_parts : Value} (O : IsBK Z h a v_parts) : Exa Z h a "com/example/knotwork/knotwork/runfile/RunFile$BlockingKey" := O.1
theorem IsBK.lt {Z : State} {h : Heap} {a : Addr} {v_parts : Value} (O : IsBK Z h a v_parts) : a < h.size := (IsBK.exa O).lt
theorem IsBK.f_parts {Z : State} {h : Heap} {a : Addr} {v_parts : Value} (O : IsBK Z h a v_parts) : Fld Z h a "com/example/knotwork/knotwork/runfile/RunFile$BlockingKey" "parts" "Ljava/util/List;" v_parts := O.2
theorem IsBK.ext {Z : State} {h h' : Heap} {a : Addr} {v_parts : Value} (E : Ext h h') (O : IsBK Z h a v_parts) : IsBK Z h' a v_parts := ⟨(O.1).ext E, (O.2).ext E⟩
theorem IsBK.keep {Z : State} {h h' : Heap} {a : Addr} {v_parts : Value} {ws : List Addr} (K : Keep h h' ws) (O : IsBK Z h a v_parts) (q : a ∉ ws) : IsBK Z h' a v_parts := ⟨(O.1).keep K, (O.2).keep K q⟩
theorem IsBK.other {Z : State} {h h' : Heap} {a b : Addr} {v_parts : Value} {sl : Nat} {v : Value} (W : Wr h h' b sl v) (O : IsBK Z h a v_parts) (q : a ≠ b) : IsBK Z h' a v_parts := ⟨(O.1).wr W, (O.2).other W (Or.inl q)⟩
theorem IsBK.s_parts {Z : State} {h h' : Heap} {a : Addr} {v_parts : Value} {v : Value} {a0 : Array Value} (hw : ∀ d ∈ tables_1, d.before a0 Z = true) (W : Wr h h' a (RoadKit.slotOf Z "com/example/knotwork/knotwork/runfile/RunFile$BlockingKey" "parts" "Ljava/util/List;") v) (O : IsBK Z h a v_parts) : IsBK Z h' a v := ⟨(O.1).wr W, (O.2).same W⟩
/-- an object of class com/example/knotwork/knotwork/runfile/RunFile$Blocking, and what its fields hold -/
def IsBl (Z : State) (h : Heap) (a : Addr) (v_keys v_window v_through : Value) : Prop := Exa Z h a "com/example/knotwork/knotwork/runfile/RunFile$Blocking" ∧ Fld Z h a "com/example/knotwork/knotwork/runfile/RunFile$Blocking" "keys" "Ljava/util/List;" v_keys ∧ Fld Z h a "com/example/knotwork/knotwork/runfile/RunFile$Blocking" "window" "I" v_window ∧ Fld Z h a "com/example/knotwork/knotwork/runfile/RunFile$Blocking" "through" "Ljava/util/List;" v_through
theorem IsBl.exa {Z : State} {h : Heap} {a : Addr} {v_keys v_window v_through : Value} (O : IsBl Z h a v_keys v_window v_through) : Exa Z h a "com/example/knotwork/knotwork/runfile/RunFile$Blocking" := O.1
theorem IsBl.lt {Z : State} {h : Heap} {a : Addr} {v_keys v_window v_through : Value} (O : IsBl Z h a v_keys v_window v_through) : a < h.size := (IsBl.exa O).lt
theorem IsBl.f_keys {Z : State} {h : Heap} {a : Addr} {v_keys v_window v_through : Value} (O : IsBl Z h a v_keys v_window v_through) : Fld Z h a "com/example/knotwork/knotwork/runfile/RunFile$Blocking" "keys" "Ljava/util/List;" v_keys := O.2.1
theorem IsBl.f_window {Z : State} {h : Heap} {a : Addr} {v_keys v_window v_through : Value} (O : IsBl Z h a v_keys v_window v_through) : Fld Z h a "com/example/knotwork/knotwork/runfile/RunFile$Blocking" "window" "I" v_window := O.2.2.1
theorem IsBl.f_through {Z : State} {h : Heap} {a : Addr} {v_keys v_window v_through : Value} (O : IsBl Z h a v_keys v_window v_through) : Fld Z h a "com/example/knotwork/knotwork/runfile/RunFile$Blocking" "through" "Ljava/util/List;" v_through := O.2.2.2
theorem IsBl.ext {Z : State} {h h' : Heap} {a : Addr} {v_keys v_window v_through : Value} (E : Ext h h') (O : IsBl Z h a v_keys v_window v_through) : IsBl Z h' a v_keys v_window v_through := ⟨(O.1).ext E, (O.2.1).ext E, (O.2.2.1).ext E, (O.2.2.2).ext E⟩
theorem IsBl.keep {Z : State} {h h' : Heap} {a : Addr} {v_keys v_window v_through : Value} {ws : List Addr} (K : Keep h h' ws) (O : IsBl Z h a v_keys v_window v_through) (q : a ∉ ws) : IsBl Z h' a v_keys v_window v_through := ⟨(O.1).keep K, (O.2.1).keep K q, (O.2.2.1).keep K q, (O.2.2.2).keep K q⟩
theorem IsBl.other {Z : State} {h h' : Heap} {a b : Addr} {v_keys v_window v_through : Value} {sl : Nat} {v : Value} (W : Wr h h' b sl v) (O : IsBl Z h a v_keys v_window v_through) (q : a ≠ b) : IsBl Z h' a v_keys v_window v_through := ⟨(O.1).wr W, (O.2.1).other W (Or.inl q), (O.2.2.1).other W (Or.inl q), (O.2.2.2).other W (Or.inl q)⟩
theorem IsBl.s_keys {Z : State} {h h' : Heap} {a : Addr} {v_keys v_window v_through : Value} {v : Value} {a0 : Array Value} (hw : ∀ d ∈ tables_1, d.before a0 Z = true) (W : Wr h h' a (RoadKit.slotOf Z "com/example/knotwork/knotwork/runfile/RunFile$Blocking" "keys" "Ljava/util/List;") v) (O : IsBl Z h a v_keys v_window v_through) : IsBl Z h' a v v_window v_through := ⟨(O.1).wr W, (O.2.1).same W, (O.2.2.1).other W (Or.inr (slot_ne (a0 := a0) (C := "com/example/knotwork/knotwork/runfile/RunFile$Blocking") (Or.inr (w_85 hw)) (Or.inr (w_83 hw)) (by decide) (t := .int) (t' := (.object "java/util/List")) (by decide) (by decide))), (O.2.2.2).other W (Or.inr (slot_ne (a0 := a0) (C := "com/example/knotwork/knotwork/runfile/RunFile$Blocking") (Or.inr (w_87 hw)) (Or.inr (w_83 hw)) (by decide) (t := (.object "java/util/List")) (t' := (.object "java/util/List")) (by decide) (by decide)))⟩
theorem IsBl.s_window {Z : State} {h h' : Heap} {a : Addr} {v_keys v_window v_through : Value} {v : Value} {a0 : Array Value} (hw : ∀ d ∈ tables_1, d.before a0 Z = true) (W : Wr h h' a (RoadKit.slotOf Z "com/example/knotwork/knotwork/runfile/RunFile$Blocking" "window" "I") v) (O : IsBl Z h a v_keys v_window v_through) : IsBl Z h' a v_keys v v_through := ⟨(O.1).wr W, (O.2.1).other W (Or.inr (slot_ne (a0 := a0) (C := "com/example/knotwork/knotwork/runfile/RunFile$Blocking") (Or.inr (w_83 hw)) (Or.inr (w_85 hw)) (by decide) (t := (.object "java/util/List")) (t' := .int) (by decide) (by decide))), (O.2.2.1).same W, (O.2.2.2).other W (Or.inr (slot_ne (a0 := a0) (C := "com/example/knotwork/knotwork/runfile/RunFile$Blocking") (Or.inr (w_87 hw)) (Or.inr (w_85 hw)) (by decide) (t := (.object "java/util/List")) (t' := .int) (by decide) (by decide)))⟩
theorem IsBl.s_through {Z : State} {h h' : Heap} {a : Addr} {v_keys v_window v_through : Value} {v : Value} {a0 : Array Value} (hw : ∀ d ∈ tables_1, d.before a0 Z = true) (W : Wr h h' a (RoadKit.slotOf Z "com/example/knotwork/knotwork/runfile/RunFile$Blocking" "through" "Ljava/util/List;") v) (O : IsBl Z h a v_keys v_window v_through) : IsBl Z h' a v_keys v_window v := ⟨(O.1).wr W, (O.2.1).other W (Or.inr (slot_ne (a0 := a0) (C := "com/example/knotwork/knotwork/runfile/RunFile$Blocking") (Or.inr (w_83 hw)) (Or.inr (w_87 hw)) (by decide) (t := (.object "java/util/List")) (t' := (.object "java/util/List")) (by decide) (by decide))), (O.2.2.1).other W (Or.inr (slot_ne (a0 := a0) (C := "com/example/knotwork/knotwork/runfile/RunFile$Blocking") (Or.inr (w_85 hw)) (Or.inr (w_87 hw)) (by decide) (t := .int) (t' := (.object "java/util/List")) (by decide) (by decide))), (O.2.2.2).same W⟩
/-- an object of class java/util/ArrayList, and what its fields hold -/
def IsAL (Z : State) (h : Heap) (a : Addr) (v_modCount v_elementData v_size : Value) : Prop := Exa Z h a "java/util/ArrayList" ∧ Fld Z h a "java/util/AbstractList" "modCount" "I" v_modCount ∧ Fld Z h a "java/util/ArrayList" "elementData" "[Ljava/lang/Object;" v_elementData ∧ Fld Z h a "java/util/ArrayList" "size" "I" v_size
theorem IsAL.exa {Z : State} {h : Heap} {a : Addr} {v_modCount v_elementData v_size : Value} (O : IsAL Z h a v_modCount v_elementData v_size) : Exa Z h a "java/util/ArrayList" := O.1
theorem IsAL.lt {Z : State} {h : Heap} {a : Addr} {v_modCount v_elementData v_size : Value} (O : IsAL Z h a v_modCount v_elementData v_size) : a < h.size := (IsAL.exa O).lt
theorem IsAL.f_modCount {Z : State} {h : Heap} {a : Addr} {v_modCount v_elementData v_size : Value} (O : IsAL Z h a v_modCount v_elementData v_size) : Fld Z h a "java/util/AbstractList" "modCount" "I" v_modCount := O.2.1
theorem IsAL.f_elementData {Z : State} {h : Heap} {a : Addr} {v_modCount v_elementData v_size : Value} (O : IsAL Z h a v_modCount v_elementData v_size) : Fld Z h a "java/util/ArrayList" "elementData" "[Ljava/lang/Object;" v_elementData := O.2.2.1
theorem IsAL.f_size {Z : State} {h : Heap} {a : Addr} {v_modCount v_elementData v_size : Value} (O : IsAL Z h a v_modCount v_elementData v_size) : Fld Z h a "java/util/ArrayList" "size" "I" v_size := O.2.2.2
theorem IsAL.ext {Z : State} {h h' : Heap} {a : Addr} {v_modCount v_elementData v_size : Value} (E : Ext h h') (O : IsAL Z h a v_modCount v_elementData v_size) : IsAL Z h' a v_modCount v_elementData v_size := ⟨(O.1).ext E, (O.2.1).ext E, (O.2.2.1).ext E, (O.2.2.2).ext E⟩
theorem IsAL.keep {Z : State} {h h' : Heap} {a : Addr} {v_modCount v_elementData v_size : Value} {ws : List Addr} (K : Keep h h' ws) (O : IsAL Z h a v_modCount v_elementData v_size) (q : a ∉ ws) : IsAL Z h' a v_modCount v_elementData v_size := ⟨(O.1).keep K, (O.2.1).keep K q, (O.2.2.1).keep K q, (O.2.2.2).keep K q⟩
theorem IsAL.other {Z : State} {h h' : Heap} {a b : Addr} {v_modCount v_elementData v_size : Value} {sl : Nat} {v : Value} (W : Wr h h' b sl v) (O : IsAL Z h a v_modCount v_elementData v_size) (q : a ≠ b) : IsAL Z h' a v_modCount v_elementData v_size := ⟨(O.1).wr W, (O.2.1).other W (Or.inl q), (O.2.2.1).other W (Or.inl q), (O.2.2.2).other W (Or.inl q)⟩
theorem IsAL.s_modCount {Z : State} {h h' : Heap} {a : Addr} {v_modCount v_elementData v_size : Value} {v : Value} {a0 : Array Value} (hw : ∀ d ∈ tables_1, d.before a0 Z = true) (W : Wr h h' a (RoadKit.slotOf Z "java/util/AbstractList" "modCount" "I") v) (O : IsAL Z h a v_modCount v_elementData v_size) : IsAL Z h' a v v_elementData v_size := ⟨(O.1).wr W, (O.2.1).same W, (O.2.2.1).other W (Or.inr (slot_ne (a0 := a0) (C := "java/util/ArrayList") (Or.inl (w_28 hw)) (Or.inl (w_25 hw)) (by decide) (t := (.array (.object "java/lang/Object"))) (t' := .int) (by decide) (by decide))), (O.2.2.2).other W (Or.inr (slot_ne (a0 := a0) (C := "java/util/ArrayList") (Or.inl (w_52 hw)) (Or.inl (w_25 hw)) (by decide) (t := .int) (t' := .int) (by decide) (by decide)))⟩
theorem IsAL.s_elementData {Z : State} {h h' : Heap} {a : Addr} {v_modCount v_elementData v_size : Value} {v : Value} {a0 : Array Value} (hw : ∀ d ∈ tables_1, d.before a0 Z = true) (W : Wr h h' a (RoadKit.slotOf Z "java/util/ArrayList" "elementData" "[Ljava/lang/Object;") v) (O : IsAL Z h a v_modCount v_elementData v_size) : IsAL Z h' a v_modCount v v_size := ⟨(O.1).wr W, (O.2.1).other W (Or.inr (slot_ne (a0 := a0) (C := "java/util/ArrayList") (Or.inl (w_25 hw)) (Or.inl (w_28 hw)) (by decide) (t := .int) (t' := (.array (.object "java/lang/Object"))) (by decide) (by decide))), (O.2.2.1).same W, (O.2.2.2).other W (Or.inr (slot_ne (a0 := a0) (C := "java/util/ArrayList") (Or.inl (w_52 hw)) (Or.inl (w_28 hw)) (by decide) (t := .int) (t' := (.array (.object "java/lang/Object"))) (by decide) (by decide)))⟩
theorem IsAL.s_size {Z : State} {h h' : Heap} {a : Addr} {v_modCount v_elementData v_size : Value} {v : Value} {a0 : Array Value} (hw : ∀ d ∈ tables_1, d.before a0 Z = true) (W : Wr h h' a (RoadKit.slotOf Z "java/util/ArrayList" "size" "I") v) (O : IsAL Z h a v_modCount v_elementData v_size) : IsAL Z h' a v_modCount v_elementData v := ⟨(O.1).wr W, (O.2.1).other W (Or.inr (slot_ne (a0 := a0) (C := "java/util/ArrayList") (Or.inl (w_25 hw)) (Or.inl (w_52 hw)) (by decide) (t := .int) (t' := .int) (by decide) (by decide))), (O.2.2.1).other W (Or.inr (slot_ne (a0 := a0) (C := "java/util/ArrayList") (Or.inl (w_28 hw)) (Or.inl (w_52 hw)) (by decide) (t := (.array (.object "java/lang/Object"))) (t' := .int) (by decide) (by decide))), (O.2.2.2).same W⟩
set_option maxRecDepth 65536 in
set_option maxHeartbeats 40000000 in
theorem rm_max (w : Bool) (l : Launch) (Z : State) (a0 : Array Value) (hw : ∀ d ∈ tables_1, d.before a0 Z = true) (x y : Int32) (h0 : Heap) (n0 : Nat) (Z0 : n0 ≤ h0.size)  :
    Met w l Z (⟨"java/lang/Math", "max", "(II)I"⟩ : MethodName) jdk_29_method_65_code 2 (some .int) [] ({ frames := 0, cells := 0, slots := 0, locals := 0 } : Room) #[(.int x), (.int y)] h0 n0 (fun v h => v = some (.int (own_max x y)) ∧ h0 = h) := by
  refine Met.of (Jvm.Free.JP.mathPlain rfl (by decide +kernel)) fun κ K => ?_
  refine WP.frame (g' := (mkF κ.m 0 #[.val (.int x), .val (.int y)] [])) (by first | (simp [entryFrame, mkF, argsToLocals, Value.category]; done) | rfl) ?_
  refine WP.meet (g' := (mkF κ.m 10 #[.val (.int x), .val (.int y)] [(.int (if x < y then y else x))])) (fun HJ => ?_) ?_
  · refine WP.iloadN K d11_0 rfl (pc' := 1) rfl ?_
    refine WP.iloadN K d11_1 rfl (pc' := 2) rfl ?_
    by_cases c1 : x < y
    · try simp only [if_pos c1] at HJ
      refine WP.icmpT K d11_2 (tlt c1).1 (by decide) (pc' := 9) (by decide) ?_
      refine WP.iloadN K d11_9 rfl (pc' := 10) rfl ?_
      exact HJ
    · try simp only [if_neg c1] at HJ
      refine WP.icmpF K d11_2 (flt c1).1 (pc' := 5) rfl ?_
      refine WP.iloadN K d11_5 rfl (pc' := 6) rfl ?_
      refine WP.goto K d11_6 (by decide) (pc' := 10) (by decide) ?_
      exact HJ
  · skip
    exact WP.retI K d11_10 (by decide) (by decide) ⟨rfl, rfl⟩
set_option maxRecDepth 65536 in
set_option maxHeartbeats 40000000 in
theorem rm_ac (w : Bool) (l : Launch) (Z : State) (a0 : Array Value) (hw : ∀ d ∈ tables_1, d.before a0 Z = true) (a : Addr) (h0 : Heap) (n0 : Nat) (Z0 : n0 ≤ h0.size)  :
    Met w l Z (⟨"java/util/AbstractCollection", "<init>", "()V"⟩ : MethodName) jdk_22_method_1_code 1 none [] ({ frames := 1, cells := 0, slots := 0, locals := 12 } : Room) #[(.ref a)] h0 n0 (fun v h => v = none ∧ h0 = h) := by
  refine Met.of (plainFor_of_name (by first | (simp [plainName, overriddenIn]; done) | decide +kernel)) fun κ K => ?_
  refine WP.frame (g' := (mkF κ.m 0 #[.val (.ref a)] [])) (by first | (simp [entryFrame, mkF, argsToLocals, Value.category]; done) | rfl) ?_
  refine WP.aloadN K d3_0 rfl rfl (pc' := 1) rfl ?_
  refine WP.initO K (w_21 hw) (w_22 hw) (w_23 hw) d3_1 rfl (by decide) (W := 0) rfl (by decide) (pc' := 4) rfl ?_
  exact WP.ret0 K d3_4 (by decide) (by decide) ⟨rfl, rfl⟩
set_option maxRecDepth 65536 in
set_option maxHeartbeats 40000000 in
theorem rm_alist (w : Bool) (l : Launch) (Z : State) (a0 : Array Value) (hw : ∀ d ∈ tables_1, d.before a0 Z = true) (al : Addr) (u1 u2 u3 : Value) (h0 : Heap) (n0 : Nat) (Z0 : n0 ≤ h0.size) (O_al : IsAL Z h0 al u1 u2 u3) (old_al : n0 ≤ al) :
    Met w l Z (⟨"java/util/AbstractList", "<init>", "()V"⟩ : MethodName) jdk_39_method_1_code 1 none [] ({ frames := 2, cells := 0, slots := 0, locals := 24 } : Room) #[(.ref al)] h0 n0 (fun v h => v = none ∧ Keep h0 h [al] ∧ IsAL Z h al (.int (0 : Int32)) u2 u3) := by
  refine Met.of (plainFor_of_name (by first | (simp [plainName, overriddenIn]; done) | decide +kernel)) fun κ K => ?_
  refine WP.frame (g' := (mkF κ.m 0 #[.val (.ref al)] [])) (by first | (simp [entryFrame, mkF, argsToLocals, Value.category]; done) | rfl) ?_
  have KP := Keep.refl h0 [al]
  refine WP.aloadN K d2_0 rfl rfl (pc' := 1) rfl ?_
  refine WP.callI K (a := al) (argsL := []) (S := []) rfl (w_15 hw) (w_16 hw) (rm_ac w l Z a0 hw al h0 n0 Z0) (w_20 hw) (w_19 hw) (by decide) rfl (lenOf pd_0 rfl) rfl (W := 0) rfl (by decide) (by decide) (k' := 0) (n' := 0) rfl rfl (by decide) (by decide) d2_1 (pc' := 4) rfl fun v h2 hq => ?_
  obtain ⟨rfl, rfl⟩ := hq
  show WP κ h0 0 0 (mkF κ.m 4 #[.val (.ref al)] [])
  refine WP.aloadN K d2_4 rfl rfl (pc' := 5) rfl ?_
  refine WP.iconst K d2_5 (v := (0 : Int32)) rfl (pc' := 6) rfl ?_
  refine WP.putF K (w_24 hw) Via.refl (IsAL.f_modCount O_al) (IsAL.exa O_al) (Or.inl (w_25 hw)) (w_4 hw) (ty := .int) (by decide) rfl rfl old_al d2_6 (pc' := 9) rfl fun h3 W3 => ?_
  have KP := Keep.wr KP W3 (Or.inl (List.mem_of_getElem? (i := 0) rfl))
  have Z0 := Nat.le_trans Z0 (Nat.le_of_eq W3.size.symm)
  have O_al := IsAL.s_modCount hw W3 O_al
  exact WP.ret0 K d2_9 (by decide) (by decide) ⟨rfl, KP, O_al⟩
set_option maxRecDepth 65536 in
set_option maxHeartbeats 40000000 in
theorem rm_al (w : Bool) (l : Launch) (Z : State) (a0 : Array Value) (hw : ∀ d ∈ tables_1, d.before a0 Z = true) (al : Addr) (u1 u2 u3 : Value) (de : Addr) (kD : ClassId) (fD : Nat → Value) (h0 : Heap) (n0 : Nat) (Z0 : n0 ≤ h0.size) (O_al : IsAL Z h0 al u1 u2 u3) (old_al : n0 ≤ al) (S_d : Sta Z Z.heap "java/util/ArrayList" "DEFAULTCAPACITY_EMPTY_ELEMENTDATA" "[Ljava/lang/Object;" (.ref de)) (A_d : Ary Z Z.heap de kD (.object "java/lang/Object") 0 fD) (OLD : Old Z n0 h0) :
    Met w l Z (⟨"java/util/ArrayList", "<init>", "()V"⟩ : MethodName) jdk_38_method_2_code 1 none [] ({ frames := 3, cells := 0, slots := 0, locals := 36 } : Room) #[(.ref al)] h0 n0 (fun v h => v = none ∧ Keep h0 h [al] ∧ IsAL Z h al (.int (0 : Int32)) (.ref de) u3) := by
  refine Met.of (plainFor_of_name (by first | (simp [plainName, overriddenIn]; done) | decide +kernel)) fun κ K => ?_
  refine WP.frame (g' := (mkF κ.m 0 #[.val (.ref al)] [])) (by first | (simp [entryFrame, mkF, argsToLocals, Value.category]; done) | rfl) ?_
  have KP := Keep.refl h0 [al]
  refine WP.aloadN K d1_0 rfl rfl (pc' := 1) rfl ?_
  refine WP.callI K (a := al) (argsL := []) (S := []) rfl (w_9 hw) (w_10 hw) (rm_alist w l Z a0 hw al u1 u2 u3 h0 n0 Z0 O_al old_al) (w_14 hw) (w_13 hw) (by decide) rfl (lenOf pd_0 rfl) rfl (W := 0) rfl (by decide) (by decide) (k' := 0) (n' := 0) rfl rfl (by decide) (by decide) d1_1 (pc' := 4) rfl fun v h4 hq => ?_
  obtain ⟨rfl, K1, O_al⟩ := hq
  have KP := Keep.trans KP K1 (allS (Or.inl (List.mem_of_getElem? (i := 0) rfl)) all0)
  have OLD := Old.keep OLD K1 (allS old_al all0)
  have Z0 := Nat.le_trans Z0 K1.1
  show WP κ h4 0 0 (mkF κ.m 4 #[.val (.ref al)] [])
  refine WP.aloadN K d1_4 rfl rfl (pc' := 5) rfl ?_
  refine WP.getS K (w_26 hw) Via.refl (Sta.ext OLD.2 S_d) d1_5 (pc' := 8) rfl ?_
  refine WP.putF K (w_27 hw) Via.refl (IsAL.f_elementData O_al) (IsAL.exa O_al) (Or.inl (w_28 hw)) (w_4 hw) (ty := (.array (.object "java/lang/Object"))) (by decide) rfl rfl old_al d1_8 (pc' := 11) rfl fun h5 W5 => ?_
  have KP := Keep.wr KP W5 (Or.inl (List.mem_of_getElem? (i := 0) rfl))
  have OLD := Old.wr OLD W5 old_al
  have Z0 := Nat.le_trans Z0 (Nat.le_of_eq W5.size.symm)
  have O_al := IsAL.s_elementData hw W5 O_al
  exact WP.ret0 K d1_11 (by decide) (by decide) ⟨rfl, KP, O_al⟩
set_option maxRecDepth 65536 in
set_option maxHeartbeats 40000000 in
theorem rm_growI (w : Bool) (l : Launch) (Z : State) (a0 : Array Value) (hw : ∀ d ∈ tables_1, d.before a0 Z = true) (al : Addr) (mc : Value) (de : Addr) (kD : ClassId) (fD : Nat → Value) (h0 : Heap) (n0 : Nat) (Z0 : n0 ≤ h0.size) (O_al : IsAL Z h0 al mc (.ref de) (.int (0 : Int32))) (old_al : n0 ≤ al) (S_d : Sta Z Z.heap "java/util/ArrayList" "DEFAULTCAPACITY_EMPTY_ELEMENTDATA" "[Ljava/lang/Object;" (.ref de)) (A_d : Ary Z Z.heap de kD (.object "java/lang/Object") 0 fD) (OLD : Old Z n0 h0) :
    Met w l Z (⟨"java/util/ArrayList", "grow", "(I)[Ljava/lang/Object;"⟩ : MethodName) jdk_38_method_6_code 4 (some (.array (.object "java/lang/Object"))) [] ({ frames := 1, cells := 1, slots := 10, locals := 14 } : Room) #[(.ref al), (.int (1 : Int32))] h0 n0 (fun v h => Keep h0 h [al] ∧ ∃ (nw : Addr) (kN : ClassId), v = some (.ref nw) ∧ h0.size ≤ nw ∧ Ovr Z kN "java/lang/Object" ∧ IsAL Z h al mc (.ref nw) (.int (0 : Int32)) ∧ Ary Z h nw kN (.object "java/lang/Object") 10 (fun _ => .null)) := by
  refine Met.of (plainFor_of_name (by first | (simp [plainName, overriddenIn]; done) | decide +kernel)) fun κ K => ?_
  refine WP.frame (g' := (mkF κ.m 0 #[.val (.ref al), .val (.int (1 : Int32)), .unset, .unset] [])) (by first | (simp [entryFrame, mkF, argsToLocals, Value.category]; done) | rfl) ?_
  have KP := Keep.refl h0 [al]
  refine WP.aloadN K d10_0 rfl rfl (pc' := 1) rfl ?_
  refine WP.getF K (w_27 hw) Via.refl (IsAL.f_elementData O_al) d10_1 (pc' := 4) rfl ?_
  refine WP.arraylength K (Ary.ext OLD.2 A_d) d10_4 (pc' := 5) rfl ?_
  show WP κ h0 0 0 (mkF κ.m 5 #[.val (.ref al), .val (.int (1 : Int32)), .unset, .unset] [(.int (0 : Int32))])
  refine WP.istoreN K d10_5 (L' := #[.val (.ref al), .val (.int (1 : Int32)), .val (.int (0 : Int32)), .unset]) rfl (pc' := 6) rfl ?_
  refine WP.iloadN K d10_6 rfl (pc' := 7) rfl ?_
  refine WP.if0F K d10_7 (by decide) (pc' := 10) rfl ?_
  refine WP.aloadN K d10_10 rfl rfl (pc' := 11) rfl ?_
  refine WP.getF K (w_27 hw) Via.refl (IsAL.f_elementData O_al) d10_11 (pc' := 14) rfl ?_
  refine WP.getS K (w_26 hw) Via.refl (Sta.ext OLD.2 S_d) d10_14 (pc' := 17) rfl ?_
  refine WP.acmpT K d10_17 rfl rfl (by simp [Jvm.Free.XT.acmp]) (by decide) (pc' := 45) (by decide) ?_
  refine WP.aloadN K d10_45 rfl rfl (pc' := 46) rfl ?_
  refine WP.bipush K d10_46 (v := (10 : Int32)) rfl (pc' := 48) rfl ?_
  refine WP.iloadN K d10_48 rfl (pc' := 49) rfl ?_
  refine WP.callS K (argsL := [(.int (10 : Int32)), (.int (1 : Int32))]) (S := [(.ref al)]) (w_68 hw) (w_69 hw) (rm_max w l Z a0 hw (10 : Int32) (1 : Int32) h0 n0 Z0) (w_71 hw) (w_70 hw) (by decide) rfl (lenOf pd_1 rfl) rfl (W := 1) rfl (by decide) (by decide) (k' := 0) (n' := 0) rfl rfl (by decide) (by decide) d10_49 (pc' := 52) rfl fun v h6 hq => ?_
  obtain ⟨rfl, rfl⟩ := hq
  show WP κ h0 0 0 (mkF κ.m 52 #[.val (.ref al), .val (.int (1 : Int32)), .val (.int (0 : Int32)), .unset] [(.int (own_max (10 : Int32) (1 : Int32))), (.ref al)])
  rw [show own_max (10 : Int32) (1 : Int32) = 10 from by decide]
  show WP κ h0 0 0 (mkF κ.m 52 #[.val (.ref al), .val (.int (1 : Int32)), .val (.int (0 : Int32)), .unset] [(.int (10 : Int32)), (.ref al)])
  refine WP.anewarray (C := "java/lang/Object") K (w_72 hw) (w_73 hw) d10_52 (N := 10) (cap := 10) rfl (Nat.le_refl _) (by decide) (k' := 1) (n' := 10) rfl rfl (by decide) (by decide) (pc' := 55) rfl fun h7 nw kA_nw g7 E7 A_nw OV_nw => ?_
  have ne_de_nw : de ≠ nw := fun z_ => by have q_ : @LT.lt Nat _ de h0.size := (Ary.lt (Ary.ext OLD.2 A_d)); have r_ : @Eq Nat de nw := z_; omega
  have ne_al_nw : al ≠ nw := fun z_ => by have q_ : @LT.lt Nat _ al h0.size := (IsAL.lt O_al); have r_ : @Eq Nat al nw := z_; omega
  have old_nw : n0 ≤ nw := by have q_ := Z0; omega
  have osz_nw : h0.size ≤ nw := by have q_ := KP.1; omega
  have O_al := IsAL.ext E7 O_al
  have KP := Keep.ext KP E7
  have OLD := Old.ext OLD E7
  have Z0 := Nat.le_trans Z0 E7.1
  refine WP.dup_x1 K d10_55 rfl rfl (pc' := 56) rfl ?_
  refine WP.putF K (w_27 hw) Via.refl (IsAL.f_elementData O_al) (IsAL.exa O_al) (Or.inl (w_28 hw)) (w_4 hw) (ty := (.array (.object "java/lang/Object"))) (by decide) rfl rfl old_al d10_56 (pc' := 59) rfl fun h8 W8 => ?_
  have A_nw := Ary.other W8 A_nw (Ne.symm ne_al_nw)
  have KP := Keep.wr KP W8 (Or.inl (List.mem_of_getElem? (i := 0) rfl))
  have OLD := Old.wr OLD W8 old_al
  have Z0 := Nat.le_trans Z0 (Nat.le_of_eq W8.size.symm)
  have O_al := IsAL.s_elementData hw W8 O_al
  exact WP.retR K rfl rfl d10_59 (by decide) (by decide) ⟨KP, nw, kA_nw, rfl, osz_nw, OV_nw, O_al, A_nw⟩
set_option maxRecDepth 65536 in
set_option maxHeartbeats 40000000 in
theorem rm_grow0 (w : Bool) (l : Launch) (Z : State) (a0 : Array Value) (hw : ∀ d ∈ tables_1, d.before a0 Z = true) (al : Addr) (mc : Value) (de : Addr) (kD : ClassId) (fD : Nat → Value) (h0 : Heap) (n0 : Nat) (Z0 : n0 ≤ h0.size) (O_al : IsAL Z h0 al mc (.ref de) (.int (0 : Int32))) (old_al : n0 ≤ al) (S_d : Sta Z Z.heap "java/util/ArrayList" "DEFAULTCAPACITY_EMPTY_ELEMENTDATA" "[Ljava/lang/Object;" (.ref de)) (A_d : Ary Z Z.heap de kD (.object "java/lang/Object") 0 fD) (OLD : Old Z n0 h0) :
    Met w l Z (⟨"java/util/ArrayList", "grow", "()[Ljava/lang/Object;"⟩ : MethodName) jdk_38_method_7_code 1 (some (.array (.object "java/lang/Object"))) [] ({ frames := 2, cells := 1, slots := 10, locals := 29 } : Room) #[(.ref al)] h0 n0 (fun v h => Keep h0 h [al] ∧ ∃ (nw : Addr) (kN : ClassId), v = some (.ref nw) ∧ h0.size ≤ nw ∧ Ovr Z kN "java/lang/Object" ∧ IsAL Z h al mc (.ref nw) (.int (0 : Int32)) ∧ Ary Z h nw kN (.object "java/lang/Object") 10 (fun _ => .null)) := by
  refine Met.of (plainFor_of_name (by first | (simp [plainName, overriddenIn]; done) | decide +kernel)) fun κ K => ?_
  refine WP.frame (g' := (mkF κ.m 0 #[.val (.ref al)] [])) (by first | (simp [entryFrame, mkF, argsToLocals, Value.category]; done) | rfl) ?_
  have KP := Keep.refl h0 [al]
  refine WP.aloadN K d9_0 rfl rfl (pc' := 1) rfl ?_
  refine WP.aloadN K d9_1 rfl rfl (pc' := 2) rfl ?_
  refine WP.getF K (w_51 hw) Via.refl (IsAL.f_size O_al) d9_2 (pc' := 5) rfl ?_
  refine WP.iconst K d9_5 (v := (1 : Int32)) rfl (pc' := 6) rfl ?_
  refine WP.iadd K d9_6 (pc' := 7) rfl ?_
  show WP κ h0 0 0 (mkF κ.m 7 #[.val (.ref al)] [(.int (1 : Int32)), (.ref al)])
  refine WP.callP K (a := al) (argsL := [(.int (1 : Int32))]) (S := []) (w_63 hw) (w_64 hw) (w_4 hw) (w_65 hw) (IsAL.exa O_al) (rm_growI w l Z a0 hw al mc de kD fD h0 n0 Z0 O_al old_al S_d A_d OLD) (w_67 hw) (w_5 hw) (by decide) rfl (lenOf pd_2 rfl) rfl (W := 0) rfl (by decide) (by decide) (k' := 1) (n' := 10) rfl rfl (by decide) (by decide) d9_7 (pc' := 10) rfl fun v h9 hq => ?_
  obtain ⟨K1, nw, kN, rfl, s_nw, OV, O_al, A_nw⟩ := hq
  have KP := Keep.trans KP K1 (allS (Or.inl (List.mem_of_getElem? (i := 0) rfl)) all0)
  have OLD := Old.keep OLD K1 (allS old_al all0)
  have Z0 := Nat.le_trans Z0 K1.1
  show WP κ h9 1 10 (mkF κ.m 10 #[.val (.ref al)] [(.ref nw)])
  exact WP.retR K rfl rfl d9_10 (by decide) (by decide) ⟨KP, nw, kN, rfl, s_nw, OV, O_al, A_nw⟩
set_option maxRecDepth 65536 in
set_option maxHeartbeats 40000000 in
theorem rm_addp0 (w : Bool) (l : Launch) (Z : State) (a0 : Array Value) (hw : ∀ d ∈ tables_1, d.before a0 Z = true) (al : Addr) (mc : Value) (ky : Addr) (kp : Value) (de : Addr) (kD : ClassId) (fD : Nat → Value) (h0 : Heap) (n0 : Nat) (Z0 : n0 ≤ h0.size) (O_al : IsAL Z h0 al mc (.ref de) (.int (0 : Int32))) (O_ky : IsBK Z h0 ky kp) (ne_k : ky ≠ al) (old_al : n0 ≤ al) (S_d : Sta Z Z.heap "java/util/ArrayList" "DEFAULTCAPACITY_EMPTY_ELEMENTDATA" "[Ljava/lang/Object;" (.ref de)) (A_d : Ary Z Z.heap de kD (.object "java/lang/Object") 0 fD) (OLD : Old Z n0 h0) :
    Met w l Z (⟨"java/util/ArrayList", "add", "(Ljava/lang/Object;[Ljava/lang/Object;I)V"⟩ : MethodName) jdk_38_method_24_code 4 none [] ({ frames := 3, cells := 1, slots := 10, locals := 41 } : Room) #[(.ref al), (.ref ky), (.ref de), (.int (0 : Int32))] h0 n0 (fun v h => v = none ∧ Keep h0 h [al] ∧ ∃ (nw : Addr) (kN : ClassId), h0.size ≤ nw ∧ Ovr Z kN "java/lang/Object" ∧ IsAL Z h al mc (.ref nw) (.int (1 : Int32)) ∧ Ary Z h nw kN (.object "java/lang/Object") 10 (upd (fun _ => .null) 0 (.ref ky))) := by
  refine Met.of (plainFor_of_name (by first | (simp [plainName, overriddenIn]; done) | decide +kernel)) fun κ K => ?_
  refine WP.frame (g' := (mkF κ.m 0 #[.val (.ref al), .val (.ref ky), .val (.ref de), .val (.int (0 : Int32))] [])) (by first | (simp [entryFrame, mkF, argsToLocals, Value.category]; done) | rfl) ?_
  have KP := Keep.refl h0 [al]
  refine WP.iloadN K d8_0 rfl (pc' := 1) rfl ?_
  refine WP.aloadN K d8_1 rfl rfl (pc' := 2) rfl ?_
  refine WP.arraylength K (Ary.ext OLD.2 A_d) d8_2 (pc' := 3) rfl ?_
  show WP κ h0 0 0 (mkF κ.m 3 #[.val (.ref al), .val (.ref ky), .val (.ref de), .val (.int (0 : Int32))] [(.int (0 : Int32)), (.int (0 : Int32))])
  refine WP.icmpF K d8_3 (by decide) (pc' := 6) rfl ?_
  refine WP.aloadN K d8_6 rfl rfl (pc' := 7) rfl ?_
  have lt_ky : @LT.lt Nat _ ky h0.size := IsBK.lt O_ky
  refine WP.callP K (a := al) (argsL := []) (S := []) (w_58 hw) (w_59 hw) (w_4 hw) (w_60 hw) (IsAL.exa O_al) (rm_grow0 w l Z a0 hw al mc de kD fD h0 n0 Z0 O_al old_al S_d A_d OLD) (w_62 hw) (w_5 hw) (by decide) rfl (lenOf pd_3 rfl) rfl (W := 0) rfl (by decide) (by decide) (k' := 1) (n' := 10) rfl rfl (by decide) (by decide) d8_7 (pc' := 10) rfl fun v h10 hq => ?_
  obtain ⟨K1, nw, kN, rfl, s_nw, OV, O_al, A_nw⟩ := hq
  have O_ky := IsBK.keep K1 O_ky (ninS ne_k nin0)
  have KP := Keep.trans KP K1 (allS (Or.inl (List.mem_of_getElem? (i := 0) rfl)) all0)
  have OLD := Old.keep OLD K1 (allS old_al all0)
  have Z0 := Nat.le_trans Z0 K1.1
  show WP κ h10 1 10 (mkF κ.m 10 #[.val (.ref al), .val (.ref ky), .val (.ref de), .val (.int (0 : Int32))] [(.ref nw)])
  have old_nw : n0 ≤ nw := by omega
  have ne_kn : ky ≠ nw := fun z_ => by have r_ : @Eq Nat ky nw := z_; omega
  refine WP.astoreN K d8_10 rfl (L' := #[.val (.ref al), .val (.ref ky), .val (.ref nw), .val (.int (0 : Int32))]) rfl (pc' := 11) rfl ?_
  refine WP.aloadN K d8_11 rfl rfl (pc' := 12) rfl ?_
  refine WP.iloadN K d8_12 rfl (pc' := 13) rfl ?_
  refine WP.aloadN K d8_13 rfl rfl (pc' := 14) rfl ?_
  refine WP.aastore K (i := 0) A_nw rfl OV (Ins.of_exa (IsBK.exa O_ky) (w_74 hw)) rfl (by decide) old_nw d8_14 (pc' := 15) rfl fun h11 W11 A_n => ?_
  have O_al := IsAL.other W11 O_al (Ary.ne (IsAL.exa O_al) A_nw (w_4 hw))
  have O_ky := IsBK.other W11 O_ky ne_kn
  have KP := Keep.wr KP W11 (Or.inr s_nw)
  have OLD := Old.wr OLD W11 old_nw
  have Z0 := Nat.le_trans Z0 (Nat.le_of_eq W11.size.symm)
  have A_nw := A_n
  refine WP.aloadN K d8_15 rfl rfl (pc' := 16) rfl ?_
  refine WP.iloadN K d8_16 rfl (pc' := 17) rfl ?_
  refine WP.iconst K d8_17 (v := (1 : Int32)) rfl (pc' := 18) rfl ?_
  refine WP.iadd K d8_18 (pc' := 19) rfl ?_
  show WP κ h11 1 10 (mkF κ.m 19 #[.val (.ref al), .val (.ref ky), .val (.ref nw), .val (.int (0 : Int32))] [(.int (1 : Int32)), (.ref al)])
  refine WP.putF K (w_51 hw) Via.refl (IsAL.f_size O_al) (IsAL.exa O_al) (Or.inl (w_52 hw)) (w_4 hw) (ty := .int) (by decide) rfl rfl old_al d8_19 (pc' := 22) rfl fun h12 W12 => ?_
  have O_ky := IsBK.other W12 O_ky ne_k
  have A_nw := Ary.other W12 A_nw (Ne.symm (Ary.ne (IsAL.exa O_al) A_nw (w_4 hw)))
  have KP := Keep.wr KP W12 (Or.inl (List.mem_of_getElem? (i := 0) rfl))
  have OLD := Old.wr OLD W12 old_al
  have Z0 := Nat.le_trans Z0 (Nat.le_of_eq W12.size.symm)
  have O_al := IsAL.s_size hw W12 O_al
  exact WP.ret0 K d8_22 (by decide) (by decide) ⟨rfl, KP, nw, kN, s_nw, OV, O_al, A_nw⟩
set_option maxRecDepth 65536 in
set_option maxHeartbeats 40000000 in
theorem rm_add0 (w : Bool) (l : Launch) (Z : State) (a0 : Array Value) (hw : ∀ d ∈ tables_1, d.before a0 Z = true) (al : Addr) (mc : Int32) (ky : Addr) (kp : Value) (de : Addr) (kD : ClassId) (fD : Nat → Value) (h0 : Heap) (n0 : Nat) (Z0 : n0 ≤ h0.size) (O_al : IsAL Z h0 al (.int mc) (.ref de) (.int (0 : Int32))) (O_ky : IsBK Z h0 ky kp) (ne_k : ky ≠ al) (old_al : n0 ≤ al) (S_d : Sta Z Z.heap "java/util/ArrayList" "DEFAULTCAPACITY_EMPTY_ELEMENTDATA" "[Ljava/lang/Object;" (.ref de)) (A_d : Ary Z Z.heap de kD (.object "java/lang/Object") 0 fD) (OLD : Old Z n0 h0) :
    Met w l Z (⟨"java/util/ArrayList", "add", "(Ljava/lang/Object;)Z"⟩ : MethodName) jdk_38_method_25_code 2 (some .boolean) [] ({ frames := 4, cells := 1, slots := 10, locals := 56 } : Room) #[(.ref al), (.ref ky)] h0 n0 (fun v h => v = some (.int 1) ∧ Keep h0 h [al] ∧ ∃ (nw : Addr) (kN : ClassId), h0.size ≤ nw ∧ Ovr Z kN "java/lang/Object" ∧ IsAL Z h al (.int (mc + (1 : Int32))) (.ref nw) (.int (1 : Int32)) ∧ Ary Z h nw kN (.object "java/lang/Object") 10 (upd (fun _ => .null) 0 (.ref ky))) := by
  refine Met.of (plainFor_of_name (by first | (simp [plainName, overriddenIn]; done) | decide +kernel)) fun κ K => ?_
  refine WP.frame (g' := (mkF κ.m 0 #[.val (.ref al), .val (.ref ky)] [])) (by first | (simp [entryFrame, mkF, argsToLocals, Value.category]; done) | rfl) ?_
  have KP := Keep.refl h0 [al]
  refine WP.aloadN K d7_0 rfl rfl (pc' := 1) rfl ?_
  refine WP.dup K d7_1 rfl (pc' := 2) rfl ?_
  refine WP.getF K (w_49 hw) (Via.of (w_50 hw)) (IsAL.f_modCount O_al) d7_2 (pc' := 5) rfl ?_
  refine WP.iconst K d7_5 (v := (1 : Int32)) rfl (pc' := 6) rfl ?_
  refine WP.iadd K d7_6 (pc' := 7) rfl ?_
  refine WP.putF K (w_49 hw) (Via.of (w_50 hw)) (IsAL.f_modCount O_al) (IsAL.exa O_al) (Or.inl (w_25 hw)) (w_4 hw) (ty := .int) (by decide) rfl rfl old_al d7_7 (pc' := 10) rfl fun h13 W13 => ?_
  have O_ky := IsBK.other W13 O_ky ne_k
  have KP := Keep.wr KP W13 (Or.inl (List.mem_of_getElem? (i := 0) rfl))
  have OLD := Old.wr OLD W13 old_al
  have Z0 := Nat.le_trans Z0 (Nat.le_of_eq W13.size.symm)
  have O_al := IsAL.s_modCount hw W13 O_al
  refine WP.aloadN K d7_10 rfl rfl (pc' := 11) rfl ?_
  refine WP.aloadN K d7_11 rfl rfl (pc' := 12) rfl ?_
  refine WP.aloadN K d7_12 rfl rfl (pc' := 13) rfl ?_
  refine WP.getF K (w_27 hw) Via.refl (IsAL.f_elementData O_al) d7_13 (pc' := 16) rfl ?_
  refine WP.aloadN K d7_16 rfl rfl (pc' := 17) rfl ?_
  refine WP.getF K (w_51 hw) Via.refl (IsAL.f_size O_al) d7_17 (pc' := 20) rfl ?_
  have hz0 : h0.size ≤ h13.size := KP.1
  refine WP.callP K (a := al) (argsL := [(.ref ky), (.ref de), (.int (0 : Int32))]) (S := []) (w_53 hw) (w_54 hw) (w_4 hw) (w_55 hw) (IsAL.exa O_al) (rm_addp0 w l Z a0 hw al (.int (mc + (1 : Int32))) ky kp de kD fD h13 n0 Z0 O_al O_ky ne_k old_al S_d A_d OLD) (w_57 hw) (w_5 hw) (by decide) rfl (lenOf pd_4 rfl) rfl (W := 0) rfl (by decide) (by decide) (k' := 1) (n' := 10) rfl rfl (by decide) (by decide) d7_20 (pc' := 23) rfl fun v h14 hq => ?_
  obtain ⟨rfl, K1, nw, kN, s_nw, OV, O_al, A_nw⟩ := hq
  have O_ky := IsBK.keep K1 O_ky (ninS ne_k nin0)
  have KP := Keep.trans KP K1 (allS (Or.inl (List.mem_of_getElem? (i := 0) rfl)) all0)
  have OLD := Old.keep OLD K1 (allS old_al all0)
  have Z0 := Nat.le_trans Z0 K1.1
  show WP κ h14 1 10 (mkF κ.m 23 #[.val (.ref al), .val (.ref ky)] [])
  refine WP.iconst K d7_23 (v := (1 : Int32)) rfl (pc' := 24) rfl ?_
  exact WP.retN K (ty := .boolean) (by decide) d7_24 (by decide) (by decide) ⟨rfl, KP, nw, kN, Nat.le_trans hz0 s_nw, OV, O_al, A_nw⟩
set_option maxRecDepth 65536 in
set_option maxHeartbeats 40000000 in
theorem rm_addp1 (w : Bool) (l : Launch) (Z : State) (a0 : Array Value) (hw : ∀ d ∈ tables_1, d.before a0 Z = true) (al : Addr) (mc : Value) (ky : Addr) (kp : Value) (el : Addr) (kE : ClassId) (f : Nat → Value) (h0 : Heap) (n0 : Nat) (Z0 : n0 ≤ h0.size) (O_al : IsAL Z h0 al mc (.ref el) (.int (1 : Int32))) (O_ky : IsBK Z h0 ky kp) (ne_k : ky ≠ al) (ne_ke : ky ≠ el) (old_al : n0 ≤ al) (A_el : Ary Z h0 el kE (.object "java/lang/Object") 10 f) (OV : Ovr Z kE "java/lang/Object") (old_el : n0 ≤ el) :
    Met w l Z (⟨"java/util/ArrayList", "add", "(Ljava/lang/Object;[Ljava/lang/Object;I)V"⟩ : MethodName) jdk_38_method_24_code 4 none [] ({ frames := 0, cells := 0, slots := 0, locals := 0 } : Room) #[(.ref al), (.ref ky), (.ref el), (.int (1 : Int32))] h0 n0 (fun v h => v = none ∧ Keep h0 h [al, el] ∧ IsAL Z h al mc (.ref el) (.int (2 : Int32)) ∧ Ary Z h el kE (.object "java/lang/Object") 10 (upd f 1 (.ref ky))) := by
  refine Met.of (plainFor_of_name (by first | (simp [plainName, overriddenIn]; done) | decide +kernel)) fun κ K => ?_
  refine WP.frame (g' := (mkF κ.m 0 #[.val (.ref al), .val (.ref ky), .val (.ref el), .val (.int (1 : Int32))] [])) (by first | (simp [entryFrame, mkF, argsToLocals, Value.category]; done) | rfl) ?_
  have KP := Keep.refl h0 [al, el]
  refine WP.iloadN K d8_0 rfl (pc' := 1) rfl ?_
  refine WP.aloadN K d8_1 rfl rfl (pc' := 2) rfl ?_
  refine WP.arraylength K A_el d8_2 (pc' := 3) rfl ?_
  show WP κ h0 0 0 (mkF κ.m 3 #[.val (.ref al), .val (.ref ky), .val (.ref el), .val (.int (1 : Int32))] [(.int (10 : Int32)), (.int (1 : Int32))])
  refine WP.icmpT K d8_3 (by decide) (by decide) (pc' := 11) (by decide) ?_
  refine WP.aloadN K d8_11 rfl rfl (pc' := 12) rfl ?_
  refine WP.iloadN K d8_12 rfl (pc' := 13) rfl ?_
  refine WP.aloadN K d8_13 rfl rfl (pc' := 14) rfl ?_
  refine WP.aastore K (i := 1) A_el rfl OV (Ins.of_exa (IsBK.exa O_ky) (w_74 hw)) rfl (by decide) old_el d8_14 (pc' := 15) rfl fun h15 W15 A_n => ?_
  have O_al := IsAL.other W15 O_al (Ary.ne (IsAL.exa O_al) A_el (w_4 hw))
  have O_ky := IsBK.other W15 O_ky ne_ke
  have KP := Keep.wr KP W15 (Or.inl (List.mem_of_getElem? (i := 1) rfl))
  have Z0 := Nat.le_trans Z0 (Nat.le_of_eq W15.size.symm)
  have A_el := A_n
  refine WP.aloadN K d8_15 rfl rfl (pc' := 16) rfl ?_
  refine WP.iloadN K d8_16 rfl (pc' := 17) rfl ?_
  refine WP.iconst K d8_17 (v := (1 : Int32)) rfl (pc' := 18) rfl ?_
  refine WP.iadd K d8_18 (pc' := 19) rfl ?_
  show WP κ h15 0 0 (mkF κ.m 19 #[.val (.ref al), .val (.ref ky), .val (.ref el), .val (.int (1 : Int32))] [(.int (2 : Int32)), (.ref al)])
  refine WP.putF K (w_51 hw) Via.refl (IsAL.f_size O_al) (IsAL.exa O_al) (Or.inl (w_52 hw)) (w_4 hw) (ty := .int) (by decide) rfl rfl old_al d8_19 (pc' := 22) rfl fun h16 W16 => ?_
  have O_ky := IsBK.other W16 O_ky ne_k
  have A_el := Ary.other W16 A_el (Ne.symm (Ary.ne (IsAL.exa O_al) A_el (w_4 hw)))
  have KP := Keep.wr KP W16 (Or.inl (List.mem_of_getElem? (i := 0) rfl))
  have Z0 := Nat.le_trans Z0 (Nat.le_of_eq W16.size.symm)
  have O_al := IsAL.s_size hw W16 O_al
  exact WP.ret0 K d8_22 (by decide) (by decide) ⟨rfl, KP, O_al, A_el⟩
set_option maxRecDepth 65536 in
set_option maxHeartbeats 40000000 in
theorem rm_add1 (w : Bool) (l : Launch) (Z : State) (a0 : Array Value) (hw : ∀ d ∈ tables_1, d.before a0 Z = true) (al : Addr) (mc : Int32) (ky : Addr) (kp : Value) (el : Addr) (kE : ClassId) (f : Nat → Value) (h0 : Heap) (n0 : Nat) (Z0 : n0 ≤ h0.size) (O_al : IsAL Z h0 al (.int mc) (.ref el) (.int (1 : Int32))) (O_ky : IsBK Z h0 ky kp) (ne_k : ky ≠ al) (ne_ke : ky ≠ el) (old_al : n0 ≤ al) (A_el : Ary Z h0 el kE (.object "java/lang/Object") 10 f) (OV : Ovr Z kE "java/lang/Object") (old_el : n0 ≤ el) :
    Met w l Z (⟨"java/util/ArrayList", "add", "(Ljava/lang/Object;)Z"⟩ : MethodName) jdk_38_method_25_code 2 (some .boolean) [] ({ frames := 1, cells := 0, slots := 0, locals := 15 } : Room) #[(.ref al), (.ref ky)] h0 n0 (fun v h => v = some (.int 1) ∧ Keep h0 h [al, el] ∧ IsAL Z h al (.int (mc + (1 : Int32))) (.ref el) (.int (2 : Int32)) ∧ Ary Z h el kE (.object "java/lang/Object") 10 (upd f 1 (.ref ky))) := by
  refine Met.of (plainFor_of_name (by first | (simp [plainName, overriddenIn]; done) | decide +kernel)) fun κ K => ?_
  refine WP.frame (g' := (mkF κ.m 0 #[.val (.ref al), .val (.ref ky)] [])) (by first | (simp [entryFrame, mkF, argsToLocals, Value.category]; done) | rfl) ?_
  have KP := Keep.refl h0 [al, el]
  refine WP.aloadN K d7_0 rfl rfl (pc' := 1) rfl ?_
  refine WP.dup K d7_1 rfl (pc' := 2) rfl ?_
  refine WP.getF K (w_49 hw) (Via.of (w_50 hw)) (IsAL.f_modCount O_al) d7_2 (pc' := 5) rfl ?_
  refine WP.iconst K d7_5 (v := (1 : Int32)) rfl (pc' := 6) rfl ?_
  refine WP.iadd K d7_6 (pc' := 7) rfl ?_
  refine WP.putF K (w_49 hw) (Via.of (w_50 hw)) (IsAL.f_modCount O_al) (IsAL.exa O_al) (Or.inl (w_25 hw)) (w_4 hw) (ty := .int) (by decide) rfl rfl old_al d7_7 (pc' := 10) rfl fun h17 W17 => ?_
  have O_ky := IsBK.other W17 O_ky ne_k
  have A_el := Ary.other W17 A_el (Ne.symm (Ary.ne (IsAL.exa O_al) A_el (w_4 hw)))
  have KP := Keep.wr KP W17 (Or.inl (List.mem_of_getElem? (i := 0) rfl))
  have Z0 := Nat.le_trans Z0 (Nat.le_of_eq W17.size.symm)
  have O_al := IsAL.s_modCount hw W17 O_al
  refine WP.aloadN K d7_10 rfl rfl (pc' := 11) rfl ?_
  refine WP.aloadN K d7_11 rfl rfl (pc' := 12) rfl ?_
  refine WP.aloadN K d7_12 rfl rfl (pc' := 13) rfl ?_
  refine WP.getF K (w_27 hw) Via.refl (IsAL.f_elementData O_al) d7_13 (pc' := 16) rfl ?_
  refine WP.aloadN K d7_16 rfl rfl (pc' := 17) rfl ?_
  refine WP.getF K (w_51 hw) Via.refl (IsAL.f_size O_al) d7_17 (pc' := 20) rfl ?_
  refine WP.callP K (a := al) (argsL := [(.ref ky), (.ref el), (.int (1 : Int32))]) (S := []) (w_53 hw) (w_54 hw) (w_4 hw) (w_55 hw) (IsAL.exa O_al) (rm_addp1 w l Z a0 hw al (.int (mc + (1 : Int32))) ky kp el kE f h17 n0 Z0 O_al O_ky ne_k ne_ke old_al A_el OV old_el) (w_57 hw) (w_5 hw) (by decide) rfl (lenOf pd_4 rfl) rfl (W := 0) rfl (by decide) (by decide) (k' := 0) (n' := 0) rfl rfl (by decide) (by decide) d7_20 (pc' := 23) rfl fun v h18 hq => ?_
  obtain ⟨rfl, K1, O_al, A_el⟩ := hq
  have O_ky := IsBK.keep K1 O_ky (ninS ne_k (ninS ne_ke nin0))
  have KP := Keep.trans KP K1 (allS (Or.inl (List.mem_of_getElem? (i := 0) rfl)) (allS (Or.inl (List.mem_of_getElem? (i := 1) rfl)) all0))
  have Z0 := Nat.le_trans Z0 K1.1
  show WP κ h18 0 0 (mkF κ.m 23 #[.val (.ref al), .val (.ref ky)] [])
  refine WP.iconst K d7_23 (v := (1 : Int32)) rfl (pc' := 24) rfl ?_
  exact WP.retN K (ty := .boolean) (by decide) d7_24 (by decide) (by decide) ⟨rfl, KP, O_al, A_el⟩
set_option maxRecDepth 65536 in
set_option maxHeartbeats 40000000 in
theorem rm_addp2 (w : Bool) (l : Launch) (Z : State) (a0 : Array Value) (hw : ∀ d ∈ tables_1, d.before a0 Z = true) (al : Addr) (mc : Value) (ky : Addr) (kp : Value) (el : Addr) (kE : ClassId) (f : Nat → Value) (h0 : Heap) (n0 : Nat) (Z0 : n0 ≤ h0.size) (O_al : IsAL Z h0 al mc (.ref el) (.int (2 : Int32))) (O_ky : IsBK Z h0 ky kp) (ne_k : ky ≠ al) (ne_ke : ky ≠ el) (old_al : n0 ≤ al) (A_el : Ary Z h0 el kE (.object "java/lang/Object") 10 f) (OV : Ovr Z kE "java/lang/Object") (old_el : n0 ≤ el) :
    Met w l Z (⟨"java/util/ArrayList", "add", "(Ljava/lang/Object;[Ljava/lang/Object;I)V"⟩ : MethodName) jdk_38_method_24_code 4 none [] ({ frames := 0, cells := 0, slots := 0, locals := 0 } : Room) #[(.ref al), (.ref ky), (.ref el), (.int (2 : Int32))] h0 n0 (fun v h => v = none ∧ Keep h0 h [al, el] ∧ IsAL Z h al mc (.ref el) (.int (3 : Int32)) ∧ Ary Z h el kE (.object "java/lang/Object") 10 (upd f 2 (.ref ky))) := by
  refine Met.of (plainFor_of_name (by first | (simp [plainName, overriddenIn]; done) | decide +kernel)) fun κ K => ?_
  refine WP.frame (g' := (mkF κ.m 0 #[.val (.ref al), .val (.ref ky), .val (.ref el), .val (.int (2 : Int32))] [])) (by first | (simp [entryFrame, mkF, argsToLocals, Value.category]; done) | rfl) ?_
  have KP := Keep.refl h0 [al, el]
  refine WP.iloadN K d8_0 rfl (pc' := 1) rfl ?_
  refine WP.aloadN K d8_1 rfl rfl (pc' := 2) rfl ?_
  refine WP.arraylength K A_el d8_2 (pc' := 3) rfl ?_
  show WP κ h0 0 0 (mkF κ.m 3 #[.val (.ref al), .val (.ref ky), .val (.ref el), .val (.int (2 : Int32))] [(.int (10 : Int32)), (.int (2 : Int32))])
  refine WP.icmpT K d8_3 (by decide) (by decide) (pc' := 11) (by decide) ?_
  refine WP.aloadN K d8_11 rfl rfl (pc' := 12) rfl ?_
  refine WP.iloadN K d8_12 rfl (pc' := 13) rfl ?_
  refine WP.aloadN K d8_13 rfl rfl (pc' := 14) rfl ?_
  refine WP.aastore K (i := 2) A_el rfl OV (Ins.of_exa (IsBK.exa O_ky) (w_74 hw)) rfl (by decide) old_el d8_14 (pc' := 15) rfl fun h19 W19 A_n => ?_
  have O_al := IsAL.other W19 O_al (Ary.ne (IsAL.exa O_al) A_el (w_4 hw))
  have O_ky := IsBK.other W19 O_ky ne_ke
  have KP := Keep.wr KP W19 (Or.inl (List.mem_of_getElem? (i := 1) rfl))
  have Z0 := Nat.le_trans Z0 (Nat.le_of_eq W19.size.symm)
  have A_el := A_n
  refine WP.aloadN K d8_15 rfl rfl (pc' := 16) rfl ?_
  refine WP.iloadN K d8_16 rfl (pc' := 17) rfl ?_
  refine WP.iconst K d8_17 (v := (1 : Int32)) rfl (pc' := 18) rfl ?_
  refine WP.iadd K d8_18 (pc' := 19) rfl ?_
  show WP κ h19 0 0 (mkF κ.m 19 #[.val (.ref al), .val (.ref ky), .val (.ref el), .val (.int (2 : Int32))] [(.int (3 : Int32)), (.ref al)])
  refine WP.putF K (w_51 hw) Via.refl (IsAL.f_size O_al) (IsAL.exa O_al) (Or.inl (w_52 hw)) (w_4 hw) (ty := .int) (by decide) rfl rfl old_al d8_19 (pc' := 22) rfl fun h20 W20 => ?_
  have O_ky := IsBK.other W20 O_ky ne_k
  have A_el := Ary.other W20 A_el (Ne.symm (Ary.ne (IsAL.exa O_al) A_el (w_4 hw)))
  have KP := Keep.wr KP W20 (Or.inl (List.mem_of_getElem? (i := 0) rfl))
  have Z0 := Nat.le_trans Z0 (Nat.le_of_eq W20.size.symm)
  have O_al := IsAL.s_size hw W20 O_al
  exact WP.ret0 K d8_22 (by decide) (by decide) ⟨rfl, KP, O_al, A_el⟩
set_option maxRecDepth 65536 in
set_option maxHeartbeats 40000000 in
theorem rm_add2 (w : Bool) (l : Launch) (Z : State) (a0 : Array Value) (hw : ∀ d ∈ tables_1, d.before a0 Z = true) (al : Addr) (mc : Int32) (ky : Addr) (kp : Value) (el : Addr) (kE : ClassId) (f : Nat → Value) (h0 : Heap) (n0 : Nat) (Z0 : n0 ≤ h0.size) (O_al : IsAL Z h0 al (.int mc) (.ref el) (.int (2 : Int32))) (O_ky : IsBK Z h0 ky kp) (ne_k : ky ≠ al) (ne_ke : ky ≠ el) (old_al : n0 ≤ al) (A_el : Ary Z h0 el kE (.object "java/lang/Object") 10 f) (OV : Ovr Z kE "java/lang/Object") (old_el : n0 ≤ el) :
    Met w l Z (⟨"java/util/ArrayList", "add", "(Ljava/lang/Object;)Z"⟩ : MethodName) jdk_38_method_25_code 2 (some .boolean) [] ({ frames := 1, cells := 0, slots := 0, locals := 15 } : Room) #[(.ref al), (.ref ky)] h0 n0 (fun v h => v = some (.int 1) ∧ Keep h0 h [al, el] ∧ IsAL Z h al (.int (mc + (1 : Int32))) (.ref el) (.int (3 : Int32)) ∧ Ary Z h el kE (.object "java/lang/Object") 10 (upd f 2 (.ref ky))) := by
  refine Met.of (plainFor_of_name (by first | (simp [plainName, overriddenIn]; done) | decide +kernel)) fun κ K => ?_
  refine WP.frame (g' := (mkF κ.m 0 #[.val (.ref al), .val (.ref ky)] [])) (by first | (simp [entryFrame, mkF, argsToLocals, Value.category]; done) | rfl) ?_
  have KP := Keep.refl h0 [al, el]
  refine WP.aloadN K d7_0 rfl rfl (pc' := 1) rfl ?_
  refine WP.dup K d7_1 rfl (pc' := 2) rfl ?_
  refine WP.getF K (w_49 hw) (Via.of (w_50 hw)) (IsAL.f_modCount O_al) d7_2 (pc' := 5) rfl ?_
  refine WP.iconst K d7_5 (v := (1 : Int32)) rfl (pc' := 6) rfl ?_
  refine WP.iadd K d7_6 (pc' := 7) rfl ?_
  refine WP.putF K (w_49 hw) (Via.of (w_50 hw)) (IsAL.f_modCount O_al) (IsAL.exa O_al) (Or.inl (w_25 hw)) (w_4 hw) (ty := .int) (by decide) rfl rfl old_al d7_7 (pc' := 10) rfl fun h21 W21 => ?_
  have O_ky := IsBK.other W21 O_ky ne_k
  have A_el := Ary.other W21 A_el (Ne.symm (Ary.ne (IsAL.exa O_al) A_el (w_4 hw)))
  have KP := Keep.wr KP W21 (Or.inl (List.mem_of_getElem? (i := 0) rfl))
  have Z0 := Nat.le_trans Z0 (Nat.le_of_eq W21.size.symm)
  have O_al := IsAL.s_modCount hw W21 O_al
  refine WP.aloadN K d7_10 rfl rfl (pc' := 11) rfl ?_
  refine WP.aloadN K d7_11 rfl rfl (pc' := 12) rfl ?_
  refine WP.aloadN K d7_12 rfl rfl (pc' := 13) rfl ?_
  refine WP.getF K (w_27 hw) Via.refl (IsAL.f_elementData O_al) d7_13 (pc' := 16) rfl ?_
  refine WP.aloadN K d7_16 rfl rfl (pc' := 17) rfl ?_
  refine WP.getF K (w_51 hw) Via.refl (IsAL.f_size O_al) d7_17 (pc' := 20) rfl ?_
  refine WP.callP K (a := al) (argsL := [(.ref ky), (.ref el), (.int (2 : Int32))]) (S := []) (w_53 hw) (w_54 hw) (w_4 hw) (w_55 hw) (IsAL.exa O_al) (rm_addp2 w l Z a0 hw al (.int (mc + (1 : Int32))) ky kp el kE f h21 n0 Z0 O_al O_ky ne_k ne_ke old_al A_el OV old_el) (w_57 hw) (w_5 hw) (by decide) rfl (lenOf pd_4 rfl) rfl (W := 0) rfl (by decide) (by decide) (k' := 0) (n' := 0) rfl rfl (by decide) (by decide) d7_20 (pc' := 23) rfl fun v h22 hq => ?_
  obtain ⟨rfl, K1, O_al, A_el⟩ := hq
  have O_ky := IsBK.keep K1 O_ky (ninS ne_k (ninS ne_ke nin0))
  have KP := Keep.trans KP K1 (allS (Or.inl (List.mem_of_getElem? (i := 0) rfl)) (allS (Or.inl (List.mem_of_getElem? (i := 1) rfl)) all0))
  have Z0 := Nat.le_trans Z0 K1.1
  show WP κ h22 0 0 (mkF κ.m 23 #[.val (.ref al), .val (.ref ky)] [])
  refine WP.iconst K d7_23 (v := (1 : Int32)) rfl (pc' := 24) rfl ?_
  exact WP.retN K (ty := .boolean) (by decide) d7_24 (by decide) (by decide) ⟨rfl, KP, O_al, A_el⟩
set_option maxRecDepth 65536 in
set_option maxHeartbeats 40000000 in
theorem rm_size (w : Bool) (l : Launch) (Z : State) (a0 : Array Value) (hw : ∀ d ∈ tables_1, d.before a0 Z = true) (al : Addr) (u1 u2 : Value) (sz : Int32) (h0 : Heap) (n0 : Nat) (Z0 : n0 ≤ h0.size) (O_al : IsAL Z h0 al u1 u2 (.int sz)) :
    Met w l Z (⟨"java/util/ArrayList", "size", "()I"⟩ : MethodName) jdk_38_method_8_code 1 (some .int) [] ({ frames := 0, cells := 0, slots := 0, locals := 0 } : Room) #[(.ref al)] h0 n0 (fun v h => v = some (.int sz) ∧ h0 = h) := by
  refine Met.of (plainFor_of_name (by first | (simp [plainName, overriddenIn]; done) | decide +kernel)) fun κ K => ?_
  refine WP.frame (g' := (mkF κ.m 0 #[.val (.ref al)] [])) (by first | (simp [entryFrame, mkF, argsToLocals, Value.category]; done) | rfl) ?_
  refine WP.aloadN K d14_0 rfl rfl (pc' := 1) rfl ?_
  refine WP.getF K (w_51 hw) Via.refl (IsAL.f_size O_al) d14_1 (pc' := 4) rfl ?_
  exact WP.retI K d14_4 (by decide) (by decide) ⟨rfl, rfl⟩
set_option maxRecDepth 65536 in
set_option maxHeartbeats 40000000 in
theorem rm_rec (w : Bool) (l : Launch) (Z : State) (a0 : Array Value) (hw : ∀ d ∈ tables_1, d.before a0 Z = true) (a : Addr) (h0 : Heap) (n0 : Nat) (Z0 : n0 ≤ h0.size)  :
    Met w l Z (⟨"java/lang/Record", "<init>", "()V"⟩ : MethodName) jdk_30_method_1_code 1 none [] ({ frames := 1, cells := 0, slots := 0, locals := 12 } : Room) #[(.ref a)] h0 n0 (fun v h => v = none ∧ h0 = h) := by
  refine Met.of (plainFor_of_name (by first | (simp [plainName, overriddenIn]; done) | decide +kernel)) fun κ K => ?_
  refine WP.frame (g' := (mkF κ.m 0 #[.val (.ref a)] [])) (by first | (simp [entryFrame, mkF, argsToLocals, Value.category]; done) | rfl) ?_
  refine WP.aloadN K d6_0 rfl rfl (pc' := 1) rfl ?_
  refine WP.initO K (w_37 hw) (w_22 hw) (w_23 hw) d6_1 rfl (by decide) (W := 0) rfl (by decide) (pc' := 4) rfl ?_
  exact WP.ret0 K d6_4 (by decide) (by decide) ⟨rfl, rfl⟩
set_option maxRecDepth 65536 in
set_option maxHeartbeats 40000000 in
theorem rm_bk (w : Bool) (l : Launch) (Z : State) (a0 : Array Value) (hw : ∀ d ∈ tables_1, d.before a0 Z = true) (ky pl : Addr) (u : Value) (h0 : Heap) (n0 : Nat) (Z0 : n0 ≤ h0.size) (O_ky : IsBK Z h0 ky u) (old_ky : n0 ≤ ky) :
    Met w l Z (⟨"com/example/knotwork/knotwork/runfile/RunFile$BlockingKey", "<init>", "(Ljava/util/List;)V"⟩ : MethodName) prog_46_method_1_code 2 none [] ({ frames := 2, cells := 0, slots := 0, locals := 24 } : Room) #[(.ref ky), (.ref pl)] h0 n0 (fun v h => v = none ∧ Keep h0 h [ky] ∧ IsBK Z h ky (.ref pl)) := by
  refine Met.of (plainFor_of_name (by first | (simp [plainName, overriddenIn]; done) | decide +kernel)) fun κ K => ?_
  refine WP.frame (g' := (mkF κ.m 0 #[.val (.ref ky), .val (.ref pl)] [])) (by first | (simp [entryFrame, mkF, argsToLocals, Value.category]; done) | rfl) ?_
  have KP := Keep.refl h0 [ky]
  refine WP.aloadN K d5_0 rfl rfl (pc' := 1) rfl ?_
  refine WP.callI K (a := ky) (argsL := []) (S := []) rfl (w_32 hw) (w_33 hw) (rm_rec w l Z a0 hw ky h0 n0 Z0) (w_36 hw) (w_35 hw) (by decide) rfl (lenOf pd_0 rfl) rfl (W := 0) rfl (by decide) (by decide) (k' := 0) (n' := 0) rfl rfl (by decide) (by decide) d5_1 (pc' := 4) rfl fun v h23 hq => ?_
  obtain ⟨rfl, rfl⟩ := hq
  show WP κ h0 0 0 (mkF κ.m 4 #[.val (.ref ky), .val (.ref pl)] [])
  refine WP.aloadN K d5_4 rfl rfl (pc' := 5) rfl ?_
  refine WP.aloadN K d5_5 rfl rfl (pc' := 6) rfl ?_
  refine WP.putF K (w_38 hw) Via.refl (IsBK.f_parts O_ky) (IsBK.exa O_ky) (Or.inr ⟨(w_39 hw), rfl, rfl⟩) (w_1 hw) (ty := (.object "java/util/List")) (by decide) rfl rfl old_ky d5_6 (pc' := 9) rfl fun h24 W24 => ?_
  have KP := Keep.wr KP W24 (Or.inl (List.mem_of_getElem? (i := 0) rfl))
  have Z0 := Nat.le_trans Z0 (Nat.le_of_eq W24.size.symm)
  have O_ky := IsBK.s_parts hw W24 O_ky
  exact WP.ret0 K d5_9 (by decide) (by decide) ⟨rfl, KP, O_ky⟩
set_option maxRecDepth 65536 in
set_option maxHeartbeats 40000000 in
theorem rm_blk0 (w : Bool) (l : Launch) (Z : State) (a0 : Array Value) (hw : ∀ d ∈ tables_1, d.before a0 Z = true) (bl al tl : Addr) (u1 u2 u3 m1 m2 : Value) (sz : Int32) (h0 : Heap) (n0 : Nat) (Z0 : n0 ≤ h0.size) (O_bl : IsBl Z h0 bl u1 u2 u3) (O_al : IsAL Z h0 al m1 m2 (.int sz)) (old_bl : n0 ≤ bl)  :
    Met w l Z (⟨"com/example/knotwork/knotwork/runfile/RunFile$Blocking", "<init>", "(Ljava/util/List;ILjava/util/List;)V"⟩ : MethodName) prog_45_method_1_code 4 none [] ({ frames := 2, cells := 0, slots := 0, locals := 24 } : Room) #[(.ref bl), (.ref al), (.int (0 : Int32)), (.ref tl)] h0 n0 (fun v h => v = none ∧ Keep h0 h [bl] ∧ IsBl Z h bl (.ref al) (.int (0 : Int32)) (.ref tl)) := by
  refine Met.of (plainFor_of_name (by first | (simp [plainName, overriddenIn]; done) | decide +kernel)) fun κ K => ?_
  refine WP.frame (g' := (mkF κ.m 0 #[.val (.ref bl), .val (.ref al), .val (.int (0 : Int32)), .val (.ref tl)] [])) (by first | (simp [entryFrame, mkF, argsToLocals, Value.category]; done) | rfl) ?_
  have KP := Keep.refl h0 [bl]
  refine WP.aloadN K d12_0 rfl rfl (pc' := 1) rfl ?_
  refine WP.callI K (a := bl) (argsL := []) (S := []) rfl (w_81 hw) (w_33 hw) (rm_rec w l Z a0 hw bl h0 n0 Z0) (w_36 hw) (w_35 hw) (by decide) rfl (lenOf pd_0 rfl) rfl (W := 0) rfl (by decide) (by decide) (k' := 0) (n' := 0) rfl rfl (by decide) (by decide) d12_1 (pc' := 4) rfl fun v h25 hq => ?_
  obtain ⟨rfl, rfl⟩ := hq
  show WP κ h0 0 0 (mkF κ.m 4 #[.val (.ref bl), .val (.ref al), .val (.int (0 : Int32)), .val (.ref tl)] [])
  refine WP.iloadN K d12_4 rfl (pc' := 5) rfl ?_
  refine WP.if0T K d12_5 (by decide) (by decide) (pc' := 43) (by decide) ?_
  refine WP.aloadN K d12_43 rfl rfl (pc' := 44) rfl ?_
  refine WP.aloadN K d12_44 rfl rfl (pc' := 45) rfl ?_
  refine WP.putF K (w_82 hw) Via.refl (IsBl.f_keys O_bl) (IsBl.exa O_bl) (Or.inr ⟨(w_83 hw), rfl, rfl⟩) (w_76 hw) (ty := (.object "java/util/List")) (by decide) rfl rfl old_bl d12_45 (pc' := 48) rfl fun h26 W26 => ?_
  have O_al := IsAL.other W26 O_al (ne_exa (IsAL.exa O_al) (IsBl.exa O_bl) (by decide))
  have KP := Keep.wr KP W26 (Or.inl (List.mem_of_getElem? (i := 0) rfl))
  have Z0 := Nat.le_trans Z0 (Nat.le_of_eq W26.size.symm)
  have O_bl := IsBl.s_keys hw W26 O_bl
  refine WP.aloadN K d12_48 rfl rfl (pc' := 49) rfl ?_
  refine WP.iloadN K d12_49 rfl (pc' := 50) rfl ?_
  refine WP.putF K (w_84 hw) Via.refl (IsBl.f_window O_bl) (IsBl.exa O_bl) (Or.inr ⟨(w_85 hw), rfl, rfl⟩) (w_76 hw) (ty := .int) (by decide) rfl rfl old_bl d12_50 (pc' := 53) rfl fun h27 W27 => ?_
  have O_al := IsAL.other W27 O_al (ne_exa (IsAL.exa O_al) (IsBl.exa O_bl) (by decide))
  have KP := Keep.wr KP W27 (Or.inl (List.mem_of_getElem? (i := 0) rfl))
  have Z0 := Nat.le_trans Z0 (Nat.le_of_eq W27.size.symm)
  have O_bl := IsBl.s_window hw W27 O_bl
  refine WP.aloadN K d12_53 rfl rfl (pc' := 54) rfl ?_
  refine WP.aloadN K d12_54 rfl rfl (pc' := 55) rfl ?_
  refine WP.putF K (w_86 hw) Via.refl (IsBl.f_through O_bl) (IsBl.exa O_bl) (Or.inr ⟨(w_87 hw), rfl, rfl⟩) (w_76 hw) (ty := (.object "java/util/List")) (by decide) rfl rfl old_bl d12_55 (pc' := 58) rfl fun h28 W28 => ?_
  have O_al := IsAL.other W28 O_al (ne_exa (IsAL.exa O_al) (IsBl.exa O_bl) (by decide))
  have KP := Keep.wr KP W28 (Or.inl (List.mem_of_getElem? (i := 0) rfl))
  have Z0 := Nat.le_trans Z0 (Nat.le_of_eq W28.size.symm)
  have O_bl := IsBl.s_through hw W28 O_bl
  exact WP.ret0 K d12_58 (by decide) (by decide) ⟨rfl, KP, O_bl⟩
set_option maxRecDepth 65536 in
set_option maxHeartbeats 40000000 in
theorem rm_blk2 (w : Bool) (l : Launch) (Z : State) (a0 : Array Value) (hw : ∀ d ∈ tables_1, d.before a0 Z = true) (bl al tl : Addr) (u1 u2 u3 m1 m2 : Value) (sz : Int32) (win : Int32) (h0 : Heap) (n0 : Nat) (Z0 : n0 ≤ h0.size) (O_bl : IsBl Z h0 bl u1 u2 u3) (O_al : IsAL Z h0 al m1 m2 (.int (1 : Int32))) (old_bl : n0 ≤ bl) (hw2 : ¬ win < (2 : Int32)) (hw0 : ¬ win = (0 : Int32)) :
    Met w l Z (⟨"com/example/knotwork/knotwork/runfile/RunFile$Blocking", "<init>", "(Ljava/util/List;ILjava/util/List;)V"⟩ : MethodName) prog_45_method_1_code 4 none [] ({ frames := 2, cells := 0, slots := 0, locals := 24 } : Room) #[(.ref bl), (.ref al), (.int win), (.ref tl)] h0 n0 (fun v h => v = none ∧ Keep h0 h [bl] ∧ IsBl Z h bl (.ref al) (.int win) (.ref tl)) := by
  refine Met.of (plainFor_of_name (by first | (simp [plainName, overriddenIn]; done) | decide +kernel)) fun κ K => ?_
  refine WP.frame (g' := (mkF κ.m 0 #[.val (.ref bl), .val (.ref al), .val (.int win), .val (.ref tl)] [])) (by first | (simp [entryFrame, mkF, argsToLocals, Value.category]; done) | rfl) ?_
  have KP := Keep.refl h0 [bl]
  refine WP.aloadN K d12_0 rfl rfl (pc' := 1) rfl ?_
  refine WP.callI K (a := bl) (argsL := []) (S := []) rfl (w_81 hw) (w_33 hw) (rm_rec w l Z a0 hw bl h0 n0 Z0) (w_36 hw) (w_35 hw) (by decide) rfl (lenOf pd_0 rfl) rfl (W := 0) rfl (by decide) (by decide) (k' := 0) (n' := 0) rfl rfl (by decide) (by decide) d12_1 (pc' := 4) rfl fun v h29 hq => ?_
  obtain ⟨rfl, rfl⟩ := hq
  show WP κ h0 0 0 (mkF κ.m 4 #[.val (.ref bl), .val (.ref al), .val (.int win), .val (.ref tl)] [])
  refine WP.iloadN K d12_4 rfl (pc' := 5) rfl ?_
  refine WP.if0F K d12_5 ((if0 _ _).trans (feq hw0).1) (pc' := 8) rfl ?_
  refine WP.iloadN K d12_8 rfl (pc' := 9) rfl ?_
  refine WP.iconst K d12_9 (v := (2 : Int32)) rfl (pc' := 10) rfl ?_
  refine WP.icmpF K d12_10 (flt hw2).1 (pc' := 13) rfl ?_
  refine WP.aloadN K d12_13 rfl rfl (pc' := 14) rfl ?_
  refine WP.callF K (a := al) (argsL := []) (S := []) (w_94 hw) (w_95 hw) (fun vm0 hZ => mvT (s := κ.s.setVm vm0) hZ (w_96 hw)) (w_97 hw) (w_98 hw) (w_99 hw) (w_100 hw) (w_47 hw) (by decide) (IsAL.exa O_al) (rm_size w l Z a0 hw al m1 m2 (1 : Int32) h0 n0 Z0 O_al) (w_101 hw) (w_5 hw) (by decide) rfl (lenOf pd_5 rfl) rfl (W := 0) rfl (by decide) (by decide) (k' := 0) (n' := 0) rfl rfl (by decide) (by decide) d12_14 (pc' := 19) rfl fun v h30 hq => ?_
  obtain ⟨rfl, rfl⟩ := hq
  show WP κ h0 0 0 (mkF κ.m 19 #[.val (.ref bl), .val (.ref al), .val (.int win), .val (.ref tl)] [(.int (1 : Int32))])
  refine WP.iconst K d12_19 (v := (1 : Int32)) rfl (pc' := 20) rfl ?_
  refine WP.icmpT K d12_20 (by decide) (by decide) (pc' := 43) (by decide) ?_
  refine WP.aloadN K d12_43 rfl rfl (pc' := 44) rfl ?_
  refine WP.aloadN K d12_44 rfl rfl (pc' := 45) rfl ?_
  refine WP.putF K (w_82 hw) Via.refl (IsBl.f_keys O_bl) (IsBl.exa O_bl) (Or.inr ⟨(w_83 hw), rfl, rfl⟩) (w_76 hw) (ty := (.object "java/util/List")) (by decide) rfl rfl old_bl d12_45 (pc' := 48) rfl fun h31 W31 => ?_
  have O_al := IsAL.other W31 O_al (ne_exa (IsAL.exa O_al) (IsBl.exa O_bl) (by decide))
  have KP := Keep.wr KP W31 (Or.inl (List.mem_of_getElem? (i := 0) rfl))
  have Z0 := Nat.le_trans Z0 (Nat.le_of_eq W31.size.symm)
  have O_bl := IsBl.s_keys hw W31 O_bl
  refine WP.aloadN K d12_48 rfl rfl (pc' := 49) rfl ?_
  refine WP.iloadN K d12_49 rfl (pc' := 50) rfl ?_
  refine WP.putF K (w_84 hw) Via.refl (IsBl.f_window O_bl) (IsBl.exa O_bl) (Or.inr ⟨(w_85 hw), rfl, rfl⟩) (w_76 hw) (ty := .int) (by decide) rfl rfl old_bl d12_50 (pc' := 53) rfl fun h32 W32 => ?_
  have O_al := IsAL.other W32 O_al (ne_exa (IsAL.exa O_al) (IsBl.exa O_bl) (by decide))
  have KP := Keep.wr KP W32 (Or.inl (List.mem_of_getElem? (i := 0) rfl))
  have Z0 := Nat.le_trans Z0 (Nat.le_of_eq W32.size.symm)
  have O_bl := IsBl.s_window hw W32 O_bl
  refine WP.aloadN K d12_53 rfl rfl (pc' := 54) rfl ?_
  refine WP.aloadN K d12_54 rfl rfl (pc' := 55) rfl ?_
  refine WP.putF K (w_86 hw) Via.refl (IsBl.f_through O_bl) (IsBl.exa O_bl) (Or.inr ⟨(w_87 hw), rfl, rfl⟩) (w_76 hw) (ty := (.object "java/util/List")) (by decide) rfl rfl old_bl d12_55 (pc' := 58) rfl fun h33 W33 => ?_
  have O_al := IsAL.other W33 O_al (ne_exa (IsAL.exa O_al) (IsBl.exa O_bl) (by decide))
  have KP := Keep.wr KP W33 (Or.inl (List.mem_of_getElem? (i := 0) rfl))
  have Z0 := Nat.le_trans Z0 (Nat.le_of_eq W33.size.symm)
  have O_bl := IsBl.s_through hw W33 O_bl
  exact WP.ret0 K d12_58 (by decide) (by decide) ⟨rfl, KP, O_bl⟩
set_option maxRecDepth 65536 in
set_option maxHeartbeats 40000000 in
theorem rm_iss (w : Bool) (l : Launch) (Z : State) (a0 : Array Value) (hw : ∀ d ∈ tables_1, d.before a0 Z = true) (bl : Addr) (u1 u3 : Value) (win : Int32) (h0 : Heap) (n0 : Nat) (Z0 : n0 ≤ h0.size) (O_bl : IsBl Z h0 bl u1 (.int win) u3) :
    Met w l Z (⟨"com/example/knotwork/knotwork/runfile/RunFile$Blocking", "isSortedNeighbourhood", "()Z"⟩ : MethodName) prog_45_method_4_code 1 (some .boolean) [] ({ frames := 0, cells := 0, slots := 0, locals := 0 } : Room) #[(.ref bl)] h0 n0 (fun v h => v = some (.int (nar .boolean (if win = (0 : Int32) then (0 : Int32) else (1 : Int32)))) ∧ h0 = h) := by
  refine Met.of (plainFor_of_name (by first | (simp [plainName, overriddenIn]; done) | decide +kernel)) fun κ K => ?_
  refine WP.frame (g' := (mkF κ.m 0 #[.val (.ref bl)] [])) (by first | (simp [entryFrame, mkF, argsToLocals, Value.category]; done) | rfl) ?_
  refine WP.aloadN K d13_0 rfl rfl (pc' := 1) rfl ?_
  refine WP.getF K (w_84 hw) Via.refl (IsBl.f_window O_bl) d13_1 (pc' := 4) rfl ?_
  refine WP.meet (g' := (mkF κ.m 12 #[.val (.ref bl)] [(.int (if win = (0 : Int32) then (0 : Int32) else (1 : Int32)))])) (fun HJ => ?_) ?_
  · by_cases c34 : win = (0 : Int32)
    · try simp only [if_pos c34] at HJ
      refine WP.if0T K d13_4 ((if0 _ _).trans (teq c34).1) (by decide) (pc' := 11) (by decide) ?_
      refine WP.iconst K d13_11 (v := (0 : Int32)) rfl (pc' := 12) rfl ?_
      exact HJ
    · try simp only [if_neg c34] at HJ
      refine WP.if0F K d13_4 ((if0 _ _).trans (feq c34).1) (pc' := 7) rfl ?_
      refine WP.iconst K d13_7 (v := (1 : Int32)) rfl (pc' := 8) rfl ?_
      refine WP.goto K d13_8 (by decide) (pc' := 12) (by decide) ?_
      exact HJ
  · skip
    exact WP.retN K (ty := .boolean) (by decide) d13_12 (by decide) (by decide) ⟨rfl, rfl⟩
set_option maxRecDepth 65536 in
set_option maxHeartbeats 40000000 in
theorem rm_law (w : Bool) (l : Launch) (Z : State) (a0 : Array Value) (hw : ∀ d ∈ tables_1, d.before a0 Z = true) (p0 p1 p2 : Int32) (h0 : Heap) (n0 : Nat) (Z0 : n0 ≤ h0.size) (de : Addr) (kD : ClassId) (fD : Nat → Value) (S_d : Sta Z Z.heap "java/util/ArrayList" "DEFAULTCAPACITY_EMPTY_ELEMENTDATA" "[Ljava/lang/Object;" (.ref de)) (A_d : Ary Z Z.heap de kD (.object "java/lang/Object") 0 fD) (OLD : Old Z n0 h0) :
    Met w l Z x code maxLocals ret tables_1 room_1 #[(.int p0), (.int p1), (.int p2)] h0 n0 (fun v h => v = some (.int 1)) := by
  refine Met.of (plainFor_of_name (by first | (simp [plainName, overriddenIn]; done) | decide +kernel)) fun κ K => ?_
  have K : Cx κ w l Z "com/example/knotwork/knotwork/runfile/BlockingIsSortedNeighbourhoodPinLaw" n0 room_1 code 10 (some .boolean) "law" _ := K
  refine WP.frame (g' := (mkF κ.m 0 #[.val (.int p0), .val (.int p1), .val (.int p2), .unset, .unset, .unset, .unset, .unset, .unset, .unset] [])) (by first | (simp [entryFrame, mkF, argsToLocals, Value.category, maxLocals]; done) | rfl) ?_
  refine WP.iloadN K at_0 rfl (pc' := 1) rfl ?_
  refine WP.iconst K at_1 (v := (1 : Int32)) rfl (pc' := 2) rfl ?_
  refine WP.iand K at_2 (pc' := 3) rfl ?_
  refine WP.meet (g' := (mkF κ.m 11 #[.val (.int p0), .val (.int p1), .val (.int p2), .unset, .unset, .unset, .unset, .unset, .unset, .unset] [(.int (if (p0 &&& (1 : Int32)) = (0 : Int32) then (0 : Int32) else (1 : Int32)))])) (fun HJ => ?_) ?_
  · by_cases c35 : (p0 &&& (1 : Int32)) = (0 : Int32)
    · try simp only [if_pos c35] at HJ
      refine WP.if0T K at_3 ((if0 _ _).trans (teq c35).1) (by decide) (pc' := 10) (by decide) ?_
      refine WP.iconst K at_10 (v := (0 : Int32)) rfl (pc' := 11) rfl ?_
      exact HJ
    · try simp only [if_neg c35] at HJ
      refine WP.if0F K at_3 ((if0 _ _).trans (feq c35).1) (pc' := 6) rfl ?_
      refine WP.iconst K at_6 (v := (1 : Int32)) rfl (pc' := 7) rfl ?_
      refine WP.goto K at_7 (by decide) (pc' := 11) (by decide) ?_
      exact HJ
  · skip
    refine WP.istoreN K at_11 (L' := #[.val (.int p0), .val (.int p1), .val (.int p2), .val (.int (if (p0 &&& (1 : Int32)) = (0 : Int32) then (0 : Int32) else (1 : Int32))), .unset, .unset, .unset, .unset, .unset, .unset]) rfl (pc' := 12) rfl ?_
    refine WP.iloadN K at_12 rfl (pc' := 13) rfl ?_
    by_cases cm : (p0 &&& (1 : Int32)) = (0 : Int32)
    · refine WP.if0T K at_13 (by rw [if_pos cm]; decide) (by decide) (pc' := 24) (by decide) ?_
      refine WP.iconst K at_24 (v := (0 : Int32)) rfl (pc' := 25) rfl ?_
      refine WP.istore K at_25 (L' := #[.val (.int p0), .val (.int p1), .val (.int p2), .val (.int (if (p0 &&& (1 : Int32)) = (0 : Int32) then (0 : Int32) else (1 : Int32))), .val (.int (0 : Int32)), .unset, .unset, .unset, .unset, .unset]) rfl (pc' := 27) rfl ?_
      refine WP.iloadN K at_27 rfl (pc' := 28) rfl ?_
      refine WP.if0T K at_28 (by rw [if_pos cm]; decide) (by decide) (pc' := 35) (by decide) ?_
      refine WP.iloadN K at_35 rfl (pc' := 36) rfl ?_
      refine WP.iconst K at_36 (v := (3 : Int32)) rfl (pc' := 37) rfl ?_
      refine WP.iand K at_37 (pc' := 38) rfl ?_
      refine WP.istore K at_38 (L' := #[.val (.int p0), .val (.int p1), .val (.int p2), .val (.int (if (p0 &&& (1 : Int32)) = (0 : Int32) then (0 : Int32) else (1 : Int32))), .val (.int (0 : Int32)), .val (.int (p2 &&& (3 : Int32))), .unset, .unset, .unset, .unset]) rfl (pc' := 40) rfl ?_
      rw [if_pos cm]
      show WP κ h0 0 0 (mkF κ.m 40 #[.val (.int p0), .val (.int p1), .val (.int p2), .val (.int (0 : Int32)), .val (.int (0 : Int32)), .val (.int (p2 &&& (3 : Int32))), .unset, .unset, .unset, .unset] [])
      have hn := own_n4 p2
      generalize e_cnt : (p2 &&& (3 : Int32)) = cnt at hn ⊢
      rcases hn with rfl | rfl | rfl | rfl
      · show WP κ h0 0 0 (mkF κ.m 40 #[.val (.int p0), .val (.int p1), .val (.int p2), .val (.int (0 : Int32)), .val (.int (0 : Int32)), .val (.int (0 : Int32)), .unset, .unset, .unset, .unset] [])
        refine WP.new K (w_0 hw) (w_1 hw) (w_2 hw) at_40 (k' := 1) (n' := 1) rfl rfl (by decide) (by decide) (pc' := 43) rfl fun h49 ky g49 E49 X49 D49 => ?_
        have ne_de_ky : de ≠ ky := fun z_ => by have q_ : @LT.lt Nat _ de h0.size := (Ary.lt (Ary.ext OLD.2 A_d)); have r_ : @Eq Nat de ky := z_; omega
        have old_ky : n0 ≤ ky := by have q_ := Z0; omega
        have OLD := Old.ext OLD E49
        have Z0 := Nat.le_trans Z0 E49.1
        have O_ky : IsBK Z h49 ky .null := ⟨X49, D49 (O := "com/example/knotwork/knotwork/runfile/RunFile$BlockingKey") (f := "parts") (d := "Ljava/util/List;") (Or.inr (w_39 hw)) (ty := (.object "java/util/List")) (by decide)⟩
        refine WP.dup K at_43 rfl (pc' := 44) rfl ?_
        refine WP.new K (w_3 hw) (w_4 hw) (w_5 hw) at_44 (k' := 2) (n' := 4) rfl rfl (by decide) (by decide) (pc' := 47) rfl fun h50 pl g50 E50 X50 D50 => ?_
        have ne_de_pl : de ≠ pl := fun z_ => by have q_ : @LT.lt Nat _ de h49.size := (Ary.lt (Ary.ext OLD.2 A_d)); have r_ : @Eq Nat de pl := z_; omega
        have ne_ky_pl : ky ≠ pl := fun z_ => by have q_ : @LT.lt Nat _ ky h49.size := (IsBK.lt O_ky); have r_ : @Eq Nat ky pl := z_; omega
        have old_pl : n0 ≤ pl := by have q_ := Z0; omega
        have O_ky := IsBK.ext E50 O_ky
        have OLD := Old.ext OLD E50
        have Z0 := Nat.le_trans Z0 E50.1
        have O_pl : IsAL Z h50 pl (.int (0 : Int32)) .null (.int (0 : Int32)) := ⟨X50, D50 (O := "java/util/AbstractList") (f := "modCount") (d := "I") (Or.inl (w_25 hw)) (ty := .int) (by decide), D50 (O := "java/util/ArrayList") (f := "elementData") (d := "[Ljava/lang/Object;") (Or.inl (w_28 hw)) (ty := (.array (.object "java/lang/Object"))) (by decide), D50 (O := "java/util/ArrayList") (f := "size") (d := "I") (Or.inl (w_52 hw)) (ty := .int) (by decide)⟩
        refine WP.dup K at_47 rfl (pc' := 48) rfl ?_
        refine WP.callI K (a := pl) (argsL := []) (S := [(.ref pl), (.ref ky), (.ref ky)]) rfl (w_6 hw) (w_7 hw) (rm_al w l Z a0 hw pl _ _ _ de kD fD h50 n0 Z0 O_pl old_pl S_d A_d OLD) (w_8 hw) (w_5 hw) (by decide) rfl (lenOf pd_0 rfl) rfl (W := 3) rfl (by decide) (by decide) (k' := 2) (n' := 4) rfl rfl (by decide) (by decide) at_48 (pc' := 51) rfl fun v h51 hq => ?_
        obtain ⟨rfl, K0, O_pl⟩ := hq
        have O_ky := IsBK.keep K0 O_ky (ninS ne_ky_pl nin0)
        have OLD := Old.keep OLD K0 (allS old_pl all0)
        have Z0 := Nat.le_trans Z0 K0.1
        show WP κ h51 2 4 (mkF κ.m 51 #[.val (.int p0), .val (.int p1), .val (.int p2), .val (.int (0 : Int32)), .val (.int (0 : Int32)), .val (.int (0 : Int32)), .unset, .unset, .unset, .unset] [(.ref pl), (.ref ky), (.ref ky)])
        refine WP.callI K (a := ky) (argsL := [(.ref pl)]) (S := [(.ref ky)]) rfl (w_29 hw) (w_30 hw) (rm_bk w l Z a0 hw ky pl _ h51 n0 Z0 O_ky old_ky) (w_31 hw) (w_2 hw) (by decide) rfl (lenOf pd_6 rfl) rfl (W := 1) rfl (by decide) (by decide) (k' := 2) (n' := 4) rfl rfl (by decide) (by decide) at_51 (pc' := 54) rfl fun v h52 hq => ?_
        obtain ⟨rfl, K0, O_ky⟩ := hq
        have O_pl := IsAL.keep K0 O_pl (ninS (Ne.symm ne_ky_pl) nin0)
        have OLD := Old.keep OLD K0 (allS old_ky all0)
        have Z0 := Nat.le_trans Z0 K0.1
        show WP κ h52 2 4 (mkF κ.m 54 #[.val (.int p0), .val (.int p1), .val (.int p2), .val (.int (0 : Int32)), .val (.int (0 : Int32)), .val (.int (0 : Int32)), .unset, .unset, .unset, .unset] [(.ref ky)])
        refine WP.astore K at_54 rfl (L' := #[.val (.int p0), .val (.int p1), .val (.int p2), .val (.int (0 : Int32)), .val (.int (0 : Int32)), .val (.int (0 : Int32)), .val (.ref ky), .unset, .unset, .unset]) rfl (pc' := 56) rfl ?_
        refine WP.new K (w_3 hw) (w_4 hw) (w_5 hw) at_56 (k' := 3) (n' := 7) rfl rfl (by decide) (by decide) (pc' := 59) rfl fun h53 al g53 E53 X53 D53 => ?_
        have ne_de_al : de ≠ al := fun z_ => by have q_ : @LT.lt Nat _ de h52.size := (Ary.lt (Ary.ext OLD.2 A_d)); have r_ : @Eq Nat de al := z_; omega
        have ne_ky_al : ky ≠ al := fun z_ => by have q_ : @LT.lt Nat _ ky h52.size := (IsBK.lt O_ky); have r_ : @Eq Nat ky al := z_; omega
        have old_al : n0 ≤ al := by have q_ := Z0; omega
        have O_ky := IsBK.ext E53 O_ky
        have OLD := Old.ext OLD E53
        have Z0 := Nat.le_trans Z0 E53.1
        have O_al : IsAL Z h53 al (.int (0 : Int32)) .null (.int (0 : Int32)) := ⟨X53, D53 (O := "java/util/AbstractList") (f := "modCount") (d := "I") (Or.inl (w_25 hw)) (ty := .int) (by decide), D53 (O := "java/util/ArrayList") (f := "elementData") (d := "[Ljava/lang/Object;") (Or.inl (w_28 hw)) (ty := (.array (.object "java/lang/Object"))) (by decide), D53 (O := "java/util/ArrayList") (f := "size") (d := "I") (Or.inl (w_52 hw)) (ty := .int) (by decide)⟩
        refine WP.dup K at_59 rfl (pc' := 60) rfl ?_
        refine WP.callI K (a := al) (argsL := []) (S := [(.ref al)]) rfl (w_6 hw) (w_7 hw) (rm_al w l Z a0 hw al _ _ _ de kD fD h53 n0 Z0 O_al old_al S_d A_d OLD) (w_8 hw) (w_5 hw) (by decide) rfl (lenOf pd_0 rfl) rfl (W := 1) rfl (by decide) (by decide) (k' := 3) (n' := 7) rfl rfl (by decide) (by decide) at_60 (pc' := 63) rfl fun v h54 hq => ?_
        obtain ⟨rfl, K0, O_al⟩ := hq
        have O_ky := IsBK.keep K0 O_ky (ninS ne_ky_al nin0)
        have OLD := Old.keep OLD K0 (allS old_al all0)
        have Z0 := Nat.le_trans Z0 K0.1
        show WP κ h54 3 7 (mkF κ.m 63 #[.val (.int p0), .val (.int p1), .val (.int p2), .val (.int (0 : Int32)), .val (.int (0 : Int32)), .val (.int (0 : Int32)), .val (.ref ky), .unset, .unset, .unset] [(.ref al)])
        refine WP.astore K at_63 rfl (L' := #[.val (.int p0), .val (.int p1), .val (.int p2), .val (.int (0 : Int32)), .val (.int (0 : Int32)), .val (.int (0 : Int32)), .val (.ref ky), .val (.ref al), .unset, .unset]) rfl (pc' := 65) rfl ?_
        refine WP.iload K at_65 rfl (pc' := 67) rfl ?_
        refine WP.iconst K at_67 (v := (1 : Int32)) rfl (pc' := 68) rfl ?_
        refine WP.icmpT K at_68 (by decide) (by decide) (pc' := 81) (by decide) ?_
        refine WP.iload K at_81 rfl (pc' := 83) rfl ?_
        refine WP.iconst K at_83 (v := (2 : Int32)) rfl (pc' := 84) rfl ?_
        refine WP.icmpT K at_84 (by decide) (by decide) (pc' := 97) (by decide) ?_
        refine WP.iload K at_97 rfl (pc' := 99) rfl ?_
        refine WP.iconst K at_99 (v := (3 : Int32)) rfl (pc' := 100) rfl ?_
        refine WP.icmpT K at_100 (by decide) (by decide) (pc' := 113) (by decide) ?_
        refine WP.new K (w_75 hw) (w_76 hw) (w_77 hw) at_113 (k' := 4) (n' := 10) rfl rfl (by decide) (by decide) (pc' := 116) rfl fun h55 bl g55 E55 X55 D55 => ?_
        have ne_de_bl : de ≠ bl := fun z_ => by have q_ : @LT.lt Nat _ de h54.size := (Ary.lt (Ary.ext OLD.2 A_d)); have r_ : @Eq Nat de bl := z_; omega
        have ne_ky_bl : ky ≠ bl := fun z_ => by have q_ : @LT.lt Nat _ ky h54.size := (IsBK.lt O_ky); have r_ : @Eq Nat ky bl := z_; omega
        have ne_al_bl : al ≠ bl := fun z_ => by have q_ : @LT.lt Nat _ al h54.size := (IsAL.lt O_al); have r_ : @Eq Nat al bl := z_; omega
        have old_bl : n0 ≤ bl := by have q_ := Z0; omega
        have O_ky := IsBK.ext E55 O_ky
        have O_al := IsAL.ext E55 O_al
        have OLD := Old.ext OLD E55
        have Z0 := Nat.le_trans Z0 E55.1
        have O_bl : IsBl Z h55 bl .null (.int (0 : Int32)) .null := ⟨X55, D55 (O := "com/example/knotwork/knotwork/runfile/RunFile$Blocking") (f := "keys") (d := "Ljava/util/List;") (Or.inr (w_83 hw)) (ty := (.object "java/util/List")) (by decide), D55 (O := "com/example/knotwork/knotwork/runfile/RunFile$Blocking") (f := "window") (d := "I") (Or.inr (w_85 hw)) (ty := .int) (by decide), D55 (O := "com/example/knotwork/knotwork/runfile/RunFile$Blocking") (f := "through") (d := "Ljava/util/List;") (Or.inr (w_87 hw)) (ty := (.object "java/util/List")) (by decide)⟩
        refine WP.dup K at_116 rfl (pc' := 117) rfl ?_
        refine WP.aload K at_117 rfl rfl (pc' := 119) rfl ?_
        refine WP.iload K at_119 rfl (pc' := 121) rfl ?_
        refine WP.new K (w_3 hw) (w_4 hw) (w_5 hw) at_121 (k' := 5) (n' := 13) rfl rfl (by decide) (by decide) (pc' := 124) rfl fun h56 tl g56 E56 X56 D56 => ?_
        have ne_de_tl : de ≠ tl := fun z_ => by have q_ : @LT.lt Nat _ de h55.size := (Ary.lt (Ary.ext OLD.2 A_d)); have r_ : @Eq Nat de tl := z_; omega
        have ne_ky_tl : ky ≠ tl := fun z_ => by have q_ : @LT.lt Nat _ ky h55.size := (IsBK.lt O_ky); have r_ : @Eq Nat ky tl := z_; omega
        have ne_al_tl : al ≠ tl := fun z_ => by have q_ : @LT.lt Nat _ al h55.size := (IsAL.lt O_al); have r_ : @Eq Nat al tl := z_; omega
        have ne_bl_tl : bl ≠ tl := fun z_ => by have q_ : @LT.lt Nat _ bl h55.size := (IsBl.lt O_bl); have r_ : @Eq Nat bl tl := z_; omega
        have old_tl : n0 ≤ tl := by have q_ := Z0; omega
        have O_ky := IsBK.ext E56 O_ky
        have O_al := IsAL.ext E56 O_al
        have O_bl := IsBl.ext E56 O_bl
        have OLD := Old.ext OLD E56
        have Z0 := Nat.le_trans Z0 E56.1
        have O_tl : IsAL Z h56 tl (.int (0 : Int32)) .null (.int (0 : Int32)) := ⟨X56, D56 (O := "java/util/AbstractList") (f := "modCount") (d := "I") (Or.inl (w_25 hw)) (ty := .int) (by decide), D56 (O := "java/util/ArrayList") (f := "elementData") (d := "[Ljava/lang/Object;") (Or.inl (w_28 hw)) (ty := (.array (.object "java/lang/Object"))) (by decide), D56 (O := "java/util/ArrayList") (f := "size") (d := "I") (Or.inl (w_52 hw)) (ty := .int) (by decide)⟩
        refine WP.dup K at_124 rfl (pc' := 125) rfl ?_
        refine WP.callI K (a := tl) (argsL := []) (S := [(.ref tl), (.int (0 : Int32)), (.ref al), (.ref bl), (.ref bl)]) rfl (w_6 hw) (w_7 hw) (rm_al w l Z a0 hw tl _ _ _ de kD fD h56 n0 Z0 O_tl old_tl S_d A_d OLD) (w_8 hw) (w_5 hw) (by decide) rfl (lenOf pd_0 rfl) rfl (W := 5) rfl (by decide) (by decide) (k' := 5) (n' := 13) rfl rfl (by decide) (by decide) at_125 (pc' := 128) rfl fun v h57 hq => ?_
        obtain ⟨rfl, K0, O_tl⟩ := hq
        have O_ky := IsBK.keep K0 O_ky (ninS ne_ky_tl nin0)
        have O_al := IsAL.keep K0 O_al (ninS ne_al_tl nin0)
        have O_bl := IsBl.keep K0 O_bl (ninS ne_bl_tl nin0)
        have OLD := Old.keep OLD K0 (allS old_tl all0)
        have Z0 := Nat.le_trans Z0 K0.1
        show WP κ h57 5 13 (mkF κ.m 128 #[.val (.int p0), .val (.int p1), .val (.int p2), .val (.int (0 : Int32)), .val (.int (0 : Int32)), .val (.int (0 : Int32)), .val (.ref ky), .val (.ref al), .unset, .unset] [(.ref tl), (.int (0 : Int32)), (.ref al), (.ref bl), (.ref bl)])
        refine WP.callI K (a := bl) (argsL := [(.ref al), (.int (0 : Int32)), (.ref tl)]) (S := [(.ref bl)]) rfl (w_78 hw) (w_79 hw) (rm_blk0 w l Z a0 hw bl al tl _ _ _ _ _ (0 : Int32) h57 n0 Z0 O_bl O_al old_bl) (w_80 hw) (w_77 hw) (by decide) rfl (lenOf pd_8 rfl) rfl (W := 1) rfl (by decide) (by decide) (k' := 5) (n' := 13) rfl rfl (by decide) (by decide) at_128 (pc' := 131) rfl fun v h58 hq => ?_
        obtain ⟨rfl, K0, O_bl⟩ := hq
        have O_ky := IsBK.keep K0 O_ky (ninS ne_ky_bl nin0)
        have O_al := IsAL.keep K0 O_al (ninS ne_al_bl nin0)
        have O_tl := IsAL.keep K0 O_tl (ninS (Ne.symm ne_bl_tl) nin0)
        have OLD := Old.keep OLD K0 (allS old_bl all0)
        have Z0 := Nat.le_trans Z0 K0.1
        show WP κ h58 5 13 (mkF κ.m 131 #[.val (.int p0), .val (.int p1), .val (.int p2), .val (.int (0 : Int32)), .val (.int (0 : Int32)), .val (.int (0 : Int32)), .val (.ref ky), .val (.ref al), .unset, .unset] [(.ref bl)])
        refine WP.astore K at_131 rfl (L' := #[.val (.int p0), .val (.int p1), .val (.int p2), .val (.int (0 : Int32)), .val (.int (0 : Int32)), .val (.int (0 : Int32)), .val (.ref ky), .val (.ref al), .val (.ref bl), .unset]) rfl (pc' := 133) rfl ?_
        refine WP.iload K at_133 rfl (pc' := 135) rfl ?_
        refine WP.iconst K at_135 (v := (2 : Int32)) rfl (pc' := 136) rfl ?_
        refine WP.icmpT K at_136 (by decide) (by decide) (pc' := 143) (by decide) ?_
        refine WP.iconst K at_143 (v := (0 : Int32)) rfl (pc' := 144) rfl ?_
        refine WP.istore K at_144 (L' := #[.val (.int p0), .val (.int p1), .val (.int p2), .val (.int (0 : Int32)), .val (.int (0 : Int32)), .val (.int (0 : Int32)), .val (.ref ky), .val (.ref al), .val (.ref bl), .val (.int (0 : Int32))]) rfl (pc' := 146) rfl ?_
        refine WP.aload K at_146 rfl rfl (pc' := 148) rfl ?_
        refine WP.callV K (a := bl) (argsL := []) (S := []) (w_88 hw) (w_89 hw) (fun vm0 hZ => notFace_of_selects (args := #[]) (mvT (s := κ.s.setVm vm0) hZ (w_91 hw))) (w_91 hw) (w_90 hw) (by decide) (IsBl.exa O_bl) (rm_iss w l Z a0 hw bl _ _ (0 : Int32) h58 n0 Z0 O_bl) (w_92 hw) (w_77 hw) (by decide) rfl (lenOf pd_9 rfl) rfl (W := 0) rfl (by decide) (by decide) (k' := 5) (n' := 13) rfl rfl (by decide) (by decide) at_148 (pc' := 151) rfl fun v h59 hq => ?_
        obtain ⟨rfl, rfl⟩ := hq
        show WP κ h58 5 13 (mkF κ.m 151 #[.val (.int p0), .val (.int p1), .val (.int p2), .val (.int (0 : Int32)), .val (.int (0 : Int32)), .val (.int (0 : Int32)), .val (.ref ky), .val (.ref al), .val (.ref bl), .val (.int (0 : Int32))] [(.int (nar .boolean (if (0 : Int32) = (0 : Int32) then (0 : Int32) else (1 : Int32))))])
        rw [show (nar .boolean (if (0 : Int32) = (0 : Int32) then (0 : Int32) else (1 : Int32))) = (0 : Int32) from by decide]
        show WP κ h58 5 13 (mkF κ.m 151 #[.val (.int p0), .val (.int p1), .val (.int p2), .val (.int (0 : Int32)), .val (.int (0 : Int32)), .val (.int (0 : Int32)), .val (.ref ky), .val (.ref al), .val (.ref bl), .val (.int (0 : Int32))] [(.int (0 : Int32))])
        refine WP.iload K at_151 rfl (pc' := 153) rfl ?_
        refine WP.icmpF K at_153 (by decide) (pc' := 156) rfl ?_
        refine WP.iload K at_156 rfl (pc' := 158) rfl ?_
        refine WP.iloadN K at_158 rfl (pc' := 159) rfl ?_
        refine WP.icmpF K at_159 (by decide) (pc' := 162) rfl ?_
        refine WP.iconst K at_162 (v := (1 : Int32)) rfl (pc' := 163) rfl ?_
        refine WP.goto K at_163 (by decide) (pc' := 167) (by decide) ?_
        exact WP.retN K (ty := .boolean) (by decide) at_167 (by decide) (by decide) rfl
      · show WP κ h0 0 0 (mkF κ.m 40 #[.val (.int p0), .val (.int p1), .val (.int p2), .val (.int (0 : Int32)), .val (.int (0 : Int32)), .val (.int (1 : Int32)), .unset, .unset, .unset, .unset] [])
        refine WP.new K (w_0 hw) (w_1 hw) (w_2 hw) at_40 (k' := 1) (n' := 1) rfl rfl (by decide) (by decide) (pc' := 43) rfl fun h60 ky g60 E60 X60 D60 => ?_
        have ne_de_ky : de ≠ ky := fun z_ => by have q_ : @LT.lt Nat _ de h0.size := (Ary.lt (Ary.ext OLD.2 A_d)); have r_ : @Eq Nat de ky := z_; omega
        have old_ky : n0 ≤ ky := by have q_ := Z0; omega
        have OLD := Old.ext OLD E60
        have Z0 := Nat.le_trans Z0 E60.1
        have O_ky : IsBK Z h60 ky .null := ⟨X60, D60 (O := "com/example/knotwork/knotwork/runfile/RunFile$BlockingKey") (f := "parts") (d := "Ljava/util/List;") (Or.inr (w_39 hw)) (ty := (.object "java/util/List")) (by decide)⟩
        refine WP.dup K at_43 rfl (pc' := 44) rfl ?_
        refine WP.new K (w_3 hw) (w_4 hw) (w_5 hw) at_44 (k' := 2) (n' := 4) rfl rfl (by decide) (by decide) (pc' := 47) rfl fun h61 pl g61 E61 X61 D61 => ?_
        have ne_de_pl : de ≠ pl := fun z_ => by have q_ : @LT.lt Nat _ de h60.size := (Ary.lt (Ary.ext OLD.2 A_d)); have r_ : @Eq Nat de pl := z_; omega
        have ne_ky_pl : ky ≠ pl := fun z_ => by have q_ : @LT.lt Nat _ ky h60.size := (IsBK.lt O_ky); have r_ : @Eq Nat ky pl := z_; omega
        have old_pl : n0 ≤ pl := by have q_ := Z0; omega
        have O_ky := IsBK.ext E61 O_ky
        have OLD := Old.ext OLD E61
        have Z0 := Nat.le_trans Z0 E61.1
        have O_pl : IsAL Z h61 pl (.int (0 : Int32)) .null (.int (0 : Int32)) := ⟨X61, D61 (O := "java/util/AbstractList") (f := "modCount") (d := "I") (Or.inl (w_25 hw)) (ty := .int) (by decide), D61 (O := "java/util/ArrayList") (f := "elementData") (d := "[Ljava/lang/Object;") (Or.inl (w_28 hw)) (ty := (.array (.object "java/lang/Object"))) (by decide), D61 (O := "java/util/ArrayList") (f := "size") (d := "I") (Or.inl (w_52 hw)) (ty := .int) (by decide)⟩
        refine WP.dup K at_47 rfl (pc' := 48) rfl ?_
        refine WP.callI K (a := pl) (argsL := []) (S := [(.ref pl), (.ref ky), (.ref ky)]) rfl (w_6 hw) (w_7 hw) (rm_al w l Z a0 hw pl _ _ _ de kD fD h61 n0 Z0 O_pl old_pl S_d A_d OLD) (w_8 hw) (w_5 hw) (by decide) rfl (lenOf pd_0 rfl) rfl (W := 3) rfl (by decide) (by decide) (k' := 2) (n' := 4) rfl rfl (by decide) (by decide) at_48 (pc' := 51) rfl fun v h62 hq => ?_
        obtain ⟨rfl, K0, O_pl⟩ := hq
        have O_ky := IsBK.keep K0 O_ky (ninS ne_ky_pl nin0)
        have OLD := Old.keep OLD K0 (allS old_pl all0)
        have Z0 := Nat.le_trans Z0 K0.1
        show WP κ h62 2 4 (mkF κ.m 51 #[.val (.int p0), .val (.int p1), .val (.int p2), .val (.int (0 : Int32)), .val (.int (0 : Int32)), .val (.int (1 : Int32)), .unset, .unset, .unset, .unset] [(.ref pl), (.ref ky), (.ref ky)])
        refine WP.callI K (a := ky) (argsL := [(.ref pl)]) (S := [(.ref ky)]) rfl (w_29 hw) (w_30 hw) (rm_bk w l Z a0 hw ky pl _ h62 n0 Z0 O_ky old_ky) (w_31 hw) (w_2 hw) (by decide) rfl (lenOf pd_6 rfl) rfl (W := 1) rfl (by decide) (by decide) (k' := 2) (n' := 4) rfl rfl (by decide) (by decide) at_51 (pc' := 54) rfl fun v h63 hq => ?_
        obtain ⟨rfl, K0, O_ky⟩ := hq
        have O_pl := IsAL.keep K0 O_pl (ninS (Ne.symm ne_ky_pl) nin0)
        have OLD := Old.keep OLD K0 (allS old_ky all0)
        have Z0 := Nat.le_trans Z0 K0.1
        show WP κ h63 2 4 (mkF κ.m 54 #[.val (.int p0), .val (.int p1), .val (.int p2), .val (.int (0 : Int32)), .val (.int (0 : Int32)), .val (.int (1 : Int32)), .unset, .unset, .unset, .unset] [(.ref ky)])
        refine WP.astore K at_54 rfl (L' := #[.val (.int p0), .val (.int p1), .val (.int p2), .val (.int (0 : Int32)), .val (.int (0 : Int32)), .val (.int (1 : Int32)), .val (.ref ky), .unset, .unset, .unset]) rfl (pc' := 56) rfl ?_
        refine WP.new K (w_3 hw) (w_4 hw) (w_5 hw) at_56 (k' := 3) (n' := 7) rfl rfl (by decide) (by decide) (pc' := 59) rfl fun h64 al g64 E64 X64 D64 => ?_
        have ne_de_al : de ≠ al := fun z_ => by have q_ : @LT.lt Nat _ de h63.size := (Ary.lt (Ary.ext OLD.2 A_d)); have r_ : @Eq Nat de al := z_; omega
        have ne_ky_al : ky ≠ al := fun z_ => by have q_ : @LT.lt Nat _ ky h63.size := (IsBK.lt O_ky); have r_ : @Eq Nat ky al := z_; omega
        have old_al : n0 ≤ al := by have q_ := Z0; omega
        have O_ky := IsBK.ext E64 O_ky
        have OLD := Old.ext OLD E64
        have Z0 := Nat.le_trans Z0 E64.1
        have O_al : IsAL Z h64 al (.int (0 : Int32)) .null (.int (0 : Int32)) := ⟨X64, D64 (O := "java/util/AbstractList") (f := "modCount") (d := "I") (Or.inl (w_25 hw)) (ty := .int) (by decide), D64 (O := "java/util/ArrayList") (f := "elementData") (d := "[Ljava/lang/Object;") (Or.inl (w_28 hw)) (ty := (.array (.object "java/lang/Object"))) (by decide), D64 (O := "java/util/ArrayList") (f := "size") (d := "I") (Or.inl (w_52 hw)) (ty := .int) (by decide)⟩
        refine WP.dup K at_59 rfl (pc' := 60) rfl ?_
        refine WP.callI K (a := al) (argsL := []) (S := [(.ref al)]) rfl (w_6 hw) (w_7 hw) (rm_al w l Z a0 hw al _ _ _ de kD fD h64 n0 Z0 O_al old_al S_d A_d OLD) (w_8 hw) (w_5 hw) (by decide) rfl (lenOf pd_0 rfl) rfl (W := 1) rfl (by decide) (by decide) (k' := 3) (n' := 7) rfl rfl (by decide) (by decide) at_60 (pc' := 63) rfl fun v h65 hq => ?_
        obtain ⟨rfl, K0, O_al⟩ := hq
        have O_ky := IsBK.keep K0 O_ky (ninS ne_ky_al nin0)
        have OLD := Old.keep OLD K0 (allS old_al all0)
        have Z0 := Nat.le_trans Z0 K0.1
        show WP κ h65 3 7 (mkF κ.m 63 #[.val (.int p0), .val (.int p1), .val (.int p2), .val (.int (0 : Int32)), .val (.int (0 : Int32)), .val (.int (1 : Int32)), .val (.ref ky), .unset, .unset, .unset] [(.ref al)])
        refine WP.astore K at_63 rfl (L' := #[.val (.int p0), .val (.int p1), .val (.int p2), .val (.int (0 : Int32)), .val (.int (0 : Int32)), .val (.int (1 : Int32)), .val (.ref ky), .val (.ref al), .unset, .unset]) rfl (pc' := 65) rfl ?_
        refine WP.iload K at_65 rfl (pc' := 67) rfl ?_
        refine WP.iconst K at_67 (v := (1 : Int32)) rfl (pc' := 68) rfl ?_
        refine WP.icmpF K at_68 (by decide) (pc' := 71) rfl ?_
        refine WP.aload K at_71 rfl rfl (pc' := 73) rfl ?_
        refine WP.aload K at_73 rfl rfl (pc' := 75) rfl ?_
        have lt_ky : @LT.lt Nat _ ky h65.size := IsBK.lt O_ky
        have lt_al : @LT.lt Nat _ al h65.size := IsAL.lt O_al
        have zz : n0 ≤ h65.size := Z0
        refine WP.callF K (a := al) (argsL := [(.ref ky)]) (S := []) (w_40 hw) (w_41 hw) (fun vm0 hZ => mvT (s := κ.s.setVm vm0) hZ (w_42 hw)) (w_43 hw) (w_44 hw) (w_45 hw) (w_46 hw) (w_47 hw) (by decide) (IsAL.exa O_al) (rm_add0 w l Z a0 hw al (0 : Int32) ky _ de kD fD h65 n0 Z0 O_al O_ky ne_ky_al old_al S_d A_d OLD) (w_48 hw) (w_5 hw) (by decide) rfl (lenOf pd_7 rfl) rfl (W := 0) rfl (by decide) (by decide) (k' := 4) (n' := 17) rfl rfl (by decide) (by decide) at_75 (pc' := 80) rfl fun v h66 hq => ?_
        obtain ⟨rfl, K0, el, kE, s_el, OV, O_al, A_el⟩ := hq
        have O_ky := IsBK.keep K0 O_ky (ninS ne_ky_al nin0)
        have OLD := Old.keep OLD K0 (allS old_al all0)
        have Z0 := Nat.le_trans Z0 K0.1
        show WP κ h66 4 17 (mkF κ.m 80 #[.val (.int p0), .val (.int p1), .val (.int p2), .val (.int (0 : Int32)), .val (.int (0 : Int32)), .val (.int (1 : Int32)), .val (.ref ky), .val (.ref al), .unset, .unset] [(.int (1 : Int32))])
        have old_el : n0 ≤ el := by omega
        have ne_ke : ky ≠ el := fun z_ => by have r_ : @Eq Nat ky el := z_; omega
        obtain ⟨f, A_el⟩ : ∃ f, Ary Z h66 el kE (.object "java/lang/Object") 10 f := ⟨_, A_el⟩
        have O_al : IsAL Z h66 al (.int (1 : Int32)) (.ref el) (.int (1 : Int32)) := O_al
        refine WP.pop K at_80 rfl (pc' := 81) rfl ?_
        refine WP.iload K at_81 rfl (pc' := 83) rfl ?_
        refine WP.iconst K at_83 (v := (2 : Int32)) rfl (pc' := 84) rfl ?_
        refine WP.icmpT K at_84 (by decide) (by decide) (pc' := 97) (by decide) ?_
        refine WP.iload K at_97 rfl (pc' := 99) rfl ?_
        refine WP.iconst K at_99 (v := (3 : Int32)) rfl (pc' := 100) rfl ?_
        refine WP.icmpT K at_100 (by decide) (by decide) (pc' := 113) (by decide) ?_
        refine WP.new K (w_75 hw) (w_76 hw) (w_77 hw) at_113 (k' := 5) (n' := 20) rfl rfl (by decide) (by decide) (pc' := 116) rfl fun h67 bl g67 E67 X67 D67 => ?_
        have ne_de_bl : de ≠ bl := fun z_ => by have q_ : @LT.lt Nat _ de h66.size := (Ary.lt (Ary.ext OLD.2 A_d)); have r_ : @Eq Nat de bl := z_; omega
        have ne_ky_bl : ky ≠ bl := fun z_ => by have q_ : @LT.lt Nat _ ky h66.size := (IsBK.lt O_ky); have r_ : @Eq Nat ky bl := z_; omega
        have ne_al_bl : al ≠ bl := fun z_ => by have q_ : @LT.lt Nat _ al h66.size := (IsAL.lt O_al); have r_ : @Eq Nat al bl := z_; omega
        have old_bl : n0 ≤ bl := by have q_ := Z0; omega
        have O_ky := IsBK.ext E67 O_ky
        have O_al := IsAL.ext E67 O_al
        have OLD := Old.ext OLD E67
        have Z0 := Nat.le_trans Z0 E67.1
        have O_bl : IsBl Z h67 bl .null (.int (0 : Int32)) .null := ⟨X67, D67 (O := "com/example/knotwork/knotwork/runfile/RunFile$Blocking") (f := "keys") (d := "Ljava/util/List;") (Or.inr (w_83 hw)) (ty := (.object "java/util/List")) (by decide), D67 (O := "com/example/knotwork/knotwork/runfile/RunFile$Blocking") (f := "window") (d := "I") (Or.inr (w_85 hw)) (ty := .int) (by decide), D67 (O := "com/example/knotwork/knotwork/runfile/RunFile$Blocking") (f := "through") (d := "Ljava/util/List;") (Or.inr (w_87 hw)) (ty := (.object "java/util/List")) (by decide)⟩
        refine WP.dup K at_116 rfl (pc' := 117) rfl ?_
        refine WP.aload K at_117 rfl rfl (pc' := 119) rfl ?_
        refine WP.iload K at_119 rfl (pc' := 121) rfl ?_
        refine WP.new K (w_3 hw) (w_4 hw) (w_5 hw) at_121 (k' := 6) (n' := 23) rfl rfl (by decide) (by decide) (pc' := 124) rfl fun h68 tl g68 E68 X68 D68 => ?_
        have ne_de_tl : de ≠ tl := fun z_ => by have q_ : @LT.lt Nat _ de h67.size := (Ary.lt (Ary.ext OLD.2 A_d)); have r_ : @Eq Nat de tl := z_; omega
        have ne_ky_tl : ky ≠ tl := fun z_ => by have q_ : @LT.lt Nat _ ky h67.size := (IsBK.lt O_ky); have r_ : @Eq Nat ky tl := z_; omega
        have ne_al_tl : al ≠ tl := fun z_ => by have q_ : @LT.lt Nat _ al h67.size := (IsAL.lt O_al); have r_ : @Eq Nat al tl := z_; omega
        have ne_bl_tl : bl ≠ tl := fun z_ => by have q_ : @LT.lt Nat _ bl h67.size := (IsBl.lt O_bl); have r_ : @Eq Nat bl tl := z_; omega
        have old_tl : n0 ≤ tl := by have q_ := Z0; omega
        have O_ky := IsBK.ext E68 O_ky
        have O_al := IsAL.ext E68 O_al
        have O_bl := IsBl.ext E68 O_bl
        have OLD := Old.ext OLD E68
        have Z0 := Nat.le_trans Z0 E68.1
        have O_tl : IsAL Z h68 tl (.int (0 : Int32)) .null (.int (0 : Int32)) := ⟨X68, D68 (O := "java/util/AbstractList") (f := "modCount") (d := "I") (Or.inl (w_25 hw)) (ty := .int) (by decide), D68 (O := "java/util/ArrayList") (f := "elementData") (d := "[Ljava/lang/Object;") (Or.inl (w_28 hw)) (ty := (.array (.object "java/lang/Object"))) (by decide), D68 (O := "java/util/ArrayList") (f := "size") (d := "I") (Or.inl (w_52 hw)) (ty := .int) (by decide)⟩
        refine WP.dup K at_124 rfl (pc' := 125) rfl ?_
        refine WP.callI K (a := tl) (argsL := []) (S := [(.ref tl), (.int (0 : Int32)), (.ref al), (.ref bl), (.ref bl)]) rfl (w_6 hw) (w_7 hw) (rm_al w l Z a0 hw tl _ _ _ de kD fD h68 n0 Z0 O_tl old_tl S_d A_d OLD) (w_8 hw) (w_5 hw) (by decide) rfl (lenOf pd_0 rfl) rfl (W := 5) rfl (by decide) (by decide) (k' := 6) (n' := 23) rfl rfl (by decide) (by decide) at_125 (pc' := 128) rfl fun v h69 hq => ?_
        obtain ⟨rfl, K0, O_tl⟩ := hq
        have O_ky := IsBK.keep K0 O_ky (ninS ne_ky_tl nin0)
        have O_al := IsAL.keep K0 O_al (ninS ne_al_tl nin0)
        have O_bl := IsBl.keep K0 O_bl (ninS ne_bl_tl nin0)
        have OLD := Old.keep OLD K0 (allS old_tl all0)
        have Z0 := Nat.le_trans Z0 K0.1
        show WP κ h69 6 23 (mkF κ.m 128 #[.val (.int p0), .val (.int p1), .val (.int p2), .val (.int (0 : Int32)), .val (.int (0 : Int32)), .val (.int (1 : Int32)), .val (.ref ky), .val (.ref al), .unset, .unset] [(.ref tl), (.int (0 : Int32)), (.ref al), (.ref bl), (.ref bl)])
        refine WP.callI K (a := bl) (argsL := [(.ref al), (.int (0 : Int32)), (.ref tl)]) (S := [(.ref bl)]) rfl (w_78 hw) (w_79 hw) (rm_blk0 w l Z a0 hw bl al tl _ _ _ _ _ (1 : Int32) h69 n0 Z0 O_bl O_al old_bl) (w_80 hw) (w_77 hw) (by decide) rfl (lenOf pd_8 rfl) rfl (W := 1) rfl (by decide) (by decide) (k' := 6) (n' := 23) rfl rfl (by decide) (by decide) at_128 (pc' := 131) rfl fun v h70 hq => ?_
        obtain ⟨rfl, K0, O_bl⟩ := hq
        have O_ky := IsBK.keep K0 O_ky (ninS ne_ky_bl nin0)
        have O_al := IsAL.keep K0 O_al (ninS ne_al_bl nin0)
        have O_tl := IsAL.keep K0 O_tl (ninS (Ne.symm ne_bl_tl) nin0)
        have OLD := Old.keep OLD K0 (allS old_bl all0)
        have Z0 := Nat.le_trans Z0 K0.1
        show WP κ h70 6 23 (mkF κ.m 131 #[.val (.int p0), .val (.int p1), .val (.int p2), .val (.int (0 : Int32)), .val (.int (0 : Int32)), .val (.int (1 : Int32)), .val (.ref ky), .val (.ref al), .unset, .unset] [(.ref bl)])
        refine WP.astore K at_131 rfl (L' := #[.val (.int p0), .val (.int p1), .val (.int p2), .val (.int (0 : Int32)), .val (.int (0 : Int32)), .val (.int (1 : Int32)), .val (.ref ky), .val (.ref al), .val (.ref bl), .unset]) rfl (pc' := 133) rfl ?_
        refine WP.iload K at_133 rfl (pc' := 135) rfl ?_
        refine WP.iconst K at_135 (v := (2 : Int32)) rfl (pc' := 136) rfl ?_
        refine WP.icmpT K at_136 (by decide) (by decide) (pc' := 143) (by decide) ?_
        refine WP.iconst K at_143 (v := (0 : Int32)) rfl (pc' := 144) rfl ?_
        refine WP.istore K at_144 (L' := #[.val (.int p0), .val (.int p1), .val (.int p2), .val (.int (0 : Int32)), .val (.int (0 : Int32)), .val (.int (1 : Int32)), .val (.ref ky), .val (.ref al), .val (.ref bl), .val (.int (0 : Int32))]) rfl (pc' := 146) rfl ?_
        refine WP.aload K at_146 rfl rfl (pc' := 148) rfl ?_
        refine WP.callV K (a := bl) (argsL := []) (S := []) (w_88 hw) (w_89 hw) (fun vm0 hZ => notFace_of_selects (args := #[]) (mvT (s := κ.s.setVm vm0) hZ (w_91 hw))) (w_91 hw) (w_90 hw) (by decide) (IsBl.exa O_bl) (rm_iss w l Z a0 hw bl _ _ (0 : Int32) h70 n0 Z0 O_bl) (w_92 hw) (w_77 hw) (by decide) rfl (lenOf pd_9 rfl) rfl (W := 0) rfl (by decide) (by decide) (k' := 6) (n' := 23) rfl rfl (by decide) (by decide) at_148 (pc' := 151) rfl fun v h71 hq => ?_
        obtain ⟨rfl, rfl⟩ := hq
        show WP κ h70 6 23 (mkF κ.m 151 #[.val (.int p0), .val (.int p1), .val (.int p2), .val (.int (0 : Int32)), .val (.int (0 : Int32)), .val (.int (1 : Int32)), .val (.ref ky), .val (.ref al), .val (.ref bl), .val (.int (0 : Int32))] [(.int (nar .boolean (if (0 : Int32) = (0 : Int32) then (0 : Int32) else (1 : Int32))))])
        rw [show (nar .boolean (if (0 : Int32) = (0 : Int32) then (0 : Int32) else (1 : Int32))) = (0 : Int32) from by decide]
        show WP κ h70 6 23 (mkF κ.m 151 #[.val (.int p0), .val (.int p1), .val (.int p2), .val (.int (0 : Int32)), .val (.int (0 : Int32)), .val (.int (1 : Int32)), .val (.ref ky), .val (.ref al), .val (.ref bl), .val (.int (0 : Int32))] [(.int (0 : Int32))])
        refine WP.iload K at_151 rfl (pc' := 153) rfl ?_
        refine WP.icmpF K at_153 (by decide) (pc' := 156) rfl ?_
        refine WP.iload K at_156 rfl (pc' := 158) rfl ?_
        refine WP.iloadN K at_158 rfl (pc' := 159) rfl ?_
        refine WP.icmpF K at_159 (by decide) (pc' := 162) rfl ?_
        refine WP.iconst K at_162 (v := (1 : Int32)) rfl (pc' := 163) rfl ?_
        refine WP.goto K at_163 (by decide) (pc' := 167) (by decide) ?_
        exact WP.retN K (ty := .boolean) (by decide) at_167 (by decide) (by decide) rfl
      · show WP κ h0 0 0 (mkF κ.m 40 #[.val (.int p0), .val (.int p1), .val (.int p2), .val (.int (0 : Int32)), .val (.int (0 : Int32)), .val (.int (2 : Int32)), .unset, .unset, .unset, .unset] [])
        refine WP.new K (w_0 hw) (w_1 hw) (w_2 hw) at_40 (k' := 1) (n' := 1) rfl rfl (by decide) (by decide) (pc' := 43) rfl fun h72 ky g72 E72 X72 D72 => ?_
        have ne_de_ky : de ≠ ky := fun z_ => by have q_ : @LT.lt Nat _ de h0.size := (Ary.lt (Ary.ext OLD.2 A_d)); have r_ : @Eq Nat de ky := z_; omega
        have old_ky : n0 ≤ ky := by have q_ := Z0; omega
        have OLD := Old.ext OLD E72
        have Z0 := Nat.le_trans Z0 E72.1
        have O_ky : IsBK Z h72 ky .null := ⟨X72, D72 (O := "com/example/knotwork/knotwork/runfile/RunFile$BlockingKey") (f := "parts") (d := "Ljava/util/List;") (Or.inr (w_39 hw)) (ty := (.object "java/util/List")) (by decide)⟩
        refine WP.dup K at_43 rfl (pc' := 44) rfl ?_
        refine WP.new K (w_3 hw) (w_4 hw) (w_5 hw) at_44 (k' := 2) (n' := 4) rfl rfl (by decide) (by decide) (pc' := 47) rfl fun h73 pl g73 E73 X73 D73 => ?_
        have ne_de_pl : de ≠ pl := fun z_ => by have q_ : @LT.lt Nat _ de h72.size := (Ary.lt (Ary.ext OLD.2 A_d)); have r_ : @Eq Nat de pl := z_; omega
        have ne_ky_pl : ky ≠ pl := fun z_ => by have q_ : @LT.lt Nat _ ky h72.size := (IsBK.lt O_ky); have r_ : @Eq Nat ky pl := z_; omega
        have old_pl : n0 ≤ pl := by have q_ := Z0; omega
        have O_ky := IsBK.ext E73 O_ky
        have OLD := Old.ext OLD E73
        have Z0 := Nat.le_trans Z0 E73.1
        have O_pl : IsAL Z h73 pl (.int (0 : Int32)) .null (.int (0 : Int32)) := ⟨X73, D73 (O := "java/util/AbstractList") (f := "modCount") (d := "I") (Or.inl (w_25 hw)) (ty := .int) (by decide), D73 (O := "java/util/ArrayList") (f := "elementData") (d := "[Ljava/lang/Object;") (Or.inl (w_28 hw)) (ty := (.array (.object "java/lang/Object"))) (by decide), D73 (O := "java/util/ArrayList") (f := "size") (d := "I") (Or.inl (w_52 hw)) (ty := .int) (by decide)⟩
        refine WP.dup K at_47 rfl (pc' := 48) rfl ?_
        refine WP.callI K (a := pl) (argsL := []) (S := [(.ref pl), (.ref ky), (.ref ky)]) rfl (w_6 hw) (w_7 hw) (rm_al w l Z a0 hw pl _ _ _ de kD fD h73 n0 Z0 O_pl old_pl S_d A_d OLD) (w_8 hw) (w_5 hw) (by decide) rfl (lenOf pd_0 rfl) rfl (W := 3) rfl (by decide) (by decide) (k' := 2) (n' := 4) rfl rfl (by decide) (by decide) at_48 (pc' := 51) rfl fun v h74 hq => ?_
        obtain ⟨rfl, K0, O_pl⟩ := hq
        have O_ky := IsBK.keep K0 O_ky (ninS ne_ky_pl nin0)
        have OLD := Old.keep OLD K0 (allS old_pl all0)
        have Z0 := Nat.le_trans Z0 K0.1
        show WP κ h74 2 4 (mkF κ.m 51 #[.val (.int p0), .val (.int p1), .val (.int p2), .val (.int (0 : Int32)), .val (.int (0 : Int32)), .val (.int (2 : Int32)), .unset, .unset, .unset, .unset] [(.ref pl), (.ref ky), (.ref ky)])
        refine WP.callI K (a := ky) (argsL := [(.ref pl)]) (S := [(.ref ky)]) rfl (w_29 hw) (w_30 hw) (rm_bk w l Z a0 hw ky pl _ h74 n0 Z0 O_ky old_ky) (w_31 hw) (w_2 hw) (by decide) rfl (lenOf pd_6 rfl) rfl (W := 1) rfl (by decide) (by decide) (k' := 2) (n' := 4) rfl rfl (by decide) (by decide) at_51 (pc' := 54) rfl fun v h75 hq => ?_
        obtain ⟨rfl, K0, O_ky⟩ := hq
        have O_pl := IsAL.keep K0 O_pl (ninS (Ne.symm ne_ky_pl) nin0)
        have OLD := Old.keep OLD K0 (allS old_ky all0)
        have Z0 := Nat.le_trans Z0 K0.1
        show WP κ h75 2 4 (mkF κ.m 54 #[.val (.int p0), .val (.int p1), .val (.int p2), .val (.int (0 : Int32)), .val (.int (0 : Int32)), .val (.int (2 : Int32)), .unset, .unset, .unset, .unset] [(.ref ky)])
        refine WP.astore K at_54 rfl (L' := #[.val (.int p0), .val (.int p1), .val (.int p2), .val (.int (0 : Int32)), .val (.int (0 : Int32)), .val (.int (2 : Int32)), .val (.ref ky), .unset, .unset, .unset]) rfl (pc' := 56) rfl ?_
        refine WP.new K (w_3 hw) (w_4 hw) (w_5 hw) at_56 (k' := 3) (n' := 7) rfl rfl (by decide) (by decide) (pc' := 59) rfl fun h76 al g76 E76 X76 D76 => ?_
        have ne_de_al : de ≠ al := fun z_ => by have q_ : @LT.lt Nat _ de h75.size := (Ary.lt (Ary.ext OLD.2 A_d)); have r_ : @Eq Nat de al := z_; omega
        have ne_ky_al : ky ≠ al := fun z_ => by have q_ : @LT.lt Nat _ ky h75.size := (IsBK.lt O_ky); have r_ : @Eq Nat ky al := z_; omega
        have old_al : n0 ≤ al := by have q_ := Z0; omega
        have O_ky := IsBK.ext E76 O_ky
        have OLD := Old.ext OLD E76
        have Z0 := Nat.le_trans Z0 E76.1
        have O_al : IsAL Z h76 al (.int (0 : Int32)) .null (.int (0 : Int32)) := ⟨X76, D76 (O := "java/util/AbstractList") (f := "modCount") (d := "I") (Or.inl (w_25 hw)) (ty := .int) (by decide), D76 (O := "java/util/ArrayList") (f := "elementData") (d := "[Ljava/lang/Object;") (Or.inl (w_28 hw)) (ty := (.array (.object "java/lang/Object"))) (by decide), D76 (O := "java/util/ArrayList") (f := "size") (d := "I") (Or.inl (w_52 hw)) (ty := .int) (by decide)⟩
        refine WP.dup K at_59 rfl (pc' := 60) rfl ?_
        refine WP.callI K (a := al) (argsL := []) (S := [(.ref al)]) rfl (w_6 hw) (w_7 hw) (rm_al w l Z a0 hw al _ _ _ de kD fD h76 n0 Z0 O_al old_al S_d A_d OLD) (w_8 hw) (w_5 hw) (by decide) rfl (lenOf pd_0 rfl) rfl (W := 1) rfl (by decide) (by decide) (k' := 3) (n' := 7) rfl rfl (by decide) (by decide) at_60 (pc' := 63) rfl fun v h77 hq => ?_
        obtain ⟨rfl, K0, O_al⟩ := hq
        have O_ky := IsBK.keep K0 O_ky (ninS ne_ky_al nin0)
        have OLD := Old.keep OLD K0 (allS old_al all0)
        have Z0 := Nat.le_trans Z0 K0.1
        show WP κ h77 3 7 (mkF κ.m 63 #[.val (.int p0), .val (.int p1), .val (.int p2), .val (.int (0 : Int32)), .val (.int (0 : Int32)), .val (.int (2 : Int32)), .val (.ref ky), .unset, .unset, .unset] [(.ref al)])
        refine WP.astore K at_63 rfl (L' := #[.val (.int p0), .val (.int p1), .val (.int p2), .val (.int (0 : Int32)), .val (.int (0 : Int32)), .val (.int (2 : Int32)), .val (.ref ky), .val (.ref al), .unset, .unset]) rfl (pc' := 65) rfl ?_
        refine WP.iload K at_65 rfl (pc' := 67) rfl ?_
        refine WP.iconst K at_67 (v := (1 : Int32)) rfl (pc' := 68) rfl ?_
        refine WP.icmpF K at_68 (by decide) (pc' := 71) rfl ?_
        refine WP.aload K at_71 rfl rfl (pc' := 73) rfl ?_
        refine WP.aload K at_73 rfl rfl (pc' := 75) rfl ?_
        have lt_ky : @LT.lt Nat _ ky h77.size := IsBK.lt O_ky
        have lt_al : @LT.lt Nat _ al h77.size := IsAL.lt O_al
        have zz : n0 ≤ h77.size := Z0
        refine WP.callF K (a := al) (argsL := [(.ref ky)]) (S := []) (w_40 hw) (w_41 hw) (fun vm0 hZ => mvT (s := κ.s.setVm vm0) hZ (w_42 hw)) (w_43 hw) (w_44 hw) (w_45 hw) (w_46 hw) (w_47 hw) (by decide) (IsAL.exa O_al) (rm_add0 w l Z a0 hw al (0 : Int32) ky _ de kD fD h77 n0 Z0 O_al O_ky ne_ky_al old_al S_d A_d OLD) (w_48 hw) (w_5 hw) (by decide) rfl (lenOf pd_7 rfl) rfl (W := 0) rfl (by decide) (by decide) (k' := 4) (n' := 17) rfl rfl (by decide) (by decide) at_75 (pc' := 80) rfl fun v h78 hq => ?_
        obtain ⟨rfl, K0, el, kE, s_el, OV, O_al, A_el⟩ := hq
        have O_ky := IsBK.keep K0 O_ky (ninS ne_ky_al nin0)
        have OLD := Old.keep OLD K0 (allS old_al all0)
        have Z0 := Nat.le_trans Z0 K0.1
        show WP κ h78 4 17 (mkF κ.m 80 #[.val (.int p0), .val (.int p1), .val (.int p2), .val (.int (0 : Int32)), .val (.int (0 : Int32)), .val (.int (2 : Int32)), .val (.ref ky), .val (.ref al), .unset, .unset] [(.int (1 : Int32))])
        have old_el : n0 ≤ el := by omega
        have ne_ke : ky ≠ el := fun z_ => by have r_ : @Eq Nat ky el := z_; omega
        obtain ⟨f, A_el⟩ : ∃ f, Ary Z h78 el kE (.object "java/lang/Object") 10 f := ⟨_, A_el⟩
        have O_al : IsAL Z h78 al (.int (1 : Int32)) (.ref el) (.int (1 : Int32)) := O_al
        refine WP.pop K at_80 rfl (pc' := 81) rfl ?_
        refine WP.iload K at_81 rfl (pc' := 83) rfl ?_
        refine WP.iconst K at_83 (v := (2 : Int32)) rfl (pc' := 84) rfl ?_
        refine WP.icmpF K at_84 (by decide) (pc' := 87) rfl ?_
        refine WP.aload K at_87 rfl rfl (pc' := 89) rfl ?_
        refine WP.aload K at_89 rfl rfl (pc' := 91) rfl ?_
        refine WP.callF K (a := al) (argsL := [(.ref ky)]) (S := []) (w_40 hw) (w_41 hw) (fun vm0 hZ => mvT (s := κ.s.setVm vm0) hZ (w_42 hw)) (w_43 hw) (w_44 hw) (w_45 hw) (w_46 hw) (w_47 hw) (by decide) (IsAL.exa O_al) (rm_add1 w l Z a0 hw al (1 : Int32) ky _ el kE f h78 n0 Z0 O_al O_ky ne_ky_al ne_ke old_al A_el OV old_el) (w_48 hw) (w_5 hw) (by decide) rfl (lenOf pd_7 rfl) rfl (W := 0) rfl (by decide) (by decide) (k' := 4) (n' := 17) rfl rfl (by decide) (by decide) at_91 (pc' := 96) rfl fun v h79 hq => ?_
        obtain ⟨rfl, K0, O_al, A_el⟩ := hq
        have O_ky := IsBK.keep K0 O_ky (ninS ne_ky_al (ninS ne_ke nin0))
        have OLD := Old.keep OLD K0 (allS old_al (allS old_el all0))
        have Z0 := Nat.le_trans Z0 K0.1
        show WP κ h79 4 17 (mkF κ.m 96 #[.val (.int p0), .val (.int p1), .val (.int p2), .val (.int (0 : Int32)), .val (.int (0 : Int32)), .val (.int (2 : Int32)), .val (.ref ky), .val (.ref al), .unset, .unset] [(.int (1 : Int32))])
        obtain ⟨f, A_el⟩ : ∃ f, Ary Z h79 el kE (.object "java/lang/Object") 10 f := ⟨_, A_el⟩
        have O_al : IsAL Z h79 al (.int (2 : Int32)) (.ref el) (.int (2 : Int32)) := O_al
        refine WP.pop K at_96 rfl (pc' := 97) rfl ?_
        refine WP.iload K at_97 rfl (pc' := 99) rfl ?_
        refine WP.iconst K at_99 (v := (3 : Int32)) rfl (pc' := 100) rfl ?_
        refine WP.icmpT K at_100 (by decide) (by decide) (pc' := 113) (by decide) ?_
        refine WP.new K (w_75 hw) (w_76 hw) (w_77 hw) at_113 (k' := 5) (n' := 20) rfl rfl (by decide) (by decide) (pc' := 116) rfl fun h80 bl g80 E80 X80 D80 => ?_
        have ne_de_bl : de ≠ bl := fun z_ => by have q_ : @LT.lt Nat _ de h79.size := (Ary.lt (Ary.ext OLD.2 A_d)); have r_ : @Eq Nat de bl := z_; omega
        have ne_ky_bl : ky ≠ bl := fun z_ => by have q_ : @LT.lt Nat _ ky h79.size := (IsBK.lt O_ky); have r_ : @Eq Nat ky bl := z_; omega
        have ne_al_bl : al ≠ bl := fun z_ => by have q_ : @LT.lt Nat _ al h79.size := (IsAL.lt O_al); have r_ : @Eq Nat al bl := z_; omega
        have old_bl : n0 ≤ bl := by have q_ := Z0; omega
        have O_ky := IsBK.ext E80 O_ky
        have O_al := IsAL.ext E80 O_al
        have OLD := Old.ext OLD E80
        have Z0 := Nat.le_trans Z0 E80.1
        have O_bl : IsBl Z h80 bl .null (.int (0 : Int32)) .null := ⟨X80, D80 (O := "com/example/knotwork/knotwork/runfile/RunFile$Blocking") (f := "keys") (d := "Ljava/util/List;") (Or.inr (w_83 hw)) (ty := (.object "java/util/List")) (by decide), D80 (O := "com/example/knotwork/knotwork/runfile/RunFile$Blocking") (f := "window") (d := "I") (Or.inr (w_85 hw)) (ty := .int) (by decide), D80 (O := "com/example/knotwork/knotwork/runfile/RunFile$Blocking") (f := "through") (d := "Ljava/util/List;") (Or.inr (w_87 hw)) (ty := (.object "java/util/List")) (by decide)⟩
        refine WP.dup K at_116 rfl (pc' := 117) rfl ?_
        refine WP.aload K at_117 rfl rfl (pc' := 119) rfl ?_
        refine WP.iload K at_119 rfl (pc' := 121) rfl ?_
        refine WP.new K (w_3 hw) (w_4 hw) (w_5 hw) at_121 (k' := 6) (n' := 23) rfl rfl (by decide) (by decide) (pc' := 124) rfl fun h81 tl g81 E81 X81 D81 => ?_
        have ne_de_tl : de ≠ tl := fun z_ => by have q_ : @LT.lt Nat _ de h80.size := (Ary.lt (Ary.ext OLD.2 A_d)); have r_ : @Eq Nat de tl := z_; omega
        have ne_ky_tl : ky ≠ tl := fun z_ => by have q_ : @LT.lt Nat _ ky h80.size := (IsBK.lt O_ky); have r_ : @Eq Nat ky tl := z_; omega
        have ne_al_tl : al ≠ tl := fun z_ => by have q_ : @LT.lt Nat _ al h80.size := (IsAL.lt O_al); have r_ : @Eq Nat al tl := z_; omega
        have ne_bl_tl : bl ≠ tl := fun z_ => by have q_ : @LT.lt Nat _ bl h80.size := (IsBl.lt O_bl); have r_ : @Eq Nat bl tl := z_; omega
        have old_tl : n0 ≤ tl := by have q_ := Z0; omega
        have O_ky := IsBK.ext E81 O_ky
        have O_al := IsAL.ext E81 O_al
        have O_bl := IsBl.ext E81 O_bl
        have OLD := Old.ext OLD E81
        have Z0 := Nat.le_trans Z0 E81.1
        have O_tl : IsAL Z h81 tl (.int (0 : Int32)) .null (.int (0 : Int32)) := ⟨X81, D81 (O := "java/util/AbstractList") (f := "modCount") (d := "I") (Or.inl (w_25 hw)) (ty := .int) (by decide), D81 (O := "java/util/ArrayList") (f := "elementData") (d := "[Ljava/lang/Object;") (Or.inl (w_28 hw)) (ty := (.array (.object "java/lang/Object"))) (by decide), D81 (O := "java/util/ArrayList") (f := "size") (d := "I") (Or.inl (w_52 hw)) (ty := .int) (by decide)⟩
        refine WP.dup K at_124 rfl (pc' := 125) rfl ?_
        refine WP.callI K (a := tl) (argsL := []) (S := [(.ref tl), (.int (0 : Int32)), (.ref al), (.ref bl), (.ref bl)]) rfl (w_6 hw) (w_7 hw) (rm_al w l Z a0 hw tl _ _ _ de kD fD h81 n0 Z0 O_tl old_tl S_d A_d OLD) (w_8 hw) (w_5 hw) (by decide) rfl (lenOf pd_0 rfl) rfl (W := 5) rfl (by decide) (by decide) (k' := 6) (n' := 23) rfl rfl (by decide) (by decide) at_125 (pc' := 128) rfl fun v h82 hq => ?_
        obtain ⟨rfl, K0, O_tl⟩ := hq
        have O_ky := IsBK.keep K0 O_ky (ninS ne_ky_tl nin0)
        have O_al := IsAL.keep K0 O_al (ninS ne_al_tl nin0)
        have O_bl := IsBl.keep K0 O_bl (ninS ne_bl_tl nin0)
        have OLD := Old.keep OLD K0 (allS old_tl all0)
        have Z0 := Nat.le_trans Z0 K0.1
        show WP κ h82 6 23 (mkF κ.m 128 #[.val (.int p0), .val (.int p1), .val (.int p2), .val (.int (0 : Int32)), .val (.int (0 : Int32)), .val (.int (2 : Int32)), .val (.ref ky), .val (.ref al), .unset, .unset] [(.ref tl), (.int (0 : Int32)), (.ref al), (.ref bl), (.ref bl)])
        refine WP.callI K (a := bl) (argsL := [(.ref al), (.int (0 : Int32)), (.ref tl)]) (S := [(.ref bl)]) rfl (w_78 hw) (w_79 hw) (rm_blk0 w l Z a0 hw bl al tl _ _ _ _ _ (2 : Int32) h82 n0 Z0 O_bl O_al old_bl) (w_80 hw) (w_77 hw) (by decide) rfl (lenOf pd_8 rfl) rfl (W := 1) rfl (by decide) (by decide) (k' := 6) (n' := 23) rfl rfl (by decide) (by decide) at_128 (pc' := 131) rfl fun v h83 hq => ?_
        obtain ⟨rfl, K0, O_bl⟩ := hq
        have O_ky := IsBK.keep K0 O_ky (ninS ne_ky_bl nin0)
        have O_al := IsAL.keep K0 O_al (ninS ne_al_bl nin0)
        have O_tl := IsAL.keep K0 O_tl (ninS (Ne.symm ne_bl_tl) nin0)
        have OLD := Old.keep OLD K0 (allS old_bl all0)
        have Z0 := Nat.le_trans Z0 K0.1
        show WP κ h83 6 23 (mkF κ.m 131 #[.val (.int p0), .val (.int p1), .val (.int p2), .val (.int (0 : Int32)), .val (.int (0 : Int32)), .val (.int (2 : Int32)), .val (.ref ky), .val (.ref al), .unset, .unset] [(.ref bl)])
        refine WP.astore K at_131 rfl (L' := #[.val (.int p0), .val (.int p1), .val (.int p2), .val (.int (0 : Int32)), .val (.int (0 : Int32)), .val (.int (2 : Int32)), .val (.ref ky), .val (.ref al), .val (.ref bl), .unset]) rfl (pc' := 133) rfl ?_
        refine WP.iload K at_133 rfl (pc' := 135) rfl ?_
        refine WP.iconst K at_135 (v := (2 : Int32)) rfl (pc' := 136) rfl ?_
        refine WP.icmpT K at_136 (by decide) (by decide) (pc' := 143) (by decide) ?_
        refine WP.iconst K at_143 (v := (0 : Int32)) rfl (pc' := 144) rfl ?_
        refine WP.istore K at_144 (L' := #[.val (.int p0), .val (.int p1), .val (.int p2), .val (.int (0 : Int32)), .val (.int (0 : Int32)), .val (.int (2 : Int32)), .val (.ref ky), .val (.ref al), .val (.ref bl), .val (.int (0 : Int32))]) rfl (pc' := 146) rfl ?_
        refine WP.aload K at_146 rfl rfl (pc' := 148) rfl ?_
        refine WP.callV K (a := bl) (argsL := []) (S := []) (w_88 hw) (w_89 hw) (fun vm0 hZ => notFace_of_selects (args := #[]) (mvT (s := κ.s.setVm vm0) hZ (w_91 hw))) (w_91 hw) (w_90 hw) (by decide) (IsBl.exa O_bl) (rm_iss w l Z a0 hw bl _ _ (0 : Int32) h83 n0 Z0 O_bl) (w_92 hw) (w_77 hw) (by decide) rfl (lenOf pd_9 rfl) rfl (W := 0) rfl (by decide) (by decide) (k' := 6) (n' := 23) rfl rfl (by decide) (by decide) at_148 (pc' := 151) rfl fun v h84 hq => ?_
        obtain ⟨rfl, rfl⟩ := hq
        show WP κ h83 6 23 (mkF κ.m 151 #[.val (.int p0), .val (.int p1), .val (.int p2), .val (.int (0 : Int32)), .val (.int (0 : Int32)), .val (.int (2 : Int32)), .val (.ref ky), .val (.ref al), .val (.ref bl), .val (.int (0 : Int32))] [(.int (nar .boolean (if (0 : Int32) = (0 : Int32) then (0 : Int32) else (1 : Int32))))])
        rw [show (nar .boolean (if (0 : Int32) = (0 : Int32) then (0 : Int32) else (1 : Int32))) = (0 : Int32) from by decide]
        show WP κ h83 6 23 (mkF κ.m 151 #[.val (.int p0), .val (.int p1), .val (.int p2), .val (.int (0 : Int32)), .val (.int (0 : Int32)), .val (.int (2 : Int32)), .val (.ref ky), .val (.ref al), .val (.ref bl), .val (.int (0 : Int32))] [(.int (0 : Int32))])
        refine WP.iload K at_151 rfl (pc' := 153) rfl ?_
        refine WP.icmpF K at_153 (by decide) (pc' := 156) rfl ?_
        refine WP.iload K at_156 rfl (pc' := 158) rfl ?_
        refine WP.iloadN K at_158 rfl (pc' := 159) rfl ?_
        refine WP.icmpF K at_159 (by decide) (pc' := 162) rfl ?_
        refine WP.iconst K at_162 (v := (1 : Int32)) rfl (pc' := 163) rfl ?_
        refine WP.goto K at_163 (by decide) (pc' := 167) (by decide) ?_
        exact WP.retN K (ty := .boolean) (by decide) at_167 (by decide) (by decide) rfl
      · show WP κ h0 0 0 (mkF κ.m 40 #[.val (.int p0), .val (.int p1), .val (.int p2), .val (.int (0 : Int32)), .val (.int (0 : Int32)), .val (.int (3 : Int32)), .unset, .unset, .unset, .unset] [])
        refine WP.new K (w_0 hw) (w_1 hw) (w_2 hw) at_40 (k' := 1) (n' := 1) rfl rfl (by decide) (by decide) (pc' := 43) rfl fun h85 ky g85 E85 X85 D85 => ?_
        have ne_de_ky : de ≠ ky := fun z_ => by have q_ : @LT.lt Nat _ de h0.size := (Ary.lt (Ary.ext OLD.2 A_d)); have r_ : @Eq Nat de ky := z_; omega
        have old_ky : n0 ≤ ky := by have q_ := Z0; omega
        have OLD := Old.ext OLD E85
        have Z0 := Nat.le_trans Z0 E85.1
        have O_ky : IsBK Z h85 ky .null := ⟨X85, D85 (O := "com/example/knotwork/knotwork/runfile/RunFile$BlockingKey") (f := "parts") (d := "Ljava/util/List;") (Or.inr (w_39 hw)) (ty := (.object "java/util/List")) (by decide)⟩
        refine WP.dup K at_43 rfl (pc' := 44) rfl ?_
        refine WP.new K (w_3 hw) (w_4 hw) (w_5 hw) at_44 (k' := 2) (n' := 4) rfl rfl (by decide) (by decide) (pc' := 47) rfl fun h86 pl g86 E86 X86 D86 => ?_
        have ne_de_pl : de ≠ pl := fun z_ => by have q_ : @LT.lt Nat _ de h85.size := (Ary.lt (Ary.ext OLD.2 A_d)); have r_ : @Eq Nat de pl := z_; omega
        have ne_ky_pl : ky ≠ pl := fun z_ => by have q_ : @LT.lt Nat _ ky h85.size := (IsBK.lt O_ky); have r_ : @Eq Nat ky pl := z_; omega
        have old_pl : n0 ≤ pl := by have q_ := Z0; omega
        have O_ky := IsBK.ext E86 O_ky
        have OLD := Old.ext OLD E86
        have Z0 := Nat.le_trans Z0 E86.1
        have O_pl : IsAL Z h86 pl (.int (0 : Int32)) .null (.int (0 : Int32)) := ⟨X86, D86 (O := "java/util/AbstractList") (f := "modCount") (d := "I") (Or.inl (w_25 hw)) (ty := .int) (by decide), D86 (O := "java/util/ArrayList") (f := "elementData") (d := "[Ljava/lang/Object;") (Or.inl (w_28 hw)) (ty := (.array (.object "java/lang/Object"))) (by decide), D86 (O := "java/util/ArrayList") (f := "size") (d := "I") (Or.inl (w_52 hw)) (ty := .int) (by decide)⟩
        refine WP.dup K at_47 rfl (pc' := 48) rfl ?_
        refine WP.callI K (a := pl) (argsL := []) (S := [(.ref pl), (.ref ky), (.ref ky)]) rfl (w_6 hw) (w_7 hw) (rm_al w l Z a0 hw pl _ _ _ de kD fD h86 n0 Z0 O_pl old_pl S_d A_d OLD) (w_8 hw) (w_5 hw) (by decide) rfl (lenOf pd_0 rfl) rfl (W := 3) rfl (by decide) (by decide) (k' := 2) (n' := 4) rfl rfl (by decide) (by decide) at_48 (pc' := 51) rfl fun v h87 hq => ?_
        obtain ⟨rfl, K0, O_pl⟩ := hq
        have O_ky := IsBK.keep K0 O_ky (ninS ne_ky_pl nin0)
        have OLD := Old.keep OLD K0 (allS old_pl all0)
        have Z0 := Nat.le_trans Z0 K0.1
        show WP κ h87 2 4 (mkF κ.m 51 #[.val (.int p0), .val (.int p1), .val (.int p2), .val (.int (0 : Int32)), .val (.int (0 : Int32)), .val (.int (3 : Int32)), .unset, .unset, .unset, .unset] [(.ref pl), (.ref ky), (.ref ky)])
        refine WP.callI K (a := ky) (argsL := [(.ref pl)]) (S := [(.ref ky)]) rfl (w_29 hw) (w_30 hw) (rm_bk w l Z a0 hw ky pl _ h87 n0 Z0 O_ky old_ky) (w_31 hw) (w_2 hw) (by decide) rfl (lenOf pd_6 rfl) rfl (W := 1) rfl (by decide) (by decide) (k' := 2) (n' := 4) rfl rfl (by decide) (by decide) at_51 (pc' := 54) rfl fun v h88 hq => ?_
        obtain ⟨rfl, K0, O_ky⟩ := hq
        have O_pl := IsAL.keep K0 O_pl (ninS (Ne.symm ne_ky_pl) nin0)
        have OLD := Old.keep OLD K0 (allS old_ky all0)
        have Z0 := Nat.le_trans Z0 K0.1
        show WP κ h88 2 4 (mkF κ.m 54 #[.val (.int p0), .val (.int p1), .val (.int p2), .val (.int (0 : Int32)), .val (.int (0 : Int32)), .val (.int (3 : Int32)), .unset, .unset, .unset, .unset] [(.ref ky)])
        refine WP.astore K at_54 rfl (L' := #[.val (.int p0), .val (.int p1), .val (.int p2), .val (.int (0 : Int32)), .val (.int (0 : Int32)), .val (.int (3 : Int32)), .val (.ref ky), .unset, .unset, .unset]) rfl (pc' := 56) rfl ?_
        refine WP.new K (w_3 hw) (w_4 hw) (w_5 hw) at_56 (k' := 3) (n' := 7) rfl rfl (by decide) (by decide) (pc' := 59) rfl fun h89 al g89 E89 X89 D89 => ?_
        have ne_de_al : de ≠ al := fun z_ => by have q_ : @LT.lt Nat _ de h88.size := (Ary.lt (Ary.ext OLD.2 A_d)); have r_ : @Eq Nat de al := z_; omega
        have ne_ky_al : ky ≠ al := fun z_ => by have q_ : @LT.lt Nat _ ky h88.size := (IsBK.lt O_ky); have r_ : @Eq Nat ky al := z_; omega
        have old_al : n0 ≤ al := by have q_ := Z0; omega
        have O_ky := IsBK.ext E89 O_ky
        have OLD := Old.ext OLD E89
        have Z0 := Nat.le_trans Z0 E89.1
        have O_al : IsAL Z h89 al (.int (0 : Int32)) .null (.int (0 : Int32)) := ⟨X89, D89 (O := "java/util/AbstractList") (f := "modCount") (d := "I") (Or.inl (w_25 hw)) (ty := .int) (by decide), D89 (O := "java/util/ArrayList") (f := "elementData") (d := "[Ljava/lang/Object;") (Or.inl (w_28 hw)) (ty := (.array (.object "java/lang/Object"))) (by decide), D89 (O := "java/util/ArrayList") (f := "size") (d := "I") (Or.inl (w_52 hw)) (ty := .int) (by decide)⟩
        refine WP.dup K at_59 rfl (pc' := 60) rfl ?_
        refine WP.callI K (a := al) (argsL := []) (S := [(.ref al)]) rfl (w_6 hw) (w_7 hw) (rm_al w l Z a0 hw al _ _ _ de kD fD h89 n0 Z0 O_al old_al S_d A_d OLD) (w_8 hw) (w_5 hw) (by decide) rfl (lenOf pd_0 rfl) rfl (W := 1) rfl (by decide) (by decide) (k' := 3) (n' := 7) rfl rfl (by decide) (by decide) at_60 (pc' := 63) rfl fun v h90 hq => ?_
        obtain ⟨rfl, K0, O_al⟩ := hq
        have O_ky := IsBK.keep K0 O_ky (ninS ne_ky_al nin0)
        have OLD := Old.keep OLD K0 (allS old_al all0)
        have Z0 := Nat.le_trans Z0 K0.1
        show WP κ h90 3 7 (mkF κ.m 63 #[.val (.int p0), .val (.int p1), .val (.int p2), .val (.int (0 : Int32)), .val (.int (0 : Int32)), .val (.int (3 : Int32)), .val (.ref ky), .unset, .unset, .unset] [(.ref al)])
        refine WP.astore K at_63 rfl (L' := #[.val (.int p0), .val (.int p1), .val (.int p2), .val (.int (0 : Int32)), .val (.int (0 : Int32)), .val (.int (3 : Int32)), .val (.ref ky), .val (.ref al), .unset, .unset]) rfl (pc' := 65) rfl ?_
        refine WP.iload K at_65 rfl (pc' := 67) rfl ?_
        refine WP.iconst K at_67 (v := (1 : Int32)) rfl (pc' := 68) rfl ?_
        refine WP.icmpF K at_68 (by decide) (pc' := 71) rfl ?_
        refine WP.aload K at_71 rfl rfl (pc' := 73) rfl ?_
        refine WP.aload K at_73 rfl rfl (pc' := 75) rfl ?_
        have lt_ky : @LT.lt Nat _ ky h90.size := IsBK.lt O_ky
        have lt_al : @LT.lt Nat _ al h90.size := IsAL.lt O_al
        have zz : n0 ≤ h90.size := Z0
        refine WP.callF K (a := al) (argsL := [(.ref ky)]) (S := []) (w_40 hw) (w_41 hw) (fun vm0 hZ => mvT (s := κ.s.setVm vm0) hZ (w_42 hw)) (w_43 hw) (w_44 hw) (w_45 hw) (w_46 hw) (w_47 hw) (by decide) (IsAL.exa O_al) (rm_add0 w l Z a0 hw al (0 : Int32) ky _ de kD fD h90 n0 Z0 O_al O_ky ne_ky_al old_al S_d A_d OLD) (w_48 hw) (w_5 hw) (by decide) rfl (lenOf pd_7 rfl) rfl (W := 0) rfl (by decide) (by decide) (k' := 4) (n' := 17) rfl rfl (by decide) (by decide) at_75 (pc' := 80) rfl fun v h91 hq => ?_
        obtain ⟨rfl, K0, el, kE, s_el, OV, O_al, A_el⟩ := hq
        have O_ky := IsBK.keep K0 O_ky (ninS ne_ky_al nin0)
        have OLD := Old.keep OLD K0 (allS old_al all0)
        have Z0 := Nat.le_trans Z0 K0.1
        show WP κ h91 4 17 (mkF κ.m 80 #[.val (.int p0), .val (.int p1), .val (.int p2), .val (.int (0 : Int32)), .val (.int (0 : Int32)), .val (.int (3 : Int32)), .val (.ref ky), .val (.ref al), .unset, .unset] [(.int (1 : Int32))])
        have old_el : n0 ≤ el := by omega
        have ne_ke : ky ≠ el := fun z_ => by have r_ : @Eq Nat ky el := z_; omega
        obtain ⟨f, A_el⟩ : ∃ f, Ary Z h91 el kE (.object "java/lang/Object") 10 f := ⟨_, A_el⟩
        have O_al : IsAL Z h91 al (.int (1 : Int32)) (.ref el) (.int (1 : Int32)) := O_al
        refine WP.pop K at_80 rfl (pc' := 81) rfl ?_
        refine WP.iload K at_81 rfl (pc' := 83) rfl ?_
        refine WP.iconst K at_83 (v := (2 : Int32)) rfl (pc' := 84) rfl ?_
        refine WP.icmpF K at_84 (by decide) (pc' := 87) rfl ?_
        refine WP.aload K at_87 rfl rfl (pc' := 89) rfl ?_
        refine WP.aload K at_89 rfl rfl (pc' := 91) rfl ?_
        refine WP.callF K (a := al) (argsL := [(.ref ky)]) (S := []) (w_40 hw) (w_41 hw) (fun vm0 hZ => mvT (s := κ.s.setVm vm0) hZ (w_42 hw)) (w_43 hw) (w_44 hw) (w_45 hw) (w_46 hw) (w_47 hw) (by decide) (IsAL.exa O_al) (rm_add1 w l Z a0 hw al (1 : Int32) ky _ el kE f h91 n0 Z0 O_al O_ky ne_ky_al ne_ke old_al A_el OV old_el) (w_48 hw) (w_5 hw) (by decide) rfl (lenOf pd_7 rfl) rfl (W := 0) rfl (by decide) (by decide) (k' := 4) (n' := 17) rfl rfl (by decide) (by decide) at_91 (pc' := 96) rfl fun v h92 hq => ?_
        obtain ⟨rfl, K0, O_al, A_el⟩ := hq
        have O_ky := IsBK.keep K0 O_ky (ninS ne_ky_al (ninS ne_ke nin0))
        have OLD := Old.keep OLD K0 (allS old_al (allS old_el all0))
        have Z0 := Nat.le_trans Z0 K0.1
        show WP κ h92 4 17 (mkF κ.m 96 #[.val (.int p0), .val (.int p1), .val (.int p2), .val (.int (0 : Int32)), .val (.int (0 : Int32)), .val (.int (3 : Int32)), .val (.ref ky), .val (.ref al), .unset, .unset] [(.int (1 : Int32))])
        obtain ⟨f, A_el⟩ : ∃ f, Ary Z h92 el kE (.object "java/lang/Object") 10 f := ⟨_, A_el⟩
        have O_al : IsAL Z h92 al (.int (2 : Int32)) (.ref el) (.int (2 : Int32)) := O_al
        refine WP.pop K at_96 rfl (pc' := 97) rfl ?_
        refine WP.iload K at_97 rfl (pc' := 99) rfl ?_
        refine WP.iconst K at_99 (v := (3 : Int32)) rfl (pc' := 100) rfl ?_
        refine WP.icmpF K at_100 (by decide) (pc' := 103) rfl ?_
        refine WP.aload K at_103 rfl rfl (pc' := 105) rfl ?_
        refine WP.aload K at_105 rfl rfl (pc' := 107) rfl ?_
        refine WP.callF K (a := al) (argsL := [(.ref ky)]) (S := []) (w_40 hw) (w_41 hw) (fun vm0 hZ => mvT (s := κ.s.setVm vm0) hZ (w_42 hw)) (w_43 hw) (w_44 hw) (w_45 hw) (w_46 hw) (w_47 hw) (by decide) (IsAL.exa O_al) (rm_add2 w l Z a0 hw al (2 : Int32) ky _ el kE f h92 n0 Z0 O_al O_ky ne_ky_al ne_ke old_al A_el OV old_el) (w_48 hw) (w_5 hw) (by decide) rfl (lenOf pd_7 rfl) rfl (W := 0) rfl (by decide) (by decide) (k' := 4) (n' := 17) rfl rfl (by decide) (by decide) at_107 (pc' := 112) rfl fun v h93 hq => ?_
        obtain ⟨rfl, K0, O_al, A_el⟩ := hq
        have O_ky := IsBK.keep K0 O_ky (ninS ne_ky_al (ninS ne_ke nin0))
        have OLD := Old.keep OLD K0 (allS old_al (allS old_el all0))
        have Z0 := Nat.le_trans Z0 K0.1
        show WP κ h93 4 17 (mkF κ.m 112 #[.val (.int p0), .val (.int p1), .val (.int p2), .val (.int (0 : Int32)), .val (.int (0 : Int32)), .val (.int (3 : Int32)), .val (.ref ky), .val (.ref al), .unset, .unset] [(.int (1 : Int32))])
        obtain ⟨f, A_el⟩ : ∃ f, Ary Z h93 el kE (.object "java/lang/Object") 10 f := ⟨_, A_el⟩
        have O_al : IsAL Z h93 al (.int (3 : Int32)) (.ref el) (.int (3 : Int32)) := O_al
        refine WP.pop K at_112 rfl (pc' := 113) rfl ?_
        refine WP.new K (w_75 hw) (w_76 hw) (w_77 hw) at_113 (k' := 5) (n' := 20) rfl rfl (by decide) (by decide) (pc' := 116) rfl fun h94 bl g94 E94 X94 D94 => ?_
        have ne_de_bl : de ≠ bl := fun z_ => by have q_ : @LT.lt Nat _ de h93.size := (Ary.lt (Ary.ext OLD.2 A_d)); have r_ : @Eq Nat de bl := z_; omega
        have ne_ky_bl : ky ≠ bl := fun z_ => by have q_ : @LT.lt Nat _ ky h93.size := (IsBK.lt O_ky); have r_ : @Eq Nat ky bl := z_; omega
        have ne_al_bl : al ≠ bl := fun z_ => by have q_ : @LT.lt Nat _ al h93.size := (IsAL.lt O_al); have r_ : @Eq Nat al bl := z_; omega
        have old_bl : n0 ≤ bl := by have q_ := Z0; omega
        have O_ky := IsBK.ext E94 O_ky
        have O_al := IsAL.ext E94 O_al
        have OLD := Old.ext OLD E94
        have Z0 := Nat.le_trans Z0 E94.1
        have O_bl : IsBl Z h94 bl .null (.int (0 : Int32)) .null := ⟨X94, D94 (O := "com/example/knotwork/knotwork/runfile/RunFile$Blocking") (f := "keys") (d := "Ljava/util/List;") (Or.inr (w_83 hw)) (ty := (.object "java/util/List")) (by decide), D94 (O := "com/example/knotwork/knotwork/runfile/RunFile$Blocking") (f := "window") (d := "I") (Or.inr (w_85 hw)) (ty := .int) (by decide), D94 (O := "com/example/knotwork/knotwork/runfile/RunFile$Blocking") (f := "through") (d := "Ljava/util/List;") (Or.inr (w_87 hw)) (ty := (.object "java/util/List")) (by decide)⟩
        refine WP.dup K at_116 rfl (pc' := 117) rfl ?_
        refine WP.aload K at_117 rfl rfl (pc' := 119) rfl ?_
        refine WP.iload K at_119 rfl (pc' := 121) rfl ?_
        refine WP.new K (w_3 hw) (w_4 hw) (w_5 hw) at_121 (k' := 6) (n' := 23) rfl rfl (by decide) (by decide) (pc' := 124) rfl fun h95 tl g95 E95 X95 D95 => ?_
        have ne_de_tl : de ≠ tl := fun z_ => by have q_ : @LT.lt Nat _ de h94.size := (Ary.lt (Ary.ext OLD.2 A_d)); have r_ : @Eq Nat de tl := z_; omega
        have ne_ky_tl : ky ≠ tl := fun z_ => by have q_ : @LT.lt Nat _ ky h94.size := (IsBK.lt O_ky); have r_ : @Eq Nat ky tl := z_; omega
        have ne_al_tl : al ≠ tl := fun z_ => by have q_ : @LT.lt Nat _ al h94.size := (IsAL.lt O_al); have r_ : @Eq Nat al tl := z_; omega
        have ne_bl_tl : bl ≠ tl := fun z_ => by have q_ : @LT.lt Nat _ bl h94.size := (IsBl.lt O_bl); have r_ : @Eq Nat bl tl := z_; omega
        have old_tl : n0 ≤ tl := by have q_ := Z0; omega
        have O_ky := IsBK.ext E95 O_ky
        have O_al := IsAL.ext E95 O_al
        have O_bl := IsBl.ext E95 O_bl
        have OLD := Old.ext OLD E95
        have Z0 := Nat.le_trans Z0 E95.1
        have O_tl : IsAL Z h95 tl (.int (0 : Int32)) .null (.int (0 : Int32)) := ⟨X95, D95 (O := "java/util/AbstractList") (f := "modCount") (d := "I") (Or.inl (w_25 hw)) (ty := .int) (by decide), D95 (O := "java/util/ArrayList") (f := "elementData") (d := "[Ljava/lang/Object;") (Or.inl (w_28 hw)) (ty := (.array (.object "java/lang/Object"))) (by decide), D95 (O := "java/util/ArrayList") (f := "size") (d := "I") (Or.inl (w_52 hw)) (ty := .int) (by decide)⟩
        refine WP.dup K at_124 rfl (pc' := 125) rfl ?_
        refine WP.callI K (a := tl) (argsL := []) (S := [(.ref tl), (.int (0 : Int32)), (.ref al), (.ref bl), (.ref bl)]) rfl (w_6 hw) (w_7 hw) (rm_al w l Z a0 hw tl _ _ _ de kD fD h95 n0 Z0 O_tl old_tl S_d A_d OLD) (w_8 hw) (w_5 hw) (by decide) rfl (lenOf pd_0 rfl) rfl (W := 5) rfl (by decide) (by decide) (k' := 6) (n' := 23) rfl rfl (by decide) (by decide) at_125 (pc' := 128) rfl fun v h96 hq => ?_
        obtain ⟨rfl, K0, O_tl⟩ := hq
        have O_ky := IsBK.keep K0 O_ky (ninS ne_ky_tl nin0)
        have O_al := IsAL.keep K0 O_al (ninS ne_al_tl nin0)
        have O_bl := IsBl.keep K0 O_bl (ninS ne_bl_tl nin0)
        have OLD := Old.keep OLD K0 (allS old_tl all0)
        have Z0 := Nat.le_trans Z0 K0.1
        show WP κ h96 6 23 (mkF κ.m 128 #[.val (.int p0), .val (.int p1), .val (.int p2), .val (.int (0 : Int32)), .val (.int (0 : Int32)), .val (.int (3 : Int32)), .val (.ref ky), .val (.ref al), .unset, .unset] [(.ref tl), (.int (0 : Int32)), (.ref al), (.ref bl), (.ref bl)])
        refine WP.callI K (a := bl) (argsL := [(.ref al), (.int (0 : Int32)), (.ref tl)]) (S := [(.ref bl)]) rfl (w_78 hw) (w_79 hw) (rm_blk0 w l Z a0 hw bl al tl _ _ _ _ _ (3 : Int32) h96 n0 Z0 O_bl O_al old_bl) (w_80 hw) (w_77 hw) (by decide) rfl (lenOf pd_8 rfl) rfl (W := 1) rfl (by decide) (by decide) (k' := 6) (n' := 23) rfl rfl (by decide) (by decide) at_128 (pc' := 131) rfl fun v h97 hq => ?_
        obtain ⟨rfl, K0, O_bl⟩ := hq
        have O_ky := IsBK.keep K0 O_ky (ninS ne_ky_bl nin0)
        have O_al := IsAL.keep K0 O_al (ninS ne_al_bl nin0)
        have O_tl := IsAL.keep K0 O_tl (ninS (Ne.symm ne_bl_tl) nin0)
        have OLD := Old.keep OLD K0 (allS old_bl all0)
        have Z0 := Nat.le_trans Z0 K0.1
        show WP κ h97 6 23 (mkF κ.m 131 #[.val (.int p0), .val (.int p1), .val (.int p2), .val (.int (0 : Int32)), .val (.int (0 : Int32)), .val (.int (3 : Int32)), .val (.ref ky), .val (.ref al), .unset, .unset] [(.ref bl)])
        refine WP.astore K at_131 rfl (L' := #[.val (.int p0), .val (.int p1), .val (.int p2), .val (.int (0 : Int32)), .val (.int (0 : Int32)), .val (.int (3 : Int32)), .val (.ref ky), .val (.ref al), .val (.ref bl), .unset]) rfl (pc' := 133) rfl ?_
        refine WP.iload K at_133 rfl (pc' := 135) rfl ?_
        refine WP.iconst K at_135 (v := (2 : Int32)) rfl (pc' := 136) rfl ?_
        refine WP.icmpT K at_136 (by decide) (by decide) (pc' := 143) (by decide) ?_
        refine WP.iconst K at_143 (v := (0 : Int32)) rfl (pc' := 144) rfl ?_
        refine WP.istore K at_144 (L' := #[.val (.int p0), .val (.int p1), .val (.int p2), .val (.int (0 : Int32)), .val (.int (0 : Int32)), .val (.int (3 : Int32)), .val (.ref ky), .val (.ref al), .val (.ref bl), .val (.int (0 : Int32))]) rfl (pc' := 146) rfl ?_
        refine WP.aload K at_146 rfl rfl (pc' := 148) rfl ?_
        refine WP.callV K (a := bl) (argsL := []) (S := []) (w_88 hw) (w_89 hw) (fun vm0 hZ => notFace_of_selects (args := #[]) (mvT (s := κ.s.setVm vm0) hZ (w_91 hw))) (w_91 hw) (w_90 hw) (by decide) (IsBl.exa O_bl) (rm_iss w l Z a0 hw bl _ _ (0 : Int32) h97 n0 Z0 O_bl) (w_92 hw) (w_77 hw) (by decide) rfl (lenOf pd_9 rfl) rfl (W := 0) rfl (by decide) (by decide) (k' := 6) (n' := 23) rfl rfl (by decide) (by decide) at_148 (pc' := 151) rfl fun v h98 hq => ?_
        obtain ⟨rfl, rfl⟩ := hq
        show WP κ h97 6 23 (mkF κ.m 151 #[.val (.int p0), .val (.int p1), .val (.int p2), .val (.int (0 : Int32)), .val (.int (0 : Int32)), .val (.int (3 : Int32)), .val (.ref ky), .val (.ref al), .val (.ref bl), .val (.int (0 : Int32))] [(.int (nar .boolean (if (0 : Int32) = (0 : Int32) then (0 : Int32) else (1 : Int32))))])
        rw [show (nar .boolean (if (0 : Int32) = (0 : Int32) then (0 : Int32) else (1 : Int32))) = (0 : Int32) from by decide]
        show WP κ h97 6 23 (mkF κ.m 151 #[.val (.int p0), .val (.int p1), .val (.int p2), .val (.int (0 : Int32)), .val (.int (0 : Int32)), .val (.int (3 : Int32)), .val (.ref ky), .val (.ref al), .val (.ref bl), .val (.int (0 : Int32))] [(.int (0 : Int32))])
        refine WP.iload K at_151 rfl (pc' := 153) rfl ?_
        refine WP.icmpF K at_153 (by decide) (pc' := 156) rfl ?_
        refine WP.iload K at_156 rfl (pc' := 158) rfl ?_
        refine WP.iloadN K at_158 rfl (pc' := 159) rfl ?_
        refine WP.icmpF K at_159 (by decide) (pc' := 162) rfl ?_
        refine WP.iconst K at_162 (v := (1 : Int32)) rfl (pc' := 163) rfl ?_
        refine WP.goto K at_163 (by decide) (pc' := 167) (by decide) ?_
        exact WP.retN K (ty := .boolean) (by decide) at_167 (by decide) (by decide) rfl
    · refine WP.if0F K at_13 (by rw [if_neg cm]; decide) (pc' := 16) rfl ?_
      refine WP.iconst K at_16 (v := (2 : Int32)) rfl (pc' := 17) rfl ?_
      refine WP.iloadN K at_17 rfl (pc' := 18) rfl ?_
      refine WP.callS K (argsL := [(.int (2 : Int32)), (.int p1)]) (S := []) (w_93 hw) (w_69 hw) (rm_max w l Z a0 hw (2 : Int32) p1 h0 n0 Z0) (w_71 hw) (w_70 hw) (by decide) rfl (lenOf pd_1 rfl) rfl (W := 0) rfl (by decide) (by decide) (k' := 0) (n' := 0) rfl rfl (by decide) (by decide) at_18 (pc' := 21) rfl fun v h36 hq => ?_
      obtain ⟨rfl, rfl⟩ := hq
      show WP κ h0 0 0 (mkF κ.m 21 #[.val (.int p0), .val (.int p1), .val (.int p2), .val (.int (if (p0 &&& (1 : Int32)) = (0 : Int32) then (0 : Int32) else (1 : Int32))), .unset, .unset, .unset, .unset, .unset, .unset] [(.int (own_max (2 : Int32) p1))])
      obtain ⟨hw2, hw0⟩ := own_win p1
      generalize e_win : (own_max (2 : Int32) p1) = win at hw2 hw0 ⊢
      refine WP.goto K at_21 (by decide) (pc' := 25) (by decide) ?_
      refine WP.istore K at_25 (L' := #[.val (.int p0), .val (.int p1), .val (.int p2), .val (.int (if (p0 &&& (1 : Int32)) = (0 : Int32) then (0 : Int32) else (1 : Int32))), .val (.int win), .unset, .unset, .unset, .unset, .unset]) rfl (pc' := 27) rfl ?_
      refine WP.iloadN K at_27 rfl (pc' := 28) rfl ?_
      refine WP.if0F K at_28 (by rw [if_neg cm]; decide) (pc' := 31) rfl ?_
      refine WP.iconst K at_31 (v := (1 : Int32)) rfl (pc' := 32) rfl ?_
      refine WP.goto K at_32 (by decide) (pc' := 38) (by decide) ?_
      refine WP.istore K at_38 (L' := #[.val (.int p0), .val (.int p1), .val (.int p2), .val (.int (if (p0 &&& (1 : Int32)) = (0 : Int32) then (0 : Int32) else (1 : Int32))), .val (.int win), .val (.int (1 : Int32)), .unset, .unset, .unset, .unset]) rfl (pc' := 40) rfl ?_
      rw [if_neg cm]
      show WP κ h0 0 0 (mkF κ.m 40 #[.val (.int p0), .val (.int p1), .val (.int p2), .val (.int (1 : Int32)), .val (.int win), .val (.int (1 : Int32)), .unset, .unset, .unset, .unset] [])
      refine WP.new K (w_0 hw) (w_1 hw) (w_2 hw) at_40 (k' := 1) (n' := 1) rfl rfl (by decide) (by decide) (pc' := 43) rfl fun h37 ky g37 E37 X37 D37 => ?_
      have ne_de_ky : de ≠ ky := fun z_ => by have q_ : @LT.lt Nat _ de h0.size := (Ary.lt (Ary.ext OLD.2 A_d)); have r_ : @Eq Nat de ky := z_; omega
      have old_ky : n0 ≤ ky := by have q_ := Z0; omega
      have OLD := Old.ext OLD E37
      have Z0 := Nat.le_trans Z0 E37.1
      have O_ky : IsBK Z h37 ky .null := ⟨X37, D37 (O := "com/example/knotwork/knotwork/runfile/RunFile$BlockingKey") (f := "parts") (d := "Ljava/util/List;") (Or.inr (w_39 hw)) (ty := (.object "java/util/List")) (by decide)⟩
      refine WP.dup K at_43 rfl (pc' := 44) rfl ?_
      refine WP.new K (w_3 hw) (w_4 hw) (w_5 hw) at_44 (k' := 2) (n' := 4) rfl rfl (by decide) (by decide) (pc' := 47) rfl fun h38 pl g38 E38 X38 D38 => ?_
      have ne_de_pl : de ≠ pl := fun z_ => by have q_ : @LT.lt Nat _ de h37.size := (Ary.lt (Ary.ext OLD.2 A_d)); have r_ : @Eq Nat de pl := z_; omega
      have ne_ky_pl : ky ≠ pl := fun z_ => by have q_ : @LT.lt Nat _ ky h37.size := (IsBK.lt O_ky); have r_ : @Eq Nat ky pl := z_; omega
      have old_pl : n0 ≤ pl := by have q_ := Z0; omega
      have O_ky := IsBK.ext E38 O_ky
      have OLD := Old.ext OLD E38
      have Z0 := Nat.le_trans Z0 E38.1
      have O_pl : IsAL Z h38 pl (.int (0 : Int32)) .null (.int (0 : Int32)) := ⟨X38, D38 (O := "java/util/AbstractList") (f := "modCount") (d := "I") (Or.inl (w_25 hw)) (ty := .int) (by decide), D38 (O := "java/util/ArrayList") (f := "elementData") (d := "[Ljava/lang/Object;") (Or.inl (w_28 hw)) (ty := (.array (.object "java/lang/Object"))) (by decide), D38 (O := "java/util/ArrayList") (f := "size") (d := "I") (Or.inl (w_52 hw)) (ty := .int) (by decide)⟩
      refine WP.dup K at_47 rfl (pc' := 48) rfl ?_
      refine WP.callI K (a := pl) (argsL := []) (S := [(.ref pl), (.ref ky), (.ref ky)]) rfl (w_6 hw) (w_7 hw) (rm_al w l Z a0 hw pl _ _ _ de kD fD h38 n0 Z0 O_pl old_pl S_d A_d OLD) (w_8 hw) (w_5 hw) (by decide) rfl (lenOf pd_0 rfl) rfl (W := 3) rfl (by decide) (by decide) (k' := 2) (n' := 4) rfl rfl (by decide) (by decide) at_48 (pc' := 51) rfl fun v h39 hq => ?_
      obtain ⟨rfl, K0, O_pl⟩ := hq
      have O_ky := IsBK.keep K0 O_ky (ninS ne_ky_pl nin0)
      have OLD := Old.keep OLD K0 (allS old_pl all0)
      have Z0 := Nat.le_trans Z0 K0.1
      show WP κ h39 2 4 (mkF κ.m 51 #[.val (.int p0), .val (.int p1), .val (.int p2), .val (.int (1 : Int32)), .val (.int win), .val (.int (1 : Int32)), .unset, .unset, .unset, .unset] [(.ref pl), (.ref ky), (.ref ky)])
      refine WP.callI K (a := ky) (argsL := [(.ref pl)]) (S := [(.ref ky)]) rfl (w_29 hw) (w_30 hw) (rm_bk w l Z a0 hw ky pl _ h39 n0 Z0 O_ky old_ky) (w_31 hw) (w_2 hw) (by decide) rfl (lenOf pd_6 rfl) rfl (W := 1) rfl (by decide) (by decide) (k' := 2) (n' := 4) rfl rfl (by decide) (by decide) at_51 (pc' := 54) rfl fun v h40 hq => ?_
      obtain ⟨rfl, K0, O_ky⟩ := hq
      have O_pl := IsAL.keep K0 O_pl (ninS (Ne.symm ne_ky_pl) nin0)
      have OLD := Old.keep OLD K0 (allS old_ky all0)
      have Z0 := Nat.le_trans Z0 K0.1
      show WP κ h40 2 4 (mkF κ.m 54 #[.val (.int p0), .val (.int p1), .val (.int p2), .val (.int (1 : Int32)), .val (.int win), .val (.int (1 : Int32)), .unset, .unset, .unset, .unset] [(.ref ky)])
      refine WP.astore K at_54 rfl (L' := #[.val (.int p0), .val (.int p1), .val (.int p2), .val (.int (1 : Int32)), .val (.int win), .val (.int (1 : Int32)), .val (.ref ky), .unset, .unset, .unset]) rfl (pc' := 56) rfl ?_
      refine WP.new K (w_3 hw) (w_4 hw) (w_5 hw) at_56 (k' := 3) (n' := 7) rfl rfl (by decide) (by decide) (pc' := 59) rfl fun h41 al g41 E41 X41 D41 => ?_
      have ne_de_al : de ≠ al := fun z_ => by have q_ : @LT.lt Nat _ de h40.size := (Ary.lt (Ary.ext OLD.2 A_d)); have r_ : @Eq Nat de al := z_; omega
      have ne_ky_al : ky ≠ al := fun z_ => by have q_ : @LT.lt Nat _ ky h40.size := (IsBK.lt O_ky); have r_ : @Eq Nat ky al := z_; omega
      have old_al : n0 ≤ al := by have q_ := Z0; omega
      have O_ky := IsBK.ext E41 O_ky
      have OLD := Old.ext OLD E41
      have Z0 := Nat.le_trans Z0 E41.1
      have O_al : IsAL Z h41 al (.int (0 : Int32)) .null (.int (0 : Int32)) := ⟨X41, D41 (O := "java/util/AbstractList") (f := "modCount") (d := "I") (Or.inl (w_25 hw)) (ty := .int) (by decide), D41 (O := "java/util/ArrayList") (f := "elementData") (d := "[Ljava/lang/Object;") (Or.inl (w_28 hw)) (ty := (.array (.object "java/lang/Object"))) (by decide), D41 (O := "java/util/ArrayList") (f := "size") (d := "I") (Or.inl (w_52 hw)) (ty := .int) (by decide)⟩
      refine WP.dup K at_59 rfl (pc' := 60) rfl ?_
      refine WP.callI K (a := al) (argsL := []) (S := [(.ref al)]) rfl (w_6 hw) (w_7 hw) (rm_al w l Z a0 hw al _ _ _ de kD fD h41 n0 Z0 O_al old_al S_d A_d OLD) (w_8 hw) (w_5 hw) (by decide) rfl (lenOf pd_0 rfl) rfl (W := 1) rfl (by decide) (by decide) (k' := 3) (n' := 7) rfl rfl (by decide) (by decide) at_60 (pc' := 63) rfl fun v h42 hq => ?_
      obtain ⟨rfl, K0, O_al⟩ := hq
      have O_ky := IsBK.keep K0 O_ky (ninS ne_ky_al nin0)
      have OLD := Old.keep OLD K0 (allS old_al all0)
      have Z0 := Nat.le_trans Z0 K0.1
      show WP κ h42 3 7 (mkF κ.m 63 #[.val (.int p0), .val (.int p1), .val (.int p2), .val (.int (1 : Int32)), .val (.int win), .val (.int (1 : Int32)), .val (.ref ky), .unset, .unset, .unset] [(.ref al)])
      refine WP.astore K at_63 rfl (L' := #[.val (.int p0), .val (.int p1), .val (.int p2), .val (.int (1 : Int32)), .val (.int win), .val (.int (1 : Int32)), .val (.ref ky), .val (.ref al), .unset, .unset]) rfl (pc' := 65) rfl ?_
      refine WP.iload K at_65 rfl (pc' := 67) rfl ?_
      refine WP.iconst K at_67 (v := (1 : Int32)) rfl (pc' := 68) rfl ?_
      refine WP.icmpF K at_68 (by decide) (pc' := 71) rfl ?_
      refine WP.aload K at_71 rfl rfl (pc' := 73) rfl ?_
      refine WP.aload K at_73 rfl rfl (pc' := 75) rfl ?_
      have lt_ky : @LT.lt Nat _ ky h42.size := IsBK.lt O_ky
      have lt_al : @LT.lt Nat _ al h42.size := IsAL.lt O_al
      have zz : n0 ≤ h42.size := Z0
      refine WP.callF K (a := al) (argsL := [(.ref ky)]) (S := []) (w_40 hw) (w_41 hw) (fun vm0 hZ => mvT (s := κ.s.setVm vm0) hZ (w_42 hw)) (w_43 hw) (w_44 hw) (w_45 hw) (w_46 hw) (w_47 hw) (by decide) (IsAL.exa O_al) (rm_add0 w l Z a0 hw al (0 : Int32) ky _ de kD fD h42 n0 Z0 O_al O_ky ne_ky_al old_al S_d A_d OLD) (w_48 hw) (w_5 hw) (by decide) rfl (lenOf pd_7 rfl) rfl (W := 0) rfl (by decide) (by decide) (k' := 4) (n' := 17) rfl rfl (by decide) (by decide) at_75 (pc' := 80) rfl fun v h43 hq => ?_
      obtain ⟨rfl, K0, el, kE, s_el, OV, O_al, A_el⟩ := hq
      have O_ky := IsBK.keep K0 O_ky (ninS ne_ky_al nin0)
      have OLD := Old.keep OLD K0 (allS old_al all0)
      have Z0 := Nat.le_trans Z0 K0.1
      show WP κ h43 4 17 (mkF κ.m 80 #[.val (.int p0), .val (.int p1), .val (.int p2), .val (.int (1 : Int32)), .val (.int win), .val (.int (1 : Int32)), .val (.ref ky), .val (.ref al), .unset, .unset] [(.int (1 : Int32))])
      have old_el : n0 ≤ el := by omega
      have ne_ke : ky ≠ el := fun z_ => by have r_ : @Eq Nat ky el := z_; omega
      obtain ⟨f, A_el⟩ : ∃ f, Ary Z h43 el kE (.object "java/lang/Object") 10 f := ⟨_, A_el⟩
      have O_al : IsAL Z h43 al (.int (1 : Int32)) (.ref el) (.int (1 : Int32)) := O_al
      refine WP.pop K at_80 rfl (pc' := 81) rfl ?_
      refine WP.iload K at_81 rfl (pc' := 83) rfl ?_
      refine WP.iconst K at_83 (v := (2 : Int32)) rfl (pc' := 84) rfl ?_
      refine WP.icmpT K at_84 (by decide) (by decide) (pc' := 97) (by decide) ?_
      refine WP.iload K at_97 rfl (pc' := 99) rfl ?_
      refine WP.iconst K at_99 (v := (3 : Int32)) rfl (pc' := 100) rfl ?_
      refine WP.icmpT K at_100 (by decide) (by decide) (pc' := 113) (by decide) ?_
      refine WP.new K (w_75 hw) (w_76 hw) (w_77 hw) at_113 (k' := 5) (n' := 20) rfl rfl (by decide) (by decide) (pc' := 116) rfl fun h44 bl g44 E44 X44 D44 => ?_
      have ne_de_bl : de ≠ bl := fun z_ => by have q_ : @LT.lt Nat _ de h43.size := (Ary.lt (Ary.ext OLD.2 A_d)); have r_ : @Eq Nat de bl := z_; omega
      have ne_ky_bl : ky ≠ bl := fun z_ => by have q_ : @LT.lt Nat _ ky h43.size := (IsBK.lt O_ky); have r_ : @Eq Nat ky bl := z_; omega
      have ne_al_bl : al ≠ bl := fun z_ => by have q_ : @LT.lt Nat _ al h43.size := (IsAL.lt O_al); have r_ : @Eq Nat al bl := z_; omega
      have old_bl : n0 ≤ bl := by have q_ := Z0; omega
      have O_ky := IsBK.ext E44 O_ky
      have O_al := IsAL.ext E44 O_al
      have OLD := Old.ext OLD E44
      have Z0 := Nat.le_trans Z0 E44.1
      have O_bl : IsBl Z h44 bl .null (.int (0 : Int32)) .null := ⟨X44, D44 (O := "com/example/knotwork/knotwork/runfile/RunFile$Blocking") (f := "keys") (d := "Ljava/util/List;") (Or.inr (w_83 hw)) (ty := (.object "java/util/List")) (by decide), D44 (O := "com/example/knotwork/knotwork/runfile/RunFile$Blocking") (f := "window") (d := "I") (Or.inr (w_85 hw)) (ty := .int) (by decide), D44 (O := "com/example/knotwork/knotwork/runfile/RunFile$Blocking") (f := "through") (d := "Ljava/util/List;") (Or.inr (w_87 hw)) (ty := (.object "java/util/List")) (by decide)⟩
      refine WP.dup K at_116 rfl (pc' := 117) rfl ?_
      refine WP.aload K at_117 rfl rfl (pc' := 119) rfl ?_
      refine WP.iload K at_119 rfl (pc' := 121) rfl ?_
      refine WP.new K (w_3 hw) (w_4 hw) (w_5 hw) at_121 (k' := 6) (n' := 23) rfl rfl (by decide) (by decide) (pc' := 124) rfl fun h45 tl g45 E45 X45 D45 => ?_
      have ne_de_tl : de ≠ tl := fun z_ => by have q_ : @LT.lt Nat _ de h44.size := (Ary.lt (Ary.ext OLD.2 A_d)); have r_ : @Eq Nat de tl := z_; omega
      have ne_ky_tl : ky ≠ tl := fun z_ => by have q_ : @LT.lt Nat _ ky h44.size := (IsBK.lt O_ky); have r_ : @Eq Nat ky tl := z_; omega
      have ne_al_tl : al ≠ tl := fun z_ => by have q_ : @LT.lt Nat _ al h44.size := (IsAL.lt O_al); have r_ : @Eq Nat al tl := z_; omega
      have ne_bl_tl : bl ≠ tl := fun z_ => by have q_ : @LT.lt Nat _ bl h44.size := (IsBl.lt O_bl); have r_ : @Eq Nat bl tl := z_; omega
      have old_tl : n0 ≤ tl := by have q_ := Z0; omega
      have O_ky := IsBK.ext E45 O_ky
      have O_al := IsAL.ext E45 O_al
      have O_bl := IsBl.ext E45 O_bl
      have OLD := Old.ext OLD E45
      have Z0 := Nat.le_trans Z0 E45.1
      have O_tl : IsAL Z h45 tl (.int (0 : Int32)) .null (.int (0 : Int32)) := ⟨X45, D45 (O := "java/util/AbstractList") (f := "modCount") (d := "I") (Or.inl (w_25 hw)) (ty := .int) (by decide), D45 (O := "java/util/ArrayList") (f := "elementData") (d := "[Ljava/lang/Object;") (Or.inl (w_28 hw)) (ty := (.array (.object "java/lang/Object"))) (by decide), D45 (O := "java/util/ArrayList") (f := "size") (d := "I") (Or.inl (w_52 hw)) (ty := .int) (by decide)⟩
      refine WP.dup K at_124 rfl (pc' := 125) rfl ?_
      refine WP.callI K (a := tl) (argsL := []) (S := [(.ref tl), (.int win), (.ref al), (.ref bl), (.ref bl)]) rfl (w_6 hw) (w_7 hw) (rm_al w l Z a0 hw tl _ _ _ de kD fD h45 n0 Z0 O_tl old_tl S_d A_d OLD) (w_8 hw) (w_5 hw) (by decide) rfl (lenOf pd_0 rfl) rfl (W := 5) rfl (by decide) (by decide) (k' := 6) (n' := 23) rfl rfl (by decide) (by decide) at_125 (pc' := 128) rfl fun v h46 hq => ?_
      obtain ⟨rfl, K0, O_tl⟩ := hq
      have O_ky := IsBK.keep K0 O_ky (ninS ne_ky_tl nin0)
      have O_al := IsAL.keep K0 O_al (ninS ne_al_tl nin0)
      have O_bl := IsBl.keep K0 O_bl (ninS ne_bl_tl nin0)
      have OLD := Old.keep OLD K0 (allS old_tl all0)
      have Z0 := Nat.le_trans Z0 K0.1
      show WP κ h46 6 23 (mkF κ.m 128 #[.val (.int p0), .val (.int p1), .val (.int p2), .val (.int (1 : Int32)), .val (.int win), .val (.int (1 : Int32)), .val (.ref ky), .val (.ref al), .unset, .unset] [(.ref tl), (.int win), (.ref al), (.ref bl), (.ref bl)])
      refine WP.callI K (a := bl) (argsL := [(.ref al), (.int win), (.ref tl)]) (S := [(.ref bl)]) rfl (w_78 hw) (w_79 hw) (rm_blk2 w l Z a0 hw bl al tl _ _ _ _ _ (1 : Int32) win h46 n0 Z0 O_bl O_al old_bl hw2 hw0) (w_80 hw) (w_77 hw) (by decide) rfl (lenOf pd_8 rfl) rfl (W := 1) rfl (by decide) (by decide) (k' := 6) (n' := 23) rfl rfl (by decide) (by decide) at_128 (pc' := 131) rfl fun v h47 hq => ?_
      obtain ⟨rfl, K0, O_bl⟩ := hq
      have O_ky := IsBK.keep K0 O_ky (ninS ne_ky_bl nin0)
      have O_al := IsAL.keep K0 O_al (ninS ne_al_bl nin0)
      have O_tl := IsAL.keep K0 O_tl (ninS (Ne.symm ne_bl_tl) nin0)
      have OLD := Old.keep OLD K0 (allS old_bl all0)
      have Z0 := Nat.le_trans Z0 K0.1
      show WP κ h47 6 23 (mkF κ.m 131 #[.val (.int p0), .val (.int p1), .val (.int p2), .val (.int (1 : Int32)), .val (.int win), .val (.int (1 : Int32)), .val (.ref ky), .val (.ref al), .unset, .unset] [(.ref bl)])
      refine WP.astore K at_131 rfl (L' := #[.val (.int p0), .val (.int p1), .val (.int p2), .val (.int (1 : Int32)), .val (.int win), .val (.int (1 : Int32)), .val (.ref ky), .val (.ref al), .val (.ref bl), .unset]) rfl (pc' := 133) rfl ?_
      refine WP.iload K at_133 rfl (pc' := 135) rfl ?_
      refine WP.iconst K at_135 (v := (2 : Int32)) rfl (pc' := 136) rfl ?_
      refine WP.icmpF K at_136 (flt hw2).1 (pc' := 139) rfl ?_
      refine WP.iconst K at_139 (v := (1 : Int32)) rfl (pc' := 140) rfl ?_
      refine WP.goto K at_140 (by decide) (pc' := 144) (by decide) ?_
      refine WP.istore K at_144 (L' := #[.val (.int p0), .val (.int p1), .val (.int p2), .val (.int (1 : Int32)), .val (.int win), .val (.int (1 : Int32)), .val (.ref ky), .val (.ref al), .val (.ref bl), .val (.int (1 : Int32))]) rfl (pc' := 146) rfl ?_
      refine WP.aload K at_146 rfl rfl (pc' := 148) rfl ?_
      refine WP.callV K (a := bl) (argsL := []) (S := []) (w_88 hw) (w_89 hw) (fun vm0 hZ => notFace_of_selects (args := #[]) (mvT (s := κ.s.setVm vm0) hZ (w_91 hw))) (w_91 hw) (w_90 hw) (by decide) (IsBl.exa O_bl) (rm_iss w l Z a0 hw bl _ _ win h47 n0 Z0 O_bl) (w_92 hw) (w_77 hw) (by decide) rfl (lenOf pd_9 rfl) rfl (W := 0) rfl (by decide) (by decide) (k' := 6) (n' := 23) rfl rfl (by decide) (by decide) at_148 (pc' := 151) rfl fun v h48 hq => ?_
      obtain ⟨rfl, rfl⟩ := hq
      show WP κ h47 6 23 (mkF κ.m 151 #[.val (.int p0), .val (.int p1), .val (.int p2), .val (.int (1 : Int32)), .val (.int win), .val (.int (1 : Int32)), .val (.ref ky), .val (.ref al), .val (.ref bl), .val (.int (1 : Int32))] [(.int (nar .boolean (if win = (0 : Int32) then (0 : Int32) else (1 : Int32))))])
      rw [show (nar .boolean (if win = (0 : Int32) then (0 : Int32) else (1 : Int32))) = (1 : Int32) from by rw [if_neg hw0]; decide]
      show WP κ h47 6 23 (mkF κ.m 151 #[.val (.int p0), .val (.int p1), .val (.int p2), .val (.int (1 : Int32)), .val (.int win), .val (.int (1 : Int32)), .val (.ref ky), .val (.ref al), .val (.ref bl), .val (.int (1 : Int32))] [(.int (1 : Int32))])
      refine WP.iload K at_151 rfl (pc' := 153) rfl ?_
      refine WP.icmpF K at_153 (by decide) (pc' := 156) rfl ?_
      refine WP.iload K at_156 rfl (pc' := 158) rfl ?_
      refine WP.iloadN K at_158 rfl (pc' := 159) rfl ?_
      refine WP.icmpF K at_159 (by decide) (pc' := 162) rfl ?_
      refine WP.iconst K at_162 (v := (1 : Int32)) rfl (pc' := 163) rfl ?_
      refine WP.goto K at_163 (by decide) (pc' := 167) (by decide) ?_
      exact WP.retN K (ty := .boolean) (by decide) at_167 (by decide) (by decide) rfl
set_option maxRecDepth 65536 in
set_option maxHeartbeats 40000000 in
theorem comes_1 {Post : Tables → Env → Array Value → State → Outcome → State → Prop} (hpost : ∀ tb e args s v u, (limb_1_1.after args s (.returned v) u = true ∧ limb_1_2.after args s (.returned v) u = true ∧ True) → FrameEnd s (.returned v) u (Jvm.fieldLocs frame_1_writes args s ++ Jvm.arrayLocs frame_1_arrays args s ++ Jvm.staticLocs frame_1_statics s) 24 128 → Post tb e args s (.returned v) u) :
    ArmFor flags0 classFile x code maxLocals ret World_1 tables_1 room_1 Calls_1 rest_1 Pre_1 Post := by
  intro l hfl _ _ p e ha hc hk s m args below hf hA hF happ hP
  obtain ⟨hcalls, hrest, hpre⟩ := hP
  obtain ⟨-, -, -, hnamed, -, -, -, hat⟩ := (Spec.applies_iff hf).mp happ
  obtain ⟨hg, hn⟩ := and_e (Cond.before_iff.mp (show (Jvm.Cond.and given_1 narrow_1).before args s = true from hpre))
  obtain ⟨q0, r0⟩ := and_e hg
  obtain ⟨q1, r1⟩ := and_e r0
  obtain ⟨q2, r2⟩ := and_e r1
  obtain ⟨v0, v1, v2, rfl⟩ : ∃ v0 v1 v2 : Value, args = #[v0, v1, v2] := by
    have hs : args.size = 3 := by simpa [Cond.value, given_1] using q0
    obtain ⟨L⟩ := args
    match L, hs with
    | [v0, v1, v2], _ => exact ⟨v0, v1, v2, rfl⟩
  have hw := fun d (hd : d ∈ tables_1) => atoms_spec (ws := Jvm.Cond.code x code maxLocals ret :: tables_1) hat d (List.mem_cons_of_mem _ hd)
  have hfit : Fit s := fun {y c} hc i hi => by
    obtain ⟨ha, rfl⟩ := Array.getElem?_eq_some_iff.mp hc
    have q := List.all_eq_true.mp ((Array.all_eq_true_iff_forall_mem.mp hF) _ (Array.getElem_mem ha)) i (List.mem_range.mpr hi)
    simpa [Array.getElem?_eq_getElem hi] using q
  obtain ⟨hsets, hown0⟩ := atoms_of _ (rest_1_c_eq ▸ (show rest_1_c.before _ s = true from hrest))
  obtain ⟨i0, ei0⟩ := is_v q1
  obtain rfl : v0 = (.int i0) := Option.some.inj ei0
  obtain ⟨i1, ei1⟩ := is_v q2
  obtain rfl : v1 = (.int i1) := Option.some.inj ei1
  obtain ⟨i2, ei2⟩ := is_v r2
  obtain rfl : v2 = (.int i2) := Option.some.inj ei2
  obtain ⟨de, kD, fD, S_d, A_d, -⟩ := static_ary (N := 0) hfit (hsets _ (List.mem_of_getElem? (i := 2) rfl)) (w_5 hw) (ty := .object "java/lang/Object") (by decide) (Cond.before_iff.mp (hsets _ (List.mem_of_getElem? (i := 6) rfl))) (Cond.before_iff.mp (hsets _ (List.mem_of_getElem? (i := 8) rfl))) rfl
  obtain ⟨n, o, h1, h2, h3, _, L, rfl, ⟨rfl, N⟩, hq⟩ := rm_law false l s _ hw i0 i1 i2 s.heap s.heap.size (Nat.le_refl _) de kD fD S_d A_d (Old.start s) p e ha hc hk s m _ below hf ((Spec.applies_iff_loose hf).mp happ).1 ⟨rfl, State.Warmed39.refl s, rfl⟩ trivial
  refine ⟨n, _, h1, h2, h3, hpost _ _ _ _ _ _ ⟨Cond.after_iff.mpr rfl, Cond.after_iff.mpr (eq_i res_at (Term.int_eval (1)) rfl), trivial⟩ ⟨hq.1, hq.2.1, (hq.2.2.sift fun y hy => Or.inr (N y hy)).mono (by decide) (by decide)⟩⟩
theorem main_1_1 : Claimed_1_1 := comes_1 fun _ _ _ _ _ _ h hF => ⟨h.1, hF⟩
theorem main_1_2 : Claimed_1_2 := comes_1 fun _ _ _ _ _ _ h hF => ⟨h.2.1, hF⟩
end Jvm.Pilot.@@N@@
namespace Jvm.Pilot.@@N@@
open Jvm Jvm.ClassFile Sem Op Lib Jvm.Free Jvm.Stand Jvm.Pilot.@@N@@.Jvm.D
/-! MADE BY PROGRAM (witnessworld.py) out of the Statement's table words and the real class files: 21 classes; the members and pool entries that the words name. The judged class is class 1, her method 1. -/
namespace start1
open Jvm.ClassFile
def u (s : String) : CpInfo := .utf8 (stringToUtf16 s)
/-- a pool by its gaps: so many unusable entries, then the entry; so many at the end -/
def gap : Nat → List CpInfo → List CpInfo
  | 0, r => r
  | n + 1, r => .unusable :: gap n r
def poolList (es : List (Nat × CpInfo)) (last : Nat) : List CpInfo := es.foldr (fun e r => gap e.1 (e.2 :: r)) (gap last [])
def pool (es : List (Nat × CpInfo)) (last : Nat) : Array CpInfo := ⟨poolList es last⟩
def fileOf (pool : Array CpInfo) (this : Nat) (attrs : Array Attribute := #[]) (ms : Array MethodInfo := #[]) (fl : Nat := 33) (sup : Nat := 0) (ifs : Array Nat := #[]) (fds : Array FieldInfo := #[]) : ClassFile where
  minorVersion := 0
  majorVersion := 65
  constantPool := pool
  accessFlags := fl
  thisClass := this
  superClass := sup
  interfaces := ifs
  fields := fds
  methods := ms
  attributes := attrs
def plain (name : String) (sup : Option ClassId) : Class where
  name := name
  kind := .ordinary
  loader := none
  accessFlags := 33
  super := sup
  interfaces := #[]
  cf := none
  fields := #[]
  methods := #[]
  instanceTypes := #[]
  staticTypes := #[]
  resolved := #[]
  callSites := []
  init := .initialized
  statics := none
  mirror := none

def pool0 : Array CpInfo := pool [(5, u "<init>"), (0, u "()V"), (1, .class_ 10), (1, u "java/lang/Object")] 113

def k0c0 : Code := { maxStack := 0, maxLocals := 1, code := object_method_1_code, exceptionTable := #[], attributes := #[] }
def k0m0 : Method := { name := "<init>", desc := "()V", sig := { parameters := [], returnType := none }, accessFlags := 1, code := some k0c0 }
/-- java/lang/Object -/
def k0 : Class := { plain "java/lang/Object" none with
  accessFlags := 33
  interfaces := #[]
  cf := some (fileOf pool0 8 #[] #[{ accessFlags := 1, nameIndex := 5, descriptorIndex := 6, attributes := #[] }] 33 0 #[] #[])
  fields := #[]
  methods := #[k0m0]
  instanceTypes := #[]
  staticTypes := #[]
  resolved := Array.replicate 124 none
  statics := none }

def pool1 : Array CpInfo := pool [(2, .class_ 4), (0, .nameAndType 5 6), (0, u "java/lang/Object"), (0, u "<init>"), (0, u "()V"), (0, .methodref 8 9), (0, .class_ 10), (0, .nameAndType 11 12), (0, u "java/lang/Math"), (0, u "max"), (0, u "(II)I"), (0, .class_ 14), (0, u "com/example/knotwork/knotwork/runfile/RunFile$BlockingKey"), (0, .class_ 16), (0, u "java/util/ArrayList"), (0, .methodref 15 3), (0, .methodref 13 19), (0, .nameAndType 5 20), (0, u "(Ljava/util/List;)V"), (0, .interfaceMethodref 22 23), (0, .class_ 24), (0, .nameAndType 25 26), (0, u "java/util/List"), (0, u "add"), (0, u "(Ljava/lang/Object;)Z"), (0, .class_ 28), (0, u "com/example/knotwork/knotwork/runfile/RunFile$Blocking"), (0, .methodref 27 30), (0, .nameAndType 5 31), (0, u "(Ljava/util/List;ILjava/util/List;)V"), (0, .methodref 27 33), (0, .nameAndType 34 35), (0, u "isSortedNeighbourhood"), (0, u "()Z"), (0, .class_ 37), (0, u "com/example/knotwork/knotwork/runfile/BlockingIsSortedNeighbourhoodPinLaw"), (2, u "law"), (0, u "(III)Z")] 8

def k1m0 : Method := { name := "<init>", desc := "()V", sig := { parameters := [], returnType := none }, accessFlags := 1, code := none }
def k1c1 : Code := { maxStack := 6, maxLocals := 10, code := code, exceptionTable := #[], attributes := #[] }
def k1m1 : Method := { name := "law", desc := "(III)Z", sig := { parameters := [.int, .int, .int], returnType := some .boolean }, accessFlags := 9, code := some k1c1 }
/-- com/example/knotwork/knotwork/runfile/BlockingIsSortedNeighbourhoodPinLaw -/
def k1 : Class := { plain "com/example/knotwork/knotwork/runfile/BlockingIsSortedNeighbourhoodPinLaw" (some 0) with
  accessFlags := 49
  interfaces := #[]
  cf := some (fileOf pool1 36 #[] #[{ accessFlags := 1, nameIndex := 5, descriptorIndex := 6, attributes := #[] }, { accessFlags := 9, nameIndex := 40, descriptorIndex := 41, attributes := #[] }] 49 2 #[] #[])
  fields := #[]
  methods := #[k1m0, k1m1]
  instanceTypes := #[]
  staticTypes := #[]
  resolved := Array.replicate 50 none
  statics := none }

def pool2 : Array CpInfo := pool [(1, .methodref 2 3), (0, .class_ 4), (0, .nameAndType 5 6), (0, u "java/lang/Object"), (0, u "<init>"), (0, u "()V"), (0, .class_ 8), (0, u "java/lang/Record")] 13

def k2c0 : Code := { maxStack := 1, maxLocals := 1, code := jdk_30_method_1_code, exceptionTable := #[], attributes := #[] }
def k2m0 : Method := { name := "<init>", desc := "()V", sig := { parameters := [], returnType := none }, accessFlags := 4, code := some k2c0 }
/-- java/lang/Record -/
def k2 : Class := { plain "java/lang/Record" (some 0) with
  accessFlags := 1057
  interfaces := #[]
  cf := some (fileOf pool2 7 #[] #[{ accessFlags := 4, nameIndex := 5, descriptorIndex := 6, attributes := #[] }] 1057 2 #[] #[])
  fields := #[]
  methods := #[k2m0]
  instanceTypes := #[]
  staticTypes := #[]
  resolved := Array.replicate 22 none
  statics := none }

def pool3 : Array CpInfo := pool [(1, .methodref 2 3), (0, .class_ 4), (0, .nameAndType 5 6), (0, u "java/lang/Record"), (0, u "<init>"), (0, u "()V"), (0, .fieldref 8 9), (0, .class_ 10), (0, .nameAndType 11 12), (0, u "com/example/knotwork/knotwork/runfile/RunFile$BlockingKey"), (0, u "parts"), (0, u "Ljava/util/List;"), (14, u "(Ljava/util/List;)V"), (12, .class_ 41), (0, u "com/example/knotwork/knotwork/runfile/RunFile")] 21

def k3c0 : Code := { maxStack := 2, maxLocals := 2, code := prog_46_method_1_code, exceptionTable := #[], attributes := #[] }
def k3m0 : Method := { name := "<init>", desc := "(Ljava/util/List;)V", sig := { parameters := [(.object "java/util/List")], returnType := none }, accessFlags := 1, code := some k3c0 }
/-- com/example/knotwork/knotwork/runfile/RunFile$BlockingKey -/
def k3 : Class := { plain "com/example/knotwork/knotwork/runfile/RunFile$BlockingKey" (some 2) with
  accessFlags := 49
  interfaces := #[]
  cf := some (fileOf pool3 8 #[.nestHost 40] #[{ accessFlags := 1, nameIndex := 5, descriptorIndex := 27, attributes := #[] }] 49 2 #[] #[{ accessFlags := 18, nameIndex := 11, descriptorIndex := 12, attributes := #[] }])
  fields := #[{ name := "parts", type := (.object "java/util/List"), accessFlags := 18, slot := 0, constantValue := 0 }]
  methods := #[k3m0]
  instanceTypes := #[(.object "java/util/List")]
  staticTypes := #[]
  resolved := Array.replicate 63 none
  statics := none }

def pool4 : Array CpInfo := pool [(8, .class_ 10), (1, u "java/lang/Iterable"), (24, .class_ 36), (0, u "java/lang/Object")] 25

/-- java/lang/Iterable -/
def k4 : Class := { plain "java/lang/Iterable" (some 0) with
  accessFlags := 1537
  interfaces := #[]
  cf := some (fileOf pool4 8 #[] #[] 1537 35 #[] #[])
  fields := #[]
  methods := #[]
  instanceTypes := #[]
  staticTypes := #[]
  resolved := Array.replicate 62 none
  statics := none }

def pool5 : Array CpInfo := pool [(10, .class_ 12), (1, u "java/util/Collection"), (47, .class_ 61), (0, u "java/lang/Object"), (0, .class_ 63), (0, u "java/lang/Iterable")] 51

/-- java/util/Collection -/
def k5 : Class := { plain "java/util/Collection" (some 0) with
  accessFlags := 1537
  interfaces := #[4]
  cf := some (fileOf pool5 10 #[] #[] 1537 60 #[62] #[])
  fields := #[]
  methods := #[]
  instanceTypes := #[]
  staticTypes := #[]
  resolved := Array.replicate 115 none
  statics := none }

def pool6 : Array CpInfo := pool [(1, .methodref 2 3), (0, .class_ 4), (0, .nameAndType 5 6), (0, u "java/lang/Object"), (0, u "<init>"), (0, u "()V"), (1, .class_ 10), (1, u "java/util/AbstractCollection"), (66, .class_ 78), (0, u "java/util/Collection")] 81

def k6c0 : Code := { maxStack := 1, maxLocals := 1, code := jdk_22_method_1_code, exceptionTable := #[], attributes := #[] }
def k6m0 : Method := { name := "<init>", desc := "()V", sig := { parameters := [], returnType := none }, accessFlags := 4, code := some k6c0 }
/-- java/util/AbstractCollection -/
def k6 : Class := { plain "java/util/AbstractCollection" (some 0) with
  accessFlags := 1057
  interfaces := #[5]
  cf := some (fileOf pool6 8 #[] #[{ accessFlags := 4, nameIndex := 5, descriptorIndex := 6, attributes := #[] }] 1057 2 #[77] #[])
  fields := #[]
  methods := #[k6m0]
  instanceTypes := #[]
  staticTypes := #[]
  resolved := Array.replicate 160 none
  statics := none }

def pool7 : Array CpInfo := pool [(8, .class_ 10), (1, u "java/util/SequencedCollection"), (15, .class_ 27), (0, u "java/lang/Object"), (0, .class_ 29), (0, u "java/util/Collection")] 27

/-- java/util/SequencedCollection -/
def k7 : Class := { plain "java/util/SequencedCollection" (some 0) with
  accessFlags := 1537
  interfaces := #[5]
  cf := some (fileOf pool7 8 #[] #[] 1537 26 #[28] #[])
  fields := #[]
  methods := #[]
  instanceTypes := #[]
  staticTypes := #[]
  resolved := Array.replicate 57 none
  statics := none }

def pool8 : Array CpInfo := pool [(8, .class_ 10), (1, u "java/util/List"), (49, u "add"), (3, u "(Ljava/lang/Object;)Z"), (14, u "size"), (0, u "()I"), (22, .class_ 104), (0, u "java/lang/Object"), (15, .class_ 121), (0, u "java/util/SequencedCollection")] 129

def k8m0 : Method := { name := "size", desc := "()I", sig := { parameters := [], returnType := some .int }, accessFlags := 1025, code := none }
def k8m1 : Method := { name := "add", desc := "(Ljava/lang/Object;)Z", sig := { parameters := [(.object "java/lang/Object")], returnType := some .boolean }, accessFlags := 1025, code := none }
/-- java/util/List -/
def k8 : Class := { plain "java/util/List" (some 0) with
  accessFlags := 1537
  interfaces := #[7]
  cf := some (fileOf pool8 8 #[] #[{ accessFlags := 1025, nameIndex := 79, descriptorIndex := 80, attributes := #[] }, { accessFlags := 1025, nameIndex := 60, descriptorIndex := 64, attributes := #[] }] 1537 103 #[120] #[])
  fields := #[]
  methods := #[k8m0, k8m1]
  instanceTypes := #[]
  staticTypes := #[]
  resolved := Array.replicate 251 none
  statics := none }

def pool9 : Array CpInfo := pool [(1, .methodref 2 3), (0, .class_ 4), (0, .nameAndType 5 6), (0, u "java/util/AbstractCollection"), (0, u "<init>"), (0, u "()V"), (0, .fieldref 8 9), (0, .class_ 10), (0, .nameAndType 11 12), (0, u "java/util/AbstractList"), (0, u "modCount"), (0, u "I"), (64, .class_ 78), (0, u "java/util/AbstractList$Itr"), (3, .class_ 83), (0, u "java/util/AbstractList$ListItr"), (9, .class_ 94), (0, u "java/util/AbstractList$RandomAccessSubList"), (3, .class_ 99), (0, u "java/util/AbstractList$SubList"), (33, .class_ 134), (0, u "java/util/List"), (73, .class_ 209), (0, u "java/util/AbstractList$SubList$1"), (0, .class_ 211), (0, u "java/util/AbstractList$RandomAccessSpliterator")] 6

def k9c0 : Code := { maxStack := 2, maxLocals := 1, code := jdk_39_method_1_code, exceptionTable := #[], attributes := #[] }
def k9m0 : Method := { name := "<init>", desc := "()V", sig := { parameters := [], returnType := none }, accessFlags := 4, code := some k9c0 }
/-- java/util/AbstractList -/
def k9 : Class := { plain "java/util/AbstractList" (some 6) with
  accessFlags := 1057
  interfaces := #[8]
  cf := some (fileOf pool9 8 #[.nestMembers #[93, 98, 208, 210, 82, 77]] #[{ accessFlags := 4, nameIndex := 5, descriptorIndex := 6, attributes := #[] }] 1057 2 #[133] #[{ accessFlags := 132, nameIndex := 11, descriptorIndex := 12, attributes := #[] }])
  fields := #[{ name := "modCount", type := .int, accessFlags := 132, slot := 0, constantValue := 0 }]
  methods := #[k9m0]
  instanceTypes := #[.int]
  staticTypes := #[]
  resolved := Array.replicate 218 none
  statics := none }

def pool10 : Array CpInfo := pool [(1, .class_ 2), (0, u "java/util/RandomAccess"), (0, .class_ 4), (0, u "java/lang/Object")] 2

/-- java/util/RandomAccess -/
def k10 : Class := { plain "java/util/RandomAccess" (some 0) with
  accessFlags := 1537
  interfaces := #[]
  cf := some (fileOf pool10 1 #[] #[] 1537 3 #[] #[])
  fields := #[]
  methods := #[]
  instanceTypes := #[]
  staticTypes := #[]
  resolved := Array.replicate 7 none
  statics := none }

def pool11 : Array CpInfo := pool [(1, .class_ 2), (0, u "java/lang/Cloneable"), (0, .class_ 4), (0, u "java/lang/Object")] 2

/-- java/lang/Cloneable -/
def k11 : Class := { plain "java/lang/Cloneable" (some 0) with
  accessFlags := 1537
  interfaces := #[]
  cf := some (fileOf pool11 1 #[] #[] 1537 3 #[] #[])
  fields := #[]
  methods := #[]
  instanceTypes := #[]
  staticTypes := #[]
  resolved := Array.replicate 7 none
  statics := none }

def pool12 : Array CpInfo := pool [(1, .class_ 2), (0, u "java/io/Serializable"), (0, .class_ 4), (0, u "java/lang/Object")] 2

/-- java/io/Serializable -/
def k12 : Class := { plain "java/io/Serializable" (some 0) with
  accessFlags := 1537
  interfaces := #[]
  cf := some (fileOf pool12 1 #[] #[] 1537 3 #[] #[])
  fields := #[]
  methods := #[]
  instanceTypes := #[]
  staticTypes := #[]
  resolved := Array.replicate 7 none
  statics := none }

def pool13 : Array CpInfo := pool [(1, .methodref 2 3), (0, .class_ 4), (0, .nameAndType 5 6), (0, u "java/util/AbstractList"), (0, u "<init>"), (0, u "()V"), (0, .class_ 8), (0, u "java/lang/Object"), (0, .fieldref 10 11), (0, .class_ 12), (0, .nameAndType 13 14), (0, u "java/util/ArrayList"), (0, u "elementData"), (0, u "[Ljava/lang/Object;"), (2, u "EMPTY_ELEMENTDATA"), (21, .fieldref 10 40), (0, .nameAndType 41 14), (0, u "DEFAULTCAPACITY_EMPTY_ELEMENTDATA"), (5, u "()[Ljava/lang/Object;"), (0, .fieldref 10 49), (0, .nameAndType 50 51), (0, u "size"), (0, u "I"), (11, .fieldref 10 64), (0, .nameAndType 65 51), (0, u "modCount"), (3, .methodref 10 70), (0, .nameAndType 71 72), (0, u "grow"), (0, u "(I)[Ljava/lang/Object;"), (6, .methodref 80 81), (0, .class_ 82), (0, .nameAndType 83 84), (0, u "java/lang/Math"), (0, u "max"), (0, u "(II)I"), (11, u "(Ljava/lang/Object;)Z"), (32, .methodref 10 130), (0, .nameAndType 71 47), (0, .methodref 10 132), (0, .nameAndType 133 134), (0, u "add"), (0, u "(Ljava/lang/Object;[Ljava/lang/Object;I)V"), (13, .class_ 149), (0, u "java/util/List"), (36, u "()I"), (75, .class_ 263), (0, u "java/util/ArrayList$ListItr"), (3, .class_ 268), (0, u "java/util/ArrayList$Itr"), (7, .class_ 277), (0, u "java/util/ArrayList$SubList"), (12, .class_ 291), (0, u "java/util/ArrayList$ArrayListSpliterator"), (37, .class_ 330), (0, u "java/util/RandomAccess"), (0, .class_ 332), (0, u "java/lang/Cloneable"), (0, .class_ 334), (0, u "java/io/Serializable"), (0, u "serialVersionUID"), (0, u "J"), (3, u "DEFAULT_CAPACITY"), (159, .class_ 501), (0, u "java/util/ArrayList$SubList$2"), (0, .class_ 503), (0, u "java/util/ArrayList$SubList$1")] 5

def k13c0 : Code := { maxStack := 2, maxLocals := 1, code := jdk_38_method_2_code, exceptionTable := #[], attributes := #[] }
def k13m0 : Method := { name := "<init>", desc := "()V", sig := { parameters := [], returnType := none }, accessFlags := 1, code := some k13c0 }
def k13c1 : Code := { maxStack := 4, maxLocals := 4, code := jdk_38_method_6_code, exceptionTable := #[], attributes := #[] }
def k13m1 : Method := { name := "grow", desc := "(I)[Ljava/lang/Object;", sig := { parameters := [.int], returnType := some (.array (.object "java/lang/Object")) }, accessFlags := 2, code := some k13c1 }
def k13c2 : Code := { maxStack := 3, maxLocals := 1, code := jdk_38_method_7_code, exceptionTable := #[], attributes := #[] }
def k13m2 : Method := { name := "grow", desc := "()[Ljava/lang/Object;", sig := { parameters := [], returnType := some (.array (.object "java/lang/Object")) }, accessFlags := 2, code := some k13c2 }
def k13c3 : Code := { maxStack := 1, maxLocals := 1, code := jdk_38_method_8_code, exceptionTable := #[], attributes := #[] }
def k13m3 : Method := { name := "size", desc := "()I", sig := { parameters := [], returnType := some .int }, accessFlags := 1, code := some k13c3 }
def k13c4 : Code := { maxStack := 3, maxLocals := 4, code := jdk_38_method_24_code, exceptionTable := #[], attributes := #[] }
def k13m4 : Method := { name := "add", desc := "(Ljava/lang/Object;[Ljava/lang/Object;I)V", sig := { parameters := [(.object "java/lang/Object"), (.array (.object "java/lang/Object")), .int], returnType := none }, accessFlags := 2, code := some k13c4 }
def k13c5 : Code := { maxStack := 4, maxLocals := 2, code := jdk_38_method_25_code, exceptionTable := #[], attributes := #[] }
def k13m5 : Method := { name := "add", desc := "(Ljava/lang/Object;)Z", sig := { parameters := [(.object "java/lang/Object")], returnType := some .boolean }, accessFlags := 1, code := some k13c5 }
/-- java/util/ArrayList -/
def k13 : Class := { plain "java/util/ArrayList" (some 9) with
  accessFlags := 33
  interfaces := #[8, 10, 11, 12]
  cf := some (fileOf pool13 10 #[.nestMembers #[290, 276, 500, 502, 262, 267]] #[{ accessFlags := 1, nameIndex := 5, descriptorIndex := 6, attributes := #[] }, { accessFlags := 2, nameIndex := 71, descriptorIndex := 72, attributes := #[] }, { accessFlags := 2, nameIndex := 71, descriptorIndex := 47, attributes := #[] }, { accessFlags := 1, nameIndex := 50, descriptorIndex := 186, attributes := #[] }, { accessFlags := 2, nameIndex := 133, descriptorIndex := 134, attributes := #[] }, { accessFlags := 1, nameIndex := 133, descriptorIndex := 96, attributes := #[] }] 33 2 #[148, 329, 331, 333] #[{ accessFlags := 26, nameIndex := 335, descriptorIndex := 336, attributes := #[] }, { accessFlags := 26, nameIndex := 340, descriptorIndex := 51, attributes := #[] }, { accessFlags := 26, nameIndex := 17, descriptorIndex := 14, attributes := #[] }, { accessFlags := 26, nameIndex := 41, descriptorIndex := 14, attributes := #[] }, { accessFlags := 128, nameIndex := 13, descriptorIndex := 14, attributes := #[] }, { accessFlags := 2, nameIndex := 50, descriptorIndex := 51, attributes := #[] }])
  fields := #[{ name := "serialVersionUID", type := .long, accessFlags := 26, slot := 0, constantValue := 0 }, { name := "DEFAULT_CAPACITY", type := .int, accessFlags := 26, slot := 1, constantValue := 0 }, { name := "EMPTY_ELEMENTDATA", type := (.array (.object "java/lang/Object")), accessFlags := 26, slot := 2, constantValue := 0 }, { name := "DEFAULTCAPACITY_EMPTY_ELEMENTDATA", type := (.array (.object "java/lang/Object")), accessFlags := 26, slot := 3, constantValue := 0 }, { name := "elementData", type := (.array (.object "java/lang/Object")), accessFlags := 128, slot := 1, constantValue := 0 }, { name := "size", type := .int, accessFlags := 2, slot := 2, constantValue := 0 }]
  methods := #[k13m0, k13m1, k13m2, k13m3, k13m4, k13m5]
  instanceTypes := #[.int, (.array (.object "java/lang/Object")), .int]
  staticTypes := #[.long, .int, (.array (.object "java/lang/Object")), (.array (.object "java/lang/Object"))]
  resolved := Array.replicate 509 none
  statics := some 0 }

def pool14 : Array CpInfo := pool [(1, .class_ 2), (0, u "java/lang/Math"), (1, .class_ 6), (1, u "java/lang/Object"), (0, u "<init>"), (0, u "()V"), (89, .class_ 100), (1, u "java/lang/Math$RandomNumberGeneratorHolder"), (71, u "negativeZeroFloatBits"), (0, u "J"), (2, u "negativeZeroDoubleBits"), (21, u "max"), (46, u "$assertionsDisabled"), (0, u "Z"), (88, u "(II)I"), (2, u "twoToTheDoubleScaleDown"), (0, u "D"), (4, u "twoToTheDoubleScaleUp"), (9, u "E"), (3, u "PI"), (2, u "TAU"), (2, u "DEGREES_TO_RADIANS"), (0, u "RADIANS_TO_DEGREES")] 94

def k14m0 : Method := { name := "<init>", desc := "()V", sig := { parameters := [], returnType := none }, accessFlags := 2, code := none }
def k14c1 : Code := { maxStack := 2, maxLocals := 2, code := jdk_29_method_65_code, exceptionTable := #[], attributes := #[] }
def k14m1 : Method := { name := "max", desc := "(II)I", sig := { parameters := [.int, .int], returnType := some .int }, accessFlags := 9, code := some k14c1 }
/-- java/lang/Math -/
def k14 : Class := { plain "java/lang/Math" (some 0) with
  accessFlags := 49
  interfaces := #[]
  cf := some (fileOf pool14 1 #[.nestMembers #[98]] #[{ accessFlags := 2, nameIndex := 7, descriptorIndex := 8, attributes := #[] }, { accessFlags := 9, nameIndex := 198, descriptorIndex := 335, attributes := #[] }] 49 4 #[] #[{ accessFlags := 25, nameIndex := 354, descriptorIndex := 339, attributes := #[] }, { accessFlags := 25, nameIndex := 358, descriptorIndex := 339, attributes := #[] }, { accessFlags := 25, nameIndex := 361, descriptorIndex := 339, attributes := #[] }, { accessFlags := 26, nameIndex := 364, descriptorIndex := 339, attributes := #[] }, { accessFlags := 26, nameIndex := 365, descriptorIndex := 339, attributes := #[] }, { accessFlags := 26, nameIndex := 172, descriptorIndex := 173, attributes := #[] }, { accessFlags := 26, nameIndex := 176, descriptorIndex := 173, attributes := #[] }, { accessFlags := 8, nameIndex := 344, descriptorIndex := 339, attributes := #[] }, { accessFlags := 8, nameIndex := 338, descriptorIndex := 339, attributes := #[] }, { accessFlags := 4120, nameIndex := 245, descriptorIndex := 246, attributes := #[] }])
  fields := #[{ name := "E", type := .double, accessFlags := 25, slot := 0, constantValue := 0 }, { name := "PI", type := .double, accessFlags := 25, slot := 1, constantValue := 0 }, { name := "TAU", type := .double, accessFlags := 25, slot := 2, constantValue := 0 }, { name := "DEGREES_TO_RADIANS", type := .double, accessFlags := 26, slot := 3, constantValue := 0 }, { name := "RADIANS_TO_DEGREES", type := .double, accessFlags := 26, slot := 4, constantValue := 0 }, { name := "negativeZeroFloatBits", type := .long, accessFlags := 26, slot := 5, constantValue := 0 }, { name := "negativeZeroDoubleBits", type := .long, accessFlags := 26, slot := 6, constantValue := 0 }, { name := "twoToTheDoubleScaleUp", type := .double, accessFlags := 8, slot := 7, constantValue := 0 }, { name := "twoToTheDoubleScaleDown", type := .double, accessFlags := 8, slot := 8, constantValue := 0 }, { name := "$assertionsDisabled", type := .boolean, accessFlags := 4120, slot := 9, constantValue := 0 }]
  methods := #[k14m0, k14m1]
  instanceTypes := #[]
  staticTypes := #[.double, .double, .double, .double, .double, .long, .long, .double, .double, .boolean]
  resolved := Array.replicate 460 none
  statics := none }

def pool15 : Array CpInfo := pool [(1, .methodref 2 3), (0, .class_ 4), (0, .nameAndType 5 6), (0, u "java/lang/Record"), (0, u "<init>"), (0, u "()V"), (0, .interfaceMethodref 8 9), (0, .class_ 10), (0, .nameAndType 11 12), (0, u "java/util/List"), (0, u "size"), (0, u "()I"), (9, .fieldref 23 24), (0, .class_ 25), (0, .nameAndType 26 27), (0, u "com/example/knotwork/knotwork/runfile/RunFile$Blocking"), (0, u "keys"), (0, u "Ljava/util/List;"), (0, .fieldref 23 29), (0, .nameAndType 30 31), (0, u "window"), (0, u "I"), (0, .fieldref 23 33), (0, .nameAndType 34 27), (0, u "through"), (2, u "(Ljava/util/List;ILjava/util/List;)V"), (6, u "isSortedNeighbourhood"), (0, u "()Z"), (38, .class_ 85), (0, u "com/example/knotwork/knotwork/runfile/RunFile")] 32

def k15c0 : Code := { maxStack := 4, maxLocals := 4, code := prog_45_method_1_code, exceptionTable := #[], attributes := #[] }
def k15m0 : Method := { name := "<init>", desc := "(Ljava/util/List;ILjava/util/List;)V", sig := { parameters := [(.object "java/util/List"), .int, (.object "java/util/List")], returnType := none }, accessFlags := 1, code := some k15c0 }
def k15c1 : Code := { maxStack := 1, maxLocals := 1, code := prog_45_method_4_code, exceptionTable := #[], attributes := #[] }
def k15m1 : Method := { name := "isSortedNeighbourhood", desc := "()Z", sig := { parameters := [], returnType := some .boolean }, accessFlags := 1, code := some k15c1 }
/-- com/example/knotwork/knotwork/runfile/RunFile$Blocking -/
def k15 : Class := { plain "com/example/knotwork/knotwork/runfile/RunFile$Blocking" (some 2) with
  accessFlags := 49
  interfaces := #[]
  cf := some (fileOf pool15 23 #[.nestHost 84] #[{ accessFlags := 1, nameIndex := 5, descriptorIndex := 37, attributes := #[] }, { accessFlags := 1, nameIndex := 44, descriptorIndex := 45, attributes := #[] }] 49 2 #[] #[{ accessFlags := 18, nameIndex := 26, descriptorIndex := 27, attributes := #[] }, { accessFlags := 18, nameIndex := 30, descriptorIndex := 31, attributes := #[] }, { accessFlags := 18, nameIndex := 34, descriptorIndex := 27, attributes := #[] }])
  fields := #[{ name := "keys", type := (.object "java/util/List"), accessFlags := 18, slot := 0, constantValue := 0 }, { name := "window", type := .int, accessFlags := 18, slot := 1, constantValue := 0 }, { name := "through", type := (.object "java/util/List"), accessFlags := 18, slot := 2, constantValue := 0 }]
  methods := #[k15m0, k15m1]
  instanceTypes := #[(.object "java/util/List"), .int, (.object "java/util/List")]
  staticTypes := #[]
  resolved := Array.replicate 118 none
  statics := none }

/-- the primitive byte -/
def k16 : Class := { plain "byte" none with kind := .primitive 'B', accessFlags := 0x411 }
/-- [B -/
def k17 : Class := { plain "[B" (some 0) with kind := .array 16 .byte, interfaces := #[11, 12], accessFlags := 1041 }

/-- the primitive int -/
def k18 : Class := { plain "int" none with kind := .primitive 'I', accessFlags := 0x411 }
/-- [I -/
def k19 : Class := { plain "[I" (some 0) with kind := .array 18 .int, interfaces := #[11, 12], accessFlags := 1041 }

/-- [Ljava/lang/Object; -/
def k20 : Class := { plain "[Ljava/lang/Object;" (some 0) with kind := .array 0 (.object "java/lang/Object"), interfaces := #[11, 12], accessFlags := 1041 }

def heap : Heap := #[{ cls := 13, slots := #[.long 0, .int 0, .ref 1, .ref 2], vm := .statics 13 },
  { cls := 20, slots := #[], vm := .none },
  { cls := 20, slots := #[], vm := .none }]
def classes : Array Class := #[k0, k1, k2, k3, k4, k5, k6, k7, k8, k9, k10, k11, k12, k13, k14, k15, k16, k17, k18, k19, k20]
def interned : List (Array UInt16 × Addr) := []
def slotsUsed : Nat := 4
def theMethod : MethodId := ⟨1, 1⟩
def args0 : Array Value := #[.int 1, .int 7, .int 3]
def aboutOver (below : List Frame) : State where
  vm := { classes := classes, interned := interned.toArray }
  heap := heap
  slotsUsed := slotsUsed
  threads := #[{ frames := .invoking theMethod args0 :: below }]
def below0 : List Frame := [.native { method := ⟨0, 0⟩, args := #[] }]
def about1 : State := aboutOver below0
def p0 : Program := .bare "" "" ""
def e0 : Env := launch0.env 0 0 0
theorem w_frames : about1.frames = Frame.invoking theMethod args0 :: below0 := rfl
set_option maxRecDepth 65536 in
theorem w_args : argsFit about1.vm theMethod args0 = true := by decide +kernel
set_option maxRecDepth 65536 in
theorem w_heap : heapFits about1 = true := by decide +kernel
set_option maxRecDepth 65536 in
theorem w_runnable : about1.curStatus? = some .runnable := by decide +kernel
set_option maxRecDepth 65536 in
theorem w_alone : about1.alone = true := by decide +kernel
set_option maxRecDepth 65536 in
theorem w_named : about1.methodNamed? x = some theMethod := by decide +kernel
set_option maxRecDepth 65536 in
theorem w_hears : about1.hears theMethod below0 = true := by decide +kernel
set_option maxRecDepth 65536 in
theorem w_ripe : about1.ripe theMethod args0 below0 = true := by decide +kernel
theorem w_running : about1.status = .running := rfl
set_option maxRecDepth 65536 in
theorem w_room : about1.hasRoom e0.platform room_1 = true :=
  launch0.hasRoom_least _ room_1 (by decide +kernel) (by decide +kernel) (by decide +kernel) (by decide +kernel) (by decide +kernel) (by decide +kernel)
theorem allAtoms_all (ts : List Jvm.Cond) (a : Array Jvm.Value) (st : Jvm.State) : (allAtoms ts).before a st = ts.all (fun c => c.before a st) := by
  induction ts with
  | nil => rfl
  | cons c t ih =>
    show (Jvm.Cond.and c (allAtoms t)).before a st = _
    rw [Jvm.Cond.before_and, ih, List.all_cons]
def words1 : List Jvm.Cond := Jvm.Cond.code x code maxLocals ret :: tables_1
/-- a 'code' word, met by the world's own term for the bytes: nothing is compared byte by byte -/
theorem code_word {y : MethodName} {bytes : ByteArray} {mx : Nat} {rt : Option FieldType} {a : Array Value} {s : State} {m : MethodId} {meth : Method} {c : Code} (h1 : s.methodNamed? y = some m) (h2 : s.vm.method? m = some meth) (h3 : meth.code = some c) (h4 : c.code = bytes)
    (h5 : (c.maxLocals == mx && c.exceptionTable.isEmpty && decide (c.maxStack ≤ mostOperands) && decide (meth.sig.returnType = rt) && !meth.locks && decide (parseMethodDescriptor y.desc = some meth.sig)) = true) : (Jvm.Cond.code y bytes mx rt).before a s = true := by
  simp only [Bool.and_eq_true, beq_iff_eq, Bool.not_eq_true', decide_eq_true_eq] at h5
  obtain ⟨⟨⟨⟨⟨g1, g2⟩, g3⟩, g4⟩, g5⟩, g6⟩ := h5
  simp [Cond.before, Cond.holds, Cond.value, h1, h2, h3, h4, g1, g2, g3, g4, g5, g6]
def isCode : Jvm.Cond → Bool
  | .code _ _ _ _ => true
  | _ => false
theorem all_split {L : List Jvm.Cond} {P : Jvm.Cond → Bool} (h1 : L.all (fun c => isCode c || P c) = true) (h2 : ∀ c ∈ L.filter isCode, P c = true) : L.all P = true := by
  refine List.all_eq_true.mpr fun c hc => ?_
  have h := List.all_eq_true.mp h1 c hc
  rcases Bool.eq_false_or_eq_true (isCode c) with hi | hi
  · exact h2 c (List.mem_filter.mpr ⟨hc, hi⟩)
  · simpa [hi] using h
set_option maxRecDepth 65536 in
theorem w_c0 : (Jvm.Cond.code x code maxLocals ret).before args0 about1 = true := code_word (m := ⟨1, 1⟩) (meth := k1m1) (c := k1c1) (by decide +kernel) rfl rfl rfl (by decide +kernel)
set_option maxRecDepth 65536 in
theorem w_c1 : (Jvm.Cond.code ({ cls := "java/util/ArrayList", name := "<init>", desc := "()V" } : Jvm.MethodName) jdk_38_method_2_code (1 : Nat) (Option.none : Option Jvm.ClassFile.FieldType)).before args0 about1 = true := code_word (m := ⟨13, 0⟩) (meth := k13m0) (c := k13c0) (by decide +kernel) rfl rfl rfl (by decide +kernel)
set_option maxRecDepth 65536 in
theorem w_c2 : (Jvm.Cond.code ({ cls := "java/util/AbstractList", name := "<init>", desc := "()V" } : Jvm.MethodName) jdk_39_method_1_code (1 : Nat) (Option.none : Option Jvm.ClassFile.FieldType)).before args0 about1 = true := code_word (m := ⟨9, 0⟩) (meth := k9m0) (c := k9c0) (by decide +kernel) rfl rfl rfl (by decide +kernel)
set_option maxRecDepth 65536 in
theorem w_c3 : (Jvm.Cond.code ({ cls := "java/util/AbstractCollection", name := "<init>", desc := "()V" } : Jvm.MethodName) jdk_22_method_1_code (1 : Nat) (Option.none : Option Jvm.ClassFile.FieldType)).before args0 about1 = true := code_word (m := ⟨6, 0⟩) (meth := k6m0) (c := k6c0) (by decide +kernel) rfl rfl rfl (by decide +kernel)
set_option maxRecDepth 65536 in
theorem w_c4 : (Jvm.Cond.code ({ cls := "java/lang/Object", name := "<init>", desc := "()V" } : Jvm.MethodName) object_method_1_code (1 : Nat) (Option.none : Option Jvm.ClassFile.FieldType)).before args0 about1 = true := code_word (m := ⟨0, 0⟩) (meth := k0m0) (c := k0c0) (by decide +kernel) rfl rfl rfl (by decide +kernel)
set_option maxRecDepth 65536 in
theorem w_c5 : (Jvm.Cond.code ({ cls := "com/example/knotwork/knotwork/runfile/RunFile$BlockingKey", name := "<init>", desc := "(Ljava/util/List;)V" } : Jvm.MethodName) prog_46_method_1_code (2 : Nat) (Option.none : Option Jvm.ClassFile.FieldType)).before args0 about1 = true := code_word (m := ⟨3, 0⟩) (meth := k3m0) (c := k3c0) (by decide +kernel) rfl rfl rfl (by decide +kernel)
set_option maxRecDepth 65536 in
theorem w_c6 : (Jvm.Cond.code ({ cls := "java/lang/Record", name := "<init>", desc := "()V" } : Jvm.MethodName) jdk_30_method_1_code (1 : Nat) (Option.none : Option Jvm.ClassFile.FieldType)).before args0 about1 = true := code_word (m := ⟨2, 0⟩) (meth := k2m0) (c := k2c0) (by decide +kernel) rfl rfl rfl (by decide +kernel)
set_option maxRecDepth 65536 in
theorem w_c7 : (Jvm.Cond.code ({ cls := "java/util/ArrayList", name := "add", desc := "(Ljava/lang/Object;)Z" } : Jvm.MethodName) jdk_38_method_25_code (2 : Nat) (Option.some Jvm.ClassFile.FieldType.boolean)).before args0 about1 = true := code_word (m := ⟨13, 5⟩) (meth := k13m5) (c := k13c5) (by decide +kernel) rfl rfl rfl (by decide +kernel)
set_option maxRecDepth 65536 in
theorem w_c8 : (Jvm.Cond.code ({ cls := "java/util/ArrayList", name := "add", desc := "(Ljava/lang/Object;[Ljava/lang/Object;I)V" } : Jvm.MethodName) jdk_38_method_24_code (4 : Nat) (Option.none : Option Jvm.ClassFile.FieldType)).before args0 about1 = true := code_word (m := ⟨13, 4⟩) (meth := k13m4) (c := k13c4) (by decide +kernel) rfl rfl rfl (by decide +kernel)
set_option maxRecDepth 65536 in
theorem w_c9 : (Jvm.Cond.code ({ cls := "java/util/ArrayList", name := "grow", desc := "()[Ljava/lang/Object;" } : Jvm.MethodName) jdk_38_method_7_code (1 : Nat) (Option.some (Jvm.ClassFile.FieldType.array (Jvm.ClassFile.FieldType.object "java/lang/Object")))).before args0 about1 = true := code_word (m := ⟨13, 2⟩) (meth := k13m2) (c := k13c2) (by decide +kernel) rfl rfl rfl (by decide +kernel)
set_option maxRecDepth 65536 in
theorem w_c10 : (Jvm.Cond.code ({ cls := "java/util/ArrayList", name := "grow", desc := "(I)[Ljava/lang/Object;" } : Jvm.MethodName) jdk_38_method_6_code (4 : Nat) (Option.some (Jvm.ClassFile.FieldType.array (Jvm.ClassFile.FieldType.object "java/lang/Object")))).before args0 about1 = true := code_word (m := ⟨13, 1⟩) (meth := k13m1) (c := k13c1) (by decide +kernel) rfl rfl rfl (by decide +kernel)
set_option maxRecDepth 65536 in
theorem w_c11 : (Jvm.Cond.code ({ cls := "java/lang/Math", name := "max", desc := "(II)I" } : Jvm.MethodName) jdk_29_method_65_code (2 : Nat) (Option.some Jvm.ClassFile.FieldType.int)).before args0 about1 = true := code_word (m := ⟨14, 1⟩) (meth := k14m1) (c := k14c1) (by decide +kernel) rfl rfl rfl (by decide +kernel)
set_option maxRecDepth 65536 in
theorem w_c12 : (Jvm.Cond.code ({ cls := "com/example/knotwork/knotwork/runfile/RunFile$Blocking", name := "<init>", desc := "(Ljava/util/List;ILjava/util/List;)V" } : Jvm.MethodName) prog_45_method_1_code (4 : Nat) (Option.none : Option Jvm.ClassFile.FieldType)).before args0 about1 = true := code_word (m := ⟨15, 0⟩) (meth := k15m0) (c := k15c0) (by decide +kernel) rfl rfl rfl (by decide +kernel)
set_option maxRecDepth 65536 in
theorem w_c13 : (Jvm.Cond.code ({ cls := "com/example/knotwork/knotwork/runfile/RunFile$Blocking", name := "isSortedNeighbourhood", desc := "()Z" } : Jvm.MethodName) prog_45_method_4_code (1 : Nat) (Option.some Jvm.ClassFile.FieldType.boolean)).before args0 about1 = true := code_word (m := ⟨15, 1⟩) (meth := k15m1) (c := k15c1) (by decide +kernel) rfl rfl rfl (by decide +kernel)
set_option maxRecDepth 65536 in
theorem w_c14 : (Jvm.Cond.code ({ cls := "java/util/ArrayList", name := "size", desc := "()I" } : Jvm.MethodName) jdk_38_method_8_code (1 : Nat) (Option.some Jvm.ClassFile.FieldType.int)).before args0 about1 = true := code_word (m := ⟨13, 3⟩) (meth := k13m3) (c := k13c3) (by decide +kernel) rfl rfl rfl (by decide +kernel)
def codes1 : List Jvm.Cond := [Jvm.Cond.code x code maxLocals ret, Jvm.Cond.code ({ cls := "java/util/ArrayList", name := "<init>", desc := "()V" } : Jvm.MethodName) jdk_38_method_2_code (1 : Nat) (Option.none : Option Jvm.ClassFile.FieldType), Jvm.Cond.code ({ cls := "java/util/AbstractList", name := "<init>", desc := "()V" } : Jvm.MethodName) jdk_39_method_1_code (1 : Nat) (Option.none : Option Jvm.ClassFile.FieldType), Jvm.Cond.code ({ cls := "java/util/AbstractCollection", name := "<init>", desc := "()V" } : Jvm.MethodName) jdk_22_method_1_code (1 : Nat) (Option.none : Option Jvm.ClassFile.FieldType), Jvm.Cond.code ({ cls := "java/lang/Object", name := "<init>", desc := "()V" } : Jvm.MethodName) object_method_1_code (1 : Nat) (Option.none : Option Jvm.ClassFile.FieldType), Jvm.Cond.code ({ cls := "com/example/knotwork/knotwork/runfile/RunFile$BlockingKey", name := "<init>", desc := "(Ljava/util/List;)V" } : Jvm.MethodName) prog_46_method_1_code (2 : Nat) (Option.none : Option Jvm.ClassFile.FieldType), Jvm.Cond.code ({ cls := "java/lang/Record", name := "<init>", desc := "()V" } : Jvm.MethodName) jdk_30_method_1_code (1 : Nat) (Option.none : Option Jvm.ClassFile.FieldType), Jvm.Cond.code ({ cls := "java/util/ArrayList", name := "add", desc := "(Ljava/lang/Object;)Z" } : Jvm.MethodName) jdk_38_method_25_code (2 : Nat) (Option.some Jvm.ClassFile.FieldType.boolean), Jvm.Cond.code ({ cls := "java/util/ArrayList", name := "add", desc := "(Ljava/lang/Object;[Ljava/lang/Object;I)V" } : Jvm.MethodName) jdk_38_method_24_code (4 : Nat) (Option.none : Option Jvm.ClassFile.FieldType), Jvm.Cond.code ({ cls := "java/util/ArrayList", name := "grow", desc := "()[Ljava/lang/Object;" } : Jvm.MethodName) jdk_38_method_7_code (1 : Nat) (Option.some (Jvm.ClassFile.FieldType.array (Jvm.ClassFile.FieldType.object "java/lang/Object"))), Jvm.Cond.code ({ cls := "java/util/ArrayList", name := "grow", desc := "(I)[Ljava/lang/Object;" } : Jvm.MethodName) jdk_38_method_6_code (4 : Nat) (Option.some (Jvm.ClassFile.FieldType.array (Jvm.ClassFile.FieldType.object "java/lang/Object"))), Jvm.Cond.code ({ cls := "java/lang/Math", name := "max", desc := "(II)I" } : Jvm.MethodName) jdk_29_method_65_code (2 : Nat) (Option.some Jvm.ClassFile.FieldType.int), Jvm.Cond.code ({ cls := "com/example/knotwork/knotwork/runfile/RunFile$Blocking", name := "<init>", desc := "(Ljava/util/List;ILjava/util/List;)V" } : Jvm.MethodName) prog_45_method_1_code (4 : Nat) (Option.none : Option Jvm.ClassFile.FieldType), Jvm.Cond.code ({ cls := "com/example/knotwork/knotwork/runfile/RunFile$Blocking", name := "isSortedNeighbourhood", desc := "()Z" } : Jvm.MethodName) prog_45_method_4_code (1 : Nat) (Option.some Jvm.ClassFile.FieldType.boolean), Jvm.Cond.code ({ cls := "java/util/ArrayList", name := "size", desc := "()I" } : Jvm.MethodName) jdk_38_method_8_code (1 : Nat) (Option.some Jvm.ClassFile.FieldType.int)]
set_option maxRecDepth 65536 in
theorem codes_eq : words1.filter isCode = codes1 := rfl
theorem w_codes : ∀ c ∈ words1.filter isCode, c.before args0 about1 = true := by
  rw [codes_eq]
  intro c hc
  simp only [codes1, List.mem_cons, List.not_mem_nil, or_false] at hc
  rcases hc with rfl | rfl | rfl | rfl | rfl | rfl | rfl | rfl | rfl | rfl | rfl | rfl | rfl | rfl | rfl
  · exact w_c0
  · exact w_c1
  · exact w_c2
  · exact w_c3
  · exact w_c4
  · exact w_c5
  · exact w_c6
  · exact w_c7
  · exact w_c8
  · exact w_c9
  · exact w_c10
  · exact w_c11
  · exact w_c12
  · exact w_c13
  · exact w_c14
set_option maxRecDepth 65536 in
theorem w_t1 : (words1.take 24).all (fun c => isCode c || c.before args0 about1) = true := by decide +kernel
set_option maxRecDepth 65536 in
theorem w_t2 : ((words1.drop 24).take 24).all (fun c => isCode c || c.before args0 about1) = true := by decide +kernel
set_option maxRecDepth 65536 in
theorem w_t3 : (((words1.drop 24).drop 24).take 24).all (fun c => isCode c || c.before args0 about1) = true := by decide +kernel
set_option maxRecDepth 65536 in
theorem w_t4 : ((((words1.drop 24).drop 24).drop 24).take 24).all (fun c => isCode c || c.before args0 about1) = true := by decide +kernel
set_option maxRecDepth 65536 in
theorem w_t5 : ((((words1.drop 24).drop 24).drop 24).drop 24).all (fun c => isCode c || c.before args0 about1) = true := by decide +kernel
theorem w_tables : (allAtoms (Jvm.Cond.code x code maxLocals ret :: tables_1)).before args0 about1 = true := by
  rw [allAtoms_all]
  show words1.all (fun c => c.before args0 about1) = true
  refine all_split ?_ w_codes
  rw [← List.take_append_drop 24 words1, List.all_append, w_t1, ← List.take_append_drop 24 (words1.drop 24), List.all_append, w_t2, ← List.take_append_drop 24 ((words1.drop 24).drop 24), List.all_append, w_t3, ← List.take_append_drop 24 (((words1.drop 24).drop 24).drop 24), List.all_append, w_t4, w_t5]
  rfl
set_option maxRecDepth 65536 in
theorem w_rest : rest_1_c.before args0 about1 = true := by decide +kernel
set_option maxRecDepth 65536 in
theorem w_case : (Jvm.Cond.and given_1 narrow_1).before args0 about1 = true := by decide +kernel
theorem w_applies : (headSpec (Jvm.Cond.code x code maxLocals ret :: tables_1) room_1).applies x e0.platform about1 = true :=
  (Spec.applies_iff w_frames).mpr ⟨w_running, w_runnable, w_alone, w_named, w_hears, w_ripe, w_room, w_tables⟩
theorem atStart : AtStart classFile x code maxLocals ret World_1 tables_1 room_1 Calls_1 rest_1 Pre_1 launch0 p0 e0 about1 theMethod args0 below0 :=
  ⟨lists_1, trivial, launch0.admits_env _ _ _, launch0.least_env, fairChoices_fair.cas, fairChoices_fair.clock, w_frames, w_args, w_heap, w_applies, trivial, w_rest, w_case⟩
end start1
theorem witness_1 : WitnessClaimed_1 := ⟨start1.p0, start1.e0, start1.about1, start1.theMethod, start1.args0, start1.below0, start1.atStart⟩
end Jvm.Pilot.@@N@@
