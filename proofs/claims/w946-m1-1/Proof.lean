import JvmDerived
import JvmDerived.Pilot.@@N@@Statement
import JvmDerived.Pilot.@@N@@Code
set_option linter.unusedVariables false
set_option linter.unusedSimpArgs false
namespace Jvm.OwnW
open Sem ClassFile Op Lib Jvm.Stand Jvm.Free Jvm.LawKit Jvm.RoadKit
/-- false: nothing may have been interned; true: the wide word -/
def Md (w : Bool) (s : State) (vm0 : Vm) (n : Nat) : Prop := (w = false → vm0 = s.vm) ∧ ∃ k0, s.Since vm0 k0 ∧ k0 ≤ n
theorem Md.mono {w : Bool} {s : State} {vm0 : Vm} {n n' : Nat} (h : Md w s vm0 n) (q : n ≤ n') : Md w s vm0 n' := ⟨h.1, h.2.imp fun _ r => ⟨r.1, Nat.le_trans r.2 q⟩⟩
theorem Md.start (w : Bool) (s : State) (n : Nat) : Md w s s.vm n := ⟨fun _ => rfl, 0, (State.WarmedH.refl s).since 0, Nat.zero_le _⟩
def EndF (w : Bool) (s : State) (o : Outcome) (t : State) (L : List Loc) (k n : Nat) : Prop := match w with
  | false => FrameEnd s o t L k n
  | true => ReturnedEndW s o t L k n
abbrev Kx : Type := Bool × Program × Launch × Env × Room × State × MethodId × Array Value × List Frame × Method × Code × State × String × Nat × (Option Value → Heap → Prop)
abbrev Kx.w (κ : Kx) : Bool := κ.1
abbrev Kx.p (κ : Kx) : Program := κ.2.1
abbrev Kx.l (κ : Kx) : Launch := κ.2.2.1
abbrev Kx.e (κ : Kx) : Env := κ.2.2.2.1
abbrev Kx.R (κ : Kx) : Room := κ.2.2.2.2.1
abbrev Kx.s (κ : Kx) : State := κ.2.2.2.2.2.1
abbrev Kx.m (κ : Kx) : MethodId := κ.2.2.2.2.2.2.1
abbrev Kx.a (κ : Kx) : Array Value := κ.2.2.2.2.2.2.2.1
abbrev Kx.below (κ : Kx) : List Frame := κ.2.2.2.2.2.2.2.2.1
abbrev Kx.meth (κ : Kx) : Method := κ.2.2.2.2.2.2.2.2.2.1
abbrev Kx.c (κ : Kx) : Code := κ.2.2.2.2.2.2.2.2.2.2.1
abbrev Kx.Z (κ : Kx) : State := κ.2.2.2.2.2.2.2.2.2.2.2.1
abbrev Kx.own (κ : Kx) : String := κ.2.2.2.2.2.2.2.2.2.2.2.2.1
abbrev Kx.n0 (κ : Kx) : Nat := κ.2.2.2.2.2.2.2.2.2.2.2.2.2.1
abbrev Kx.Q (κ : Kx) : Option Value → Heap → Prop := κ.2.2.2.2.2.2.2.2.2.2.2.2.2.2
/-- the body's run from T with the frame g ends as κ.Q says -/
def Ends (κ : Kx) (T : State) (g : JFrame) : Prop := ∃ (t : State) (o : Outcome), Steps κ.p.tables κ.e κ.below (T.setTop g) t ∧ t.status = .running ∧ Ended t κ.below o ∧ ∃ v L, o = .returned v ∧ (κ.Q v t.heap ∧ Fr κ.n0 L) ∧ EndF κ.w κ.s o t L κ.R.cells κ.R.slots
def WP (κ : Kx) (h : Heap) (k n : Nat) (g : JFrame) : Prop :=
  ∀ (T : State) (locs : List Loc) (vm0 : Vm), Stand κ.p κ.l κ.e κ.R (κ.s.setVm vm0) κ.m κ.a κ.below κ.meth κ.c T locs k n → T.heap = h → Md κ.w κ.s vm0 h.size → κ.Z.Warmed39 vm0 → vm0.findClass κ.own = some κ.m.cls → Fr κ.n0 locs → Ends κ T g
/-- what stands fast through a body's walk -/
def Cx (κ : Kx) (w : Bool) (l : Launch) (Z : State) (own : String) (n0 : Nat) (rm : Room) (bytes : ByteArray) (maxL : Nat) (ret : Option FieldType) (nm : String) (Q : Option Value → Heap → Prop) : Prop :=
  κ.p.tables.exec = Jvm.exec ∧ κ.c.code = bytes ∧ κ.c.maxLocals = maxL ∧ κ.meth.sig.returnType = ret ∧ κ.meth.locks = false ∧ κ.meth.name = nm ∧ κ.w = w ∧ κ.l = l ∧ κ.Z = Z ∧ κ.own = own ∧ κ.n0 = n0 ∧ κ.R = rm ∧ κ.Q = Q
/-- a body's contract -/
def Met (w : Bool) (l : Launch) (Z : State) (y : MethodName) (bytes : ByteArray) (maxL : Nat) (ret : Option FieldType) (ws : List Cond) (rm : Room) (as' : Array Value) (h0 : Heap) (n0 : Nat) (Q : Option Value → Heap → Prop) : Prop :=
  MetFree l y (head1 (Cond.code y bytes maxL ret :: ws) rm) (fun a U => a = as' ∧ Z.Warmed39 U.vm ∧ U.heap = h0) (fun _ _ _ _ _ => True) (fun _ U o U' => ∃ v L, o = .returned v ∧ (Q v U'.heap ∧ Fr n0 L) ∧ EndF w U o U' L rm.cells rm.slots)
theorem Met.of {w : Bool} {l : Launch} {Z : State} {y : MethodName} {bytes : ByteArray} {maxL : Nat} {ret : Option FieldType} {ws : List Cond} {rm : Room} {as' : Array Value} {h0 : Heap} {n0 : Nat} {Q : Option Value → Heap → Prop} (hp : plainFor y = true)
    (body : ∀ κ : Kx, Cx κ w l Z y.cls n0 rm bytes maxL ret y.name Q → WP κ h0 0 0 (entryFrame κ.m as' maxL)) : Met w l Z y bytes maxL ret ws rm as' h0 n0 Q := by
  refine MetFree.of_bodySF hp hisR ?_
  intro p e s m args below meth c s₁ Bd hml0 hP hK
  obtain ⟨rfl, hZ, hh⟩ := hP
  exact body (w, p, l, e, rm, s, m, args, below, meth, c, Z, y.cls, n0, Q) ⟨Bd.exec, Bd.bytes, hml0, Bd.returns, Bd.notSynchronized, (name_of_methodNamed Bd.named Bd.method).1, rfl, rfl, rfl, rfl, rfl, rfl, rfl⟩ s₁ [] s.vm (Stand.of_body Bd) (by rw [← hh, Bd.state]; rfl) (Md.start _ _ _) hZ (findClass_of_methodNamed Bd.named) (Fr.nil n0)
theorem EndF.widen {w : Bool} {s : State} {o : Outcome} {t : State} {L : List Loc} {k n : Nat} (h : EndF w s o t L k n) : ReturnedEndW s o t L k n := by
  cases w
  · exact ReturnedEndW.of_narrow h.1 h.2.1 h.2.2
  · exact h
section Rules
variable {κ : Kx} {w : Bool} {l : Launch} {Z : State} {own nm : String} {n0 : Nat} {rm : Room} {bytes : ByteArray} {maxL : Nat} {ret : Option FieldType} {Q : Option Value → Heap → Prop} {h h' : Heap} {k n k' n' : Nat} {pc pc' : Nat} {L L' : Array Slot} {S : List Value} {a0 : Array Value}
theorem WP.go {g g' : JFrame} (st : ∀ (T : State) (locs : List Loc) (vm0 : Vm), Stand κ.p κ.l κ.e κ.R (κ.s.setVm vm0) κ.m κ.a κ.below κ.meth κ.c T locs k n → T.heap = h → κ.Z.Warmed39 vm0 → vm0.findClass κ.own = some κ.m.cls → ∀ t, Steps κ.p.tables κ.e κ.below (T.setTop g') t → Steps κ.p.tables κ.e κ.below (T.setTop g) t)
    (H : WP κ h k n g') : WP κ h k n g := fun T locs vm0 X e M hZ ho N => by
  obtain ⟨t, o, h1, r⟩ := H T locs vm0 X e M hZ ho N
  exact ⟨t, o, st T locs vm0 X e hZ ho t h1, r⟩
theorem WP.frame {g g' : JFrame} (q : g = g') (H : WP κ h k n g') : WP κ h k n g := q ▸ H
theorem WP.more {g : JFrame} (H : WP κ h k' n' g) (hk : k ≤ k') (hn : n ≤ n') : WP κ h k n g := fun T locs vm0 X e M hZ ho N => H T locs vm0 (X.mono hk hn) e M hZ ho N
/-- a pure stretch with several roads that meet again -/
theorem WP.meet {g g' : JFrame} (H : WP κ h k n g' → WP κ h k n g) (K : WP κ h k n g') : WP κ h k n g := H K
theorem WP.iadd (K : Cx κ w l Z own n0 rm bytes maxL ret nm Q) {x y : Int32} (hd : decode bytes pc = .ok (.iadd, 1))  (hp : pc + 1 = pc') (H : WP κ h k n (mkF κ.m pc' L (.int (x + y) :: S))) : WP κ h k n (mkF κ.m pc L (.int y :: .int x :: S)) := by
  obtain ⟨hx, hby, -⟩ := K
  subst hp
  exact WP.go (fun T locs vm0 X e hZ ho t k => XS.iadd X.here hx rfl (hb hby hd) rfl k) H
theorem WP.isub (K : Cx κ w l Z own n0 rm bytes maxL ret nm Q) {x y : Int32} (hd : decode bytes pc = .ok (.isub, 1))  (hp : pc + 1 = pc') (H : WP κ h k n (mkF κ.m pc' L (.int (x - y) :: S))) : WP κ h k n (mkF κ.m pc L (.int y :: .int x :: S)) := by
  obtain ⟨hx, hby, -⟩ := K
  subst hp
  exact WP.go (fun T locs vm0 X e hZ ho t k => XS.isub X.here hx rfl (hb hby hd) rfl k) H
theorem WP.imul (K : Cx κ w l Z own n0 rm bytes maxL ret nm Q) {x y : Int32} (hd : decode bytes pc = .ok (.imul, 1))  (hp : pc + 1 = pc') (H : WP κ h k n (mkF κ.m pc' L (.int (x * y) :: S))) : WP κ h k n (mkF κ.m pc L (.int y :: .int x :: S)) := by
  obtain ⟨hx, hby, -⟩ := K
  subst hp
  exact WP.go (fun T locs vm0 X e hZ ho t k => XS.imul X.here hx rfl (hb hby hd) rfl k) H
theorem WP.iand (K : Cx κ w l Z own n0 rm bytes maxL ret nm Q) {x y : Int32} (hd : decode bytes pc = .ok (.iand, 1))  (hp : pc + 1 = pc') (H : WP κ h k n (mkF κ.m pc' L (.int (x &&& y) :: S))) : WP κ h k n (mkF κ.m pc L (.int y :: .int x :: S)) := by
  obtain ⟨hx, hby, -⟩ := K
  subst hp
  exact WP.go (fun T locs vm0 X e hZ ho t k => XS.iand X.here hx rfl (hb hby hd) rfl k) H
theorem WP.ixor (K : Cx κ w l Z own n0 rm bytes maxL ret nm Q) {x y : Int32} (hd : decode bytes pc = .ok (.ixor, 1))  (hp : pc + 1 = pc') (H : WP κ h k n (mkF κ.m pc' L (.int (x ^^^ y) :: S))) : WP κ h k n (mkF κ.m pc L (.int y :: .int x :: S)) := by
  obtain ⟨hx, hby, -⟩ := K
  subst hp
  exact WP.go (fun T locs vm0 X e hZ ho t k => XS.ixor X.here hx rfl (hb hby hd) rfl k) H
theorem WP.ior (K : Cx κ w l Z own n0 rm bytes maxL ret nm Q) {x y : Int32} (hd : decode bytes pc = .ok (.ior, 1))  (hp : pc + 1 = pc') (H : WP κ h k n (mkF κ.m pc' L (.int (x ||| y) :: S))) : WP κ h k n (mkF κ.m pc L (.int y :: .int x :: S)) := by
  obtain ⟨hx, hby, -⟩ := K
  subst hp
  exact WP.go (fun T locs vm0 X e hZ ho t k => XS.ior X.here hx rfl (hb hby hd) rfl k) H
theorem WP.ishl (K : Cx κ w l Z own n0 rm bytes maxL ret nm Q) {x y : Int32} (hd : decode bytes pc = .ok (.ishl, 1))  (hp : pc + 1 = pc') (H : WP κ h k n (mkF κ.m pc' L (.int (x <<< (y &&& 31)) :: S))) : WP κ h k n (mkF κ.m pc L (.int y :: .int x :: S)) := by
  obtain ⟨hx, hby, -⟩ := K
  subst hp
  exact WP.go (fun T locs vm0 X e hZ ho t k => XS.ishl X.here hx rfl (hb hby hd) rfl k) H
theorem WP.ishr (K : Cx κ w l Z own n0 rm bytes maxL ret nm Q) {x y : Int32} (hd : decode bytes pc = .ok (.ishr, 1))  (hp : pc + 1 = pc') (H : WP κ h k n (mkF κ.m pc' L (.int (x >>> (y &&& 31)) :: S))) : WP κ h k n (mkF κ.m pc L (.int y :: .int x :: S)) := by
  obtain ⟨hx, hby, -⟩ := K
  subst hp
  exact WP.go (fun T locs vm0 X e hZ ho t k => XS.ishr X.here hx rfl (hb hby hd) rfl k) H
theorem WP.iushr (K : Cx κ w l Z own n0 rm bytes maxL ret nm Q) {x y : Int32} (hd : decode bytes pc = .ok (.iushr, 1))  (hp : pc + 1 = pc') (H : WP κ h k n (mkF κ.m pc' L (.int ((x.toUInt32 >>> (y &&& 31).toUInt32).toInt32) :: S))) : WP κ h k n (mkF κ.m pc L (.int y :: .int x :: S)) := by
  obtain ⟨hx, hby, -⟩ := K
  subst hp
  exact WP.go (fun T locs vm0 X e hZ ho t k => XS.iushr X.here hx rfl (hb hby hd) rfl k) H
theorem WP.ladd (K : Cx κ w l Z own n0 rm bytes maxL ret nm Q) {x y : Int64} (hd : decode bytes pc = .ok (.ladd, 1))  (hp : pc + 1 = pc') (H : WP κ h k n (mkF κ.m pc' L (.long (x + y) :: S))) : WP κ h k n (mkF κ.m pc L (.long y :: .long x :: S)) := by
  obtain ⟨hx, hby, -⟩ := K
  subst hp
  exact WP.go (fun T locs vm0 X e hZ ho t k => XS.ladd X.here hx rfl (hb hby hd) rfl k) H
theorem WP.lsub (K : Cx κ w l Z own n0 rm bytes maxL ret nm Q) {x y : Int64} (hd : decode bytes pc = .ok (.lsub, 1))  (hp : pc + 1 = pc') (H : WP κ h k n (mkF κ.m pc' L (.long (x - y) :: S))) : WP κ h k n (mkF κ.m pc L (.long y :: .long x :: S)) := by
  obtain ⟨hx, hby, -⟩ := K
  subst hp
  exact WP.go (fun T locs vm0 X e hZ ho t k => XS.lsub X.here hx rfl (hb hby hd) rfl k) H
theorem WP.lmul (K : Cx κ w l Z own n0 rm bytes maxL ret nm Q) {x y : Int64} (hd : decode bytes pc = .ok (.lmul, 1))  (hp : pc + 1 = pc') (H : WP κ h k n (mkF κ.m pc' L (.long (x * y) :: S))) : WP κ h k n (mkF κ.m pc L (.long y :: .long x :: S)) := by
  obtain ⟨hx, hby, -⟩ := K
  subst hp
  exact WP.go (fun T locs vm0 X e hZ ho t k => XS.lmul X.here hx rfl (hb hby hd) rfl k) H
theorem WP.land (K : Cx κ w l Z own n0 rm bytes maxL ret nm Q) {x y : Int64} (hd : decode bytes pc = .ok (.land, 1))  (hp : pc + 1 = pc') (H : WP κ h k n (mkF κ.m pc' L (.long (x &&& y) :: S))) : WP κ h k n (mkF κ.m pc L (.long y :: .long x :: S)) := by
  obtain ⟨hx, hby, -⟩ := K
  subst hp
  exact WP.go (fun T locs vm0 X e hZ ho t k => XS.land X.here hx rfl (hb hby hd) rfl k) H
theorem WP.lor (K : Cx κ w l Z own n0 rm bytes maxL ret nm Q) {x y : Int64} (hd : decode bytes pc = .ok (.lor, 1))  (hp : pc + 1 = pc') (H : WP κ h k n (mkF κ.m pc' L (.long (x ||| y) :: S))) : WP κ h k n (mkF κ.m pc L (.long y :: .long x :: S)) := by
  obtain ⟨hx, hby, -⟩ := K
  subst hp
  exact WP.go (fun T locs vm0 X e hZ ho t k => XS.lor X.here hx rfl (hb hby hd) rfl k) H
theorem WP.lxor (K : Cx κ w l Z own n0 rm bytes maxL ret nm Q) {x y : Int64} (hd : decode bytes pc = .ok (.lxor, 1))  (hp : pc + 1 = pc') (H : WP κ h k n (mkF κ.m pc' L (.long (x ^^^ y) :: S))) : WP κ h k n (mkF κ.m pc L (.long y :: .long x :: S)) := by
  obtain ⟨hx, hby, -⟩ := K
  subst hp
  exact WP.go (fun T locs vm0 X e hZ ho t k => XS.lxor X.here hx rfl (hb hby hd) rfl k) H
theorem WP.idiv (K : Cx κ w l Z own n0 rm bytes maxL ret nm Q) {x y : Int32} (hd : decode bytes pc = .ok (.idiv, 1)) (hy : y ≠ 0) (hp : pc + 1 = pc') (H : WP κ h k n (mkF κ.m pc' L (.int (x / y) :: S))) : WP κ h k n (mkF κ.m pc L (.int y :: .int x :: S)) := by
  obtain ⟨hx, hby, -⟩ := K
  subst hp
  exact WP.go (fun T locs vm0 X e hZ ho t k => XS.idiv X.here hx rfl (hb hby hd) rfl hy k) H
theorem WP.irem (K : Cx κ w l Z own n0 rm bytes maxL ret nm Q) {x y : Int32} (hd : decode bytes pc = .ok (.irem, 1)) (hy : y ≠ 0) (hp : pc + 1 = pc') (H : WP κ h k n (mkF κ.m pc' L (.int (x % y) :: S))) : WP κ h k n (mkF κ.m pc L (.int y :: .int x :: S)) := by
  obtain ⟨hx, hby, -⟩ := K
  subst hp
  exact WP.go (fun T locs vm0 X e hZ ho t k => iremM X hx rfl (hb hby hd) rfl hy k) H
theorem WP.ldiv (K : Cx κ w l Z own n0 rm bytes maxL ret nm Q) {x y : Int64} (hd : decode bytes pc = .ok (.ldiv, 1)) (hy : y ≠ 0) (hp : pc + 1 = pc') (H : WP κ h k n (mkF κ.m pc' L (.long (x / y) :: S))) : WP κ h k n (mkF κ.m pc L (.long y :: .long x :: S)) := by
  obtain ⟨hx, hby, -⟩ := K
  subst hp
  exact WP.go (fun T locs vm0 X e hZ ho t k => XT.ldiv X.here hx rfl (hb hby hd) rfl hy k) H
theorem WP.lrem (K : Cx κ w l Z own n0 rm bytes maxL ret nm Q) {x y : Int64} (hd : decode bytes pc = .ok (.lrem, 1)) (hy : y ≠ 0) (hp : pc + 1 = pc') (H : WP κ h k n (mkF κ.m pc' L (.long (x % y) :: S))) : WP κ h k n (mkF κ.m pc L (.long y :: .long x :: S)) := by
  obtain ⟨hx, hby, -⟩ := K
  subst hp
  exact WP.go (fun T locs vm0 X e hZ ho t k => XT.lrem X.here hx rfl (hb hby hd) rfl hy (by rw [lrem_mod]; exact k)) H
theorem WP.ineg (K : Cx κ w l Z own n0 rm bytes maxL ret nm Q) {x : Int32} (hd : decode bytes pc = .ok (.ineg, 1))  (hp : pc + 1 = pc') (H : WP κ h k n (mkF κ.m pc' L (.int (-x) :: S))) : WP κ h k n (mkF κ.m pc L (.int x :: S)) := by
  obtain ⟨hx, hby, -⟩ := K
  subst hp
  exact WP.go (fun T locs vm0 X e hZ ho t k => XS.ineg X.here hx rfl (hb hby hd) rfl k) H
theorem WP.lneg (K : Cx κ w l Z own n0 rm bytes maxL ret nm Q) {x : Int64} (hd : decode bytes pc = .ok (.lneg, 1))  (hp : pc + 1 = pc') (H : WP κ h k n (mkF κ.m pc' L (.long (-x) :: S))) : WP κ h k n (mkF κ.m pc L (.long x :: S)) := by
  obtain ⟨hx, hby, -⟩ := K
  subst hp
  exact WP.go (fun T locs vm0 X e hZ ho t k => XT.lneg X.here hx rfl (hb hby hd) rfl k) H
theorem WP.lshl (K : Cx κ w l Z own n0 rm bytes maxL ret nm Q) {x : Int64} {y : Int32} (hd : decode bytes pc = .ok (.lshl, 1))  (hp : pc + 1 = pc') (H : WP κ h k n (mkF κ.m pc' L (.long (x <<< (y &&& 0x3f).toInt64) :: S))) : WP κ h k n (mkF κ.m pc L (.int y :: .long x :: S)) := by
  obtain ⟨hx, hby, -⟩ := K
  subst hp
  exact WP.go (fun T locs vm0 X e hZ ho t k => XS.lshl X.here hx rfl (hb hby hd) rfl k) H
theorem WP.lshr (K : Cx κ w l Z own n0 rm bytes maxL ret nm Q) {x : Int64} {y : Int32} (hd : decode bytes pc = .ok (.lshr, 1))  (hp : pc + 1 = pc') (H : WP κ h k n (mkF κ.m pc' L (.long (x >>> (y &&& 0x3f).toInt64) :: S))) : WP κ h k n (mkF κ.m pc L (.int y :: .long x :: S)) := by
  obtain ⟨hx, hby, -⟩ := K
  subst hp
  exact WP.go (fun T locs vm0 X e hZ ho t k => XS.lshr X.here hx rfl (hb hby hd) rfl k) H
theorem WP.lushr (K : Cx κ w l Z own n0 rm bytes maxL ret nm Q) {x : Int64} {y : Int32} (hd : decode bytes pc = .ok (.lushr, 1))  (hp : pc + 1 = pc') (H : WP κ h k n (mkF κ.m pc' L (.long ((x.toUInt64 >>> (y &&& 0x3f).toInt64.toUInt64).toInt64) :: S))) : WP κ h k n (mkF κ.m pc L (.int y :: .long x :: S)) := by
  obtain ⟨hx, hby, -⟩ := K
  subst hp
  exact WP.go (fun T locs vm0 X e hZ ho t k => XS.lushr X.here hx rfl (hb hby hd) rfl k) H
theorem WP.i2l (K : Cx κ w l Z own n0 rm bytes maxL ret nm Q) {x : Int32} (hd : decode bytes pc = .ok (.i2l, 1))  (hp : pc + 1 = pc') (H : WP κ h k n (mkF κ.m pc' L (.long (x.toInt64) :: S))) : WP κ h k n (mkF κ.m pc L (.int x :: S)) := by
  obtain ⟨hx, hby, -⟩ := K
  subst hp
  exact WP.go (fun T locs vm0 X e hZ ho t k => XS.i2l X.here hx rfl (hb hby hd) rfl k) H
theorem WP.l2i (K : Cx κ w l Z own n0 rm bytes maxL ret nm Q) {x : Int64} (hd : decode bytes pc = .ok (.l2i, 1))  (hp : pc + 1 = pc') (H : WP κ h k n (mkF κ.m pc' L (.int (x.toInt32) :: S))) : WP κ h k n (mkF κ.m pc L (.long x :: S)) := by
  obtain ⟨hx, hby, -⟩ := K
  subst hp
  exact WP.go (fun T locs vm0 X e hZ ho t k => XS.l2i X.here hx rfl (hb hby hd) rfl k) H
theorem WP.i2b (K : Cx κ w l Z own n0 rm bytes maxL ret nm Q) {x : Int32} (hd : decode bytes pc = .ok (.i2b, 1))  (hp : pc + 1 = pc') (H : WP κ h k n (mkF κ.m pc' L (.int (x.toInt8.toInt32) :: S))) : WP κ h k n (mkF κ.m pc L (.int x :: S)) := by
  obtain ⟨hx, hby, -⟩ := K
  subst hp
  exact WP.go (fun T locs vm0 X e hZ ho t k => XS.i2b X.here hx rfl (hb hby hd) rfl k) H
theorem WP.i2c (K : Cx κ w l Z own n0 rm bytes maxL ret nm Q) {x : Int32} (hd : decode bytes pc = .ok (.i2c, 1))  (hp : pc + 1 = pc') (H : WP κ h k n (mkF κ.m pc' L (.int (x.toUInt32.toUInt16.toUInt32.toInt32) :: S))) : WP κ h k n (mkF κ.m pc L (.int x :: S)) := by
  obtain ⟨hx, hby, -⟩ := K
  subst hp
  exact WP.go (fun T locs vm0 X e hZ ho t k => XS.i2c X.here hx rfl (hb hby hd) rfl k) H
theorem WP.i2s (K : Cx κ w l Z own n0 rm bytes maxL ret nm Q) {x : Int32} (hd : decode bytes pc = .ok (.i2s, 1))  (hp : pc + 1 = pc') (H : WP κ h k n (mkF κ.m pc' L (.int (x.toInt16.toInt32) :: S))) : WP κ h k n (mkF κ.m pc L (.int x :: S)) := by
  obtain ⟨hx, hby, -⟩ := K
  subst hp
  exact WP.go (fun T locs vm0 X e hZ ho t k => XS.i2s X.here hx rfl (hb hby hd) rfl k) H
theorem WP.lcmp (K : Cx κ w l Z own n0 rm bytes maxL ret nm Q) {x y : Int64} (hd : decode bytes pc = .ok (.lcmp, 1))  (hp : pc + 1 = pc') (H : WP κ h k n (mkF κ.m pc' L (.int (lcmpW x y) :: S))) : WP κ h k n (mkF κ.m pc L (.long y :: .long x :: S)) := by
  obtain ⟨hx, hby, -⟩ := K
  subst hp
  exact WP.go (fun T locs vm0 X e hZ ho t k => XS.lcmp X.here hx rfl (hb hby hd) rfl k) H
theorem WP.iconst (K : Cx κ w l Z own n0 rm bytes maxL ret nm Q) {i : Int} {v : Int32} (hd : decode bytes pc = .ok (.iconst i, 1)) (hv : Int32.ofInt i = v) (hp : pc + 1 = pc') (H : WP κ h k n (mkF κ.m pc' L (.int v :: S))) : WP κ h k n (mkF κ.m pc L (S)) := by
  obtain ⟨hx, hby, -⟩ := K
  subst hp
  exact WP.go (fun T locs vm0 X e hZ ho t k => XT.iconstV X.here hx rfl v (hb hby hd) hv k) H
theorem WP.bipush (K : Cx κ w l Z own n0 rm bytes maxL ret nm Q) {i : Int} {v : Int32} (hd : decode bytes pc = .ok (.bipush i, 2)) (hv : (Int8.ofInt i).toInt32 = v) (hp : pc + 2 = pc') (H : WP κ h k n (mkF κ.m pc' L (.int v :: S))) : WP κ h k n (mkF κ.m pc L (S)) := by
  obtain ⟨hx, hby, -⟩ := K
  subst hp
  exact WP.go (fun T locs vm0 X e hZ ho t k => XT.bipushV X.here hx rfl v (hb hby hd) hv k) H
theorem WP.sipush (K : Cx κ w l Z own n0 rm bytes maxL ret nm Q) {i : Int} {v : Int32} (hd : decode bytes pc = .ok (.sipush i, 3)) (hv : (Int16.ofInt i).toInt32 = v) (hp : pc + 3 = pc') (H : WP κ h k n (mkF κ.m pc' L (.int v :: S))) : WP κ h k n (mkF κ.m pc L (S)) := by
  obtain ⟨hx, hby, -⟩ := K
  subst hp
  exact WP.go (fun T locs vm0 X e hZ ho t k => XT.sipushV X.here hx rfl v (hb hby hd) hv k) H
theorem WP.lconst (K : Cx κ w l Z own n0 rm bytes maxL ret nm Q) {i : Fin 2} {v : Int64} (hd : decode bytes pc = .ok (.lconst i, 1)) (hv : Int64.ofNat i = v) (hp : pc + 1 = pc') (H : WP κ h k n (mkF κ.m pc' L (.long v :: S))) : WP κ h k n (mkF κ.m pc L (S)) := by
  obtain ⟨hx, hby, -⟩ := K
  subst hp
  exact WP.go (fun T locs vm0 X e hZ ho t k => XT.lconstV X.here hx rfl v (hb hby hd) hv k) H
theorem WP.aconst_null (K : Cx κ w l Z own n0 rm bytes maxL ret nm Q)  (hd : decode bytes pc = .ok (.aconst_null, 1))  (hp : pc + 1 = pc') (H : WP κ h k n (mkF κ.m pc' L (.null :: S))) : WP κ h k n (mkF κ.m pc L (S)) := by
  obtain ⟨hx, hby, -⟩ := K
  subst hp
  exact WP.go (fun T locs vm0 X e hZ ho t k => XS.aconstNull X.here hx rfl (hb hby hd) k) H
theorem WP.iloadN (K : Cx κ w l Z own n0 rm bytes maxL ret nm Q) {j : Fin 4} {v : Int32} (hd : decode bytes pc = .ok (.iload_n j, 1)) (hl : L[j.val]? = some (.val (.int v))) (hp : pc + 1 = pc') (H : WP κ h k n (mkF κ.m pc' L (.int v :: S))) : WP κ h k n (mkF κ.m pc L (S)) := by
  obtain ⟨hx, hby, -⟩ := K
  subst hp
  exact WP.go (fun T locs vm0 X e hZ ho t k => XS.iloadN X.here hx rfl (hb hby hd) hl k) H
theorem WP.iload (K : Cx κ w l Z own n0 rm bytes maxL ret nm Q) {j : Nat} {v : Int32} (hd : decode bytes pc = .ok (.iload j, 2)) (hl : L[j]? = some (.val (.int v))) (hp : pc + 2 = pc') (H : WP κ h k n (mkF κ.m pc' L (.int v :: S))) : WP κ h k n (mkF κ.m pc L (S)) := by
  obtain ⟨hx, hby, -⟩ := K
  subst hp
  exact WP.go (fun T locs vm0 X e hZ ho t k => XS.iload X.here hx rfl (hb hby hd) hl k) H
theorem WP.lloadN (K : Cx κ w l Z own n0 rm bytes maxL ret nm Q) {j : Fin 4} {v : Int64} (hd : decode bytes pc = .ok (.lload_n j, 1)) (hl : L[j.val]? = some (.val (.long v))) (hp : pc + 1 = pc') (H : WP κ h k n (mkF κ.m pc' L (.long v :: S))) : WP κ h k n (mkF κ.m pc L (S)) := by
  obtain ⟨hx, hby, -⟩ := K
  subst hp
  exact WP.go (fun T locs vm0 X e hZ ho t k => XT.lloadN X.here hx rfl (hb hby hd) hl k) H
theorem WP.lload (K : Cx κ w l Z own n0 rm bytes maxL ret nm Q) {j : Nat} {v : Int64} (hd : decode bytes pc = .ok (.lload j, 2)) (hl : L[j]? = some (.val (.long v))) (hp : pc + 2 = pc') (H : WP κ h k n (mkF κ.m pc' L (.long v :: S))) : WP κ h k n (mkF κ.m pc L (S)) := by
  obtain ⟨hx, hby, -⟩ := K
  subst hp
  exact WP.go (fun T locs vm0 X e hZ ho t k => XT.lload X.here hx rfl (hb hby hd) hl k) H
theorem WP.aloadN (K : Cx κ w l Z own n0 rm bytes maxL ret nm Q) {j : Fin 4} {v : Value} (hd : decode bytes pc = .ok (.aload_n j, 1)) (hl : L[j.val]? = some (.val v)) (hv : v.isRef = true) (hp : pc + 1 = pc') (H : WP κ h k n (mkF κ.m pc' L (v :: S))) : WP κ h k n (mkF κ.m pc L (S)) := by
  obtain ⟨hx, hby, -⟩ := K
  subst hp
  exact WP.go (fun T locs vm0 X e hZ ho t k => XS.aloadN X.here hx rfl (hb hby hd) hl hv k) H
theorem WP.aload (K : Cx κ w l Z own n0 rm bytes maxL ret nm Q) {j : Nat} {v : Value} (hd : decode bytes pc = .ok (.aload j, 2)) (hl : L[j]? = some (.val v)) (hv : v.isRef = true) (hp : pc + 2 = pc') (H : WP κ h k n (mkF κ.m pc' L (v :: S))) : WP κ h k n (mkF κ.m pc L (S)) := by
  obtain ⟨hx, hby, -⟩ := K
  subst hp
  exact WP.go (fun T locs vm0 X e hZ ho t k => XS.aload X.here hx rfl (hb hby hd) hl hv k) H
theorem WP.dloadN (K : Cx κ w l Z own n0 rm bytes maxL ret nm Q) {j : Fin 4} {v : UInt64} (hd : decode bytes pc = .ok (.dload_n j, 1)) (hl : L[j.val]? = some (.val (.double v))) (hp : pc + 1 = pc') (H : WP κ h k n (mkF κ.m pc' L (.double v :: S))) : WP κ h k n (mkF κ.m pc L (S)) := by
  obtain ⟨hx, hby, -⟩ := K
  subst hp
  exact WP.go (fun T locs vm0 X e hZ ho t k => XT.dloadN X.here hx rfl (hb hby hd) hl k) H
theorem WP.dload (K : Cx κ w l Z own n0 rm bytes maxL ret nm Q) {j : Nat} {v : UInt64} (hd : decode bytes pc = .ok (.dload j, 2)) (hl : L[j]? = some (.val (.double v))) (hp : pc + 2 = pc') (H : WP κ h k n (mkF κ.m pc' L (.double v :: S))) : WP κ h k n (mkF κ.m pc L (S)) := by
  obtain ⟨hx, hby, -⟩ := K
  subst hp
  exact WP.go (fun T locs vm0 X e hZ ho t k => XT.dload X.here hx rfl (hb hby hd) hl k) H
theorem WP.dup (K : Cx κ w l Z own n0 rm bytes maxL ret nm Q) {x : Value} (hd : decode bytes pc = .ok (.dup, 1)) (hc : x.category = 1) (hp : pc + 1 = pc') (H : WP κ h k n (mkF κ.m pc' L (x :: x :: S))) : WP κ h k n (mkF κ.m pc L (x :: S)) := by
  obtain ⟨hx, hby, -⟩ := K
  subst hp
  exact WP.go (fun T locs vm0 X e hZ ho t k => XS.dup X.here hx rfl (hb hby hd) rfl hc k) H
theorem WP.pop (K : Cx κ w l Z own n0 rm bytes maxL ret nm Q) {x : Value} (hd : decode bytes pc = .ok (.pop, 1)) (hc : x.category = 1) (hp : pc + 1 = pc') (H : WP κ h k n (mkF κ.m pc' L (S))) : WP κ h k n (mkF κ.m pc L (x :: S)) := by
  obtain ⟨hx, hby, -⟩ := K
  subst hp
  exact WP.go (fun T locs vm0 X e hZ ho t k => XT.pop X.here hx rfl (hb hby hd) rfl hc k) H
theorem WP.dup_x1 (K : Cx κ w l Z own n0 rm bytes maxL ret nm Q) {x y : Value} (hd : decode bytes pc = .ok (.dup_x1, 1)) (hc : x.category = 1) (hc' : y.category = 1) (hp : pc + 1 = pc') (H : WP κ h k n (mkF κ.m pc' L (x :: y :: x :: S))) : WP κ h k n (mkF κ.m pc L (x :: y :: S)) := by
  obtain ⟨hx, hby, -⟩ := K
  subst hp
  exact WP.go (fun T locs vm0 X e hZ ho t k => XT.dupX1 X.here hx rfl (hb hby hd) rfl hc hc' k) H
theorem WP.dup2 (K : Cx κ w l Z own n0 rm bytes maxL ret nm Q) {x y : Value} (hd : decode bytes pc = .ok (.dup2, 1)) (hc : x.category = 1) (hc' : y.category = 1) (hp : pc + 1 = pc') (H : WP κ h k n (mkF κ.m pc' L (x :: y :: x :: y :: S))) : WP κ h k n (mkF κ.m pc L (x :: y :: S)) := by
  obtain ⟨hx, hby, -⟩ := K
  subst hp
  exact WP.go (fun T locs vm0 X e hZ ho t k => XT.dup2 X.here hx rfl (hb hby hd) rfl hc hc' k) H
theorem WP.dup2L (K : Cx κ w l Z own n0 rm bytes maxL ret nm Q) {x : Int64} (hd : decode bytes pc = .ok (.dup2, 1))  (hp : pc + 1 = pc') (H : WP κ h k n (mkF κ.m pc' L (.long x :: .long x :: S))) : WP κ h k n (mkF κ.m pc L (.long x :: S)) := by
  obtain ⟨hx, hby, -⟩ := K
  subst hp
  exact WP.go (fun T locs vm0 X e hZ ho t k => XT.dup2L X.here hx rfl (hb hby hd) rfl k) H
theorem WP.i2d (K : Cx κ w l Z own n0 rm bytes maxL ret nm Q) {x : Int32} (hd : decode bytes pc = .ok (.i2d, 1))  (hp : pc + 1 = pc') (H : WP κ h k n (mkF κ.m pc' L (.double (FP.i2d x) :: S))) : WP κ h k n (mkF κ.m pc L (.int x :: S)) := by
  obtain ⟨hx, hby, -⟩ := K
  subst hp
  exact WP.go (fun T locs vm0 X e hZ ho t k => Jvm.Free.XS.i2dS X.here hx rfl (hb hby hd) rfl rfl k) H
theorem WP.l2d (K : Cx κ w l Z own n0 rm bytes maxL ret nm Q) {x : Int64} (hd : decode bytes pc = .ok (.l2d, 1))  (hp : pc + 1 = pc') (H : WP κ h k n (mkF κ.m pc' L (.double (FP.l2d x) :: S))) : WP κ h k n (mkF κ.m pc L (.long x :: S)) := by
  obtain ⟨hx, hby, -⟩ := K
  subst hp
  exact WP.go (fun T locs vm0 X e hZ ho t k => Jvm.Free.XS.l2dS X.here hx rfl (hb hby hd) rfl rfl k) H
theorem WP.dcmp (K : Cx κ w l Z own n0 rm bytes maxL ret nm Q) {o : CmpOp} {x y : UInt64} (hd : decode bytes pc = .ok (.dcmp o, 1))  (hp : pc + 1 = pc') (H : WP κ h k n (mkF κ.m pc' L (.int (cmpValue (FP.dcmp x y) o) :: S))) : WP κ h k n (mkF κ.m pc L (.double y :: .double x :: S)) := by
  obtain ⟨hx, hby, -⟩ := K
  subst hp
  exact WP.go (fun T locs vm0 X e hZ ho t k => Jvm.Free.XS.dcmpS X.here hx rfl (hb hby hd) rfl rfl k) H
theorem WP.istoreN (K : Cx κ w l Z own n0 rm bytes maxL ret nm Q) {j : Fin 4} {x : Int32} (hd : decode bytes pc = .ok (.istore_n j, 1))  (hl : storeLocals L j.val (.int x) = some L') (hp : pc + 1 = pc') (H : WP κ h k n (mkF κ.m pc' L' S)) : WP κ h k n (mkF κ.m pc L ((.int x) :: S)) := by
  obtain ⟨hx, hby, -⟩ := K
  subst hp
  exact WP.go (fun T locs vm0 X e hZ ho t k => XS.istoreN X.here hx rfl (hb hby hd) rfl hl k) H
theorem WP.istore (K : Cx κ w l Z own n0 rm bytes maxL ret nm Q) {j : Nat} {x : Int32} (hd : decode bytes pc = .ok (.istore j, 2))  (hl : storeLocals L j (.int x) = some L') (hp : pc + 2 = pc') (H : WP κ h k n (mkF κ.m pc' L' S)) : WP κ h k n (mkF κ.m pc L ((.int x) :: S)) := by
  obtain ⟨hx, hby, -⟩ := K
  subst hp
  exact WP.go (fun T locs vm0 X e hZ ho t k => XS.istore X.here hx rfl (hb hby hd) rfl hl k) H
theorem WP.lstoreN (K : Cx κ w l Z own n0 rm bytes maxL ret nm Q) {j : Fin 4} {x : Int64} (hd : decode bytes pc = .ok (.lstore_n j, 1))  (hl : storeLocals L j.val (.long x) = some L') (hp : pc + 1 = pc') (H : WP κ h k n (mkF κ.m pc' L' S)) : WP κ h k n (mkF κ.m pc L ((.long x) :: S)) := by
  obtain ⟨hx, hby, -⟩ := K
  subst hp
  exact WP.go (fun T locs vm0 X e hZ ho t k => XT.lstoreN X.here hx rfl (hb hby hd) rfl hl k) H
theorem WP.lstore (K : Cx κ w l Z own n0 rm bytes maxL ret nm Q) {j : Nat} {x : Int64} (hd : decode bytes pc = .ok (.lstore j, 2))  (hl : storeLocals L j (.long x) = some L') (hp : pc + 2 = pc') (H : WP κ h k n (mkF κ.m pc' L' S)) : WP κ h k n (mkF κ.m pc L ((.long x) :: S)) := by
  obtain ⟨hx, hby, -⟩ := K
  subst hp
  exact WP.go (fun T locs vm0 X e hZ ho t k => XT.lstore X.here hx rfl (hb hby hd) rfl hl k) H
theorem WP.astoreN (K : Cx κ w l Z own n0 rm bytes maxL ret nm Q) {j : Fin 4} {x : Value} (hd : decode bytes pc = .ok (.astore_n j, 1)) (hv : x.isRef = true) (hl : storeLocals L j.val x = some L') (hp : pc + 1 = pc') (H : WP κ h k n (mkF κ.m pc' L' S)) : WP κ h k n (mkF κ.m pc L (x :: S)) := by
  obtain ⟨hx, hby, -⟩ := K
  subst hp
  exact WP.go (fun T locs vm0 X e hZ ho t k => XS.astoreN X.here hx rfl (hb hby hd) rfl hv hl k) H
theorem WP.astore (K : Cx κ w l Z own n0 rm bytes maxL ret nm Q) {j : Nat} {x : Value} (hd : decode bytes pc = .ok (.astore j, 2)) (hv : x.isRef = true) (hl : storeLocals L j x = some L') (hp : pc + 2 = pc') (H : WP κ h k n (mkF κ.m pc' L' S)) : WP κ h k n (mkF κ.m pc L (x :: S)) := by
  obtain ⟨hx, hby, -⟩ := K
  subst hp
  exact WP.go (fun T locs vm0 X e hZ ho t k => XS.astore X.here hx rfl (hb hby hd) rfl hv hl k) H
theorem WP.dstoreN (K : Cx κ w l Z own n0 rm bytes maxL ret nm Q) {j : Fin 4} {x : UInt64} (hd : decode bytes pc = .ok (.dstore_n j, 1))  (hl : storeLocals L j.val (.double x) = some L') (hp : pc + 1 = pc') (H : WP κ h k n (mkF κ.m pc' L' S)) : WP κ h k n (mkF κ.m pc L ((.double x) :: S)) := by
  obtain ⟨hx, hby, -⟩ := K
  subst hp
  exact WP.go (fun T locs vm0 X e hZ ho t k => Jvm.Free.XS.dstoreN X.here hx rfl (hb hby hd) rfl hl k) H
theorem WP.dstore (K : Cx κ w l Z own n0 rm bytes maxL ret nm Q) {j : Nat} {x : UInt64} (hd : decode bytes pc = .ok (.dstore j, 2))  (hl : storeLocals L j (.double x) = some L') (hp : pc + 2 = pc') (H : WP κ h k n (mkF κ.m pc' L' S)) : WP κ h k n (mkF κ.m pc L ((.double x) :: S)) := by
  obtain ⟨hx, hby, -⟩ := K
  subst hp
  exact WP.go (fun T locs vm0 X e hZ ho t k => Jvm.Free.XS.dstore X.here hx rfl (hb hby hd) rfl hl k) H
theorem WP.iinc (K : Cx κ w l Z own n0 rm bytes maxL ret nm Q) {j : Nat} {cst : Int} {x v : Int32} (hd : decode bytes pc = .ok (.iinc j cst, 3)) (hv : Int32.ofInt cst = v) (hl : L[j]? = some (.val (.int x))) (hl' : storeLocals L j (.int (x + v)) = some L') (hp : pc + 3 = pc') (H : WP κ h k n (mkF κ.m pc' L' S)) : WP κ h k n (mkF κ.m pc L S) := by
  obtain ⟨hx, hby, -⟩ := K
  subst hp
  exact WP.go (fun T locs vm0 X e hZ ho t k => XT.iincV X.here hx rfl v (hb hby hd) hv hl hl' k) H
theorem WP.goto (K : Cx κ w l Z own n0 rm bytes maxL ret nm Q) {o : Int} (hd : decode bytes pc = .ok (.goto o, 3)) (ho : 0 ≤ (pc : Int) + o) (hp : ((pc : Int) + o).toNat = pc') (H : WP κ h k n (mkF κ.m pc' L S)) : WP κ h k n (mkF κ.m pc L S) := by
  obtain ⟨hx, hby, -⟩ := K
  exact WP.go (fun T locs vm0 X e hZ ho' t k => XS.goto X.here hx rfl rfl (hb hby hd) ho hp k) H
theorem WP.if0T (K : Cx κ w l Z own n0 rm bytes maxL ret nm Q) {cd : ClassFile.Cond} {x : Int32} {o : Int} (hd : decode bytes pc = .ok (.ifCond cd o, 3)) (hc : ifCond.holds cd x = true) (ho : 0 ≤ (pc : Int) + o) (hp : ((pc : Int) + o).toNat = pc') (H : WP κ h k n (mkF κ.m pc' L S)) : WP κ h k n (mkF κ.m pc L (.int x :: S)) := by
  obtain ⟨hx, hby, -⟩ := K
  exact WP.go (fun T locs vm0 X e hZ ho' t k => XS.ifYes X.here hx rfl rfl (hb hby hd) rfl hc ho hp k) H
theorem WP.if0F (K : Cx κ w l Z own n0 rm bytes maxL ret nm Q) {cd : ClassFile.Cond} {x : Int32} {o : Int} (hd : decode bytes pc = .ok (.ifCond cd o, 3)) (hc : ifCond.holds cd x = false) (hp : pc + 3 = pc') (H : WP κ h k n (mkF κ.m pc' L S)) : WP κ h k n (mkF κ.m pc L (.int x :: S)) := by
  obtain ⟨hx, hby, -⟩ := K
  subst hp
  exact WP.go (fun T locs vm0 X e hZ ho' t k => XS.ifNo X.here hx rfl (hb hby hd) rfl hc k) H
theorem WP.icmpT (K : Cx κ w l Z own n0 rm bytes maxL ret nm Q) {cd : ClassFile.Cond} {x y : Int32} {o : Int} (hd : decode bytes pc = .ok (.if_icmp cd o, 3)) (hc : if_icmp.holds cd x y = true) (ho : 0 ≤ (pc : Int) + o) (hp : ((pc : Int) + o).toNat = pc') (H : WP κ h k n (mkF κ.m pc' L S)) : WP κ h k n (mkF κ.m pc L (.int y :: .int x :: S)) := by
  obtain ⟨hx, hby, -⟩ := K
  exact WP.go (fun T locs vm0 X e hZ ho' t k => XS.icmpYes X.here hx rfl rfl (hb hby hd) rfl hc ho hp k) H
theorem WP.icmpF (K : Cx κ w l Z own n0 rm bytes maxL ret nm Q) {cd : ClassFile.Cond} {x y : Int32} {o : Int} (hd : decode bytes pc = .ok (.if_icmp cd o, 3)) (hc : if_icmp.holds cd x y = false) (hp : pc + 3 = pc') (H : WP κ h k n (mkF κ.m pc' L S)) : WP κ h k n (mkF κ.m pc L (.int y :: .int x :: S)) := by
  obtain ⟨hx, hby, -⟩ := K
  subst hp
  exact WP.go (fun T locs vm0 X e hZ ho' t k => XS.icmpNo X.here hx rfl (hb hby hd) rfl hc k) H
theorem WP.acmpT (K : Cx κ w l Z own n0 rm bytes maxL ret nm Q) {cd : ClassFile.ACond} {x y : Value} {o : Int} (hd : decode bytes pc = .ok (.if_acmp cd o, 3)) (h1 : x.isRef = true) (h2 : y.isRef = true) (hc : XT.acmp cd x y = true) (ho : 0 ≤ (pc : Int) + o) (hp : ((pc : Int) + o).toNat = pc') (H : WP κ h k n (mkF κ.m pc' L S)) : WP κ h k n (mkF κ.m pc L (y :: x :: S)) := by
  obtain ⟨hx, hby, -⟩ := K
  exact WP.go (fun T locs vm0 X e hZ ho' t k => XT.acmpYes X.here hx rfl rfl (hb hby hd) rfl h1 h2 hc ho hp k) H
theorem WP.acmpF (K : Cx κ w l Z own n0 rm bytes maxL ret nm Q) {cd : ClassFile.ACond} {x y : Value} {o : Int} (hd : decode bytes pc = .ok (.if_acmp cd o, 3)) (h1 : x.isRef = true) (h2 : y.isRef = true) (hc : XT.acmp cd x y = false) (hp : pc + 3 = pc') (H : WP κ h k n (mkF κ.m pc' L S)) : WP κ h k n (mkF κ.m pc L (y :: x :: S)) := by
  obtain ⟨hx, hby, -⟩ := K
  subst hp
  exact WP.go (fun T locs vm0 X e hZ ho' t k => XT.acmpNo X.here hx rfl (hb hby hd) rfl h1 h2 hc k) H
theorem WP.ifnullT (K : Cx κ w l Z own n0 rm bytes maxL ret nm Q) {o : Int} {b : Addr} (hd : decode bytes pc = .ok (.ifnull o, 3)) (ho : 0 ≤ (pc : Int) + o) (hp : ((pc : Int) + o).toNat = pc') (H : WP κ h k n (mkF κ.m pc' L S)) : WP κ h k n (mkF κ.m pc L (.null :: S)) := by
  obtain ⟨hx, hby, -⟩ := K
  exact WP.go (fun T locs vm0 X e hZ ho' t k => XS.ifnullYes X.here hx rfl rfl (hb hby hd) rfl ho hp k) H
theorem WP.ifnullF (K : Cx κ w l Z own n0 rm bytes maxL ret nm Q) {o : Int} {b : Addr} (hd : decode bytes pc = .ok (.ifnull o, 3)) (hp : pc + 3 = pc') (H : WP κ h k n (mkF κ.m pc' L S)) : WP κ h k n (mkF κ.m pc L (.ref b :: S)) := by
  obtain ⟨hx, hby, -⟩ := K
  subst hp
  exact WP.go (fun T locs vm0 X e hZ ho' t k => XS.ifnullNo X.here hx rfl (hb hby hd) rfl k) H
theorem WP.ifnonnullT (K : Cx κ w l Z own n0 rm bytes maxL ret nm Q) {o : Int} {b : Addr} (hd : decode bytes pc = .ok (.ifnonnull o, 3)) (ho : 0 ≤ (pc : Int) + o) (hp : ((pc : Int) + o).toNat = pc') (H : WP κ h k n (mkF κ.m pc' L S)) : WP κ h k n (mkF κ.m pc L (.ref b :: S)) := by
  obtain ⟨hx, hby, -⟩ := K
  exact WP.go (fun T locs vm0 X e hZ ho' t k => XT.ifnonnullYes X.here hx rfl rfl (hb hby hd) rfl ho hp k) H
theorem WP.ifnonnullF (K : Cx κ w l Z own n0 rm bytes maxL ret nm Q) {o : Int} {b : Addr} (hd : decode bytes pc = .ok (.ifnonnull o, 3)) (hp : pc + 3 = pc') (H : WP κ h k n (mkF κ.m pc' L S)) : WP κ h k n (mkF κ.m pc L (.null :: S)) := by
  obtain ⟨hx, hby, -⟩ := K
  subst hp
  exact WP.go (fun T locs vm0 X e hZ ho' t k => XT.ifnonnullNo X.here hx rfl (hb hby hd) rfl k) H
theorem WP.ldcI (K : Cx κ w l Z own n0 rm bytes maxL ret nm Q) {i : Nat} {v : Int32} (wc : (Cond.constant own i v).before a0 Z = true) (hd : decode bytes pc = .ok (.ldc i, 2)) (hp : pc + 2 = pc') (H : WP κ h k n (mkF κ.m pc' L (.int v :: S))) : WP κ h k n (mkF κ.m pc L S) := by
  obtain ⟨hx, hby, -, -, -, -, -, -, rfl, rfl, -⟩ := K
  subst hp
  exact WP.go (fun T locs vm0 X e hZ ho t k => X.ldcInt hx (own := κ.own) ho (mvT (args := κ.a) (s := κ.s.setVm vm0) hZ wc) (g := mkF κ.m pc L S) rfl (hb hby hd) t k) H
theorem WP.ldcwI (K : Cx κ w l Z own n0 rm bytes maxL ret nm Q) {i : Nat} {v : Int32} (wc : (Cond.constant own i v).before a0 Z = true) (hd : decode bytes pc = .ok (.ldc_w i, 3)) (hp : pc + 3 = pc') (H : WP κ h k n (mkF κ.m pc' L (.int v :: S))) : WP κ h k n (mkF κ.m pc L S) := by
  obtain ⟨hx, hby, -, -, -, -, -, -, rfl, rfl, -⟩ := K
  subst hp
  exact WP.go (fun T locs vm0 X e hZ ho t k => X.ldcwInt hx (own := κ.own) ho (mvT (args := κ.a) (s := κ.s.setVm vm0) hZ wc) (g := mkF κ.m pc L S) rfl (hb hby hd) t k) H
theorem WP.ldc2J (K : Cx κ w l Z own n0 rm bytes maxL ret nm Q) {i : Nat} {v : Int64} (wc : (Cond.constantLong own i v).before a0 Z = true) (hd : decode bytes pc = .ok (.ldc2_w i, 3)) (hp : pc + 3 = pc') (H : WP κ h k n (mkF κ.m pc' L (.long v :: S))) : WP κ h k n (mkF κ.m pc L S) := by
  obtain ⟨hx, hby, -, -, -, -, -, -, rfl, rfl, -⟩ := K
  subst hp
  exact WP.go (fun T locs vm0 X e hZ ho t k => X.ldc2Long hx (own := κ.own) ho (mvT (args := κ.a) (s := κ.s.setVm vm0) hZ wc) (g := mkF κ.m pc L S) rfl (hb hby hd) t k) H
theorem Ends.of {T : State} {locs : List Loc} {vm0 : Vm} {v : Option Value} {g : JFrame} (X : Stand κ.p κ.l κ.e κ.R (κ.s.setVm vm0) κ.m κ.a κ.below κ.meth κ.c T locs k n) (M : Md κ.w κ.s vm0 T.heap.size) (N : Fr κ.n0 locs) (hv : κ.meth.sig.returnType = none → v = none) (hlk : κ.meth.locks = false) (hk : k ≤ κ.R.cells) (hn : n ≤ κ.R.slots) (hq : κ.Q v T.heap)
    (st : ∀ fs, (∀ (f : JFrame) (acts : List Action), f.method = κ.m → f.locked = none → f.entered = [] → (doReturn κ.e (T.setTop f) acts v).1 = T.setFrames fs) → Steps κ.p.tables κ.e κ.below (T.setTop g) (T.setFrames fs)) : Ends κ T g := by
  obtain ⟨k0, hS, hk0⟩ := M.2
  by_cases hw : κ.w = true
  · obtain ⟨fs, h1, h2, h3, h4⟩ := (X.mono hk hn).leaveW hS hk0 hv hlk
    exact ⟨_, _, st fs h1, h2, h3, v, locs, rfl, ⟨hq, N⟩, by rw [hw]; exact h4⟩
  · have hw' : κ.w = false := by simpa using hw
    have e := M.1 hw'
    subst e
    obtain ⟨fs, h1, h2, h3, h4, h5⟩ := (X.mono hk hn).leave hv hlk
    exact ⟨_, _, st fs h1, h2, h3, v, locs, rfl, ⟨hq, N⟩, by rw [hw']; exact ⟨⟨v, rfl⟩, h4, h5⟩⟩
theorem WP.ret0 (K : Cx κ w l Z own n0 rm bytes maxL none nm Q) (hd : decode bytes pc = .ok (.return_, 1)) (hk : k ≤ rm.cells) (hn : n ≤ rm.slots) (hq : Q none h) : WP κ h k n (mkF κ.m pc L ([])) := by
  obtain ⟨hx, hby, -, hr, hlk, -, -, -, rfl, rfl, rfl, rfl, rfl⟩ := K
  intro T locs vm0 X e M hZ ho N
  subst e
  exact Ends.of X M N (fun _ => rfl) hlk hk hn hq fun fs hl => X.returnOut hx hr (hb hby hd) hl
theorem WP.retI (K : Cx κ w l Z own n0 rm bytes maxL (some .int) nm Q) {z : Int32} (hd : decode bytes pc = .ok (.ireturn, 1)) (hk : k ≤ rm.cells) (hn : n ≤ rm.slots) (hq : Q (some (.int z)) h) : WP κ h k n (mkF κ.m pc L (.int z :: S)) := by
  obtain ⟨hx, hby, -, hr, hlk, -, -, -, rfl, rfl, rfl, rfl, rfl⟩ := K
  intro T locs vm0 X e M hZ ho N
  subst e
  exact Ends.of X M N (fun q => by rw [hr] at q; cases q) hlk hk hn hq fun fs hl => retOut X hx hr rfl (Or.inl ⟨rfl, Or.inl rfl, z, rfl⟩) (hb hby hd) hl
theorem WP.retJ (K : Cx κ w l Z own n0 rm bytes maxL (some .long) nm Q) {z : Int64} (hd : decode bytes pc = .ok (.lreturn, 1)) (hk : k ≤ rm.cells) (hn : n ≤ rm.slots) (hq : Q (some (.long z)) h) : WP κ h k n (mkF κ.m pc L (.long z :: S)) := by
  obtain ⟨hx, hby, -, hr, hlk, -, -, -, rfl, rfl, rfl, rfl, rfl⟩ := K
  intro T locs vm0 X e M hZ ho N
  subst e
  exact Ends.of X M N (fun q => by rw [hr] at q; cases q) hlk hk hn hq fun fs hl => retOut X hx hr rfl (Or.inr (Or.inl ⟨rfl, rfl, z, rfl⟩)) (hb hby hd) hl
theorem WP.retD (K : Cx κ w l Z own n0 rm bytes maxL (some .double) nm Q) {z : UInt64} (hd : decode bytes pc = .ok (.dreturn, 1)) (hk : k ≤ rm.cells) (hn : n ≤ rm.slots) (hq : Q (some (.double z)) h) : WP κ h k n (mkF κ.m pc L (.double z :: S)) := by
  obtain ⟨hx, hby, -, hr, hlk, -, -, -, rfl, rfl, rfl, rfl, rfl⟩ := K
  intro T locs vm0 X e M hZ ho N
  subst e
  exact Ends.of X M N (fun q => by rw [hr] at q; cases q) hlk hk hn hq fun fs hl => retOut X hx hr rfl (Or.inr (Or.inr (Or.inl ⟨rfl, rfl, z, rfl⟩))) (hb hby hd) hl
theorem WP.retR {ty : FieldType} (K : Cx κ w l Z own n0 rm bytes maxL (some ty) nm Q) {v : Value} (ht : ty.isReference = true) (hv : v.isRef = true) (hd : decode bytes pc = .ok (.areturn, 1)) (hk : k ≤ rm.cells) (hn : n ≤ rm.slots) (hq : Q (some v) h) : WP κ h k n (mkF κ.m pc L (v :: S)) := by
  obtain ⟨hx, hby, -, hr, hlk, -, -, -, rfl, rfl, rfl, rfl, rfl⟩ := K
  intro T locs vm0 X e M hZ ho N
  subst e
  exact Ends.of X M N (fun q => by rw [hr] at q; cases q) hlk hk hn hq fun fs hl => retOut X hx hr (by cases ty <;> first | rfl | (cases ht) | (rcases ref_cases hv with rfl | ⟨_, rfl⟩ <;> rfl)) (Or.inr (Or.inr (Or.inr (Or.inr ⟨rfl, ht, hv⟩)))) (hb hby hd) hl
theorem WP.retN {ty : FieldType} (K : Cx κ w l Z own n0 rm bytes maxL (some ty) nm Q) {z : Int32} (ht : ty = .boolean ∨ ty = .byte ∨ ty = .char ∨ ty = .short) (hd : decode bytes pc = .ok (.ireturn, 1)) (hk : k ≤ rm.cells) (hn : n ≤ rm.slots) (hq : Q (some (.int (nar ty z))) h) : WP κ h k n (mkF κ.m pc L (.int z :: S)) := by
  obtain ⟨hx, hby, -, hr, hlk, -, -, -, rfl, rfl, rfl, rfl, rfl⟩ := K
  intro T locs vm0 X e M hZ ho N
  subst e
  exact Ends.of X M N (fun q => by rw [hr] at q; cases q) hlk hk hn hq fun fs hl => RoadKit.retN X hx hr ht (hb hby hd) hl
theorem WP.getF (K : Cx κ w l Z own n0 rm bytes maxL ret nm Q) {i : Nat} {R0 O f d : String} {a : Addr} {v : Value} (wl : (Cond.fieldLink own i R0 f d).before a0 Z = true) (via : Via Z R0 O f d) (F : Fld Z h a O f d v) (hd : decode bytes pc = .ok (.getfield i, 3)) (hp : pc + 3 = pc') (H : WP κ h k n (mkF κ.m pc' L (v :: S))) : WP κ h k n (mkF κ.m pc L (.ref a :: S)) := by
  obtain ⟨hx, hby, -, -, -, hnm, -, -, rfl, rfl, rfl, rfl, -⟩ := K
  subst hp
  intro T locs vm0 X e M hZ ho N
  obtain ⟨T', X', e', st⟩ := RoadKit.getF X hx (s := κ.s.setVm vm0) hZ ho (host := "") (Or.inl wl) via e F (g := mkF κ.m pc L (.ref a :: S)) rfl rfl (hb hby hd)
  obtain ⟨t, o, h1, r⟩ := H T' locs vm0 X' e' M hZ ho N
  exact ⟨t, o, st _ h1, r⟩
theorem WP.getS (K : Cx κ w l Z own n0 rm bytes maxL ret nm Q) {i : Nat} {R0 O f d : String} {v : Value} (wl : (Cond.fieldLink own i R0 f d).before a0 Z = true) (via : Via Z R0 O f d) (F : Sta Z h O f d v) (hd : decode bytes pc = .ok (.getstatic i, 3)) (hp : pc + 3 = pc') (H : WP κ h k n (mkF κ.m pc' L (v :: S))) : WP κ h k n (mkF κ.m pc L S) := by
  obtain ⟨hx, hby, -, -, -, hnm, -, -, rfl, rfl, rfl, rfl, -⟩ := K
  subst hp
  intro T locs vm0 X e M hZ ho N
  obtain ⟨T', X', e', st⟩ := RoadKit.getS (host := "") X hx (s := κ.s.setVm vm0) hZ ho wl via e F (g := mkF κ.m pc L S) rfl (hb hby hd)
  obtain ⟨t, o, h1, r⟩ := H T' locs vm0 X' e' M hZ ho N
  exact ⟨t, o, st _ h1, r⟩
theorem WP.putF (K : Cx κ w l Z own n0 rm bytes maxL ret nm Q) {i kk : Nat} {R0 O f d C : String} {ty : FieldType} {a : Addr} {v old : Value} (wl : (Cond.fieldLink own i R0 f d).before a0 Z = true) (via : Via Z R0 O f d) (F : Fld Z h a O f d old) (E : Exa Z h a C) (la : (Cond.lays C O f d).before a0 Z = true ∨ ((Cond.laysFinal C O f d).before a0 Z = true ∧ own = O ∧ nm = "<init>")) (wi : (Cond.instantiable C kk).before a0 Z = true)
    (hty : parseFieldDescriptor d = some ty) (hn1 : narrow ty v = v) (hf : fits ty v = true) (ha : n0 ≤ a) (hd : decode bytes pc = .ok (.putfield i, 3)) (hp : pc + 3 = pc') (H : ∀ h', Wr h h' a (Jvm.RoadKit.slotOf Z O f d) v → WP κ h' k n (mkF κ.m pc' L S)) : WP κ h k n (mkF κ.m pc L (v :: .ref a :: S)) := by
  obtain ⟨hx, hby, -, -, -, hnm, -, -, rfl, rfl, rfl, rfl, -⟩ := K
  subst hp
  intro T locs vm0 X e M hZ ho N
  obtain ⟨T', h', X', e', W, st⟩ := RoadKit.putF X hx (s := κ.s.setVm vm0) hZ ho (host := "") (Or.inl wl) via e F E (la.imp id fun q => ⟨q.1, q.2.1, hnm.trans q.2.2⟩) wi hty hn1 hf (g := mkF κ.m pc L (v :: .ref a :: S)) rfl rfl (hb hby hd)
  obtain ⟨t, o, h1, r⟩ := H h' W T' _ vm0 X' e' (M.mono (Nat.le_of_eq W.size.symm)) hZ ho (Fr.snoc X' N ha)
  exact ⟨t, o, st _ h1, r⟩
theorem WP.putFN (K : Cx κ w l Z own n0 rm bytes maxL ret nm Q) {i kk : Nat} {R0 O f d C : String} {ty : FieldType} {a : Addr} {v v' old : Value} (wl : (Cond.fieldLink own i R0 f d).before a0 Z = true) (via : Via Z R0 O f d) (F : Fld Z h a O f d old) (E : Exa Z h a C) (la : (Cond.lays C O f d).before a0 Z = true ∨ ((Cond.laysFinal C O f d).before a0 Z = true ∧ own = O ∧ nm = "<init>")) (wi : (Cond.instantiable C kk).before a0 Z = true)
    (hty : parseFieldDescriptor d = some ty) (hn1 : narrow ty v = v') (hf : fits ty v' = true) (ha : n0 ≤ a) (hd : decode bytes pc = .ok (.putfield i, 3)) (hp : pc + 3 = pc') (H : ∀ h', Wr h h' a (Jvm.RoadKit.slotOf Z O f d) v' → WP κ h' k n (mkF κ.m pc' L S)) : WP κ h k n (mkF κ.m pc L (v :: .ref a :: S)) := by
  obtain ⟨hx, hby, -, -, -, hnm, -, -, rfl, rfl, rfl, rfl, -⟩ := K
  subst hp
  intro T locs vm0 X e M hZ ho N
  obtain ⟨T', h', X', e', W, st⟩ := RoadKit.putFN X hx (s := κ.s.setVm vm0) hZ ho wl via e F E (la.imp id fun q => ⟨q.1, q.2.1, hnm.trans q.2.2⟩) wi hty hn1 hf (g := mkF κ.m pc L (v :: .ref a :: S)) rfl rfl (hb hby hd)
  obtain ⟨t, o, h1, r⟩ := H h' W T' _ vm0 X' e' (M.mono (Nat.le_of_eq W.size.symm)) hZ ho (Fr.snoc X' N ha)
  exact ⟨t, o, st _ h1, r⟩
theorem WP.new (K : Cx κ w l Z own n0 rm bytes maxL ret nm Q) {i sl : Nat} {C : String} (w1 : (Cond.classLink own i C).before a0 Z = true) (w2 : (Cond.instantiable C sl).before a0 Z = true) (w3 : (Cond.initialized C).before a0 Z = true) (hd : decode bytes pc = .ok (.new i, 3)) (hk : k + 1 = k') (hn : n + sl = n') (hk' : k' ≤ rm.cells) (hn' : n' ≤ rm.slots) (hp : pc + 3 = pc')
    (H : ∀ (h' : Heap) (a : Addr), @Eq Nat h.size a → Ext h h' → Exa Z h' a C → (∀ {O f d : String} {ty : FieldType}, Laid Z a0 C O f d → parseFieldDescriptor d = some ty → Fld Z h' a O f d (defaultValue ty)) → WP κ h' k' n' (mkF κ.m pc' L (.ref a :: S))) : WP κ h k n (mkF κ.m pc L S) := by
  obtain ⟨hx, hby, -, -, -, hnm, -, -, rfl, rfl, rfl, rfl, -⟩ := K
  subst hp hk hn
  intro T locs vm0 X e M hZ ho N
  obtain ⟨T', h', X', e', E, A, D, -, st⟩ := newO X hx (s := κ.s.setVm vm0) hZ ho w1 w2 w3 e (g := mkF κ.m pc L S) rfl (hb hby hd) hk' hn'
  obtain ⟨t, o, h1, r⟩ := H h' _ rfl E A D T' _ vm0 X' e' (M.mono E.1) hZ ho N
  exact ⟨t, o, st _ h1, r⟩
theorem WP.initO (K : Cx κ w l Z own n0 rm bytes maxL ret nm Q) {i W : Nat} {a : Addr} (w1 : (Cond.methodLink own i Lib.objectInit).before a0 Z = true) (w2 : (Cond.instanceMethod Lib.objectInit).before a0 Z = true) (w3 : (Cond.code Lib.objectInit ⟨#[0xb1]⟩ 1 none).before a0 Z = true) (hd : decode bytes pc = .ok (.invokespecial i, 3)) (hL : L.size = maxL) (hf : 1 ≤ rm.frames) (hW : (S.map fun v => v.category).sum = W) (hl : W + 12 ≤ rm.locals) (hp : pc + 3 = pc')
    (H : WP κ h k n (mkF κ.m pc' L S)) : WP κ h k n (mkF κ.m pc L (.ref a :: S)) := by
  obtain ⟨hx, hby, hml, -, -, -, -, -, rfl, rfl, rfl, rfl, -⟩ := K
  subst hp
  intro T locs vm0 X e M hZ ho N
  obtain ⟨T', X', e', st⟩ := RoadKit.initO X hx (s := κ.s.setVm vm0) hZ ho w1 w2 w3 e (g := mkF κ.m pc L (.ref a :: S)) rfl (hL.trans hml.symm) rfl (hb hby hd) hf (W := W) (by show 2 * 0 + _ ≤ _; omega) hl
  obtain ⟨t, o, h1, r⟩ := H T' locs vm0 X' e' M hZ ho N
  exact ⟨t, o, st _ h1, r⟩
/-- an array: its class, its kind of component, its length, its components -/
def Ary (Z : State) (h : Heap) (a : Addr) (kA : ClassId) (ty : FieldType) (N : Nat) (f : Nat → Value) : Prop := ∃ c : Cell, Arr Z h a c ty ∧ c.cls = kA ∧ c.slots.size = N ∧ N < 2 ^ 31 ∧ (∀ i, i < N → c.slots[i]? = some (f i)) ∧ ∀ i, i < N → fits ty (f i) = true
def upd (f : Nat → Value) (i : Nat) (v : Value) : Nat → Value := fun j => if j = i then v else f j
theorem upd_same (f : Nat → Value) (i : Nat) (v : Value) : upd f i v i = v := if_pos rfl
theorem upd_ne (f : Nat → Value) {i j : Nat} (v : Value) (q : j ≠ i) : upd f i v j = f j := if_neg q
def fset {α : Type} (f : Nat → α) (i : Nat) (v : α) : Nat → α := fun j => if j = i then v else f j
theorem fset_same {α : Type} (f : Nat → α) (i : Nat) (v : α) : fset f i v i = v := if_pos rfl
theorem fset_ne {α : Type} (f : Nat → α) {i j : Nat} (v : α) (q : j ≠ i) : fset f i v j = f j := if_neg q
theorem upd_int (F : Nat → Int32) (i : Nat) (v : Int32) : upd (fun j => .int (F j)) i (.int v) = fun j => .int (fset F i v j) := by funext j; unfold upd fset; split <;> rfl
theorem upd_long (F : Nat → Int64) (i : Nat) (v : Int64) : upd (fun j => .long (F j)) i (.long v) = fun j => .long (fset F i v j) := by funext j; unfold upd fset; split <;> rfl
theorem upd_double (F : Nat → UInt64) (i : Nat) (v : UInt64) : upd (fun j => .double (F j)) i (.double v) = fun j => .double (fset F i v j) := by funext j; unfold upd fset; split <;> rfl
section Arrays
variable {a b : Addr} {kA : ClassId} {ty : FieldType} {N : Nat} {f f' : Nat → Value} {sl : Nat} {v : Value} {ws : List Addr}
theorem Ary.lt (A : Ary Z h a kA ty N f) : a < h.size := by obtain ⟨c, q, -⟩ := A; exact q.lt
theorem Ary.len (A : Ary Z h a kA ty N f) : N < 2 ^ 31 := by obtain ⟨c, -, -, -, q, -⟩ := A; exact q
theorem Ary.ext (E : Ext h h') (A : Ary Z h a kA ty N f) : Ary Z h' a kA ty N f := by obtain ⟨c, q, r⟩ := A; exact ⟨c, q.ext E, r⟩
theorem Ary.other (W : Wr h h' b sl v) (A : Ary Z h a kA ty N f) (q : a ≠ b) : Ary Z h' a kA ty N f := by obtain ⟨c, A, r⟩ := A; exact ⟨c, A.other W q, r⟩
theorem Ary.keep (K : Keep h h' ws) (A : Ary Z h a kA ty N f) (q : a ∉ ws) : Ary Z h' a kA ty N f := by obtain ⟨c, A, r⟩ := A; exact ⟨c, ⟨K.2.1 a c A.1 q, A.2⟩, r⟩
theorem Ary.congr (A : Ary Z h a kA ty N f) (q : ∀ i, i < N → f i = f' i) : Ary Z h a kA ty N f' := by obtain ⟨c, A, r1, r2, r3, r4, r5⟩ := A; exact ⟨c, A, r1, r2, r3, fun i hi => by rw [← q i hi]; exact r4 i hi, fun i hi => by rw [← q i hi]; exact r5 i hi⟩
theorem Ary.fits (A : Ary Z h a kA ty N f) {i : Nat} (hi : i < N) : Jvm.fits ty (f i) = true := by obtain ⟨c, -, -, -, -, -, q⟩ := A; exact q i hi
theorem Ary.set (W : Wr h h' a sl v) (A : Ary Z h a kA ty N f) (hv : Jvm.fits ty v = true) : Ary Z h' a kA ty N (upd f sl v) := by
  obtain ⟨c, A, r1, r2, r3, r4, r5⟩ := A
  refine ⟨_, A.same W, r1, by rw [sz_set]; exact r2, r3, fun i hi => ?_, fun i hi => ?_⟩
  · by_cases q : i = sl
    · subst q; rw [upd_same]; simp [Cell.setSlot, r2, hi]
    · rw [upd_ne f v q]; simp only [Cell.setSlot]; rw [Array.getElem?_setIfInBounds_ne (Ne.symm q)]; exact r4 i hi
  · by_cases q : i = sl
    · subst q; rw [upd_same]; exact hv
    · rw [upd_ne f v q]; exact r5 i hi
theorem Ary.ints (A : Ary Z h a kA ty N f) (ht : ty = .int ∨ ty = .boolean ∨ ty = .byte ∨ ty = .char ∨ ty = .short) : ∃ F : Nat → Int32, Ary Z h a kA ty N (fun i => .int (F i)) := by
  refine ⟨fun i => match f i with | .int x => x | _ => 0, A.congr fun i hi => ?_⟩
  obtain ⟨x, e⟩ := fit_I (A.fits hi) ht
  simp only [e]
theorem Ary.doubles (A : Ary Z h a kA .double N f) : ∃ F : Nat → UInt64, Ary Z h a kA .double N (fun i => .double (F i)) := by
  refine ⟨fun i => match f i with | .double x => x | _ => 0, A.congr fun i hi => ?_⟩
  obtain ⟨x, e⟩ := fit_D (A.fits hi)
  simp only [e]
theorem Ary.longs (A : Ary Z h a kA .long N f) : ∃ F : Nat → Int64, Ary Z h a kA .long N (fun i => .long (F i)) := by
  refine ⟨fun i => match f i with | .long x => x | _ => 0, A.congr fun i hi => ?_⟩
  obtain ⟨x, e⟩ := fit_J (A.fits hi)
  simp only [e]
theorem static_ary {s : State} {args : Array Value} {C nm d : String} {z : Int32} (hf : Fit s) (wl : (Cond.laysStatic C nm d).before args s = true) (wi : (Cond.initialized C).before args s = true) (hd : parseFieldDescriptor d = some (.array ty))
    (hA : (Cond.arrayOf (Term.static C nm d) ty).value args s none s [] = some true) (hL : (Cond.eq (Term.length (Term.static C nm d)) (Term.int z)).value args s none s [] = some true) (hz : z.toInt = (N : Int)) :
    ∃ (a : Addr) (kA : ClassId) (f : Nat → Value), Sta s s.heap C nm d (.ref a) ∧ Ary s s.heap a kA ty N f ∧ ∀ (i : Nat) (j v : Int32), j.toInt = (i : Int) → i < N → (Cond.eq (Term.elem (Term.static C nm d) (Term.int j)) (Term.int v)).value args s none s [] = some true → f i = .int v := by
  obtain ⟨v, ev, hv⟩ := static_fit hf wl hd
  have hr := fit_R hv rfl
  rcases ref_cases hr with rfl | ⟨a, rfl⟩
  · exfalso; simp [Cond.value, ev] at hA
  obtain ⟨c, A⟩ := Arr.start ev hA
  have hc := A.fin (Vm.Alike.refl _)
  have hs : c.slots.size < 2 ^ 31 ∧ c.slots.size.toInt32 = z := by
    obtain ⟨x, y, ex, ey⟩ := cmp_v (Or.inl hL)
    obtain ⟨a', c', ea, hc', rfl, q⟩ := Jvm.Free.SB.Term.length_small ex
    cases ev.symm.trans ea
    cases hc.symm.trans hc'
    exact ⟨q, by simpa [Cond.value, ex, Term.int_eval] using hL⟩
  have hN : c.slots.size = N := by have e := len_toInt hs.1; rw [hs.2, hz] at e; omega
  refine ⟨a, c.cls, fun i => c.slots.getD i .null, Sta.start ev (Or.inr ⟨wi, wl⟩), ⟨c, A, rfl, hN, by omega, fun i hi => ?_, fun i hi => ?_⟩, fun i j v hj hi he => ?_⟩
  · simp [Array.getD, hN, hi]
  · have q := hf A.1 (i := i) (by omega)
    obtain ⟨hst, k, hk, comp, hkind⟩ := A.2.1
    have e : s.slotType? c.cls c.vm i = some ty := by
      cases hq : c.vm <;> first | exact absurd hq (hst _) | simp [State.slotType?, hk, hkind]
    have hi' : i < c.slots.size := by omega
    simpa [State.fitsSlot, e, Array.getD, hi'] using q
  · have hi' : i < c.slots.size := by omega
    have hn : j.toNatClampNeg = i := by simp only [Int32.toNatClampNeg, hj]; omega
    obtain ⟨x, y, ex, ey⟩ := cmp_v (Or.inl he)
    obtain ⟨a', j', c', ea, ej, hc', -, hx⟩ := Term.elem_spec ex
    cases ev.symm.trans ea
    cases hc.symm.trans hc'
    cases (Term.int_eval j).symm.trans ej
    rw [hn] at hx
    have q : x = .int v := by
      have r := hf A.1 (i := i) hi'
      simp only [Cond.value, ex, Term.int_eval] at he
      cases x <;> simp at he
      rw [he]
    simp only [Array.getD, hi', dif_pos]
    rw [Array.getElem?_eq_getElem hi'] at hx
    exact (Option.some.inj hx).trans q
theorem Ary.of_new {cA : ClassId} {z : Int32} (A : Arr Z h a (newA cA ty z) ty) (hz : z.toInt = (N : Int)) : Ary Z h a cA ty N (fun _ => defaultValue ty) := by
  have e : z.toNatClampNeg = N := by simp only [Int32.toNatClampNeg]; omega
  have q := z.toInt_lt
  refine ⟨_, A, rfl, by rw [sz_new, e], by omega, fun i hi => ?_, fun i _ => by cases ty <;> rfl⟩
  simp [newA, e, hi]
theorem Ary.ne {a0 : Array Value} {C : String} {m : Nat} (E : Exa Z h b C) (A : Ary Z h a kA ty N f) (w : (Cond.instantiable C m).before a0 Z = true) : b ≠ a := by obtain ⟨c, q, -⟩ := A; exact ne_arr E w q
theorem in_of {c : Cell} {j : Int32} {i N : Nat} (S : c.slots.size = N) (hj : j.toInt = (i : Int)) (hi : i < N) : ¬ (j < 0 ∨ c.slots.size ≤ j.toNatClampNeg) := by
  rw [S, Int32.lt_iff_toInt_lt]; simp only [Int32.toNatClampNeg, hj]; have : (0 : Int32).toInt = 0 := rfl; omega
theorem nat_of {j : Int32} {i : Nat} (hj : j.toInt = (i : Int)) : j.toNatClampNeg = i := by simp only [Int32.toNatClampNeg, hj]; omega
end Arrays
theorem WP.iaload (K : Cx κ w l Z own n0 rm bytes maxL ret nm Q) {a : Addr} {kA : ClassId} {N i : Nat} {f : Nat → Value} {j : Int32} {v : Value} (A : Ary Z h a kA .int N f) (hj : j.toInt = (i : Int)) (hi : i < N) (hv : f i = v) (hd : decode bytes pc = .ok (.iaload, 1)) (hp : pc + 1 = pc') (H : WP κ h k n (mkF κ.m pc' L (v :: S))) : WP κ h k n (mkF κ.m pc L (.int j :: .ref a :: S)) := by
  obtain ⟨hx, hby, -, -, -, -, -, -, rfl, rfl, -⟩ := K
  subst hp hv
  obtain ⟨c, A, -, r2, -, r4, -⟩ := A
  refine WP.go (fun T locs vm0 X e hZ ho t k => ?_) H
  exact X.iaload hx (by rw [e]; exact A.1) (State.isArrayOf_alike (T := κ.s.setVm vm0) hZ.alike A.2.1) A.2.2 (in_of r2 hj hi) (by rw [nat_of hj]; exact r4 i hi) (g := mkF κ.m pc L (.int j :: .ref a :: S)) rfl rfl (hb hby hd) t k
theorem WP.laload (K : Cx κ w l Z own n0 rm bytes maxL ret nm Q) {a : Addr} {kA : ClassId} {N i : Nat} {f : Nat → Value} {j : Int32} {v : Value} (A : Ary Z h a kA .long N f) (hj : j.toInt = (i : Int)) (hi : i < N) (hv : f i = v) (hd : decode bytes pc = .ok (.laload, 1)) (hp : pc + 1 = pc') (H : WP κ h k n (mkF κ.m pc' L (v :: S))) : WP κ h k n (mkF κ.m pc L (.int j :: .ref a :: S)) := by
  obtain ⟨hx, hby, -, -, -, -, -, -, rfl, rfl, -⟩ := K
  subst hp hv
  obtain ⟨c, A, -, r2, -, r4, -⟩ := A
  refine WP.go (fun T locs vm0 X e hZ ho t k => ?_) H
  exact X.laload hx (by rw [e]; exact A.1) (State.isArrayOf_alike (T := κ.s.setVm vm0) hZ.alike A.2.1) A.2.2 (in_of r2 hj hi) (by rw [nat_of hj]; exact r4 i hi) (g := mkF κ.m pc L (.int j :: .ref a :: S)) rfl rfl (hb hby hd) t k
theorem WP.caload (K : Cx κ w l Z own n0 rm bytes maxL ret nm Q) {a : Addr} {kA : ClassId} {N i : Nat} {f : Nat → Value} {j : Int32} {v : Value} (A : Ary Z h a kA .char N f) (hj : j.toInt = (i : Int)) (hi : i < N) (hv : f i = v) (hd : decode bytes pc = .ok (.caload, 1)) (hp : pc + 1 = pc') (H : WP κ h k n (mkF κ.m pc' L (v :: S))) : WP κ h k n (mkF κ.m pc L (.int j :: .ref a :: S)) := by
  obtain ⟨hx, hby, -, -, -, -, -, -, rfl, rfl, -⟩ := K
  subst hp hv
  obtain ⟨c, A, -, r2, -, r4, -⟩ := A
  refine WP.go (fun T locs vm0 X e hZ ho t k => ?_) H
  exact X.caload hx (by rw [e]; exact A.1) (State.isArrayOf_alike (T := κ.s.setVm vm0) hZ.alike A.2.1) A.2.2 (in_of r2 hj hi) (by rw [nat_of hj]; exact r4 i hi) (g := mkF κ.m pc L (.int j :: .ref a :: S)) rfl rfl (hb hby hd) t k
theorem WP.baload (K : Cx κ w l Z own n0 rm bytes maxL ret nm Q) {a : Addr} {kA : ClassId} {N i : Nat} {f : Nat → Value} {j : Int32} {v : Value} (A : Ary Z h a kA .byte N f) (hj : j.toInt = (i : Int)) (hi : i < N) (hv : f i = v) (hd : decode bytes pc = .ok (.baload, 1)) (hp : pc + 1 = pc') (H : WP κ h k n (mkF κ.m pc' L (v :: S))) : WP κ h k n (mkF κ.m pc L (.int j :: .ref a :: S)) := by
  obtain ⟨hx, hby, -, -, -, -, -, -, rfl, rfl, -⟩ := K
  subst hp hv
  obtain ⟨c, A, -, r2, -, r4, -⟩ := A
  refine WP.go (fun T locs vm0 X e hZ ho t k => ?_) H
  exact X.baloadBytes hx (by rw [e]; exact A.1) (State.isArrayOf_alike (T := κ.s.setVm vm0) hZ.alike A.2.1) A.2.2 (in_of r2 hj hi) (by rw [nat_of hj]; exact r4 i hi) (g := mkF κ.m pc L (.int j :: .ref a :: S)) rfl rfl (hb hby hd) t k
theorem WP.baloadZ (K : Cx κ w l Z own n0 rm bytes maxL ret nm Q) {a : Addr} {kA : ClassId} {N i : Nat} {f : Nat → Value} {j : Int32} {v : Value} (A : Ary Z h a kA .boolean N f) (hj : j.toInt = (i : Int)) (hi : i < N) (hv : f i = v) (hd : decode bytes pc = .ok (.baload, 1)) (hp : pc + 1 = pc') (H : WP κ h k n (mkF κ.m pc' L (v :: S))) : WP κ h k n (mkF κ.m pc L (.int j :: .ref a :: S)) := by
  obtain ⟨hx, hby, -, -, -, -, -, -, rfl, rfl, -⟩ := K
  subst hp hv
  obtain ⟨c, A, -, r2, -, r4, -⟩ := A
  refine WP.go (fun T locs vm0 X e hZ ho t k => ?_) H
  exact X.baloadBooleans hx (by rw [e]; exact A.1) (State.isArrayOf_alike (T := κ.s.setVm vm0) hZ.alike A.2.1) A.2.2 (in_of r2 hj hi) (by rw [nat_of hj]; exact r4 i hi) (g := mkF κ.m pc L (.int j :: .ref a :: S)) rfl rfl (hb hby hd) t k
theorem WP.daload (K : Cx κ w l Z own n0 rm bytes maxL ret nm Q) {a : Addr} {kA : ClassId} {N i : Nat} {f : Nat → Value} {j : Int32} {v : Value} (A : Ary Z h a kA .double N f) (hj : j.toInt = (i : Int)) (hi : i < N) (hv : f i = v) (hd : decode bytes pc = .ok (.daload, 1)) (hp : pc + 1 = pc') (H : WP κ h k n (mkF κ.m pc' L (v :: S))) : WP κ h k n (mkF κ.m pc L (.int j :: .ref a :: S)) := by
  obtain ⟨hx, hby, -, -, -, -, -, -, rfl, rfl, -⟩ := K
  subst hp hv
  obtain ⟨c, A, -, r2, -, r4, -⟩ := A
  refine WP.go (fun T locs vm0 X e hZ ho t k => ?_) H
  exact X.daload hx (by rw [e]; exact A.1) (State.isArrayOf_alike (T := κ.s.setVm vm0) hZ.alike A.2.1) A.2.2 (in_of r2 hj hi) (by rw [nat_of hj]; exact r4 i hi) (g := mkF κ.m pc L (.int j :: .ref a :: S)) rfl rfl (hb hby hd) t k
theorem WP.aaload (K : Cx κ w l Z own n0 rm bytes maxL ret nm Q) {a : Addr} {kA : ClassId} {N i : Nat} {f : Nat → Value} {j : Int32} {v : Value} {ty : FieldType} (ht : ty.isReference = true) (A : Ary Z h a kA ty N f) (hj : j.toInt = (i : Int)) (hi : i < N) (hv : f i = v) (hd : decode bytes pc = .ok (.aaload, 1)) (hp : pc + 1 = pc') (H : WP κ h k n (mkF κ.m pc' L (v :: S))) : WP κ h k n (mkF κ.m pc L (.int j :: .ref a :: S)) := by
  obtain ⟨hx, hby, -, -, -, -, -, -, rfl, rfl, -⟩ := K
  subst hp hv
  obtain ⟨c, A, -, r2, -, r4, -⟩ := A
  refine WP.go (fun T locs vm0 X e hZ ho t k => ?_) H
  exact X.aaload hx (by rw [e]; exact A.1) (State.isArrayOf_alike (T := κ.s.setVm vm0) hZ.alike A.2.1) ht A.2.2 (in_of r2 hj hi) (by rw [nat_of hj]; exact r4 i hi) (g := mkF κ.m pc L (.int j :: .ref a :: S)) rfl rfl (hb hby hd) t k
theorem WP.arraylength (K : Cx κ w l Z own n0 rm bytes maxL ret nm Q) {a : Addr} {kA : ClassId} {ty : FieldType} {N : Nat} {f : Nat → Value} (A : Ary Z h a kA ty N f) (hd : decode bytes pc = .ok (.arraylength, 1)) (hp : pc + 1 = pc') (H : WP κ h k n (mkF κ.m pc' L (.int (Int32.ofNat N) :: S))) : WP κ h k n (mkF κ.m pc L (.ref a :: S)) := by
  obtain ⟨hx, hby, -, -, -, -, -, -, rfl, rfl, -⟩ := K
  subst hp
  obtain ⟨c, A, -, r2, -⟩ := A
  refine WP.go (fun T locs vm0 X e hZ ho t k => ?_) H
  exact X.arraylength hx (by rw [e]; exact A.1) (State.isArrayOf_alike (T := κ.s.setVm vm0) hZ.alike A.2.1) (g := mkF κ.m pc L (.ref a :: S)) rfl rfl (hb hby hd) t (by rw [r2]; exact k)
theorem WP.iastore (K : Cx κ w l Z own n0 rm bytes maxL ret nm Q) {a : Addr} {kA : ClassId} {N i : Nat} {f : Nat → Value} {j : Int32} {x : Int32} (A : Ary Z h a kA .int N f) (hj : j.toInt = (i : Int)) (hi : i < N) (ha : n0 ≤ a) (hd : decode bytes pc = .ok (.iastore, 1)) (hp : pc + 1 = pc')
    (H : ∀ h', Wr h h' a i (.int x) → Ary Z h' a kA .int N (upd f i (.int x)) → WP κ h' k n (mkF κ.m pc' L S)) : WP κ h k n (mkF κ.m pc L (.int x :: .int j :: .ref a :: S)) := by
  obtain ⟨hx, hby, -, -, -, hnm, -, -, rfl, rfl, rfl, rfl, -⟩ := K
  subst hp
  have A0 := A
  obtain ⟨c, A, -, r2, -⟩ := A
  intro T locs vm0 X e M hZ ho N
  obtain ⟨T', h', X', e', W, st⟩ := RoadKit.stI X hx (s := κ.s.setVm vm0) hZ e A (in_of r2 hj hi) (g := mkF κ.m pc L (.int x :: .int j :: .ref a :: S)) rfl rfl (hb hby hd)
  rw [nat_of hj] at W
  obtain ⟨t, o, h1, r⟩ := H h' W (A0.set W rfl) T' _ vm0 X' e' (M.mono (Nat.le_of_eq W.size.symm)) hZ ho (Fr.snoc X' N ha)
  exact ⟨t, o, st _ h1, r⟩
theorem WP.lastore (K : Cx κ w l Z own n0 rm bytes maxL ret nm Q) {a : Addr} {kA : ClassId} {N i : Nat} {f : Nat → Value} {j : Int32} {x : Int64} (A : Ary Z h a kA .long N f) (hj : j.toInt = (i : Int)) (hi : i < N) (ha : n0 ≤ a) (hd : decode bytes pc = .ok (.lastore, 1)) (hp : pc + 1 = pc')
    (H : ∀ h', Wr h h' a i (.long x) → Ary Z h' a kA .long N (upd f i (.long x)) → WP κ h' k n (mkF κ.m pc' L S)) : WP κ h k n (mkF κ.m pc L (.long x :: .int j :: .ref a :: S)) := by
  obtain ⟨hx, hby, -, -, -, hnm, -, -, rfl, rfl, rfl, rfl, -⟩ := K
  subst hp
  have A0 := A
  obtain ⟨c, A, -, r2, -⟩ := A
  intro T locs vm0 X e M hZ ho N
  obtain ⟨T', h', X', e', W, st⟩ := RoadKit.stJ X hx (s := κ.s.setVm vm0) hZ e A (in_of r2 hj hi) (g := mkF κ.m pc L (.long x :: .int j :: .ref a :: S)) rfl rfl (hb hby hd)
  rw [nat_of hj] at W
  obtain ⟨t, o, h1, r⟩ := H h' W (A0.set W rfl) T' _ vm0 X' e' (M.mono (Nat.le_of_eq W.size.symm)) hZ ho (Fr.snoc X' N ha)
  exact ⟨t, o, st _ h1, r⟩
theorem WP.castore (K : Cx κ w l Z own n0 rm bytes maxL ret nm Q) {a : Addr} {kA : ClassId} {N i : Nat} {f : Nat → Value} {j : Int32} {x : Int32} (A : Ary Z h a kA .char N f) (hj : j.toInt = (i : Int)) (hi : i < N) (ha : n0 ≤ a) (hd : decode bytes pc = .ok (.castore, 1)) (hp : pc + 1 = pc')
    (H : ∀ h', Wr h h' a i (.int (nar .char x)) → Ary Z h' a kA .char N (upd f i (.int (nar .char x))) → WP κ h' k n (mkF κ.m pc' L S)) : WP κ h k n (mkF κ.m pc L (.int x :: .int j :: .ref a :: S)) := by
  obtain ⟨hx, hby, -, -, -, hnm, -, -, rfl, rfl, rfl, rfl, -⟩ := K
  subst hp
  have A0 := A
  obtain ⟨c, A, -, r2, -⟩ := A
  intro T locs vm0 X e M hZ ho N
  obtain ⟨T', h', X', e', W, st⟩ := RoadKit.stC X hx (s := κ.s.setVm vm0) hZ e A (in_of r2 hj hi) (g := mkF κ.m pc L (.int x :: .int j :: .ref a :: S)) rfl rfl (hb hby hd)
  rw [nat_of hj] at W
  obtain ⟨t, o, h1, r⟩ := H h' W (A0.set W (fits_nar_char x)) T' _ vm0 X' e' (M.mono (Nat.le_of_eq W.size.symm)) hZ ho (Fr.snoc X' N ha)
  exact ⟨t, o, st _ h1, r⟩
theorem WP.bastore (K : Cx κ w l Z own n0 rm bytes maxL ret nm Q) {a : Addr} {kA : ClassId} {N i : Nat} {f : Nat → Value} {j : Int32} {x : Int32} (A : Ary Z h a kA .byte N f) (hj : j.toInt = (i : Int)) (hi : i < N) (ha : n0 ≤ a) (hd : decode bytes pc = .ok (.bastore, 1)) (hp : pc + 1 = pc')
    (H : ∀ h', Wr h h' a i (.int (nar .byte x)) → Ary Z h' a kA .byte N (upd f i (.int (nar .byte x))) → WP κ h' k n (mkF κ.m pc' L S)) : WP κ h k n (mkF κ.m pc L (.int x :: .int j :: .ref a :: S)) := by
  obtain ⟨hx, hby, -, -, -, hnm, -, -, rfl, rfl, rfl, rfl, -⟩ := K
  subst hp
  have A0 := A
  obtain ⟨c, A, -, r2, -⟩ := A
  intro T locs vm0 X e M hZ ho N
  obtain ⟨T', h', X', e', W, st⟩ := RoadKit.stB X hx (s := κ.s.setVm vm0) hZ e A (in_of r2 hj hi) (g := mkF κ.m pc L (.int x :: .int j :: .ref a :: S)) rfl rfl (hb hby hd)
  rw [nat_of hj] at W
  obtain ⟨t, o, h1, r⟩ := H h' W (A0.set W (fits_nar_byte x)) T' _ vm0 X' e' (M.mono (Nat.le_of_eq W.size.symm)) hZ ho (Fr.snoc X' N ha)
  exact ⟨t, o, st _ h1, r⟩
theorem WP.bastoreZ (K : Cx κ w l Z own n0 rm bytes maxL ret nm Q) {a : Addr} {kA : ClassId} {N i : Nat} {f : Nat → Value} {j : Int32} {x : Int32} (A : Ary Z h a kA .boolean N f) (hj : j.toInt = (i : Int)) (hi : i < N) (ha : n0 ≤ a) (hd : decode bytes pc = .ok (.bastore, 1)) (hp : pc + 1 = pc')
    (H : ∀ h', Wr h h' a i (.int (nar .boolean x)) → Ary Z h' a kA .boolean N (upd f i (.int (nar .boolean x))) → WP κ h' k n (mkF κ.m pc' L S)) : WP κ h k n (mkF κ.m pc L (.int x :: .int j :: .ref a :: S)) := by
  obtain ⟨hx, hby, -, -, -, hnm, -, -, rfl, rfl, rfl, rfl, -⟩ := K
  subst hp
  have A0 := A
  obtain ⟨c, A, -, r2, -⟩ := A
  intro T locs vm0 X e M hZ ho N
  obtain ⟨T', h', X', e', W, st⟩ := RoadKit.stZ X hx (s := κ.s.setVm vm0) hZ e A (in_of r2 hj hi) (g := mkF κ.m pc L (.int x :: .int j :: .ref a :: S)) rfl rfl (hb hby hd)
  rw [nat_of hj] at W
  obtain ⟨t, o, h1, r⟩ := H h' W (A0.set W (fits_nar_bool x)) T' _ vm0 X' e' (M.mono (Nat.le_of_eq W.size.symm)) hZ ho (Fr.snoc X' N ha)
  exact ⟨t, o, st _ h1, r⟩
theorem WP.dastore (K : Cx κ w l Z own n0 rm bytes maxL ret nm Q) {a : Addr} {kA : ClassId} {N i : Nat} {f : Nat → Value} {j : Int32} {x : UInt64} (A : Ary Z h a kA .double N f) (hj : j.toInt = (i : Int)) (hi : i < N) (ha : n0 ≤ a) (hd : decode bytes pc = .ok (.dastore, 1)) (hp : pc + 1 = pc')
    (H : ∀ h', Wr h h' a i (.double x) → Ary Z h' a kA .double N (upd f i (.double x)) → WP κ h' k n (mkF κ.m pc' L S)) : WP κ h k n (mkF κ.m pc L (.double x :: .int j :: .ref a :: S)) := by
  obtain ⟨hx, hby, -, -, -, hnm, -, -, rfl, rfl, rfl, rfl, -⟩ := K
  subst hp
  have A0 := A
  obtain ⟨c, A, -, r2, -⟩ := A
  intro T locs vm0 X e M hZ ho N
  obtain ⟨T', h', X', e', W, st⟩ := RoadKit.stD X hx (s := κ.s.setVm vm0) hZ e A (in_of r2 hj hi) (g := mkF κ.m pc L (.double x :: .int j :: .ref a :: S)) rfl rfl (hb hby hd)
  rw [nat_of hj] at W
  obtain ⟨t, o, h1, r⟩ := H h' W (A0.set W rfl) T' _ vm0 X' e' (M.mono (Nat.le_of_eq W.size.symm)) hZ ho (Fr.snoc X' N ha)
  exact ⟨t, o, st _ h1, r⟩
theorem WP.newarray (K : Cx κ w l Z own n0 rm bytes maxL ret nm Q) {aty : ArrayType} {z : Int32} {N cap : Nat} (w1 : (Cond.arrayClass (newarray.typeOf aty)).before a0 Z = true) (hd : decode bytes pc = .ok (.newarray aty, 2)) (hz : z.toInt = (N : Int)) (hcap : N ≤ cap) (hbig : cap * 8 ≤ 536870912) (hk : k + 1 = k') (hn : n + cap = n') (hk' : k' ≤ rm.cells) (hn' : n' ≤ rm.slots) (hp : pc + 2 = pc')
    (H : ∀ (h' : Heap) (a : Addr) (kA : ClassId), @Eq Nat h.size a → Ext h h' → Ary Z h' a kA (newarray.typeOf aty) N (fun _ => defaultValue (newarray.typeOf aty)) → WP κ h' k' n' (mkF κ.m pc' L (.ref a :: S))) : WP κ h k n (mkF κ.m pc L (.int z :: S)) := by
  obtain ⟨hx, hby, -, -, -, hnm, -, -, rfl, rfl, rfl, rfl, -⟩ := K
  subst hp hk hn
  intro T locs vm0 X e M hZ ho N
  obtain ⟨T', h', cA, X', e', E, A, st⟩ := newP X hx (s := κ.s.setVm vm0) hZ w1 e (g := mkF κ.m pc L (.int z :: S)) rfl (hb hby hd) rfl (by rw [Int32.lt_iff_toInt_lt, hz]; show ¬ _ < (0 : Int); omega) (cap := cap) (by rw [nat_of hz]; exact hcap) hbig hk' hn'
  obtain ⟨t, o, h1, r⟩ := H h' _ cA rfl E (Ary.of_new A hz) T' _ vm0 X' e' (M.mono E.1) hZ ho N
  exact ⟨t, o, st _ h1, r⟩
/-- what a call's law hands back, in both modes -/
theorem Met.back {y : MethodName} {by' : ByteArray} {mL' : Nat} {rt' : Option FieldType} {rm' : Room} {as' : Array Value} {Q' : Option Value → Heap → Prop} {len W : Nat} {R : Room} {p : Program} {e : Env} {below : List Frame} {s : State} {args : Array Value}
    (hM : Met false l Z y by' mL' rt' [] rm' as' h n0 Q') (hZ : Z.Warmed39 s.vm) (wc : (Cond.code y by' mL' rt').before a0 Z = true) (wz : (Cond.initialized y.cls).before a0 Z = true) (hf : rm'.frames + 1 ≤ R.frames) (hl : W + (mL' + 11) + rm'.locals ≤ R.locals) :
    Back l R p e below s args y len W (fun A a => a = as' ∧ A.U.heap = h ∧ A.cells + rm'.cells ≤ R.cells ∧ A.slots + rm'.slots ≤ R.slots) (fun A _ v B => ∃ L, (Q' v B.U.heap ∧ Fr n0 L) ∧ B.locs = A.locs ++ L ∧ B.cells = A.cells + rm'.cells ∧ B.slots = A.slots + rm'.slots) :=
  backOf (Q := fun v h L => Q' v h ∧ Fr n0 L) hM hZ wc wz hf hl
theorem Met.backW {y : MethodName} {by' : ByteArray} {mL' : Nat} {rt' : Option FieldType} {rm' : Room} {as' : Array Value} {Q' : Option Value → Heap → Prop} {len W : Nat} {R : Room} {p : Program} {e : Env} {below : List Frame} {s : State} {args : Array Value}
    (hM : Met true l Z y by' mL' rt' [] rm' as' h n0 Q') (hZ : Z.Warmed39 s.vm) (wc : (Cond.code y by' mL' rt').before a0 Z = true) (wz : (Cond.initialized y.cls).before a0 Z = true) (hf : rm'.frames + 1 ≤ R.frames) (hl : W + (mL' + 11) + rm'.locals ≤ R.locals) :
    BackS l R p e below s args y len W (fun A a => a = as' ∧ A.U.heap = h ∧ A.cells + rm'.cells ≤ R.cells ∧ A.slots + rm'.slots ≤ R.slots) (fun A _ v B => ∃ L, (Q' v B.U.heap ∧ Fr n0 L) ∧ B.locs = A.locs ++ L ∧ B.cells = A.cells + rm'.cells ∧ B.slots = A.slots + rm'.slots) :=
  backOfS (Q := fun v h L => Q' v h ∧ Fr n0 L) hM hZ wc wz hf hl
theorem Ends.call {T : State} {locs : List Loc} {vm0 : Vm} {g g' : JFrame} {rm' : Room} {Q' : Option Value → Heap → Prop} {T1 B : Pt} {v : Option Value} (M : Md κ.w κ.s vm0 h.size) (N : Fr κ.n0 locs) (hc : T1 = ⟨T1.1, locs, k, n⟩)
    (hpost : ∃ L, (Q' v B.U.heap ∧ Fr κ.n0 L) ∧ B.locs = T1.locs ++ L ∧ B.cells = T1.cells + rm'.cells ∧ B.slots = T1.slots + rm'.slots) (hk : k + rm'.cells = k') (hn : n + rm'.slots = n') {vm1 : Vm}
    (X' : Stand κ.p κ.l κ.e κ.R (κ.s.setVm vm1) κ.m κ.a κ.below κ.meth κ.c B.U B.locs B.cells B.slots) (M' : Md κ.w κ.s vm1 B.U.heap.size) (hZ : κ.Z.Warmed39 vm1) (ho : vm1.findClass κ.own = some κ.m.cls) (st : Steps κ.p.tables κ.e κ.below (T.setTop g) (B.U.setTop g'))
    (H : ∀ h', Q' v h' → WP κ h' k' n' g') : Ends κ T g := by
  obtain ⟨Lc, ⟨hQ, hN⟩, l1, l2, l3⟩ := hpost
  rw [hc] at l1 l2 l3
  dsimp only [Pt.U, Pt.locs, Pt.cells, Pt.slots] at l1 l2 l3 X' hQ M' st
  subst hk hn
  rw [l1, l2, l3] at X'
  obtain ⟨t, o, h1, r⟩ := H _ hQ _ _ vm1 X' rfl M' hZ ho (Fr.app N hN)
  exact ⟨t, o, st.trans h1, r⟩
theorem WP.callS (K : Cx κ w l Z own n0 rm bytes maxL ret nm Q) {y : MethodName} {by' : ByteArray} {mL' : Nat} {rt' : Option FieldType} {rm' : Room} {Q' : Option Value → Heap → Prop} {i W : Nat} {argsL : List Value} {S' : List Value} (w1 : (Cond.methodLink own i y).before a0 Z = true) (w2 : (Cond.static y).before a0 Z = true) (hM : Met w l Z y by' mL' rt' [] rm' argsL.toArray h n0 Q') (wc : (Cond.code y by' mL' rt').before a0 Z = true) (wz : (Cond.initialized y.cls).before a0 Z = true) (hy : y.cls ≠ "java/lang/invoke/MethodHandle" ∧ y.cls ≠ "java/lang/invoke/VarHandle")
    (hL : L.size = maxL) (hlen : ∀ sig, parseMethodDescriptor y.desc = some sig → argsL.length = sig.parameters.length) (hS : S' = argsL.reverse ++ S) (hW : (S.map fun v => v.category).sum = W) (hf : rm'.frames + 1 ≤ rm.frames) (hl : W + (mL' + 11) + rm'.locals ≤ rm.locals) (hk : k + rm'.cells = k') (hn : n + rm'.slots = n') (hk' : k' ≤ rm.cells) (hn' : n' ≤ rm.slots) (hd : decode bytes pc = .ok (.invokestatic i, 3)) (hp : pc + 3 = pc')
    (H : ∀ (v : Option Value) (h' : Heap), Q' v h' → WP κ h' k' n' (mkF κ.m pc' L (v.toList ++ S))) : WP κ h k n (mkF κ.m pc L S') := by
  obtain ⟨hx, hby, hml, -, -, -, rfl, rfl, rfl, rfl, rfl, rfl, -⟩ := K
  subst hp hS
  intro T locs vm0 X e M hZ ho N
  by_cases hw : κ.w = true
  · rw [hw] at hM
    obtain ⟨v, vm₁, B, -, X', hSi, hgr, hpost, st⟩ := callSS X hx (y := y) ho (mvT (s := κ.s.setVm vm0) hZ w1) (mvT (s := κ.s.setVm vm0) hZ w2) (mvT (s := κ.s.setVm vm0) hZ wz) (mvT (s := κ.s.setVm vm0) hZ wc) hy (Met.backW (s := κ.s.setVm vm0) hM hZ wc wz hf hl) (g := mkF κ.m pc L (argsL.reverse ++ S)) rfl (hL.trans hml.symm) (argsL := argsL) (rest := S) hlen rfl (by show 2 * 0 + _ ≤ _; omega) (hb hby hd) (fun _ _ => ⟨rfl, e, by rw [← hk] at hk'; exact hk', by rw [← hn] at hn'; exact hn'⟩)
    obtain ⟨k0, hS0, hk0⟩ := M.2
    obtain ⟨X'', hS1, hZ1, ho1⟩ := rebS hS0 hk0 X' hSi (e ▸ hgr) hZ ho
    exact Ends.call (Q' := Q') (T1 := ⟨T.setVm vm₁, locs, k, n⟩) M N rfl hpost hk hn X'' ⟨fun q => (by rw [hw] at q; cases q), _, hS1, Nat.le_refl _⟩ hZ1 ho1 st (H v)
  · have hw' : κ.w = false := by simpa using hw
    rw [hw'] at hM
    obtain ⟨v, vm₁, B, -, X', hpost, st⟩ := Jvm.LawKit.callS X hx (y := y) ho (mvT (s := κ.s.setVm vm0) hZ w1) (mvT (s := κ.s.setVm vm0) hZ w2) (mvT (s := κ.s.setVm vm0) hZ wz) (mvT (s := κ.s.setVm vm0) hZ wc) hy (Met.back (s := κ.s.setVm vm0) hM hZ wc wz hf hl) (g := mkF κ.m pc L (argsL.reverse ++ S)) rfl (hL.trans hml.symm) (argsL := argsL) (rest := S) hlen rfl (by show 2 * 0 + _ ≤ _; omega) (hb hby hd) (fun _ _ => ⟨rfl, e, by rw [← hk] at hk'; exact hk', by rw [← hn] at hn'; exact hn'⟩)
    refine Ends.call (Q' := Q') (T1 := ⟨T.setVm vm₁, locs, k, n⟩) M N rfl hpost hk hn X' ?_ hZ ho (st _ (Steps.refl _)) (H v)
    have e0 := M.1 hw'
    subst e0
    exact Md.start _ _ _
theorem WP.callI (K : Cx κ w l Z own n0 rm bytes maxL ret nm Q) {y : MethodName} {by' : ByteArray} {mL' : Nat}  {rm' : Room} {Q' : Option Value → Heap → Prop} {i W : Nat} {argsL : List Value} {S' : List Value} {a : Addr} (hy1 : y.name = "<init>") (w1 : (Cond.methodLink own i y).before a0 Z = true) (w2 : (Cond.instanceMethod y).before a0 Z = true) (hM : Met w l Z y by' mL' none [] rm' (.ref a :: argsL).toArray h n0 Q') (wc : (Cond.code y by' mL' none).before a0 Z = true) (wz : (Cond.initialized y.cls).before a0 Z = true) (hy : y.cls ≠ "java/lang/invoke/MethodHandle" ∧ y.cls ≠ "java/lang/invoke/VarHandle")
    (hL : L.size = maxL) (hlen : ∀ sig, parseMethodDescriptor y.desc = some sig → argsL.length = sig.parameters.length) (hS : S' = argsL.reverse ++ .ref a :: S) (hW : (S.map fun v => v.category).sum = W) (hf : rm'.frames + 1 ≤ rm.frames) (hl : W + (mL' + 11) + rm'.locals ≤ rm.locals) (hk : k + rm'.cells = k') (hn : n + rm'.slots = n') (hk' : k' ≤ rm.cells) (hn' : n' ≤ rm.slots) (hd : decode bytes pc = .ok (.invokespecial i, 3)) (hp : pc + 3 = pc')
    (H : ∀ (v : Option Value) (h' : Heap), Q' v h' → WP κ h' k' n' (mkF κ.m pc' L (v.toList ++ S))) : WP κ h k n (mkF κ.m pc L S') := by
  obtain ⟨hx, hby, hml, -, -, -, rfl, rfl, rfl, rfl, rfl, rfl, -⟩ := K
  subst hp hS
  intro T locs vm0 X e M hZ ho N
  by_cases hw : κ.w = true
  · rw [hw] at hM
    obtain ⟨v, vm₁, B, -, X', hSi, hgr, hpost, st⟩ := X.specialBackS hx (y := y) hy1 ho (mvT (s := κ.s.setVm vm0) hZ w1) (mvT (s := κ.s.setVm vm0) hZ w2) (mvT (s := κ.s.setVm vm0) hZ wc) hy (Met.backW (s := κ.s.setVm vm0) hM hZ wc wz hf hl) (g := mkF κ.m pc L (argsL.reverse ++ .ref a :: S)) rfl (hL.trans hml.symm) (Steps.refl _) (a := a) (argsL := argsL) (rest := S) hlen rfl (by show 2 * 0 + _ ≤ _; omega) (hb hby hd) (fun _ _ => ⟨rfl, e, by rw [← hk] at hk'; exact hk', by rw [← hn] at hn'; exact hn'⟩)
    obtain ⟨k0, hS0, hk0⟩ := M.2
    obtain ⟨X'', hS1, hZ1, ho1⟩ := rebS hS0 hk0 X' hSi (e ▸ hgr) hZ ho
    exact Ends.call (Q' := Q') (T1 := ⟨T.setVm vm₁, locs, k, n⟩) M N rfl hpost hk hn X'' ⟨fun q => (by rw [hw] at q; cases q), _, hS1, Nat.le_refl _⟩ hZ1 ho1 st (H v)
  · have hw' : κ.w = false := by simpa using hw
    rw [hw'] at hM
    obtain ⟨v, vm₁, B, -, X', hpost, st⟩ := X.specialBack hx (y := y) hy1 ho (mvT (s := κ.s.setVm vm0) hZ w1) (mvT (s := κ.s.setVm vm0) hZ w2) (mvT (s := κ.s.setVm vm0) hZ wc) hy (Met.back (s := κ.s.setVm vm0) hM hZ wc wz hf hl) (g := mkF κ.m pc L (argsL.reverse ++ .ref a :: S)) rfl (hL.trans hml.symm) (Steps.refl _) (a := a) (argsL := argsL) (rest := S) hlen rfl (by show 2 * 0 + _ ≤ _; omega) (hb hby hd) (fun _ _ => ⟨rfl, e, by rw [← hk] at hk'; exact hk', by rw [← hn] at hn'; exact hn'⟩)
    refine Ends.call (Q' := Q') (T1 := ⟨T.setVm vm₁, locs, k, n⟩) M N rfl hpost hk hn X' ?_ hZ ho st (H v)
    have e0 := M.1 hw'
    subst e0
    exact Md.start _ _ _
theorem WP.callV (K : Cx κ w l Z own n0 rm bytes maxL ret nm Q) {x y : MethodName} {by' : ByteArray} {mL' : Nat} {rt' : Option FieldType} {rm' : Room} {Q' : Option Value → Heap → Prop} {i W : Nat} {argsL : List Value} {S' : List Value} {a : Addr} {C : String} (w1 : (Cond.methodLink own i x).before a0 Z = true) (w2 : (Cond.declares x).before a0 Z = true) (nf : ∀ vm0 : Vm, Z.Warmed39 vm0 → NotFace (κ.s.setVm vm0) x) (w3 : (Cond.selects C x y).before a0 Z = true) (w4 : (Cond.instanceMethod y).before a0 Z = true) (hx' : x.cls ≠ "java/lang/invoke/MethodHandle" ∧ x.cls ≠ "java/lang/invoke/VarHandle") (E : Exa Z h a C) (hM : Met w l Z y by' mL' rt' [] rm' (.ref a :: argsL).toArray h n0 Q') (wc : (Cond.code y by' mL' rt').before a0 Z = true) (wz : (Cond.initialized y.cls).before a0 Z = true) (hy : y.cls ≠ "java/lang/invoke/MethodHandle" ∧ y.cls ≠ "java/lang/invoke/VarHandle")
    (hL : L.size = maxL) (hlen : ∀ sig, parseMethodDescriptor x.desc = some sig → argsL.length = sig.parameters.length) (hS : S' = argsL.reverse ++ .ref a :: S) (hW : (S.map fun v => v.category).sum = W) (hf : rm'.frames + 1 ≤ rm.frames) (hl : W + (mL' + 11) + rm'.locals ≤ rm.locals) (hk : k + rm'.cells = k') (hn : n + rm'.slots = n') (hk' : k' ≤ rm.cells) (hn' : n' ≤ rm.slots) (hd : decode bytes pc = .ok (.invokevirtual i, 3)) (hp : pc + 3 = pc')
    (H : ∀ (v : Option Value) (h' : Heap), Q' v h' → WP κ h' k' n' (mkF κ.m pc' L (v.toList ++ S))) : WP κ h k n (mkF κ.m pc L S') := by
  obtain ⟨hx, hby, hml, -, -, -, rfl, rfl, rfl, rfl, rfl, rfl, -⟩ := K
  subst hp hS
  intro T locs vm0 X e M hZ ho N
  obtain ⟨cB, kB, q1, q2, q3⟩ := isOf (s := κ.s.setVm vm0) hZ e E
  by_cases hw : κ.w = true
  · rw [hw] at hM
    obtain ⟨v, vm₁, B, -, X', hSi, hgr, hpost, st⟩ := X.virtualBackS hx (y := x) (z := y) ho (mvT (s := κ.s.setVm vm0) hZ w1) (mvT (s := κ.s.setVm vm0) hZ w2) (nf vm0 hZ) (mvT (s := κ.s.setVm vm0) hZ w3) (mvT (s := κ.s.setVm vm0) hZ w4) hx' (Met.backW (s := κ.s.setVm vm0) hM hZ wc wz hf hl) q1 q3 (g := mkF κ.m pc L (argsL.reverse ++ .ref a :: S)) rfl (hL.trans hml.symm) (Steps.refl _) (argsL := argsL) (rest := S) hlen rfl (by show 2 * 0 + _ ≤ _; omega) (hb hby hd) (fun _ _ => ⟨rfl, e, by rw [← hk] at hk'; exact hk', by rw [← hn] at hn'; exact hn'⟩)
    obtain ⟨k0, hS0, hk0⟩ := M.2
    obtain ⟨X'', hS1, hZ1, ho1⟩ := rebS hS0 hk0 X' hSi (e ▸ hgr) hZ ho
    exact Ends.call (Q' := Q') (T1 := ⟨T.setVm vm₁, locs, k, n⟩) M N rfl hpost hk hn X'' ⟨fun q => (by rw [hw] at q; cases q), _, hS1, Nat.le_refl _⟩ hZ1 ho1 st (H v)
  · have hw' : κ.w = false := by simpa using hw
    rw [hw'] at hM
    obtain ⟨v, vm₁, B, -, X', hpost, st⟩ := X.virtualBack hx (y := x) (z := y) ho (mvT (s := κ.s.setVm vm0) hZ w1) (mvT (s := κ.s.setVm vm0) hZ w2) (nf vm0 hZ) (mvT (s := κ.s.setVm vm0) hZ w3) (mvT (s := κ.s.setVm vm0) hZ w4) hx' (Met.back (s := κ.s.setVm vm0) hM hZ wc wz hf hl) q1 q3 (g := mkF κ.m pc L (argsL.reverse ++ .ref a :: S)) rfl (hL.trans hml.symm) (Steps.refl _) (argsL := argsL) (rest := S) hlen rfl (by show 2 * 0 + _ ≤ _; omega) (hb hby hd) (fun _ _ => ⟨rfl, e, by rw [← hk] at hk'; exact hk', by rw [← hn] at hn'; exact hn'⟩)
    refine Ends.call (Q' := Q') (T1 := ⟨T.setVm vm₁, locs, k, n⟩) M N rfl hpost hk hn X' ?_ hZ ho st (H v)
    have e0 := M.1 hw'
    subst e0
    exact Md.start _ _ _
end Rules
end Jvm.OwnW
namespace Jvm.Pilot.@@N@@
open Jvm Jvm.ClassFile Sem Op Lib Jvm.Free Jvm.Stand Jvm.LawKit Jvm.RoadKit Bundle Jvm.OwnW Jvm.Pilot.@@N@@.Jvm.D

def own_bom (F : Nat → Int32) (st en : Int32) : Int32 := if (en - st) < (3 : Int32) then 0 else if F (st.toInt.toNat + 0) = (-17 : Int32) then (if F (st.toInt.toNat + 1) = (-69 : Int32) then (if F (st.toInt.toNat + 2) = (-65 : Int32) then 3 else 0) else 0) else 0
theorem own_sub {st en : Int32} (h0 : 0 ≤ st.toInt) (h1 : st.toInt ≤ en.toInt) (h2 : en.toInt ≤ 6) : (en - st).toInt = en.toInt - st.toInt := by
  have q := c_isub en st
  have r := rng32 (en - st)
  omega
theorem own_add {st : Int32} {k : Int32} {n : Int} (hk : k.toInt = n) (h0 : 0 ≤ st.toInt) (h1 : st.toInt ≤ 6) (hn : 0 ≤ n) (hn' : n ≤ 6) : (st + k).toInt = st.toInt + n := by
  have q := c_iadd st k
  have r := rng32 (st + k)
  omega
theorem own_in {st en : Int32} (h0 : 0 ≤ st.toInt) (h1 : st.toInt ≤ en.toInt) (h2 : en.toInt ≤ 6) (h : ¬ (en - st) < (3 : Int32)) : st.toInt + 3 ≤ 6 := by
  have q := own_sub h0 h1 h2
  rw [Int32.lt_iff_toInt_lt, q] at h
  have e : (3 : Int32).toInt = 3 := by decide
  omega
theorem own_start (p : Int32) : 0 ≤ ((p &&& (2147483647 : Int32)) % (7 : Int32)).toInt ∧ ((p &&& (2147483647 : Int32)) % (7 : Int32)).toInt ≤ 6 := by
  have e1 : (p &&& (2147483647 : Int32)).toInt = p.toInt % 2147483648 := c_mask p 2147483647 31 (by decide) (by decide)
  have e2 := (c_irem (p &&& (2147483647 : Int32)) 7 7 (by decide)).1 (by omega)
  omega
theorem own_seven {st : Int32} (h0 : 0 ≤ st.toInt) (h1 : st.toInt ≤ 6) : ((7 : Int32) - st).toInt = 7 - st.toInt := by
  have q := c_isub 7 st
  have r := rng32 ((7 : Int32) - st)
  have e : (7 : Int32).toInt = 7 := by decide
  omega
theorem own_nz {st : Int32} (h0 : 0 ≤ st.toInt) (h1 : st.toInt ≤ 6) : (7 : Int32) - st ≠ 0 := fun q => by
  have e := own_seven h0 h1
  rw [q] at e
  have e0 : (0 : Int32).toInt = 0 := rfl
  omega
theorem own_end (p : Int32) {st : Int32} (h0 : 0 ≤ st.toInt) (h1 : st.toInt ≤ 6) : st.toInt ≤ (st + (p &&& (2147483647 : Int32)) % ((7 : Int32) - st)).toInt ∧ (st + (p &&& (2147483647 : Int32)) % ((7 : Int32) - st)).toInt ≤ 6 := by
  have e1 : (p &&& (2147483647 : Int32)).toInt = p.toInt % 2147483648 := c_mask p 2147483647 31 (by decide) (by decide)
  have e2 := own_seven h0 h1
  have e3 := (c_iremV (p &&& (2147483647 : Int32)) ((7 : Int32) - st)).1 (by omega) (by omega)
  have q := c_iadd st ((p &&& (2147483647 : Int32)) % ((7 : Int32) - st))
  have r := rng32 (st + (p &&& (2147483647 : Int32)) % ((7 : Int32) - st))
  omega
theorem w_0 {Z : State} {a0 : Array Value} (hw : ∀ d ∈ tables_1, d.before a0 Z = true) : (Jvm.Cond.arrayClass Jvm.ClassFile.FieldType.byte).before a0 Z = true := hw _ (List.mem_of_getElem? (i := 0) rfl)
theorem w_1 {Z : State} {a0 : Array Value} (hw : ∀ d ∈ tables_1, d.before a0 Z = true) : (Jvm.Cond.constant "com/example/vestline/vestline/Utf8ByteOrderMarkLengthPinLaw" (7 : Nat) (2147483647 : Int32)).before a0 Z = true := hw _ (List.mem_of_getElem? (i := 1) rfl)
theorem w_2 {Z : State} {a0 : Array Value} (hw : ∀ d ∈ tables_1, d.before a0 Z = true) : (Jvm.Cond.methodLink "com/example/vestline/vestline/Utf8ByteOrderMarkLengthPinLaw" (8 : Nat) ({ cls := "com/example/vestline/vestline/Utf8", name := "byteOrderMarkLength", desc := "([BII)I" } : Jvm.MethodName)).before a0 Z = true := hw _ (List.mem_of_getElem? (i := 2) rfl)
theorem w_3 {Z : State} {a0 : Array Value} (hw : ∀ d ∈ tables_1, d.before a0 Z = true) : (Jvm.Cond.static ({ cls := "com/example/vestline/vestline/Utf8", name := "byteOrderMarkLength", desc := "([BII)I" } : Jvm.MethodName)).before a0 Z = true := hw _ (List.mem_of_getElem? (i := 3) rfl)
theorem w_4 {Z : State} {a0 : Array Value} (hw : ∀ d ∈ tables_1, d.before a0 Z = true) : (Jvm.Cond.initialized "com/example/vestline/vestline/Utf8").before a0 Z = true := hw _ (List.mem_of_getElem? (i := 4) rfl)
theorem w_5 {Z : State} {a0 : Array Value} (hw : ∀ d ∈ tables_1, d.before a0 Z = true) : (Jvm.Cond.code ({ cls := "com/example/vestline/vestline/Utf8", name := "byteOrderMarkLength", desc := "([BII)I" } : Jvm.MethodName) prog_51_method_2_code (4 : Nat) (Option.some Jvm.ClassFile.FieldType.int)).before a0 Z = true := hw _ (List.mem_of_getElem? (i := 5) rfl)
theorem w_6 {Z : State} {a0 : Array Value} (hw : ∀ d ∈ tables_1, d.before a0 Z = true) : (Jvm.Cond.fieldLink "com/example/vestline/vestline/Utf8" (7 : Nat) "com/example/vestline/vestline/Utf8" "BYTE_ORDER_MARK" "[B").before a0 Z = true := hw _ (List.mem_of_getElem? (i := 6) rfl)
theorem w_7 {Z : State} {a0 : Array Value} (hw : ∀ d ∈ tables_1, d.before a0 Z = true) : (Jvm.Cond.laysStatic "com/example/vestline/vestline/Utf8" "BYTE_ORDER_MARK" "[B").before a0 Z = true := hw _ (List.mem_of_getElem? (i := 7) rfl)
theorem pd_0 : parseMethodDescriptor "([BII)I" = some ⟨[(.array .byte), .int, .int], some .int⟩ := by decide +kernel
theorem d1_0 : decode prog_51_method_2_code 0 = .ok (.iload_n 2, 1) := by decide +kernel
theorem d1_1 : decode prog_51_method_2_code 1 = .ok (.iload_n 1, 1) := by decide +kernel
theorem d1_10 : decode prog_51_method_2_code 10 = .ok (.iconst 0, 1) := by decide +kernel
theorem d1_11 : decode prog_51_method_2_code 11 = .ok (.ireturn, 1) := by decide +kernel
theorem d1_12 : decode prog_51_method_2_code 12 = .ok (.iconst 0, 1) := by decide +kernel
theorem d1_13 : decode prog_51_method_2_code 13 = .ok (.istore_n 3, 1) := by decide +kernel
theorem d1_14 : decode prog_51_method_2_code 14 = .ok (.iload_n 3, 1) := by decide +kernel
theorem d1_15 : decode prog_51_method_2_code 15 = .ok (.getstatic 7, 3) := by decide +kernel
theorem d1_18 : decode prog_51_method_2_code 18 = .ok (.arraylength, 1) := by decide +kernel
theorem d1_19 : decode prog_51_method_2_code 19 = .ok (.if_icmp .ge 24, 3) := by decide +kernel
theorem d1_2 : decode prog_51_method_2_code 2 = .ok (.isub, 1) := by decide +kernel
theorem d1_22 : decode prog_51_method_2_code 22 = .ok (.aload_n 0, 1) := by decide +kernel
theorem d1_23 : decode prog_51_method_2_code 23 = .ok (.iload_n 1, 1) := by decide +kernel
theorem d1_24 : decode prog_51_method_2_code 24 = .ok (.iload_n 3, 1) := by decide +kernel
theorem d1_25 : decode prog_51_method_2_code 25 = .ok (.iadd, 1) := by decide +kernel
theorem d1_26 : decode prog_51_method_2_code 26 = .ok (.baload, 1) := by decide +kernel
theorem d1_27 : decode prog_51_method_2_code 27 = .ok (.getstatic 7, 3) := by decide +kernel
theorem d1_3 : decode prog_51_method_2_code 3 = .ok (.getstatic 7, 3) := by decide +kernel
theorem d1_30 : decode prog_51_method_2_code 30 = .ok (.iload_n 3, 1) := by decide +kernel
theorem d1_31 : decode prog_51_method_2_code 31 = .ok (.baload, 1) := by decide +kernel
theorem d1_32 : decode prog_51_method_2_code 32 = .ok (.if_icmp .eq 5, 3) := by decide +kernel
theorem d1_35 : decode prog_51_method_2_code 35 = .ok (.iconst 0, 1) := by decide +kernel
theorem d1_36 : decode prog_51_method_2_code 36 = .ok (.ireturn, 1) := by decide +kernel
theorem d1_37 : decode prog_51_method_2_code 37 = .ok (.iinc 3 1, 3) := by decide +kernel
theorem d1_40 : decode prog_51_method_2_code 40 = .ok (.goto (-26), 3) := by decide +kernel
theorem d1_43 : decode prog_51_method_2_code 43 = .ok (.getstatic 7, 3) := by decide +kernel
theorem d1_46 : decode prog_51_method_2_code 46 = .ok (.arraylength, 1) := by decide +kernel
theorem d1_47 : decode prog_51_method_2_code 47 = .ok (.ireturn, 1) := by decide +kernel
theorem d1_6 : decode prog_51_method_2_code 6 = .ok (.arraylength, 1) := by decide +kernel
theorem d1_7 : decode prog_51_method_2_code 7 = .ok (.if_icmp .ge 5, 3) := by decide +kernel
set_option maxRecDepth 65536 in
set_option maxHeartbeats 40000000 in
theorem rm_bom (w : Bool) (l : Launch) (Z : State) (a0 : Array Value) (hw : ∀ d ∈ tables_1, d.before a0 Z = true) (b : Addr) (st en : Int32) (kA kM : ClassId) (F : Nat → Int32) (mk : Addr) (G : Nat → Value) (h0 : Heap) (n0 : Nat) (Z0 : n0 ≤ h0.size) (A_b : Ary Z h0 b kA .byte 6 (fun i => .int (F i))) (q0 : 0 ≤ st.toInt) (q1 : st.toInt ≤ en.toInt) (q2 : en.toInt ≤ 6) (S_m : Sta Z Z.heap "com/example/vestline/vestline/Utf8" "BYTE_ORDER_MARK" "[B" (.ref mk)) (A_m : Ary Z Z.heap mk kM .byte 3 G) (gm0 : G 0 = .int (-17)) (gm1 : G 1 = .int (-69)) (gm2 : G 2 = .int (-65)) (OLD : Old Z n0 h0) :
    Met w l Z (⟨"com/example/vestline/vestline/Utf8", "byteOrderMarkLength", "([BII)I"⟩ : MethodName) prog_51_method_2_code 4 (some .int) [] ({ frames := 0, cells := 0, slots := 0, locals := 0 } : Room) #[(.ref b), (.int st), (.int en)] h0 n0 (fun v h => v = some (.int (own_bom F st en)) ∧ h0 = h) := by
  refine Met.of (plainFor_of_name (by first | (simp [plainName, overriddenIn]; done) | decide +kernel)) fun κ K => ?_
  refine WP.frame (g' := (mkF κ.m 0 #[.val (.ref b), .val (.int st), .val (.int en), .unset] [])) (by first | (simp [entryFrame, mkF, argsToLocals, Value.category]; done) | rfl) ?_
  refine WP.iloadN K d1_0 rfl (pc' := 1) rfl ?_
  refine WP.iloadN K d1_1 rfl (pc' := 2) rfl ?_
  refine WP.isub K d1_2 (pc' := 3) rfl ?_
  refine WP.getS K (w_6 hw) Via.refl (Sta.ext OLD.2 S_m) d1_3 (pc' := 6) rfl ?_
  refine WP.arraylength K (Ary.ext OLD.2 A_m) d1_6 (pc' := 7) rfl ?_
  show WP κ h0 0 0 (mkF κ.m 7 #[.val (.ref b), .val (.int st), .val (.int en), .unset] [(.int (3 : Int32)), (.int (en - st))])
  by_cases c3 : (en - st) < (3 : Int32)
  · refine WP.icmpF K d1_7 (tlt c3).2.1 (pc' := 10) rfl ?_
    refine WP.iconst K d1_10 (v := (0 : Int32)) rfl (pc' := 11) rfl ?_
    exact WP.retI K d1_11 (by decide) (by decide) ⟨by rw [own_bom, if_pos c3], rfl⟩
  · refine WP.icmpT K d1_7 (flt c3).2.1 (by decide) (pc' := 12) (by decide) ?_
    have hin := own_in q0 q1 q2 c3
    refine WP.iconst K d1_12 (v := (0 : Int32)) rfl (pc' := 13) rfl ?_
    refine WP.istoreN K d1_13 (L' := #[.val (.ref b), .val (.int st), .val (.int en), .val (.int (0 : Int32))]) rfl (pc' := 14) rfl ?_
    refine WP.iloadN K d1_14 rfl (pc' := 15) rfl ?_
    refine WP.getS K (w_6 hw) Via.refl (Sta.ext OLD.2 S_m) d1_15 (pc' := 18) rfl ?_
    refine WP.arraylength K (Ary.ext OLD.2 A_m) d1_18 (pc' := 19) rfl ?_
    show WP κ h0 0 0 (mkF κ.m 19 #[.val (.ref b), .val (.int st), .val (.int en), .val (.int (0 : Int32))] [(.int (3 : Int32)), (.int (0 : Int32))])
    refine WP.icmpF K d1_19 (by decide) (pc' := 22) rfl ?_
    refine WP.aloadN K d1_22 rfl rfl (pc' := 23) rfl ?_
    refine WP.iloadN K d1_23 rfl (pc' := 24) rfl ?_
    refine WP.iloadN K d1_24 rfl (pc' := 25) rfl ?_
    refine WP.iadd K d1_25 (pc' := 26) rfl ?_
    have j0 : (st + (0 : Int32)).toInt = ((st.toInt.toNat + 0 : Nat) : Int) := by rw [own_add (k := (0 : Int32)) (n := 0) rfl q0 (by omega) (by omega) (by omega)]; omega
    refine WP.baload K (i := st.toInt.toNat + 0) A_b j0 (by omega) (v := (.int (F (st.toInt.toNat + 0)))) rfl d1_26 (pc' := 27) rfl ?_
    refine WP.getS K (w_6 hw) Via.refl (Sta.ext OLD.2 S_m) d1_27 (pc' := 30) rfl ?_
    refine WP.iloadN K d1_30 rfl (pc' := 31) rfl ?_
    refine WP.baload K (i := 0) (Ary.ext OLD.2 A_m) rfl (by decide) (v := (.int (-17 : Int32))) gm0 d1_31 (pc' := 32) rfl ?_
    by_cases e0 : (F (st.toInt.toNat + 0)) = (-17 : Int32)
    · refine WP.icmpT K d1_32 (teq e0).1 (by decide) (pc' := 37) (by decide) ?_
      refine WP.iinc K d1_37 (v := (1 : Int32)) rfl rfl (L' := #[.val (.ref b), .val (.int st), .val (.int en), .val (.int (1 : Int32))]) rfl (pc' := 40) rfl ?_
      refine WP.goto K d1_40 (by decide) (pc' := 14) (by decide) ?_
      refine WP.iloadN K d1_14 rfl (pc' := 15) rfl ?_
      refine WP.getS K (w_6 hw) Via.refl (Sta.ext OLD.2 S_m) d1_15 (pc' := 18) rfl ?_
      refine WP.arraylength K (Ary.ext OLD.2 A_m) d1_18 (pc' := 19) rfl ?_
      show WP κ h0 0 0 (mkF κ.m 19 #[.val (.ref b), .val (.int st), .val (.int en), .val (.int (1 : Int32))] [(.int (3 : Int32)), (.int (1 : Int32))])
      refine WP.icmpF K d1_19 (by decide) (pc' := 22) rfl ?_
      refine WP.aloadN K d1_22 rfl rfl (pc' := 23) rfl ?_
      refine WP.iloadN K d1_23 rfl (pc' := 24) rfl ?_
      refine WP.iloadN K d1_24 rfl (pc' := 25) rfl ?_
      refine WP.iadd K d1_25 (pc' := 26) rfl ?_
      have j1 : (st + (1 : Int32)).toInt = ((st.toInt.toNat + 1 : Nat) : Int) := by rw [own_add (k := (1 : Int32)) (n := 1) rfl q0 (by omega) (by omega) (by omega)]; omega
      refine WP.baload K (i := st.toInt.toNat + 1) A_b j1 (by omega) (v := (.int (F (st.toInt.toNat + 1)))) rfl d1_26 (pc' := 27) rfl ?_
      refine WP.getS K (w_6 hw) Via.refl (Sta.ext OLD.2 S_m) d1_27 (pc' := 30) rfl ?_
      refine WP.iloadN K d1_30 rfl (pc' := 31) rfl ?_
      refine WP.baload K (i := 1) (Ary.ext OLD.2 A_m) rfl (by decide) (v := (.int (-69 : Int32))) gm1 d1_31 (pc' := 32) rfl ?_
      by_cases e1 : (F (st.toInt.toNat + 1)) = (-69 : Int32)
      · refine WP.icmpT K d1_32 (teq e1).1 (by decide) (pc' := 37) (by decide) ?_
        refine WP.iinc K d1_37 (v := (1 : Int32)) rfl rfl (L' := #[.val (.ref b), .val (.int st), .val (.int en), .val (.int (2 : Int32))]) rfl (pc' := 40) rfl ?_
        refine WP.goto K d1_40 (by decide) (pc' := 14) (by decide) ?_
        refine WP.iloadN K d1_14 rfl (pc' := 15) rfl ?_
        refine WP.getS K (w_6 hw) Via.refl (Sta.ext OLD.2 S_m) d1_15 (pc' := 18) rfl ?_
        refine WP.arraylength K (Ary.ext OLD.2 A_m) d1_18 (pc' := 19) rfl ?_
        show WP κ h0 0 0 (mkF κ.m 19 #[.val (.ref b), .val (.int st), .val (.int en), .val (.int (2 : Int32))] [(.int (3 : Int32)), (.int (2 : Int32))])
        refine WP.icmpF K d1_19 (by decide) (pc' := 22) rfl ?_
        refine WP.aloadN K d1_22 rfl rfl (pc' := 23) rfl ?_
        refine WP.iloadN K d1_23 rfl (pc' := 24) rfl ?_
        refine WP.iloadN K d1_24 rfl (pc' := 25) rfl ?_
        refine WP.iadd K d1_25 (pc' := 26) rfl ?_
        have j2 : (st + (2 : Int32)).toInt = ((st.toInt.toNat + 2 : Nat) : Int) := by rw [own_add (k := (2 : Int32)) (n := 2) rfl q0 (by omega) (by omega) (by omega)]; omega
        refine WP.baload K (i := st.toInt.toNat + 2) A_b j2 (by omega) (v := (.int (F (st.toInt.toNat + 2)))) rfl d1_26 (pc' := 27) rfl ?_
        refine WP.getS K (w_6 hw) Via.refl (Sta.ext OLD.2 S_m) d1_27 (pc' := 30) rfl ?_
        refine WP.iloadN K d1_30 rfl (pc' := 31) rfl ?_
        refine WP.baload K (i := 2) (Ary.ext OLD.2 A_m) rfl (by decide) (v := (.int (-65 : Int32))) gm2 d1_31 (pc' := 32) rfl ?_
        by_cases e2 : (F (st.toInt.toNat + 2)) = (-65 : Int32)
        · refine WP.icmpT K d1_32 (teq e2).1 (by decide) (pc' := 37) (by decide) ?_
          refine WP.iinc K d1_37 (v := (1 : Int32)) rfl rfl (L' := #[.val (.ref b), .val (.int st), .val (.int en), .val (.int (3 : Int32))]) rfl (pc' := 40) rfl ?_
          refine WP.goto K d1_40 (by decide) (pc' := 14) (by decide) ?_
          refine WP.iloadN K d1_14 rfl (pc' := 15) rfl ?_
          refine WP.getS K (w_6 hw) Via.refl (Sta.ext OLD.2 S_m) d1_15 (pc' := 18) rfl ?_
          refine WP.arraylength K (Ary.ext OLD.2 A_m) d1_18 (pc' := 19) rfl ?_
          show WP κ h0 0 0 (mkF κ.m 19 #[.val (.ref b), .val (.int st), .val (.int en), .val (.int (3 : Int32))] [(.int (3 : Int32)), (.int (3 : Int32))])
          refine WP.icmpT K d1_19 (by decide) (by decide) (pc' := 43) (by decide) ?_
          refine WP.getS K (w_6 hw) Via.refl (Sta.ext OLD.2 S_m) d1_43 (pc' := 46) rfl ?_
          refine WP.arraylength K (Ary.ext OLD.2 A_m) d1_46 (pc' := 47) rfl ?_
          show WP κ h0 0 0 (mkF κ.m 47 #[.val (.ref b), .val (.int st), .val (.int en), .val (.int (3 : Int32))] [(.int (3 : Int32))])
          exact WP.retI K d1_47 (by decide) (by decide) ⟨by rw [own_bom, if_neg c3, if_pos e0, if_pos e1, if_pos e2], rfl⟩
        · refine WP.icmpF K d1_32 (feq e2).1 (pc' := 35) rfl ?_
          refine WP.iconst K d1_35 (v := (0 : Int32)) rfl (pc' := 36) rfl ?_
          exact WP.retI K d1_36 (by decide) (by decide) ⟨by rw [own_bom, if_neg c3, if_pos e0, if_pos e1, if_neg e2], rfl⟩
      · refine WP.icmpF K d1_32 (feq e1).1 (pc' := 35) rfl ?_
        refine WP.iconst K d1_35 (v := (0 : Int32)) rfl (pc' := 36) rfl ?_
        exact WP.retI K d1_36 (by decide) (by decide) ⟨by rw [own_bom, if_neg c3, if_pos e0, if_neg e1], rfl⟩
    · refine WP.icmpF K d1_32 (feq e0).1 (pc' := 35) rfl ?_
      refine WP.iconst K d1_35 (v := (0 : Int32)) rfl (pc' := 36) rfl ?_
      exact WP.retI K d1_36 (by decide) (by decide) ⟨by rw [own_bom, if_neg c3, if_neg e0], rfl⟩
set_option maxRecDepth 65536 in
set_option maxHeartbeats 40000000 in
theorem rm_law (w : Bool) (l : Launch) (Z : State) (a0 : Array Value) (hw : ∀ d ∈ tables_1, d.before a0 Z = true) (p0 : Int64) (p1 p2 p3 : Int32) (h0 : Heap) (n0 : Nat) (Z0 : n0 ≤ h0.size) (mk : Addr) (kM : ClassId) (G : Nat → Value) (S_m : Sta Z Z.heap "com/example/vestline/vestline/Utf8" "BYTE_ORDER_MARK" "[B" (.ref mk)) (A_m : Ary Z Z.heap mk kM .byte 3 G) (gm0 : G 0 = .int (-17)) (gm1 : G 1 = .int (-69)) (gm2 : G 2 = .int (-65)) (OLD : Old Z n0 h0) :
    Met w l Z x code maxLocals ret tables_1 room_1 #[(.long p0), (.int p1), (.int p2), (.int p3)] h0 n0 (fun v h => v = some (.int 1)) := by
  refine Met.of (plainFor_of_name (by first | (simp [plainName, overriddenIn]; done) | decide +kernel)) fun κ K => ?_
  have K : Cx κ w l Z "com/example/vestline/vestline/Utf8ByteOrderMarkLengthPinLaw" n0 room_1 code 11 (some .boolean) "law" _ := K
  refine WP.frame (g' := (mkF κ.m 0 #[.val (.long p0), .second, .val (.int p1), .val (.int p2), .val (.int p3), .unset, .unset, .unset, .unset, .unset, .unset] [])) (by first | (simp [entryFrame, mkF, argsToLocals, Value.category, maxLocals]; done) | rfl) ?_
  refine WP.bipush K at_0 (v := (6 : Int32)) rfl (pc' := 2) rfl ?_
  refine WP.newarray (aty := .byte) K (w_0 hw) at_2 (N := 6) (cap := 6) rfl (Nat.le_refl _) (by decide) (k' := 1) (n' := 6) rfl rfl (by decide) (by decide) (pc' := 4) rfl fun h1 b kA_b g1 E1 A_b => ?_
  have ne_mk_b : mk ≠ b := fun z_ => by have q_ : @LT.lt Nat _ mk h0.size := (Ary.lt (Ary.ext OLD.2 A_m)); have r_ : @Eq Nat mk b := z_; omega
  have old_b : n0 ≤ b := by have q_ := Z0; omega
  have OLD := Old.ext OLD E1
  have Z0 := Nat.le_trans Z0 E1.1
  refine WP.astore K at_4 rfl (L' := #[.val (.long p0), .second, .val (.int p1), .val (.int p2), .val (.int p3), .val (.ref b), .unset, .unset, .unset, .unset, .unset]) rfl (pc' := 6) rfl ?_
  refine WP.aload K at_6 rfl rfl (pc' := 8) rfl ?_
  refine WP.iconst K at_8 (v := (0 : Int32)) rfl (pc' := 9) rfl ?_
  refine WP.lloadN K at_9 rfl (pc' := 10) rfl ?_
  refine WP.l2i K at_10 (pc' := 11) rfl ?_
  refine WP.i2b K at_11 (pc' := 12) rfl ?_
  refine WP.bastore K (i := 0) A_b rfl (by decide) old_b at_12 (pc' := 13) rfl fun h2 W2 A_n => ?_
  have OLD := Old.wr OLD W2 old_b
  have Z0 := Nat.le_trans Z0 (Nat.le_of_eq W2.size.symm)
  have A_b := A_n
  refine WP.aload K at_13 rfl rfl (pc' := 15) rfl ?_
  refine WP.iconst K at_15 (v := (1 : Int32)) rfl (pc' := 16) rfl ?_
  refine WP.lloadN K at_16 rfl (pc' := 17) rfl ?_
  refine WP.bipush K at_17 (v := (8 : Int32)) rfl (pc' := 19) rfl ?_
  refine WP.lushr K at_19 (pc' := 20) rfl ?_
  refine WP.l2i K at_20 (pc' := 21) rfl ?_
  refine WP.i2b K at_21 (pc' := 22) rfl ?_
  refine WP.bastore K (i := 1) A_b rfl (by decide) old_b at_22 (pc' := 23) rfl fun h3 W3 A_n => ?_
  have OLD := Old.wr OLD W3 old_b
  have Z0 := Nat.le_trans Z0 (Nat.le_of_eq W3.size.symm)
  have A_b := A_n
  refine WP.aload K at_23 rfl rfl (pc' := 25) rfl ?_
  refine WP.iconst K at_25 (v := (2 : Int32)) rfl (pc' := 26) rfl ?_
  refine WP.lloadN K at_26 rfl (pc' := 27) rfl ?_
  refine WP.bipush K at_27 (v := (16 : Int32)) rfl (pc' := 29) rfl ?_
  refine WP.lushr K at_29 (pc' := 30) rfl ?_
  refine WP.l2i K at_30 (pc' := 31) rfl ?_
  refine WP.i2b K at_31 (pc' := 32) rfl ?_
  refine WP.bastore K (i := 2) A_b rfl (by decide) old_b at_32 (pc' := 33) rfl fun h4 W4 A_n => ?_
  have OLD := Old.wr OLD W4 old_b
  have Z0 := Nat.le_trans Z0 (Nat.le_of_eq W4.size.symm)
  have A_b := A_n
  refine WP.aload K at_33 rfl rfl (pc' := 35) rfl ?_
  refine WP.iconst K at_35 (v := (3 : Int32)) rfl (pc' := 36) rfl ?_
  refine WP.lloadN K at_36 rfl (pc' := 37) rfl ?_
  refine WP.bipush K at_37 (v := (24 : Int32)) rfl (pc' := 39) rfl ?_
  refine WP.lushr K at_39 (pc' := 40) rfl ?_
  refine WP.l2i K at_40 (pc' := 41) rfl ?_
  refine WP.i2b K at_41 (pc' := 42) rfl ?_
  refine WP.bastore K (i := 3) A_b rfl (by decide) old_b at_42 (pc' := 43) rfl fun h5 W5 A_n => ?_
  have OLD := Old.wr OLD W5 old_b
  have Z0 := Nat.le_trans Z0 (Nat.le_of_eq W5.size.symm)
  have A_b := A_n
  refine WP.aload K at_43 rfl rfl (pc' := 45) rfl ?_
  refine WP.iconst K at_45 (v := (4 : Int32)) rfl (pc' := 46) rfl ?_
  refine WP.lloadN K at_46 rfl (pc' := 47) rfl ?_
  refine WP.bipush K at_47 (v := (32 : Int32)) rfl (pc' := 49) rfl ?_
  refine WP.lushr K at_49 (pc' := 50) rfl ?_
  refine WP.l2i K at_50 (pc' := 51) rfl ?_
  refine WP.i2b K at_51 (pc' := 52) rfl ?_
  refine WP.bastore K (i := 4) A_b rfl (by decide) old_b at_52 (pc' := 53) rfl fun h6 W6 A_n => ?_
  have OLD := Old.wr OLD W6 old_b
  have Z0 := Nat.le_trans Z0 (Nat.le_of_eq W6.size.symm)
  have A_b := A_n
  refine WP.aload K at_53 rfl rfl (pc' := 55) rfl ?_
  refine WP.iconst K at_55 (v := (5 : Int32)) rfl (pc' := 56) rfl ?_
  refine WP.lloadN K at_56 rfl (pc' := 57) rfl ?_
  refine WP.bipush K at_57 (v := (40 : Int32)) rfl (pc' := 59) rfl ?_
  refine WP.lushr K at_59 (pc' := 60) rfl ?_
  refine WP.l2i K at_60 (pc' := 61) rfl ?_
  refine WP.i2b K at_61 (pc' := 62) rfl ?_
  refine WP.bastore K (i := 5) A_b rfl (by decide) old_b at_62 (pc' := 63) rfl fun h7 W7 A_n => ?_
  have OLD := Old.wr OLD W7 old_b
  have Z0 := Nat.le_trans Z0 (Nat.le_of_eq W7.size.symm)
  have A_b := A_n
  refine WP.iloadN K at_63 rfl (pc' := 64) rfl ?_
  refine WP.ldcI K (w_1 hw) at_64 (pc' := 66) rfl ?_
  refine WP.iand K at_66 (pc' := 67) rfl ?_
  refine WP.bipush K at_67 (v := (7 : Int32)) rfl (pc' := 69) rfl ?_
  refine WP.irem K at_69 (by decide) (pc' := 70) rfl ?_
  refine WP.istore K at_70 (L' := #[.val (.long p0), .second, .val (.int p1), .val (.int p2), .val (.int p3), .val (.ref b), .val (.int ((p1 &&& (2147483647 : Int32)) % (7 : Int32))), .unset, .unset, .unset, .unset]) rfl (pc' := 72) rfl ?_
  refine WP.iload K at_72 rfl (pc' := 74) rfl ?_
  refine WP.iloadN K at_74 rfl (pc' := 75) rfl ?_
  refine WP.ldcI K (w_1 hw) at_75 (pc' := 77) rfl ?_
  refine WP.iand K at_77 (pc' := 78) rfl ?_
  refine WP.bipush K at_78 (v := (7 : Int32)) rfl (pc' := 80) rfl ?_
  refine WP.iload K at_80 rfl (pc' := 82) rfl ?_
  refine WP.isub K at_82 (pc' := 83) rfl ?_
  have hst := own_start p1
  generalize e_st : ((p1 &&& (2147483647 : Int32)) % (7 : Int32)) = st at hst ⊢
  obtain ⟨s0, s1⟩ := hst
  refine WP.irem K at_83 (own_nz s0 s1) (pc' := 84) rfl ?_
  refine WP.iadd K at_84 (pc' := 85) rfl ?_
  refine WP.istore K at_85 (L' := #[.val (.long p0), .second, .val (.int p1), .val (.int p2), .val (.int p3), .val (.ref b), .val (.int st), .val (.int (st + ((p2 &&& (2147483647 : Int32)) % ((7 : Int32) - st)))), .unset, .unset, .unset]) rfl (pc' := 87) rfl ?_
  have hen := own_end p2 s0 s1
  generalize e_en : (st + ((p2 &&& (2147483647 : Int32)) % ((7 : Int32) - st))) = en at hen ⊢
  obtain ⟨t1, t2⟩ := hen
  refine WP.iload K at_87 rfl (pc' := 89) rfl ?_
  refine WP.iconst K at_89 (v := (1 : Int32)) rfl (pc' := 90) rfl ?_
  refine WP.iushr K at_90 (pc' := 91) rfl ?_
  refine WP.iconst K at_91 (v := (3 : Int32)) rfl (pc' := 92) rfl ?_
  refine WP.iand K at_92 (pc' := 93) rfl ?_
  refine WP.istore K at_93 (L' := #[.val (.long p0), .second, .val (.int p1), .val (.int p2), .val (.int p3), .val (.ref b), .val (.int st), .val (.int en), .val (.int ((((p3).toUInt32 >>> ((1 : Int32) &&& 31).toUInt32).toInt32) &&& (3 : Int32))), .unset, .unset]) rfl (pc' := 95) rfl ?_
  generalize e_pp : ((((p3).toUInt32 >>> ((1 : Int32) &&& 31).toUInt32).toInt32) &&& (3 : Int32)) = pp at ⊢
  obtain ⟨F, A_b⟩ := Ary.ints A_b (by decide)
  have J169 : ∀ (h : Heap) (F : Nat → Int32), Ary Z h b kA_b .byte 6 (fun i => .int (F i)) → Old Z n0 h → n0 ≤ h.size → WP κ h 1 6 (mkF κ.m 169 #[.val (.long p0), .second, .val (.int p1), .val (.int p2), .val (.int p3), .val (.ref b), .val (.int st), .val (.int en), .val (.int pp), .unset, .unset] []) := by
    intro h F A_b OLD Z0
    have J218 : ∀ ex : Int32, ex = own_bom F st en → WP κ h 1 6 (mkF κ.m 218 #[.val (.long p0), .second, .val (.int p1), .val (.int p2), .val (.int p3), .val (.ref b), .val (.int st), .val (.int en), .val (.int pp), .val (.int ex), .unset] []) := by
      intro ex hex
      refine WP.aload K at_218 rfl rfl (pc' := 220) rfl ?_
      refine WP.iload K at_220 rfl (pc' := 222) rfl ?_
      refine WP.iload K at_222 rfl (pc' := 224) rfl ?_
      refine WP.callS K (argsL := [(.ref b), (.int st), (.int en)]) (S := []) (w_2 hw) (w_3 hw) (rm_bom w l Z a0 hw b st en kA_b kM F mk G h n0 Z0 A_b s0 t1 t2 S_m A_m gm0 gm1 gm2 OLD) (w_5 hw) (w_4 hw) (by decide) rfl (lenOf pd_0 rfl) rfl (W := 0) rfl (by decide) (by decide) (k' := 1) (n' := 6) rfl rfl (by decide) (by decide) at_224 (pc' := 227) rfl fun v h8 hq => ?_
      obtain ⟨rfl, rfl⟩ := hq
      show WP κ h 1 6 (mkF κ.m 227 #[.val (.long p0), .second, .val (.int p1), .val (.int p2), .val (.int p3), .val (.ref b), .val (.int st), .val (.int en), .val (.int pp), .val (.int ex), .unset] [(.int (own_bom F st en))])
      refine WP.istore K at_227 (L' := #[.val (.long p0), .second, .val (.int p1), .val (.int p2), .val (.int p3), .val (.ref b), .val (.int st), .val (.int en), .val (.int pp), .val (.int ex), .val (.int (own_bom F st en))]) rfl (pc' := 229) rfl ?_
      refine WP.iload K at_229 rfl (pc' := 231) rfl ?_
      refine WP.iload K at_231 rfl (pc' := 233) rfl ?_
      refine WP.icmpF K at_233 (teq hex.symm).2 (pc' := 236) rfl ?_
      refine WP.iconst K at_236 (v := (1 : Int32)) rfl (pc' := 237) rfl ?_
      refine WP.goto K at_237 (by decide) (pc' := 241) (by decide) ?_
      exact WP.retN K (ty := .boolean) (by decide) at_241 (by decide) (by decide) rfl
    refine WP.iconst K at_169 (v := (0 : Int32)) rfl (pc' := 170) rfl ?_
    refine WP.istore K at_170 (L' := #[.val (.long p0), .second, .val (.int p1), .val (.int p2), .val (.int p3), .val (.ref b), .val (.int st), .val (.int en), .val (.int pp), .val (.int (0 : Int32)), .unset]) rfl (pc' := 172) rfl ?_
    refine WP.iload K at_172 rfl (pc' := 174) rfl ?_
    refine WP.iload K at_174 rfl (pc' := 176) rfl ?_
    refine WP.isub K at_176 (pc' := 177) rfl ?_
    refine WP.iconst K at_177 (v := (3 : Int32)) rfl (pc' := 178) rfl ?_
    by_cases c3 : (en - st) < (3 : Int32)
    · refine WP.icmpT K at_178 (tlt c3).1 (by decide) (pc' := 218) (by decide) ?_
      exact J218 _ (by rw [own_bom, if_pos c3])
    · refine WP.icmpF K at_178 (flt c3).1 (pc' := 181) rfl ?_
      have hin := own_in s0 t1 t2 c3
      refine WP.aload K at_181 rfl rfl (pc' := 183) rfl ?_
      refine WP.iload K at_183 rfl (pc' := 185) rfl ?_
      refine WP.baload K (i := st.toInt.toNat + 0) A_b (by omega) (by omega) (v := (.int (F (st.toInt.toNat + 0)))) rfl at_185 (pc' := 186) rfl ?_
      refine WP.bipush K at_186 (v := (-17 : Int32)) rfl (pc' := 188) rfl ?_
      by_cases e0 : (F (st.toInt.toNat + 0)) = (-17 : Int32)
      · refine WP.icmpF K at_188 (teq e0).2 (pc' := 191) rfl ?_
        refine WP.aload K at_191 rfl rfl (pc' := 193) rfl ?_
        refine WP.iload K at_193 rfl (pc' := 195) rfl ?_
        refine WP.iconst K at_195 (v := (1 : Int32)) rfl (pc' := 196) rfl ?_
        refine WP.iadd K at_196 (pc' := 197) rfl ?_
        refine WP.baload K (i := st.toInt.toNat + 1) A_b (by rw [own_add (k := (1 : Int32)) (n := 1) rfl s0 (by omega) (by omega) (by omega)]; omega) (by omega) (v := (.int (F (st.toInt.toNat + 1)))) rfl at_197 (pc' := 198) rfl ?_
        refine WP.bipush K at_198 (v := (-69 : Int32)) rfl (pc' := 200) rfl ?_
        by_cases e1 : (F (st.toInt.toNat + 1)) = (-69 : Int32)
        · refine WP.icmpF K at_200 (teq e1).2 (pc' := 203) rfl ?_
          refine WP.aload K at_203 rfl rfl (pc' := 205) rfl ?_
          refine WP.iload K at_205 rfl (pc' := 207) rfl ?_
          refine WP.iconst K at_207 (v := (2 : Int32)) rfl (pc' := 208) rfl ?_
          refine WP.iadd K at_208 (pc' := 209) rfl ?_
          refine WP.baload K (i := st.toInt.toNat + 2) A_b (by rw [own_add (k := (2 : Int32)) (n := 2) rfl s0 (by omega) (by omega) (by omega)]; omega) (by omega) (v := (.int (F (st.toInt.toNat + 2)))) rfl at_209 (pc' := 210) rfl ?_
          refine WP.bipush K at_210 (v := (-65 : Int32)) rfl (pc' := 212) rfl ?_
          by_cases e2 : (F (st.toInt.toNat + 2)) = (-65 : Int32)
          · refine WP.icmpF K at_212 (teq e2).2 (pc' := 215) rfl ?_
            refine WP.iconst K at_215 (v := (3 : Int32)) rfl (pc' := 216) rfl ?_
            refine WP.istore K at_216 (L' := #[.val (.long p0), .second, .val (.int p1), .val (.int p2), .val (.int p3), .val (.ref b), .val (.int st), .val (.int en), .val (.int pp), .val (.int (3 : Int32)), .unset]) rfl (pc' := 218) rfl ?_
            exact J218 _ (by rw [own_bom, if_neg c3, if_pos e0, if_pos e1, if_pos e2])
          · refine WP.icmpT K at_212 (feq e2).2 (by decide) (pc' := 218) (by decide) ?_
            exact J218 _ (by rw [own_bom, if_neg c3, if_pos e0, if_pos e1, if_neg e2])
        · refine WP.icmpT K at_200 (feq e1).2 (by decide) (pc' := 218) (by decide) ?_
          exact J218 _ (by rw [own_bom, if_neg c3, if_pos e0, if_neg e1])
      · refine WP.icmpT K at_188 (feq e0).2 (by decide) (pc' := 218) (by decide) ?_
        exact J218 _ (by rw [own_bom, if_neg c3, if_neg e0])
  have J145 : ∀ (h : Heap) (F : Nat → Int32), Ary Z h b kA_b .byte 6 (fun i => .int (F i)) → Old Z n0 h → n0 ≤ h.size → WP κ h 1 6 (mkF κ.m 145 #[.val (.long p0), .second, .val (.int p1), .val (.int p2), .val (.int p3), .val (.ref b), .val (.int st), .val (.int en), .val (.int pp), .unset, .unset] []) := by
    intro h F A_b OLD Z0
    refine WP.iload K at_145 rfl (pc' := 147) rfl ?_
    refine WP.iconst K at_147 (v := (2 : Int32)) rfl (pc' := 148) rfl ?_
    by_cases c9 : (2 : Int32) < pp
    · refine WP.icmpF K at_148 (tlt c9).2.2.2 (pc' := 151) rfl ?_
      refine WP.iload K at_151 rfl (pc' := 153) rfl ?_
      refine WP.iconst K at_153 (v := (2 : Int32)) rfl (pc' := 154) rfl ?_
      refine WP.iadd K at_154 (pc' := 155) rfl ?_
      refine WP.bipush K at_155 (v := (6 : Int32)) rfl (pc' := 157) rfl ?_
      by_cases c10 : (st + (2 : Int32)) < (6 : Int32)
      · refine WP.icmpF K at_157 (tlt c10).2.1 (pc' := 160) rfl ?_
        rw [Int32.lt_iff_toInt_lt, own_add (k := (2 : Int32)) (n := 2) rfl s0 s1 (by omega) (by omega), show (6 : Int32).toInt = 6 from by decide] at c10
        refine WP.aload K at_160 rfl rfl (pc' := 162) rfl ?_
        refine WP.iload K at_162 rfl (pc' := 164) rfl ?_
        refine WP.iconst K at_164 (v := (2 : Int32)) rfl (pc' := 165) rfl ?_
        refine WP.iadd K at_165 (pc' := 166) rfl ?_
        refine WP.bipush K at_166 (v := (-65 : Int32)) rfl (pc' := 168) rfl ?_
        refine WP.bastore K (i := (st.toInt.toNat + 2)) A_b (by rw [own_add (k := (2 : Int32)) (n := 2) rfl s0 s1 (by omega) (by omega)]; omega) (by omega) old_b at_168 (pc' := 169) rfl fun h11 W11 A_n => ?_
        have OLD := Old.wr OLD W11 old_b
        have Z0 := Nat.le_trans Z0 (Nat.le_of_eq W11.size.symm)
        have A_b := A_n
        obtain ⟨F, A_b⟩ := Ary.ints A_b (by decide)
        exact J169 _ _ A_b OLD Z0
      · refine WP.icmpT K at_157 (flt c10).2.1 (by decide) (pc' := 169) (by decide) ?_
        exact J169 _ _ A_b OLD Z0
    · refine WP.icmpT K at_148 (flt c9).2.2.2 (by decide) (pc' := 169) (by decide) ?_
      exact J169 _ _ A_b OLD Z0
  have J121 : ∀ (h : Heap) (F : Nat → Int32), Ary Z h b kA_b .byte 6 (fun i => .int (F i)) → Old Z n0 h → n0 ≤ h.size → WP κ h 1 6 (mkF κ.m 121 #[.val (.long p0), .second, .val (.int p1), .val (.int p2), .val (.int p3), .val (.ref b), .val (.int st), .val (.int en), .val (.int pp), .unset, .unset] []) := by
    intro h F A_b OLD Z0
    refine WP.iload K at_121 rfl (pc' := 123) rfl ?_
    refine WP.iconst K at_123 (v := (1 : Int32)) rfl (pc' := 124) rfl ?_
    by_cases c12 : (1 : Int32) < pp
    · refine WP.icmpF K at_124 (tlt c12).2.2.2 (pc' := 127) rfl ?_
      refine WP.iload K at_127 rfl (pc' := 129) rfl ?_
      refine WP.iconst K at_129 (v := (1 : Int32)) rfl (pc' := 130) rfl ?_
      refine WP.iadd K at_130 (pc' := 131) rfl ?_
      refine WP.bipush K at_131 (v := (6 : Int32)) rfl (pc' := 133) rfl ?_
      by_cases c13 : (st + (1 : Int32)) < (6 : Int32)
      · refine WP.icmpF K at_133 (tlt c13).2.1 (pc' := 136) rfl ?_
        rw [Int32.lt_iff_toInt_lt, own_add (k := (1 : Int32)) (n := 1) rfl s0 s1 (by omega) (by omega), show (6 : Int32).toInt = 6 from by decide] at c13
        refine WP.aload K at_136 rfl rfl (pc' := 138) rfl ?_
        refine WP.iload K at_138 rfl (pc' := 140) rfl ?_
        refine WP.iconst K at_140 (v := (1 : Int32)) rfl (pc' := 141) rfl ?_
        refine WP.iadd K at_141 (pc' := 142) rfl ?_
        refine WP.bipush K at_142 (v := (-69 : Int32)) rfl (pc' := 144) rfl ?_
        refine WP.bastore K (i := (st.toInt.toNat + 1)) A_b (by rw [own_add (k := (1 : Int32)) (n := 1) rfl s0 s1 (by omega) (by omega)]; omega) (by omega) old_b at_144 (pc' := 145) rfl fun h14 W14 A_n => ?_
        have OLD := Old.wr OLD W14 old_b
        have Z0 := Nat.le_trans Z0 (Nat.le_of_eq W14.size.symm)
        have A_b := A_n
        obtain ⟨F, A_b⟩ := Ary.ints A_b (by decide)
        exact J145 _ _ A_b OLD Z0
      · refine WP.icmpT K at_133 (flt c13).2.1 (by decide) (pc' := 145) (by decide) ?_
        exact J145 _ _ A_b OLD Z0
    · refine WP.icmpT K at_124 (flt c12).2.2.2 (by decide) (pc' := 145) (by decide) ?_
      exact J145 _ _ A_b OLD Z0
  have J102 : ∀ (h : Heap) (F : Nat → Int32), Ary Z h b kA_b .byte 6 (fun i => .int (F i)) → Old Z n0 h → n0 ≤ h.size → WP κ h 1 6 (mkF κ.m 102 #[.val (.long p0), .second, .val (.int p1), .val (.int p2), .val (.int p3), .val (.ref b), .val (.int st), .val (.int en), .val (.int pp), .unset, .unset] []) := by
    intro h F A_b OLD Z0
    refine WP.iload K at_102 rfl (pc' := 104) rfl ?_
    by_cases c15 : (0 : Int32) < pp
    · refine WP.if0F K at_104 ((if0 _ _).trans (tlt c15).2.2.2) (pc' := 107) rfl ?_
      refine WP.iload K at_107 rfl (pc' := 109) rfl ?_
      refine WP.bipush K at_109 (v := (6 : Int32)) rfl (pc' := 111) rfl ?_
      by_cases c16 : st < (6 : Int32)
      · refine WP.icmpF K at_111 (tlt c16).2.1 (pc' := 114) rfl ?_
        rw [Int32.lt_iff_toInt_lt, show (6 : Int32).toInt = 6 from by decide] at c16
        refine WP.aload K at_114 rfl rfl (pc' := 116) rfl ?_
        refine WP.iload K at_116 rfl (pc' := 118) rfl ?_
        refine WP.bipush K at_118 (v := (-17 : Int32)) rfl (pc' := 120) rfl ?_
        refine WP.bastore K (i := (st.toInt.toNat + 0)) A_b (by omega) (by omega) old_b at_120 (pc' := 121) rfl fun h17 W17 A_n => ?_
        have OLD := Old.wr OLD W17 old_b
        have Z0 := Nat.le_trans Z0 (Nat.le_of_eq W17.size.symm)
        have A_b := A_n
        obtain ⟨F, A_b⟩ := Ary.ints A_b (by decide)
        exact J121 _ _ A_b OLD Z0
      · refine WP.icmpT K at_111 (flt c16).2.1 (by decide) (pc' := 121) (by decide) ?_
        exact J121 _ _ A_b OLD Z0
    · refine WP.if0T K at_104 ((if0 _ _).trans (flt c15).2.2.2) (by decide) (pc' := 121) (by decide) ?_
      exact J121 _ _ A_b OLD Z0
  refine WP.iload K at_95 rfl (pc' := 97) rfl ?_
  refine WP.iconst K at_97 (v := (1 : Int32)) rfl (pc' := 98) rfl ?_
  refine WP.iand K at_98 (pc' := 99) rfl ?_
  by_cases c18 : (p3 &&& (1 : Int32)) = (0 : Int32)
  · refine WP.if0T K at_99 ((if0 _ _).trans (teq c18).1) (by decide) (pc' := 169) (by decide) ?_
    exact J169 _ _ A_b OLD Z0
  · refine WP.if0F K at_99 ((if0 _ _).trans (feq c18).1) (pc' := 102) rfl ?_
    exact J102 _ _ A_b OLD Z0
set_option maxRecDepth 65536 in
set_option maxHeartbeats 40000000 in
theorem comes_1 {Post : Tables → Env → Array Value → State → Outcome → State → Prop} (hpost : ∀ tb e args s v u, (limb_1_1.after args s (.returned v) u = true ∧ limb_1_2.after args s (.returned v) u = true ∧ True) → FrameEnd s (.returned v) u (Jvm.fieldLocs frame_1_writes args s ++ Jvm.arrayLocs frame_1_arrays args s ++ Jvm.staticLocs frame_1_statics s) 16 128 → Post tb e args s (.returned v) u) :
    ArmFor flags0 classFile x code maxLocals ret World_1 tables_1 room_1 Calls_1 rest_1 Pre_1 Post := by
  intro l hfl _ _ p e ha hc hk s m args below hf hA hF happ hP
  obtain ⟨hcalls, hrest, hpre⟩ := hP
  obtain ⟨-, -, -, hnamed, -, -, -, hat⟩ := (Spec.applies_iff hf).mp happ
  obtain ⟨hg, hn⟩ := and_e (Cond.before_iff.mp (show (Jvm.Cond.and given_1 narrow_1).before args s = true from hpre))
  obtain ⟨q0, r0⟩ := and_e hg
  obtain ⟨q1, r1⟩ := and_e r0
  obtain ⟨q2, r2⟩ := and_e r1
  obtain ⟨q3, r3⟩ := and_e r2
  obtain ⟨v0, v1, v2, v3, rfl⟩ : ∃ v0 v1 v2 v3 : Value, args = #[v0, v1, v2, v3] := by
    have hs : args.size = 4 := by simpa [Cond.value, given_1] using q0
    obtain ⟨L⟩ := args
    match L, hs with
    | [v0, v1, v2, v3], _ => exact ⟨v0, v1, v2, v3, rfl⟩
  have hw := fun d (hd : d ∈ tables_1) => atoms_spec (ws := Jvm.Cond.code x code maxLocals ret :: tables_1) hat d (List.mem_cons_of_mem _ hd)
  have hfit : Fit s := fun {y c} hc i hi => by
    obtain ⟨ha, rfl⟩ := Array.getElem?_eq_some_iff.mp hc
    have q := List.all_eq_true.mp ((Array.all_eq_true_iff_forall_mem.mp hF) _ (Array.getElem_mem ha)) i (List.mem_range.mpr hi)
    simpa [Array.getElem?_eq_getElem hi] using q
  obtain ⟨i0, ei0⟩ := isL_v q1
  obtain rfl : v0 = (.long i0) := Option.some.inj ei0
  obtain ⟨i1, ei1⟩ := is_v q2
  obtain rfl : v1 = (.int i1) := Option.some.inj ei1
  obtain ⟨i2, ei2⟩ := is_v q3
  obtain rfl : v2 = (.int i2) := Option.some.inj ei2
  obtain ⟨i3, ei3⟩ := is_v r3
  obtain rfl : v3 = (.int i3) := Option.some.inj ei3
  obtain ⟨m0, m1⟩ := and_e hn
  obtain ⟨m2, m3⟩ := and_e m1
  obtain ⟨m4, m5⟩ := and_e m3
  obtain ⟨m6, m7⟩ := and_e m5
  obtain ⟨mk, kM, G, S_m, A_m, hG⟩ := static_ary (N := 3) hfit (w_7 hw) (w_4 hw) (ty := .byte) (by decide) m0 m2 rfl
  obtain ⟨n, o, h1, h2, h3, _, L, rfl, ⟨rfl, N⟩, hq⟩ := rm_law false l s _ hw i0 i1 i2 i3 s.heap s.heap.size (Nat.le_refl _) mk kM G S_m A_m (hG 0 0 (-17) rfl (by decide) m4) (hG 1 1 (-69) rfl (by decide) m6) (hG 2 2 (-65) rfl (by decide) m7) (Old.start s) p e ha hc hk s m _ below hf ((Spec.applies_iff_loose hf).mp happ).1 ⟨rfl, State.Warmed39.refl s, rfl⟩ trivial
  refine ⟨n, _, h1, h2, h3, hpost _ _ _ _ _ _ ⟨Cond.after_iff.mpr rfl, Cond.after_iff.mpr (eq_i res_at (Term.int_eval (1)) rfl), trivial⟩ ⟨hq.1, hq.2.1, (hq.2.2.sift fun y hy => Or.inr (N y hy)).mono (by decide) (by decide)⟩⟩
theorem main_1_1 : Claimed_1_1 := comes_1 fun _ _ _ _ _ _ h hF => ⟨h.1, hF⟩
theorem main_1_2 : Claimed_1_2 := comes_1 fun _ _ _ _ _ _ h hF => ⟨h.2.1, hF⟩
end Jvm.Pilot.@@N@@
namespace Jvm.Pilot.@@N@@
open Jvm Jvm.ClassFile Sem Op Lib Jvm.Free Jvm.Stand Jvm.Pilot.@@N@@.Jvm.D
/-! MADE BY PROGRAM (witnessworld.py) out of the Statement's table words and the real class files: 9 classes; the members and pool entries that the words name. The judged class is class 1, her method 1. -/
namespace start1
open Jvm.ClassFile
def u (s : String) : CpInfo := .utf8 (stringToUtf16 s)
/-- a pool by its gaps: so many unusable entries, then the entry; so many at the end -/
def gap : Nat → List CpInfo → List CpInfo
  | 0, r => r
  | n + 1, r => .unusable :: gap n r
def poolList (es : List (Nat × CpInfo)) (last : Nat) : List CpInfo := es.foldr (fun e r => gap e.1 (e.2 :: r)) (gap last [])
def pool (es : List (Nat × CpInfo)) (last : Nat) : Array CpInfo := ⟨poolList es last⟩
def fileOf (pool : Array CpInfo) (this : Nat) (attrs : Array Attribute := #[]) (ms : Array MethodInfo := #[]) (fl : Nat := 33) (sup : Nat := 0) (ifs : Array Nat := #[]) (fds : Array FieldInfo := #[]) : ClassFile where
  minorVersion := 0
  majorVersion := 65
  constantPool := pool
  accessFlags := fl
  thisClass := this
  superClass := sup
  interfaces := ifs
  fields := fds
  methods := ms
  attributes := attrs
def plain (name : String) (sup : Option ClassId) : Class where
  name := name
  kind := .ordinary
  loader := none
  accessFlags := 33
  super := sup
  interfaces := #[]
  cf := none
  fields := #[]
  methods := #[]
  instanceTypes := #[]
  staticTypes := #[]
  resolved := #[]
  callSites := []
  init := .initialized
  statics := none
  mirror := none

def pool0 : Array CpInfo := pool [(5, u "<init>"), (0, u "()V"), (1, .class_ 10), (1, u "java/lang/Object")] 113

def k0m0 : Method := { name := "<init>", desc := "()V", sig := { parameters := [], returnType := none }, accessFlags := 1, code := none }
/-- java/lang/Object -/
def k0 : Class := { plain "java/lang/Object" none with
  accessFlags := 33
  interfaces := #[]
  cf := some (fileOf pool0 8 #[] #[{ accessFlags := 1, nameIndex := 5, descriptorIndex := 6, attributes := #[] }] 33 0 #[] #[])
  fields := #[]
  methods := #[k0m0]
  instanceTypes := #[]
  staticTypes := #[]
  resolved := Array.replicate 124 none
  statics := none }

def pool1 : Array CpInfo := pool [(2, .class_ 4), (1, u "java/lang/Object"), (0, u "<init>"), (0, u "()V"), (0, .integer 2147483647), (0, .methodref 9 10), (0, .class_ 11), (0, .nameAndType 12 13), (0, u "com/example/vestline/vestline/Utf8"), (0, u "byteOrderMarkLength"), (0, u "([BII)I"), (0, .class_ 15), (0, u "com/example/vestline/vestline/Utf8ByteOrderMarkLengthPinLaw"), (2, u "law"), (0, u "(JIII)Z")] 5

def k1m0 : Method := { name := "<init>", desc := "()V", sig := { parameters := [], returnType := none }, accessFlags := 2, code := none }
def k1c1 : Code := { maxStack := 5, maxLocals := 11, code := code, exceptionTable := #[], attributes := #[] }
def k1m1 : Method := { name := "law", desc := "(JIII)Z", sig := { parameters := [.long, .int, .int, .int], returnType := some .boolean }, accessFlags := 9, code := some k1c1 }
/-- com/example/vestline/vestline/Utf8ByteOrderMarkLengthPinLaw -/
def k1 : Class := { plain "com/example/vestline/vestline/Utf8ByteOrderMarkLengthPinLaw" (some 0) with
  accessFlags := 49
  interfaces := #[]
  cf := some (fileOf pool1 14 #[] #[{ accessFlags := 2, nameIndex := 5, descriptorIndex := 6, attributes := #[] }, { accessFlags := 9, nameIndex := 18, descriptorIndex := 19, attributes := #[] }] 49 2 #[] #[])
  fields := #[]
  methods := #[k1m0, k1m1]
  instanceTypes := #[]
  staticTypes := #[]
  resolved := Array.replicate 25 none
  statics := none }

def pool2 : Array CpInfo := pool [(2, .class_ 4), (1, u "java/lang/Object"), (0, u "<init>"), (0, u "()V"), (0, .fieldref 8 9), (0, .class_ 10), (0, .nameAndType 11 12), (0, u "com/example/vestline/vestline/Utf8"), (0, u "BYTE_ORDER_MARK"), (0, u "[B"), (20, u "ESCAPES"), (0, u "C"), (3, u "byteOrderMarkLength"), (0, u "([BII)I"), (7, .class_ 48), (0, u "com/example/vestline/vestline/Utf8$Text")] 2

def k2m0 : Method := { name := "<init>", desc := "()V", sig := { parameters := [], returnType := none }, accessFlags := 2, code := none }
def k2c1 : Code := { maxStack := 3, maxLocals := 4, code := prog_51_method_2_code, exceptionTable := #[], attributes := #[] }
def k2m1 : Method := { name := "byteOrderMarkLength", desc := "([BII)I", sig := { parameters := [(.array .byte), .int, .int], returnType := some .int }, accessFlags := 8, code := some k2c1 }
/-- com/example/vestline/vestline/Utf8 -/
def k2 : Class := { plain "com/example/vestline/vestline/Utf8" (some 0) with
  accessFlags := 32
  interfaces := #[]
  cf := some (fileOf pool2 8 #[.nestMembers #[47]] #[{ accessFlags := 2, nameIndex := 5, descriptorIndex := 6, attributes := #[] }, { accessFlags := 8, nameIndex := 38, descriptorIndex := 39, attributes := #[] }] 32 2 #[] #[{ accessFlags := 26, nameIndex := 11, descriptorIndex := 12, attributes := #[] }, { accessFlags := 26, nameIndex := 33, descriptorIndex := 34, attributes := #[] }])
  fields := #[{ name := "BYTE_ORDER_MARK", type := (.array .byte), accessFlags := 26, slot := 0, constantValue := 0 }, { name := "ESCAPES", type := .char, accessFlags := 26, slot := 1, constantValue := 0 }]
  methods := #[k2m0, k2m1]
  instanceTypes := #[]
  staticTypes := #[(.array .byte), .char]
  resolved := Array.replicate 51 none
  statics := some 0 }

def pool3 : Array CpInfo := pool [(1, u "java/lang/Cloneable"), (0, .class_ 1), (0, u "java/lang/Object"), (0, .class_ 3)] 3

/-- java/lang/Cloneable -/
def k3 : Class := { plain "java/lang/Cloneable" (some 0) with
  accessFlags := 1537
  interfaces := #[]
  cf := some (fileOf pool3 2 #[] #[] 1537 4 #[] #[])
  fields := #[]
  methods := #[]
  instanceTypes := #[]
  staticTypes := #[]
  resolved := Array.replicate 8 none
  statics := none }

def pool4 : Array CpInfo := pool [(1, u "java/io/Serializable"), (0, .class_ 1), (0, u "java/lang/Object"), (0, .class_ 3)] 3

/-- java/io/Serializable -/
def k4 : Class := { plain "java/io/Serializable" (some 0) with
  accessFlags := 1537
  interfaces := #[]
  cf := some (fileOf pool4 2 #[] #[] 1537 4 #[] #[])
  fields := #[]
  methods := #[]
  instanceTypes := #[]
  staticTypes := #[]
  resolved := Array.replicate 8 none
  statics := none }

/-- the primitive byte -/
def k5 : Class := { plain "byte" none with kind := .primitive 'B', accessFlags := 0x411 }
/-- [B -/
def k6 : Class := { plain "[B" (some 0) with kind := .array 5 .byte, interfaces := #[3, 4], accessFlags := 1041 }

/-- the primitive int -/
def k7 : Class := { plain "int" none with kind := .primitive 'I', accessFlags := 0x411 }
/-- [I -/
def k8 : Class := { plain "[I" (some 0) with kind := .array 7 .int, interfaces := #[3, 4], accessFlags := 1041 }

def heap : Heap := #[{ cls := 2, slots := #[.ref 1, .int 0], vm := .statics 2 },
  { cls := 6, slots := #[.int (-17), .int (-69), .int (-65)], vm := .none }]
def classes : Array Class := #[k0, k1, k2, k3, k4, k5, k6, k7, k8]
def interned : List (Array UInt16 × Addr) := []
def slotsUsed : Nat := 5
def theMethod : MethodId := ⟨1, 1⟩
def args0 : Array Value := #[.long 5, .int 1, .int 3, .int 4]
def aboutOver (below : List Frame) : State where
  vm := { classes := classes, interned := interned.toArray }
  heap := heap
  slotsUsed := slotsUsed
  threads := #[{ frames := .invoking theMethod args0 :: below }]
def below0 : List Frame := [.native { method := ⟨0, 0⟩, args := #[] }]
def about1 : State := aboutOver below0
def p0 : Program := .bare "" "" ""
def e0 : Env := launch0.env 0 0 0
theorem w_frames : about1.frames = Frame.invoking theMethod args0 :: below0 := rfl
set_option maxRecDepth 65536 in
theorem w_args : argsFit about1.vm theMethod args0 = true := by decide +kernel
set_option maxRecDepth 65536 in
theorem w_heap : heapFits about1 = true := by decide +kernel
set_option maxRecDepth 65536 in
theorem w_runnable : about1.curStatus? = some .runnable := by decide +kernel
set_option maxRecDepth 65536 in
theorem w_alone : about1.alone = true := by decide +kernel
set_option maxRecDepth 65536 in
theorem w_named : about1.methodNamed? x = some theMethod := by decide +kernel
set_option maxRecDepth 65536 in
theorem w_hears : about1.hears theMethod below0 = true := by decide +kernel
set_option maxRecDepth 65536 in
theorem w_ripe : about1.ripe theMethod args0 below0 = true := by decide +kernel
theorem w_running : about1.status = .running := rfl
set_option maxRecDepth 65536 in
theorem w_room : about1.hasRoom e0.platform room_1 = true :=
  launch0.hasRoom_least _ room_1 (by decide +kernel) (by decide +kernel) (by decide +kernel) (by decide +kernel) (by decide +kernel) (by decide +kernel)
theorem allAtoms_all (ts : List Jvm.Cond) (a : Array Jvm.Value) (st : Jvm.State) : (allAtoms ts).before a st = ts.all (fun c => c.before a st) := by
  induction ts with
  | nil => rfl
  | cons c t ih =>
    show (Jvm.Cond.and c (allAtoms t)).before a st = _
    rw [Jvm.Cond.before_and, ih, List.all_cons]
def words1 : List Jvm.Cond := Jvm.Cond.code x code maxLocals ret :: tables_1
/-- a 'code' word, met by the world's own term for the bytes: nothing is compared byte by byte -/
theorem code_word {y : MethodName} {bytes : ByteArray} {mx : Nat} {rt : Option FieldType} {a : Array Value} {s : State} {m : MethodId} {meth : Method} {c : Code} (h1 : s.methodNamed? y = some m) (h2 : s.vm.method? m = some meth) (h3 : meth.code = some c) (h4 : c.code = bytes)
    (h5 : (c.maxLocals == mx && c.exceptionTable.isEmpty && decide (c.maxStack ≤ mostOperands) && decide (meth.sig.returnType = rt) && !meth.locks && decide (parseMethodDescriptor y.desc = some meth.sig)) = true) : (Jvm.Cond.code y bytes mx rt).before a s = true := by
  simp only [Bool.and_eq_true, beq_iff_eq, Bool.not_eq_true', decide_eq_true_eq] at h5
  obtain ⟨⟨⟨⟨⟨g1, g2⟩, g3⟩, g4⟩, g5⟩, g6⟩ := h5
  simp [Cond.before, Cond.holds, Cond.value, h1, h2, h3, h4, g1, g2, g3, g4, g5, g6]
def isCode : Jvm.Cond → Bool
  | .code _ _ _ _ => true
  | _ => false
theorem all_split {L : List Jvm.Cond} {P : Jvm.Cond → Bool} (h1 : L.all (fun c => isCode c || P c) = true) (h2 : ∀ c ∈ L.filter isCode, P c = true) : L.all P = true := by
  refine List.all_eq_true.mpr fun c hc => ?_
  have h := List.all_eq_true.mp h1 c hc
  rcases Bool.eq_false_or_eq_true (isCode c) with hi | hi
  · exact h2 c (List.mem_filter.mpr ⟨hc, hi⟩)
  · simpa [hi] using h
set_option maxRecDepth 65536 in
theorem w_c0 : (Jvm.Cond.code x code maxLocals ret).before args0 about1 = true := code_word (m := ⟨1, 1⟩) (meth := k1m1) (c := k1c1) (by decide +kernel) rfl rfl rfl (by decide +kernel)
set_option maxRecDepth 65536 in
theorem w_c1 : (Jvm.Cond.code ({ cls := "com/example/vestline/vestline/Utf8", name := "byteOrderMarkLength", desc := "([BII)I" } : Jvm.MethodName) prog_51_method_2_code (4 : Nat) (Option.some Jvm.ClassFile.FieldType.int)).before args0 about1 = true := code_word (m := ⟨2, 1⟩) (meth := k2m1) (c := k2c1) (by decide +kernel) rfl rfl rfl (by decide +kernel)
def codes1 : List Jvm.Cond := [Jvm.Cond.code x code maxLocals ret, Jvm.Cond.code ({ cls := "com/example/vestline/vestline/Utf8", name := "byteOrderMarkLength", desc := "([BII)I" } : Jvm.MethodName) prog_51_method_2_code (4 : Nat) (Option.some Jvm.ClassFile.FieldType.int)]
set_option maxRecDepth 65536 in
theorem codes_eq : words1.filter isCode = codes1 := rfl
theorem w_codes : ∀ c ∈ words1.filter isCode, c.before args0 about1 = true := by
  rw [codes_eq]
  intro c hc
  simp only [codes1, List.mem_cons, List.not_mem_nil, or_false] at hc
  rcases hc with rfl | rfl
  · exact w_c0
  · exact w_c1
set_option maxRecDepth 65536 in
theorem w_t1 : words1.all (fun c => isCode c || c.before args0 about1) = true := by decide +kernel
theorem w_tables : (allAtoms (Jvm.Cond.code x code maxLocals ret :: tables_1)).before args0 about1 = true := by
  rw [allAtoms_all]
  show words1.all (fun c => c.before args0 about1) = true
  refine all_split ?_ w_codes
  rw [w_t1]
set_option maxRecDepth 65536 in
theorem w_case : (Jvm.Cond.and given_1 narrow_1).before args0 about1 = true := by decide +kernel
theorem w_applies : (headSpec (Jvm.Cond.code x code maxLocals ret :: tables_1) room_1).applies x e0.platform about1 = true :=
  (Spec.applies_iff w_frames).mpr ⟨w_running, w_runnable, w_alone, w_named, w_hears, w_ripe, w_room, w_tables⟩
theorem atStart : AtStart classFile x code maxLocals ret World_1 tables_1 room_1 Calls_1 rest_1 Pre_1 launch0 p0 e0 about1 theMethod args0 below0 :=
  ⟨lists_1, trivial, launch0.admits_env _ _ _, launch0.least_env, fairChoices_fair.cas, fairChoices_fair.clock, w_frames, w_args, w_heap, w_applies, trivial, trivial, w_case⟩
end start1
theorem witness_1 : WitnessClaimed_1 := ⟨start1.p0, start1.e0, start1.about1, start1.theMethod, start1.args0, start1.below0, start1.atStart⟩
end Jvm.Pilot.@@N@@
