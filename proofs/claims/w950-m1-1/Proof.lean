import JvmDerived
import JvmDerived.Pilot.@@N@@Statement
import JvmDerived.Pilot.@@N@@Code
set_option linter.unusedVariables false
set_option linter.unusedSimpArgs false
namespace Jvm.OwnW
open Sem ClassFile Op Lib Jvm.Stand Jvm.Free Jvm.LawKit Jvm.RoadKit
/-- false: nothing may have been interned; true: the wide word -/
def Md (w : Bool) (s : State) (vm0 : Vm) (n : Nat) : Prop := (w = false → vm0 = s.vm) ∧ ∃ k0, s.Since vm0 k0 ∧ k0 ≤ n
theorem Md.mono {w : Bool} {s : State} {vm0 : Vm} {n n' : Nat} (h : Md w s vm0 n) (q : n ≤ n') : Md w s vm0 n' := ⟨h.1, h.2.imp fun _ r => ⟨r.1, Nat.le_trans r.2 q⟩⟩
theorem Md.start (w : Bool) (s : State) (n : Nat) : Md w s s.vm n := ⟨fun _ => rfl, 0, (State.WarmedH.refl s).since 0, Nat.zero_le _⟩
def EndF (w : Bool) (s : State) (o : Outcome) (t : State) (L : List Loc) (k n : Nat) : Prop := match w with
  | false => FrameEnd s o t L k n
  | true => ReturnedEndW s o t L k n
abbrev Kx : Type := Bool × Program × Launch × Env × Room × State × MethodId × Array Value × List Frame × Method × Code × State × String × Nat × (Option Value → Heap → Prop)
abbrev Kx.w (κ : Kx) : Bool := κ.1
abbrev Kx.p (κ : Kx) : Program := κ.2.1
abbrev Kx.l (κ : Kx) : Launch := κ.2.2.1
abbrev Kx.e (κ : Kx) : Env := κ.2.2.2.1
abbrev Kx.R (κ : Kx) : Room := κ.2.2.2.2.1
abbrev Kx.s (κ : Kx) : State := κ.2.2.2.2.2.1
abbrev Kx.m (κ : Kx) : MethodId := κ.2.2.2.2.2.2.1
abbrev Kx.a (κ : Kx) : Array Value := κ.2.2.2.2.2.2.2.1
abbrev Kx.below (κ : Kx) : List Frame := κ.2.2.2.2.2.2.2.2.1
abbrev Kx.meth (κ : Kx) : Method := κ.2.2.2.2.2.2.2.2.2.1
abbrev Kx.c (κ : Kx) : Code := κ.2.2.2.2.2.2.2.2.2.2.1
abbrev Kx.Z (κ : Kx) : State := κ.2.2.2.2.2.2.2.2.2.2.2.1
abbrev Kx.own (κ : Kx) : String := κ.2.2.2.2.2.2.2.2.2.2.2.2.1
abbrev Kx.n0 (κ : Kx) : Nat := κ.2.2.2.2.2.2.2.2.2.2.2.2.2.1
abbrev Kx.Q (κ : Kx) : Option Value → Heap → Prop := κ.2.2.2.2.2.2.2.2.2.2.2.2.2.2
/-- the body's run from T with the frame g ends as κ.Q says -/
def Ends (κ : Kx) (T : State) (g : JFrame) : Prop := ∃ (t : State) (o : Outcome), Steps κ.p.tables κ.e κ.below (T.setTop g) t ∧ t.status = .running ∧ Ended t κ.below o ∧ ∃ v L, o = .returned v ∧ (κ.Q v t.heap ∧ Fr κ.n0 L) ∧ EndF κ.w κ.s o t L κ.R.cells κ.R.slots
def WP (κ : Kx) (h : Heap) (k n : Nat) (g : JFrame) : Prop :=
  ∀ (T : State) (locs : List Loc) (vm0 : Vm), Stand κ.p κ.l κ.e κ.R (κ.s.setVm vm0) κ.m κ.a κ.below κ.meth κ.c T locs k n → T.heap = h → Md κ.w κ.s vm0 h.size → κ.Z.Warmed39 vm0 → vm0.findClass κ.own = some κ.m.cls → Fr κ.n0 locs → Ends κ T g
/-- what stands fast through a body's walk -/
def Cx (κ : Kx) (w : Bool) (l : Launch) (Z : State) (own : String) (n0 : Nat) (rm : Room) (bytes : ByteArray) (maxL : Nat) (ret : Option FieldType) (nm : String) (Q : Option Value → Heap → Prop) : Prop :=
  κ.p.tables.exec = Jvm.exec ∧ κ.c.code = bytes ∧ κ.c.maxLocals = maxL ∧ κ.meth.sig.returnType = ret ∧ κ.meth.locks = false ∧ κ.meth.name = nm ∧ κ.w = w ∧ κ.l = l ∧ κ.Z = Z ∧ κ.own = own ∧ κ.n0 = n0 ∧ κ.R = rm ∧ κ.Q = Q
/-- a body's contract -/
def Met (w : Bool) (l : Launch) (Z : State) (y : MethodName) (bytes : ByteArray) (maxL : Nat) (ret : Option FieldType) (ws : List Cond) (rm : Room) (as' : Array Value) (h0 : Heap) (n0 : Nat) (Q : Option Value → Heap → Prop) : Prop :=
  MetFree l y (head1 (Cond.code y bytes maxL ret :: ws) rm) (fun a U => a = as' ∧ Z.Warmed39 U.vm ∧ U.heap = h0) (fun _ _ _ _ _ => True) (fun _ U o U' => ∃ v L, o = .returned v ∧ (Q v U'.heap ∧ Fr n0 L) ∧ EndF w U o U' L rm.cells rm.slots)
theorem Met.of {w : Bool} {l : Launch} {Z : State} {y : MethodName} {bytes : ByteArray} {maxL : Nat} {ret : Option FieldType} {ws : List Cond} {rm : Room} {as' : Array Value} {h0 : Heap} {n0 : Nat} {Q : Option Value → Heap → Prop} (hp : plainFor y = true)
    (body : ∀ κ : Kx, Cx κ w l Z y.cls n0 rm bytes maxL ret y.name Q → WP κ h0 0 0 (entryFrame κ.m as' maxL)) : Met w l Z y bytes maxL ret ws rm as' h0 n0 Q := by
  refine MetFree.of_bodySF hp hisR ?_
  intro p e s m args below meth c s₁ Bd hml0 hP hK
  obtain ⟨rfl, hZ, hh⟩ := hP
  exact body (w, p, l, e, rm, s, m, args, below, meth, c, Z, y.cls, n0, Q) ⟨Bd.exec, Bd.bytes, hml0, Bd.returns, Bd.notSynchronized, (name_of_methodNamed Bd.named Bd.method).1, rfl, rfl, rfl, rfl, rfl, rfl, rfl⟩ s₁ [] s.vm (Stand.of_body Bd) (by rw [← hh, Bd.state]; rfl) (Md.start _ _ _) hZ (findClass_of_methodNamed Bd.named) (Fr.nil n0)
theorem EndF.widen {w : Bool} {s : State} {o : Outcome} {t : State} {L : List Loc} {k n : Nat} (h : EndF w s o t L k n) : ReturnedEndW s o t L k n := by
  cases w
  · exact ReturnedEndW.of_narrow h.1 h.2.1 h.2.2
  · exact h
section Rules
variable {κ : Kx} {w : Bool} {l : Launch} {Z : State} {own nm : String} {n0 : Nat} {rm : Room} {bytes : ByteArray} {maxL : Nat} {ret : Option FieldType} {Q : Option Value → Heap → Prop} {h h' : Heap} {k n k' n' : Nat} {pc pc' : Nat} {L L' : Array Slot} {S : List Value} {a0 : Array Value}
theorem WP.go {g g' : JFrame} (st : ∀ (T : State) (locs : List Loc) (vm0 : Vm), Stand κ.p κ.l κ.e κ.R (κ.s.setVm vm0) κ.m κ.a κ.below κ.meth κ.c T locs k n → T.heap = h → κ.Z.Warmed39 vm0 → vm0.findClass κ.own = some κ.m.cls → ∀ t, Steps κ.p.tables κ.e κ.below (T.setTop g') t → Steps κ.p.tables κ.e κ.below (T.setTop g) t)
    (H : WP κ h k n g') : WP κ h k n g := fun T locs vm0 X e M hZ ho N => by
  obtain ⟨t, o, h1, r⟩ := H T locs vm0 X e M hZ ho N
  exact ⟨t, o, st T locs vm0 X e hZ ho t h1, r⟩
theorem WP.frame {g g' : JFrame} (q : g = g') (H : WP κ h k n g') : WP κ h k n g := q ▸ H
theorem WP.more {g : JFrame} (H : WP κ h k' n' g) (hk : k ≤ k') (hn : n ≤ n') : WP κ h k n g := fun T locs vm0 X e M hZ ho N => H T locs vm0 (X.mono hk hn) e M hZ ho N
/-- a pure stretch with several roads that meet again -/
theorem WP.meet {g g' : JFrame} (H : WP κ h k n g' → WP κ h k n g) (K : WP κ h k n g') : WP κ h k n g := H K
theorem WP.iadd (K : Cx κ w l Z own n0 rm bytes maxL ret nm Q) {x y : Int32} (hd : decode bytes pc = .ok (.iadd, 1))  (hp : pc + 1 = pc') (H : WP κ h k n (mkF κ.m pc' L (.int (x + y) :: S))) : WP κ h k n (mkF κ.m pc L (.int y :: .int x :: S)) := by
  obtain ⟨hx, hby, -⟩ := K
  subst hp
  exact WP.go (fun T locs vm0 X e hZ ho t k => XS.iadd X.here hx rfl (hb hby hd) rfl k) H
theorem WP.isub (K : Cx κ w l Z own n0 rm bytes maxL ret nm Q) {x y : Int32} (hd : decode bytes pc = .ok (.isub, 1))  (hp : pc + 1 = pc') (H : WP κ h k n (mkF κ.m pc' L (.int (x - y) :: S))) : WP κ h k n (mkF κ.m pc L (.int y :: .int x :: S)) := by
  obtain ⟨hx, hby, -⟩ := K
  subst hp
  exact WP.go (fun T locs vm0 X e hZ ho t k => XS.isub X.here hx rfl (hb hby hd) rfl k) H
theorem WP.imul (K : Cx κ w l Z own n0 rm bytes maxL ret nm Q) {x y : Int32} (hd : decode bytes pc = .ok (.imul, 1))  (hp : pc + 1 = pc') (H : WP κ h k n (mkF κ.m pc' L (.int (x * y) :: S))) : WP κ h k n (mkF κ.m pc L (.int y :: .int x :: S)) := by
  obtain ⟨hx, hby, -⟩ := K
  subst hp
  exact WP.go (fun T locs vm0 X e hZ ho t k => XS.imul X.here hx rfl (hb hby hd) rfl k) H
theorem WP.iand (K : Cx κ w l Z own n0 rm bytes maxL ret nm Q) {x y : Int32} (hd : decode bytes pc = .ok (.iand, 1))  (hp : pc + 1 = pc') (H : WP κ h k n (mkF κ.m pc' L (.int (x &&& y) :: S))) : WP κ h k n (mkF κ.m pc L (.int y :: .int x :: S)) := by
  obtain ⟨hx, hby, -⟩ := K
  subst hp
  exact WP.go (fun T locs vm0 X e hZ ho t k => XS.iand X.here hx rfl (hb hby hd) rfl k) H
theorem WP.ixor (K : Cx κ w l Z own n0 rm bytes maxL ret nm Q) {x y : Int32} (hd : decode bytes pc = .ok (.ixor, 1))  (hp : pc + 1 = pc') (H : WP κ h k n (mkF κ.m pc' L (.int (x ^^^ y) :: S))) : WP κ h k n (mkF κ.m pc L (.int y :: .int x :: S)) := by
  obtain ⟨hx, hby, -⟩ := K
  subst hp
  exact WP.go (fun T locs vm0 X e hZ ho t k => XS.ixor X.here hx rfl (hb hby hd) rfl k) H
theorem WP.ior (K : Cx κ w l Z own n0 rm bytes maxL ret nm Q) {x y : Int32} (hd : decode bytes pc = .ok (.ior, 1))  (hp : pc + 1 = pc') (H : WP κ h k n (mkF κ.m pc' L (.int (x ||| y) :: S))) : WP κ h k n (mkF κ.m pc L (.int y :: .int x :: S)) := by
  obtain ⟨hx, hby, -⟩ := K
  subst hp
  exact WP.go (fun T locs vm0 X e hZ ho t k => XS.ior X.here hx rfl (hb hby hd) rfl k) H
theorem WP.ishl (K : Cx κ w l Z own n0 rm bytes maxL ret nm Q) {x y : Int32} (hd : decode bytes pc = .ok (.ishl, 1))  (hp : pc + 1 = pc') (H : WP κ h k n (mkF κ.m pc' L (.int (x <<< (y &&& 31)) :: S))) : WP κ h k n (mkF κ.m pc L (.int y :: .int x :: S)) := by
  obtain ⟨hx, hby, -⟩ := K
  subst hp
  exact WP.go (fun T locs vm0 X e hZ ho t k => XS.ishl X.here hx rfl (hb hby hd) rfl k) H
theorem WP.ishr (K : Cx κ w l Z own n0 rm bytes maxL ret nm Q) {x y : Int32} (hd : decode bytes pc = .ok (.ishr, 1))  (hp : pc + 1 = pc') (H : WP κ h k n (mkF κ.m pc' L (.int (x >>> (y &&& 31)) :: S))) : WP κ h k n (mkF κ.m pc L (.int y :: .int x :: S)) := by
  obtain ⟨hx, hby, -⟩ := K
  subst hp
  exact WP.go (fun T locs vm0 X e hZ ho t k => XS.ishr X.here hx rfl (hb hby hd) rfl k) H
theorem WP.iushr (K : Cx κ w l Z own n0 rm bytes maxL ret nm Q) {x y : Int32} (hd : decode bytes pc = .ok (.iushr, 1))  (hp : pc + 1 = pc') (H : WP κ h k n (mkF κ.m pc' L (.int ((x.toUInt32 >>> (y &&& 31).toUInt32).toInt32) :: S))) : WP κ h k n (mkF κ.m pc L (.int y :: .int x :: S)) := by
  obtain ⟨hx, hby, -⟩ := K
  subst hp
  exact WP.go (fun T locs vm0 X e hZ ho t k => XS.iushr X.here hx rfl (hb hby hd) rfl k) H
theorem WP.ladd (K : Cx κ w l Z own n0 rm bytes maxL ret nm Q) {x y : Int64} (hd : decode bytes pc = .ok (.ladd, 1))  (hp : pc + 1 = pc') (H : WP κ h k n (mkF κ.m pc' L (.long (x + y) :: S))) : WP κ h k n (mkF κ.m pc L (.long y :: .long x :: S)) := by
  obtain ⟨hx, hby, -⟩ := K
  subst hp
  exact WP.go (fun T locs vm0 X e hZ ho t k => XS.ladd X.here hx rfl (hb hby hd) rfl k) H
theorem WP.lsub (K : Cx κ w l Z own n0 rm bytes maxL ret nm Q) {x y : Int64} (hd : decode bytes pc = .ok (.lsub, 1))  (hp : pc + 1 = pc') (H : WP κ h k n (mkF κ.m pc' L (.long (x - y) :: S))) : WP κ h k n (mkF κ.m pc L (.long y :: .long x :: S)) := by
  obtain ⟨hx, hby, -⟩ := K
  subst hp
  exact WP.go (fun T locs vm0 X e hZ ho t k => XS.lsub X.here hx rfl (hb hby hd) rfl k) H
theorem WP.lmul (K : Cx κ w l Z own n0 rm bytes maxL ret nm Q) {x y : Int64} (hd : decode bytes pc = .ok (.lmul, 1))  (hp : pc + 1 = pc') (H : WP κ h k n (mkF κ.m pc' L (.long (x * y) :: S))) : WP κ h k n (mkF κ.m pc L (.long y :: .long x :: S)) := by
  obtain ⟨hx, hby, -⟩ := K
  subst hp
  exact WP.go (fun T locs vm0 X e hZ ho t k => XS.lmul X.here hx rfl (hb hby hd) rfl k) H
theorem WP.land (K : Cx κ w l Z own n0 rm bytes maxL ret nm Q) {x y : Int64} (hd : decode bytes pc = .ok (.land, 1))  (hp : pc + 1 = pc') (H : WP κ h k n (mkF κ.m pc' L (.long (x &&& y) :: S))) : WP κ h k n (mkF κ.m pc L (.long y :: .long x :: S)) := by
  obtain ⟨hx, hby, -⟩ := K
  subst hp
  exact WP.go (fun T locs vm0 X e hZ ho t k => XS.land X.here hx rfl (hb hby hd) rfl k) H
theorem WP.lor (K : Cx κ w l Z own n0 rm bytes maxL ret nm Q) {x y : Int64} (hd : decode bytes pc = .ok (.lor, 1))  (hp : pc + 1 = pc') (H : WP κ h k n (mkF κ.m pc' L (.long (x ||| y) :: S))) : WP κ h k n (mkF κ.m pc L (.long y :: .long x :: S)) := by
  obtain ⟨hx, hby, -⟩ := K
  subst hp
  exact WP.go (fun T locs vm0 X e hZ ho t k => XS.lor X.here hx rfl (hb hby hd) rfl k) H
theorem WP.lxor (K : Cx κ w l Z own n0 rm bytes maxL ret nm Q) {x y : Int64} (hd : decode bytes pc = .ok (.lxor, 1))  (hp : pc + 1 = pc') (H : WP κ h k n (mkF κ.m pc' L (.long (x ^^^ y) :: S))) : WP κ h k n (mkF κ.m pc L (.long y :: .long x :: S)) := by
  obtain ⟨hx, hby, -⟩ := K
  subst hp
  exact WP.go (fun T locs vm0 X e hZ ho t k => XS.lxor X.here hx rfl (hb hby hd) rfl k) H
theorem WP.idiv (K : Cx κ w l Z own n0 rm bytes maxL ret nm Q) {x y : Int32} (hd : decode bytes pc = .ok (.idiv, 1)) (hy : y ≠ 0) (hp : pc + 1 = pc') (H : WP κ h k n (mkF κ.m pc' L (.int (x / y) :: S))) : WP κ h k n (mkF κ.m pc L (.int y :: .int x :: S)) := by
  obtain ⟨hx, hby, -⟩ := K
  subst hp
  exact WP.go (fun T locs vm0 X e hZ ho t k => XS.idiv X.here hx rfl (hb hby hd) rfl hy k) H
theorem WP.irem (K : Cx κ w l Z own n0 rm bytes maxL ret nm Q) {x y : Int32} (hd : decode bytes pc = .ok (.irem, 1)) (hy : y ≠ 0) (hp : pc + 1 = pc') (H : WP κ h k n (mkF κ.m pc' L (.int (x % y) :: S))) : WP κ h k n (mkF κ.m pc L (.int y :: .int x :: S)) := by
  obtain ⟨hx, hby, -⟩ := K
  subst hp
  exact WP.go (fun T locs vm0 X e hZ ho t k => iremM X hx rfl (hb hby hd) rfl hy k) H
theorem WP.ldiv (K : Cx κ w l Z own n0 rm bytes maxL ret nm Q) {x y : Int64} (hd : decode bytes pc = .ok (.ldiv, 1)) (hy : y ≠ 0) (hp : pc + 1 = pc') (H : WP κ h k n (mkF κ.m pc' L (.long (x / y) :: S))) : WP κ h k n (mkF κ.m pc L (.long y :: .long x :: S)) := by
  obtain ⟨hx, hby, -⟩ := K
  subst hp
  exact WP.go (fun T locs vm0 X e hZ ho t k => XT.ldiv X.here hx rfl (hb hby hd) rfl hy k) H
theorem WP.lrem (K : Cx κ w l Z own n0 rm bytes maxL ret nm Q) {x y : Int64} (hd : decode bytes pc = .ok (.lrem, 1)) (hy : y ≠ 0) (hp : pc + 1 = pc') (H : WP κ h k n (mkF κ.m pc' L (.long (x % y) :: S))) : WP κ h k n (mkF κ.m pc L (.long y :: .long x :: S)) := by
  obtain ⟨hx, hby, -⟩ := K
  subst hp
  exact WP.go (fun T locs vm0 X e hZ ho t k => XT.lrem X.here hx rfl (hb hby hd) rfl hy (by rw [lrem_mod]; exact k)) H
theorem WP.ineg (K : Cx κ w l Z own n0 rm bytes maxL ret nm Q) {x : Int32} (hd : decode bytes pc = .ok (.ineg, 1))  (hp : pc + 1 = pc') (H : WP κ h k n (mkF κ.m pc' L (.int (-x) :: S))) : WP κ h k n (mkF κ.m pc L (.int x :: S)) := by
  obtain ⟨hx, hby, -⟩ := K
  subst hp
  exact WP.go (fun T locs vm0 X e hZ ho t k => XS.ineg X.here hx rfl (hb hby hd) rfl k) H
theorem WP.lneg (K : Cx κ w l Z own n0 rm bytes maxL ret nm Q) {x : Int64} (hd : decode bytes pc = .ok (.lneg, 1))  (hp : pc + 1 = pc') (H : WP κ h k n (mkF κ.m pc' L (.long (-x) :: S))) : WP κ h k n (mkF κ.m pc L (.long x :: S)) := by
  obtain ⟨hx, hby, -⟩ := K
  subst hp
  exact WP.go (fun T locs vm0 X e hZ ho t k => XT.lneg X.here hx rfl (hb hby hd) rfl k) H
theorem WP.lshl (K : Cx κ w l Z own n0 rm bytes maxL ret nm Q) {x : Int64} {y : Int32} (hd : decode bytes pc = .ok (.lshl, 1))  (hp : pc + 1 = pc') (H : WP κ h k n (mkF κ.m pc' L (.long (x <<< (y &&& 0x3f).toInt64) :: S))) : WP κ h k n (mkF κ.m pc L (.int y :: .long x :: S)) := by
  obtain ⟨hx, hby, -⟩ := K
  subst hp
  exact WP.go (fun T locs vm0 X e hZ ho t k => XS.lshl X.here hx rfl (hb hby hd) rfl k) H
theorem WP.lshr (K : Cx κ w l Z own n0 rm bytes maxL ret nm Q) {x : Int64} {y : Int32} (hd : decode bytes pc = .ok (.lshr, 1))  (hp : pc + 1 = pc') (H : WP κ h k n (mkF κ.m pc' L (.long (x >>> (y &&& 0x3f).toInt64) :: S))) : WP κ h k n (mkF κ.m pc L (.int y :: .long x :: S)) := by
  obtain ⟨hx, hby, -⟩ := K
  subst hp
  exact WP.go (fun T locs vm0 X e hZ ho t k => XS.lshr X.here hx rfl (hb hby hd) rfl k) H
theorem WP.lushr (K : Cx κ w l Z own n0 rm bytes maxL ret nm Q) {x : Int64} {y : Int32} (hd : decode bytes pc = .ok (.lushr, 1))  (hp : pc + 1 = pc') (H : WP κ h k n (mkF κ.m pc' L (.long ((x.toUInt64 >>> (y &&& 0x3f).toInt64.toUInt64).toInt64) :: S))) : WP κ h k n (mkF κ.m pc L (.int y :: .long x :: S)) := by
  obtain ⟨hx, hby, -⟩ := K
  subst hp
  exact WP.go (fun T locs vm0 X e hZ ho t k => XS.lushr X.here hx rfl (hb hby hd) rfl k) H
theorem WP.i2l (K : Cx κ w l Z own n0 rm bytes maxL ret nm Q) {x : Int32} (hd : decode bytes pc = .ok (.i2l, 1))  (hp : pc + 1 = pc') (H : WP κ h k n (mkF κ.m pc' L (.long (x.toInt64) :: S))) : WP κ h k n (mkF κ.m pc L (.int x :: S)) := by
  obtain ⟨hx, hby, -⟩ := K
  subst hp
  exact WP.go (fun T locs vm0 X e hZ ho t k => XS.i2l X.here hx rfl (hb hby hd) rfl k) H
theorem WP.l2i (K : Cx κ w l Z own n0 rm bytes maxL ret nm Q) {x : Int64} (hd : decode bytes pc = .ok (.l2i, 1))  (hp : pc + 1 = pc') (H : WP κ h k n (mkF κ.m pc' L (.int (x.toInt32) :: S))) : WP κ h k n (mkF κ.m pc L (.long x :: S)) := by
  obtain ⟨hx, hby, -⟩ := K
  subst hp
  exact WP.go (fun T locs vm0 X e hZ ho t k => XS.l2i X.here hx rfl (hb hby hd) rfl k) H
theorem WP.i2b (K : Cx κ w l Z own n0 rm bytes maxL ret nm Q) {x : Int32} (hd : decode bytes pc = .ok (.i2b, 1))  (hp : pc + 1 = pc') (H : WP κ h k n (mkF κ.m pc' L (.int (x.toInt8.toInt32) :: S))) : WP κ h k n (mkF κ.m pc L (.int x :: S)) := by
  obtain ⟨hx, hby, -⟩ := K
  subst hp
  exact WP.go (fun T locs vm0 X e hZ ho t k => XS.i2b X.here hx rfl (hb hby hd) rfl k) H
theorem WP.i2c (K : Cx κ w l Z own n0 rm bytes maxL ret nm Q) {x : Int32} (hd : decode bytes pc = .ok (.i2c, 1))  (hp : pc + 1 = pc') (H : WP κ h k n (mkF κ.m pc' L (.int (x.toUInt32.toUInt16.toUInt32.toInt32) :: S))) : WP κ h k n (mkF κ.m pc L (.int x :: S)) := by
  obtain ⟨hx, hby, -⟩ := K
  subst hp
  exact WP.go (fun T locs vm0 X e hZ ho t k => XS.i2c X.here hx rfl (hb hby hd) rfl k) H
theorem WP.i2s (K : Cx κ w l Z own n0 rm bytes maxL ret nm Q) {x : Int32} (hd : decode bytes pc = .ok (.i2s, 1))  (hp : pc + 1 = pc') (H : WP κ h k n (mkF κ.m pc' L (.int (x.toInt16.toInt32) :: S))) : WP κ h k n (mkF κ.m pc L (.int x :: S)) := by
  obtain ⟨hx, hby, -⟩ := K
  subst hp
  exact WP.go (fun T locs vm0 X e hZ ho t k => XS.i2s X.here hx rfl (hb hby hd) rfl k) H
theorem WP.lcmp (K : Cx κ w l Z own n0 rm bytes maxL ret nm Q) {x y : Int64} (hd : decode bytes pc = .ok (.lcmp, 1))  (hp : pc + 1 = pc') (H : WP κ h k n (mkF κ.m pc' L (.int (lcmpW x y) :: S))) : WP κ h k n (mkF κ.m pc L (.long y :: .long x :: S)) := by
  obtain ⟨hx, hby, -⟩ := K
  subst hp
  exact WP.go (fun T locs vm0 X e hZ ho t k => XS.lcmp X.here hx rfl (hb hby hd) rfl k) H
theorem WP.iconst (K : Cx κ w l Z own n0 rm bytes maxL ret nm Q) {i : Int} {v : Int32} (hd : decode bytes pc = .ok (.iconst i, 1)) (hv : Int32.ofInt i = v) (hp : pc + 1 = pc') (H : WP κ h k n (mkF κ.m pc' L (.int v :: S))) : WP κ h k n (mkF κ.m pc L (S)) := by
  obtain ⟨hx, hby, -⟩ := K
  subst hp
  exact WP.go (fun T locs vm0 X e hZ ho t k => XT.iconstV X.here hx rfl v (hb hby hd) hv k) H
theorem WP.bipush (K : Cx κ w l Z own n0 rm bytes maxL ret nm Q) {i : Int} {v : Int32} (hd : decode bytes pc = .ok (.bipush i, 2)) (hv : (Int8.ofInt i).toInt32 = v) (hp : pc + 2 = pc') (H : WP κ h k n (mkF κ.m pc' L (.int v :: S))) : WP κ h k n (mkF κ.m pc L (S)) := by
  obtain ⟨hx, hby, -⟩ := K
  subst hp
  exact WP.go (fun T locs vm0 X e hZ ho t k => XT.bipushV X.here hx rfl v (hb hby hd) hv k) H
theorem WP.sipush (K : Cx κ w l Z own n0 rm bytes maxL ret nm Q) {i : Int} {v : Int32} (hd : decode bytes pc = .ok (.sipush i, 3)) (hv : (Int16.ofInt i).toInt32 = v) (hp : pc + 3 = pc') (H : WP κ h k n (mkF κ.m pc' L (.int v :: S))) : WP κ h k n (mkF κ.m pc L (S)) := by
  obtain ⟨hx, hby, -⟩ := K
  subst hp
  exact WP.go (fun T locs vm0 X e hZ ho t k => XT.sipushV X.here hx rfl v (hb hby hd) hv k) H
theorem WP.lconst (K : Cx κ w l Z own n0 rm bytes maxL ret nm Q) {i : Fin 2} {v : Int64} (hd : decode bytes pc = .ok (.lconst i, 1)) (hv : Int64.ofNat i = v) (hp : pc + 1 = pc') (H : WP κ h k n (mkF κ.m pc' L (.long v :: S))) : WP κ h k n (mkF κ.m pc L (S)) := by
  obtain ⟨hx, hby, -⟩ := K
  subst hp
  exact WP.go (fun T locs vm0 X e hZ ho t k => XT.lconstV X.here hx rfl v (hb hby hd) hv k) H
theorem WP.aconst_null (K : Cx κ w l Z own n0 rm bytes maxL ret nm Q)  (hd : decode bytes pc = .ok (.aconst_null, 1))  (hp : pc + 1 = pc') (H : WP κ h k n (mkF κ.m pc' L (.null :: S))) : WP κ h k n (mkF κ.m pc L (S)) := by
  obtain ⟨hx, hby, -⟩ := K
  subst hp
  exact WP.go (fun T locs vm0 X e hZ ho t k => XS.aconstNull X.here hx rfl (hb hby hd) k) H
theorem WP.iloadN (K : Cx κ w l Z own n0 rm bytes maxL ret nm Q) {j : Fin 4} {v : Int32} (hd : decode bytes pc = .ok (.iload_n j, 1)) (hl : L[j.val]? = some (.val (.int v))) (hp : pc + 1 = pc') (H : WP κ h k n (mkF κ.m pc' L (.int v :: S))) : WP κ h k n (mkF κ.m pc L (S)) := by
  obtain ⟨hx, hby, -⟩ := K
  subst hp
  exact WP.go (fun T locs vm0 X e hZ ho t k => XS.iloadN X.here hx rfl (hb hby hd) hl k) H
theorem WP.iload (K : Cx κ w l Z own n0 rm bytes maxL ret nm Q) {j : Nat} {v : Int32} (hd : decode bytes pc = .ok (.iload j, 2)) (hl : L[j]? = some (.val (.int v))) (hp : pc + 2 = pc') (H : WP κ h k n (mkF κ.m pc' L (.int v :: S))) : WP κ h k n (mkF κ.m pc L (S)) := by
  obtain ⟨hx, hby, -⟩ := K
  subst hp
  exact WP.go (fun T locs vm0 X e hZ ho t k => XS.iload X.here hx rfl (hb hby hd) hl k) H
theorem WP.lloadN (K : Cx κ w l Z own n0 rm bytes maxL ret nm Q) {j : Fin 4} {v : Int64} (hd : decode bytes pc = .ok (.lload_n j, 1)) (hl : L[j.val]? = some (.val (.long v))) (hp : pc + 1 = pc') (H : WP κ h k n (mkF κ.m pc' L (.long v :: S))) : WP κ h k n (mkF κ.m pc L (S)) := by
  obtain ⟨hx, hby, -⟩ := K
  subst hp
  exact WP.go (fun T locs vm0 X e hZ ho t k => XT.lloadN X.here hx rfl (hb hby hd) hl k) H
theorem WP.lload (K : Cx κ w l Z own n0 rm bytes maxL ret nm Q) {j : Nat} {v : Int64} (hd : decode bytes pc = .ok (.lload j, 2)) (hl : L[j]? = some (.val (.long v))) (hp : pc + 2 = pc') (H : WP κ h k n (mkF κ.m pc' L (.long v :: S))) : WP κ h k n (mkF κ.m pc L (S)) := by
  obtain ⟨hx, hby, -⟩ := K
  subst hp
  exact WP.go (fun T locs vm0 X e hZ ho t k => XT.lload X.here hx rfl (hb hby hd) hl k) H
theorem WP.aloadN (K : Cx κ w l Z own n0 rm bytes maxL ret nm Q) {j : Fin 4} {v : Value} (hd : decode bytes pc = .ok (.aload_n j, 1)) (hl : L[j.val]? = some (.val v)) (hv : v.isRef = true) (hp : pc + 1 = pc') (H : WP κ h k n (mkF κ.m pc' L (v :: S))) : WP κ h k n (mkF κ.m pc L (S)) := by
  obtain ⟨hx, hby, -⟩ := K
  subst hp
  exact WP.go (fun T locs vm0 X e hZ ho t k => XS.aloadN X.here hx rfl (hb hby hd) hl hv k) H
theorem WP.aload (K : Cx κ w l Z own n0 rm bytes maxL ret nm Q) {j : Nat} {v : Value} (hd : decode bytes pc = .ok (.aload j, 2)) (hl : L[j]? = some (.val v)) (hv : v.isRef = true) (hp : pc + 2 = pc') (H : WP κ h k n (mkF κ.m pc' L (v :: S))) : WP κ h k n (mkF κ.m pc L (S)) := by
  obtain ⟨hx, hby, -⟩ := K
  subst hp
  exact WP.go (fun T locs vm0 X e hZ ho t k => XS.aload X.here hx rfl (hb hby hd) hl hv k) H
theorem WP.dloadN (K : Cx κ w l Z own n0 rm bytes maxL ret nm Q) {j : Fin 4} {v : UInt64} (hd : decode bytes pc = .ok (.dload_n j, 1)) (hl : L[j.val]? = some (.val (.double v))) (hp : pc + 1 = pc') (H : WP κ h k n (mkF κ.m pc' L (.double v :: S))) : WP κ h k n (mkF κ.m pc L (S)) := by
  obtain ⟨hx, hby, -⟩ := K
  subst hp
  exact WP.go (fun T locs vm0 X e hZ ho t k => XT.dloadN X.here hx rfl (hb hby hd) hl k) H
theorem WP.dload (K : Cx κ w l Z own n0 rm bytes maxL ret nm Q) {j : Nat} {v : UInt64} (hd : decode bytes pc = .ok (.dload j, 2)) (hl : L[j]? = some (.val (.double v))) (hp : pc + 2 = pc') (H : WP κ h k n (mkF κ.m pc' L (.double v :: S))) : WP κ h k n (mkF κ.m pc L (S)) := by
  obtain ⟨hx, hby, -⟩ := K
  subst hp
  exact WP.go (fun T locs vm0 X e hZ ho t k => XT.dload X.here hx rfl (hb hby hd) hl k) H
theorem WP.dup (K : Cx κ w l Z own n0 rm bytes maxL ret nm Q) {x : Value} (hd : decode bytes pc = .ok (.dup, 1)) (hc : x.category = 1) (hp : pc + 1 = pc') (H : WP κ h k n (mkF κ.m pc' L (x :: x :: S))) : WP κ h k n (mkF κ.m pc L (x :: S)) := by
  obtain ⟨hx, hby, -⟩ := K
  subst hp
  exact WP.go (fun T locs vm0 X e hZ ho t k => XS.dup X.here hx rfl (hb hby hd) rfl hc k) H
theorem WP.pop (K : Cx κ w l Z own n0 rm bytes maxL ret nm Q) {x : Value} (hd : decode bytes pc = .ok (.pop, 1)) (hc : x.category = 1) (hp : pc + 1 = pc') (H : WP κ h k n (mkF κ.m pc' L (S))) : WP κ h k n (mkF κ.m pc L (x :: S)) := by
  obtain ⟨hx, hby, -⟩ := K
  subst hp
  exact WP.go (fun T locs vm0 X e hZ ho t k => XT.pop X.here hx rfl (hb hby hd) rfl hc k) H
theorem WP.dup_x1 (K : Cx κ w l Z own n0 rm bytes maxL ret nm Q) {x y : Value} (hd : decode bytes pc = .ok (.dup_x1, 1)) (hc : x.category = 1) (hc' : y.category = 1) (hp : pc + 1 = pc') (H : WP κ h k n (mkF κ.m pc' L (x :: y :: x :: S))) : WP κ h k n (mkF κ.m pc L (x :: y :: S)) := by
  obtain ⟨hx, hby, -⟩ := K
  subst hp
  exact WP.go (fun T locs vm0 X e hZ ho t k => XT.dupX1 X.here hx rfl (hb hby hd) rfl hc hc' k) H
theorem WP.dup2 (K : Cx κ w l Z own n0 rm bytes maxL ret nm Q) {x y : Value} (hd : decode bytes pc = .ok (.dup2, 1)) (hc : x.category = 1) (hc' : y.category = 1) (hp : pc + 1 = pc') (H : WP κ h k n (mkF κ.m pc' L (x :: y :: x :: y :: S))) : WP κ h k n (mkF κ.m pc L (x :: y :: S)) := by
  obtain ⟨hx, hby, -⟩ := K
  subst hp
  exact WP.go (fun T locs vm0 X e hZ ho t k => XT.dup2 X.here hx rfl (hb hby hd) rfl hc hc' k) H
theorem WP.dup2L (K : Cx κ w l Z own n0 rm bytes maxL ret nm Q) {x : Int64} (hd : decode bytes pc = .ok (.dup2, 1))  (hp : pc + 1 = pc') (H : WP κ h k n (mkF κ.m pc' L (.long x :: .long x :: S))) : WP κ h k n (mkF κ.m pc L (.long x :: S)) := by
  obtain ⟨hx, hby, -⟩ := K
  subst hp
  exact WP.go (fun T locs vm0 X e hZ ho t k => XT.dup2L X.here hx rfl (hb hby hd) rfl k) H
theorem WP.i2d (K : Cx κ w l Z own n0 rm bytes maxL ret nm Q) {x : Int32} (hd : decode bytes pc = .ok (.i2d, 1))  (hp : pc + 1 = pc') (H : WP κ h k n (mkF κ.m pc' L (.double (FP.i2d x) :: S))) : WP κ h k n (mkF κ.m pc L (.int x :: S)) := by
  obtain ⟨hx, hby, -⟩ := K
  subst hp
  exact WP.go (fun T locs vm0 X e hZ ho t k => Jvm.Free.XS.i2dS X.here hx rfl (hb hby hd) rfl rfl k) H
theorem WP.l2d (K : Cx κ w l Z own n0 rm bytes maxL ret nm Q) {x : Int64} (hd : decode bytes pc = .ok (.l2d, 1))  (hp : pc + 1 = pc') (H : WP κ h k n (mkF κ.m pc' L (.double (FP.l2d x) :: S))) : WP κ h k n (mkF κ.m pc L (.long x :: S)) := by
  obtain ⟨hx, hby, -⟩ := K
  subst hp
  exact WP.go (fun T locs vm0 X e hZ ho t k => Jvm.Free.XS.l2dS X.here hx rfl (hb hby hd) rfl rfl k) H
theorem WP.dcmp (K : Cx κ w l Z own n0 rm bytes maxL ret nm Q) {o : CmpOp} {x y : UInt64} (hd : decode bytes pc = .ok (.dcmp o, 1))  (hp : pc + 1 = pc') (H : WP κ h k n (mkF κ.m pc' L (.int (cmpValue (FP.dcmp x y) o) :: S))) : WP κ h k n (mkF κ.m pc L (.double y :: .double x :: S)) := by
  obtain ⟨hx, hby, -⟩ := K
  subst hp
  exact WP.go (fun T locs vm0 X e hZ ho t k => Jvm.Free.XS.dcmpS X.here hx rfl (hb hby hd) rfl rfl k) H
theorem WP.istoreN (K : Cx κ w l Z own n0 rm bytes maxL ret nm Q) {j : Fin 4} {x : Int32} (hd : decode bytes pc = .ok (.istore_n j, 1))  (hl : storeLocals L j.val (.int x) = some L') (hp : pc + 1 = pc') (H : WP κ h k n (mkF κ.m pc' L' S)) : WP κ h k n (mkF κ.m pc L ((.int x) :: S)) := by
  obtain ⟨hx, hby, -⟩ := K
  subst hp
  exact WP.go (fun T locs vm0 X e hZ ho t k => XS.istoreN X.here hx rfl (hb hby hd) rfl hl k) H
theorem WP.istore (K : Cx κ w l Z own n0 rm bytes maxL ret nm Q) {j : Nat} {x : Int32} (hd : decode bytes pc = .ok (.istore j, 2))  (hl : storeLocals L j (.int x) = some L') (hp : pc + 2 = pc') (H : WP κ h k n (mkF κ.m pc' L' S)) : WP κ h k n (mkF κ.m pc L ((.int x) :: S)) := by
  obtain ⟨hx, hby, -⟩ := K
  subst hp
  exact WP.go (fun T locs vm0 X e hZ ho t k => XS.istore X.here hx rfl (hb hby hd) rfl hl k) H
theorem WP.lstoreN (K : Cx κ w l Z own n0 rm bytes maxL ret nm Q) {j : Fin 4} {x : Int64} (hd : decode bytes pc = .ok (.lstore_n j, 1))  (hl : storeLocals L j.val (.long x) = some L') (hp : pc + 1 = pc') (H : WP κ h k n (mkF κ.m pc' L' S)) : WP κ h k n (mkF κ.m pc L ((.long x) :: S)) := by
  obtain ⟨hx, hby, -⟩ := K
  subst hp
  exact WP.go (fun T locs vm0 X e hZ ho t k => XT.lstoreN X.here hx rfl (hb hby hd) rfl hl k) H
theorem WP.lstore (K : Cx κ w l Z own n0 rm bytes maxL ret nm Q) {j : Nat} {x : Int64} (hd : decode bytes pc = .ok (.lstore j, 2))  (hl : storeLocals L j (.long x) = some L') (hp : pc + 2 = pc') (H : WP κ h k n (mkF κ.m pc' L' S)) : WP κ h k n (mkF κ.m pc L ((.long x) :: S)) := by
  obtain ⟨hx, hby, -⟩ := K
  subst hp
  exact WP.go (fun T locs vm0 X e hZ ho t k => XT.lstore X.here hx rfl (hb hby hd) rfl hl k) H
theorem WP.astoreN (K : Cx κ w l Z own n0 rm bytes maxL ret nm Q) {j : Fin 4} {x : Value} (hd : decode bytes pc = .ok (.astore_n j, 1)) (hv : x.isRef = true) (hl : storeLocals L j.val x = some L') (hp : pc + 1 = pc') (H : WP κ h k n (mkF κ.m pc' L' S)) : WP κ h k n (mkF κ.m pc L (x :: S)) := by
  obtain ⟨hx, hby, -⟩ := K
  subst hp
  exact WP.go (fun T locs vm0 X e hZ ho t k => XS.astoreN X.here hx rfl (hb hby hd) rfl hv hl k) H
theorem WP.astore (K : Cx κ w l Z own n0 rm bytes maxL ret nm Q) {j : Nat} {x : Value} (hd : decode bytes pc = .ok (.astore j, 2)) (hv : x.isRef = true) (hl : storeLocals L j x = some L') (hp : pc + 2 = pc') (H : WP κ h k n (mkF κ.m pc' L' S)) : WP κ h k n (mkF κ.m pc L (x :: S)) := by
  obtain ⟨hx, hby, -⟩ := K
  subst hp
  exact WP.go (fun T locs vm0 X e hZ ho t k => XS.astore X.here hx rfl (hb hby hd) rfl hv hl k) H
theorem WP.dstoreN (K : Cx κ w l Z own n0 rm bytes maxL ret nm Q) {j : Fin 4} {x : UInt64} (hd : decode bytes pc = .ok (.dstore_n j, 1))  (hl : storeLocals L j.val (.double x) = some L') (hp : pc + 1 = pc') (H : WP κ h k n (mkF κ.m pc' L' S)) : WP κ h k n (mkF κ.m pc L ((.double x) :: S)) := by
  obtain ⟨hx, hby, -⟩ := K
  subst hp
  exact WP.go (fun T locs vm0 X e hZ ho t k => Jvm.Free.XS.dstoreN X.here hx rfl (hb hby hd) rfl hl k) H
theorem WP.dstore (K : Cx κ w l Z own n0 rm bytes maxL ret nm Q) {j : Nat} {x : UInt64} (hd : decode bytes pc = .ok (.dstore j, 2))  (hl : storeLocals L j (.double x) = some L') (hp : pc + 2 = pc') (H : WP κ h k n (mkF κ.m pc' L' S)) : WP κ h k n (mkF κ.m pc L ((.double x) :: S)) := by
  obtain ⟨hx, hby, -⟩ := K
  subst hp
  exact WP.go (fun T locs vm0 X e hZ ho t k => Jvm.Free.XS.dstore X.here hx rfl (hb hby hd) rfl hl k) H
theorem WP.iinc (K : Cx κ w l Z own n0 rm bytes maxL ret nm Q) {j : Nat} {cst : Int} {x v : Int32} (hd : decode bytes pc = .ok (.iinc j cst, 3)) (hv : Int32.ofInt cst = v) (hl : L[j]? = some (.val (.int x))) (hl' : storeLocals L j (.int (x + v)) = some L') (hp : pc + 3 = pc') (H : WP κ h k n (mkF κ.m pc' L' S)) : WP κ h k n (mkF κ.m pc L S) := by
  obtain ⟨hx, hby, -⟩ := K
  subst hp
  exact WP.go (fun T locs vm0 X e hZ ho t k => XT.iincV X.here hx rfl v (hb hby hd) hv hl hl' k) H
theorem WP.goto (K : Cx κ w l Z own n0 rm bytes maxL ret nm Q) {o : Int} (hd : decode bytes pc = .ok (.goto o, 3)) (ho : 0 ≤ (pc : Int) + o) (hp : ((pc : Int) + o).toNat = pc') (H : WP κ h k n (mkF κ.m pc' L S)) : WP κ h k n (mkF κ.m pc L S) := by
  obtain ⟨hx, hby, -⟩ := K
  exact WP.go (fun T locs vm0 X e hZ ho' t k => XS.goto X.here hx rfl rfl (hb hby hd) ho hp k) H
theorem WP.if0T (K : Cx κ w l Z own n0 rm bytes maxL ret nm Q) {cd : ClassFile.Cond} {x : Int32} {o : Int} (hd : decode bytes pc = .ok (.ifCond cd o, 3)) (hc : ifCond.holds cd x = true) (ho : 0 ≤ (pc : Int) + o) (hp : ((pc : Int) + o).toNat = pc') (H : WP κ h k n (mkF κ.m pc' L S)) : WP κ h k n (mkF κ.m pc L (.int x :: S)) := by
  obtain ⟨hx, hby, -⟩ := K
  exact WP.go (fun T locs vm0 X e hZ ho' t k => XS.ifYes X.here hx rfl rfl (hb hby hd) rfl hc ho hp k) H
theorem WP.if0F (K : Cx κ w l Z own n0 rm bytes maxL ret nm Q) {cd : ClassFile.Cond} {x : Int32} {o : Int} (hd : decode bytes pc = .ok (.ifCond cd o, 3)) (hc : ifCond.holds cd x = false) (hp : pc + 3 = pc') (H : WP κ h k n (mkF κ.m pc' L S)) : WP κ h k n (mkF κ.m pc L (.int x :: S)) := by
  obtain ⟨hx, hby, -⟩ := K
  subst hp
  exact WP.go (fun T locs vm0 X e hZ ho' t k => XS.ifNo X.here hx rfl (hb hby hd) rfl hc k) H
theorem WP.icmpT (K : Cx κ w l Z own n0 rm bytes maxL ret nm Q) {cd : ClassFile.Cond} {x y : Int32} {o : Int} (hd : decode bytes pc = .ok (.if_icmp cd o, 3)) (hc : if_icmp.holds cd x y = true) (ho : 0 ≤ (pc : Int) + o) (hp : ((pc : Int) + o).toNat = pc') (H : WP κ h k n (mkF κ.m pc' L S)) : WP κ h k n (mkF κ.m pc L (.int y :: .int x :: S)) := by
  obtain ⟨hx, hby, -⟩ := K
  exact WP.go (fun T locs vm0 X e hZ ho' t k => XS.icmpYes X.here hx rfl rfl (hb hby hd) rfl hc ho hp k) H
theorem WP.icmpF (K : Cx κ w l Z own n0 rm bytes maxL ret nm Q) {cd : ClassFile.Cond} {x y : Int32} {o : Int} (hd : decode bytes pc = .ok (.if_icmp cd o, 3)) (hc : if_icmp.holds cd x y = false) (hp : pc + 3 = pc') (H : WP κ h k n (mkF κ.m pc' L S)) : WP κ h k n (mkF κ.m pc L (.int y :: .int x :: S)) := by
  obtain ⟨hx, hby, -⟩ := K
  subst hp
  exact WP.go (fun T locs vm0 X e hZ ho' t k => XS.icmpNo X.here hx rfl (hb hby hd) rfl hc k) H
theorem WP.acmpT (K : Cx κ w l Z own n0 rm bytes maxL ret nm Q) {cd : ClassFile.ACond} {x y : Value} {o : Int} (hd : decode bytes pc = .ok (.if_acmp cd o, 3)) (h1 : x.isRef = true) (h2 : y.isRef = true) (hc : XT.acmp cd x y = true) (ho : 0 ≤ (pc : Int) + o) (hp : ((pc : Int) + o).toNat = pc') (H : WP κ h k n (mkF κ.m pc' L S)) : WP κ h k n (mkF κ.m pc L (y :: x :: S)) := by
  obtain ⟨hx, hby, -⟩ := K
  exact WP.go (fun T locs vm0 X e hZ ho' t k => XT.acmpYes X.here hx rfl rfl (hb hby hd) rfl h1 h2 hc ho hp k) H
theorem WP.acmpF (K : Cx κ w l Z own n0 rm bytes maxL ret nm Q) {cd : ClassFile.ACond} {x y : Value} {o : Int} (hd : decode bytes pc = .ok (.if_acmp cd o, 3)) (h1 : x.isRef = true) (h2 : y.isRef = true) (hc : XT.acmp cd x y = false) (hp : pc + 3 = pc') (H : WP κ h k n (mkF κ.m pc' L S)) : WP κ h k n (mkF κ.m pc L (y :: x :: S)) := by
  obtain ⟨hx, hby, -⟩ := K
  subst hp
  exact WP.go (fun T locs vm0 X e hZ ho' t k => XT.acmpNo X.here hx rfl (hb hby hd) rfl h1 h2 hc k) H
theorem WP.ifnullT (K : Cx κ w l Z own n0 rm bytes maxL ret nm Q) {o : Int} {b : Addr} (hd : decode bytes pc = .ok (.ifnull o, 3)) (ho : 0 ≤ (pc : Int) + o) (hp : ((pc : Int) + o).toNat = pc') (H : WP κ h k n (mkF κ.m pc' L S)) : WP κ h k n (mkF κ.m pc L (.null :: S)) := by
  obtain ⟨hx, hby, -⟩ := K
  exact WP.go (fun T locs vm0 X e hZ ho' t k => XS.ifnullYes X.here hx rfl rfl (hb hby hd) rfl ho hp k) H
theorem WP.ifnullF (K : Cx κ w l Z own n0 rm bytes maxL ret nm Q) {o : Int} {b : Addr} (hd : decode bytes pc = .ok (.ifnull o, 3)) (hp : pc + 3 = pc') (H : WP κ h k n (mkF κ.m pc' L S)) : WP κ h k n (mkF κ.m pc L (.ref b :: S)) := by
  obtain ⟨hx, hby, -⟩ := K
  subst hp
  exact WP.go (fun T locs vm0 X e hZ ho' t k => XS.ifnullNo X.here hx rfl (hb hby hd) rfl k) H
theorem WP.ifnonnullT (K : Cx κ w l Z own n0 rm bytes maxL ret nm Q) {o : Int} {b : Addr} (hd : decode bytes pc = .ok (.ifnonnull o, 3)) (ho : 0 ≤ (pc : Int) + o) (hp : ((pc : Int) + o).toNat = pc') (H : WP κ h k n (mkF κ.m pc' L S)) : WP κ h k n (mkF κ.m pc L (.ref b :: S)) := by
  obtain ⟨hx, hby, -⟩ := K
  exact WP.go (fun T locs vm0 X e hZ ho' t k => XT.ifnonnullYes X.here hx rfl rfl (hb hby hd) rfl ho hp k) H
theorem WP.ifnonnullF (K : Cx κ w l Z own n0 rm bytes maxL ret nm Q) {o : Int} {b : Addr} (hd : decode bytes pc = .ok (.ifnonnull o, 3)) (hp : pc + 3 = pc') (H : WP κ h k n (mkF κ.m pc' L S)) : WP κ h k n (mkF κ.m pc L (.null :: S)) := by
  obtain ⟨hx, hby, -⟩ := K
  subst hp
  exact WP.go (fun T locs vm0 X e hZ ho' t k => XT.ifnonnullNo X.here hx rfl (hb hby hd) rfl k) H
theorem WP.ldcI (K : Cx κ w l Z own n0 rm bytes maxL ret nm Q) {i : Nat} {v : Int32} (wc : (Cond.constant own i v).before a0 Z = true) (hd : decode bytes pc = .ok (.ldc i, 2)) (hp : pc + 2 = pc') (H : WP κ h k n (mkF κ.m pc' L (.int v :: S))) : WP κ h k n (mkF κ.m pc L S) := by
  obtain ⟨hx, hby, -, -, -, -, -, -, rfl, rfl, -⟩ := K
  subst hp
  exact WP.go (fun T locs vm0 X e hZ ho t k => X.ldcInt hx (own := κ.own) ho (mvT (args := κ.a) (s := κ.s.setVm vm0) hZ wc) (g := mkF κ.m pc L S) rfl (hb hby hd) t k) H
theorem WP.ldcwI (K : Cx κ w l Z own n0 rm bytes maxL ret nm Q) {i : Nat} {v : Int32} (wc : (Cond.constant own i v).before a0 Z = true) (hd : decode bytes pc = .ok (.ldc_w i, 3)) (hp : pc + 3 = pc') (H : WP κ h k n (mkF κ.m pc' L (.int v :: S))) : WP κ h k n (mkF κ.m pc L S) := by
  obtain ⟨hx, hby, -, -, -, -, -, -, rfl, rfl, -⟩ := K
  subst hp
  exact WP.go (fun T locs vm0 X e hZ ho t k => X.ldcwInt hx (own := κ.own) ho (mvT (args := κ.a) (s := κ.s.setVm vm0) hZ wc) (g := mkF κ.m pc L S) rfl (hb hby hd) t k) H
theorem WP.ldc2J (K : Cx κ w l Z own n0 rm bytes maxL ret nm Q) {i : Nat} {v : Int64} (wc : (Cond.constantLong own i v).before a0 Z = true) (hd : decode bytes pc = .ok (.ldc2_w i, 3)) (hp : pc + 3 = pc') (H : WP κ h k n (mkF κ.m pc' L (.long v :: S))) : WP κ h k n (mkF κ.m pc L S) := by
  obtain ⟨hx, hby, -, -, -, -, -, -, rfl, rfl, -⟩ := K
  subst hp
  exact WP.go (fun T locs vm0 X e hZ ho t k => X.ldc2Long hx (own := κ.own) ho (mvT (args := κ.a) (s := κ.s.setVm vm0) hZ wc) (g := mkF κ.m pc L S) rfl (hb hby hd) t k) H
theorem Ends.of {T : State} {locs : List Loc} {vm0 : Vm} {v : Option Value} {g : JFrame} (X : Stand κ.p κ.l κ.e κ.R (κ.s.setVm vm0) κ.m κ.a κ.below κ.meth κ.c T locs k n) (M : Md κ.w κ.s vm0 T.heap.size) (N : Fr κ.n0 locs) (hv : κ.meth.sig.returnType = none → v = none) (hlk : κ.meth.locks = false) (hk : k ≤ κ.R.cells) (hn : n ≤ κ.R.slots) (hq : κ.Q v T.heap)
    (st : ∀ fs, (∀ (f : JFrame) (acts : List Action), f.method = κ.m → f.locked = none → f.entered = [] → (doReturn κ.e (T.setTop f) acts v).1 = T.setFrames fs) → Steps κ.p.tables κ.e κ.below (T.setTop g) (T.setFrames fs)) : Ends κ T g := by
  obtain ⟨k0, hS, hk0⟩ := M.2
  by_cases hw : κ.w = true
  · obtain ⟨fs, h1, h2, h3, h4⟩ := (X.mono hk hn).leaveW hS hk0 hv hlk
    exact ⟨_, _, st fs h1, h2, h3, v, locs, rfl, ⟨hq, N⟩, by rw [hw]; exact h4⟩
  · have hw' : κ.w = false := by simpa using hw
    have e := M.1 hw'
    subst e
    obtain ⟨fs, h1, h2, h3, h4, h5⟩ := (X.mono hk hn).leave hv hlk
    exact ⟨_, _, st fs h1, h2, h3, v, locs, rfl, ⟨hq, N⟩, by rw [hw']; exact ⟨⟨v, rfl⟩, h4, h5⟩⟩
theorem WP.ret0 (K : Cx κ w l Z own n0 rm bytes maxL none nm Q) (hd : decode bytes pc = .ok (.return_, 1)) (hk : k ≤ rm.cells) (hn : n ≤ rm.slots) (hq : Q none h) : WP κ h k n (mkF κ.m pc L ([])) := by
  obtain ⟨hx, hby, -, hr, hlk, -, -, -, rfl, rfl, rfl, rfl, rfl⟩ := K
  intro T locs vm0 X e M hZ ho N
  subst e
  exact Ends.of X M N (fun _ => rfl) hlk hk hn hq fun fs hl => X.returnOut hx hr (hb hby hd) hl
theorem WP.retI (K : Cx κ w l Z own n0 rm bytes maxL (some .int) nm Q) {z : Int32} (hd : decode bytes pc = .ok (.ireturn, 1)) (hk : k ≤ rm.cells) (hn : n ≤ rm.slots) (hq : Q (some (.int z)) h) : WP κ h k n (mkF κ.m pc L (.int z :: S)) := by
  obtain ⟨hx, hby, -, hr, hlk, -, -, -, rfl, rfl, rfl, rfl, rfl⟩ := K
  intro T locs vm0 X e M hZ ho N
  subst e
  exact Ends.of X M N (fun q => by rw [hr] at q; cases q) hlk hk hn hq fun fs hl => retOut X hx hr rfl (Or.inl ⟨rfl, Or.inl rfl, z, rfl⟩) (hb hby hd) hl
theorem WP.retJ (K : Cx κ w l Z own n0 rm bytes maxL (some .long) nm Q) {z : Int64} (hd : decode bytes pc = .ok (.lreturn, 1)) (hk : k ≤ rm.cells) (hn : n ≤ rm.slots) (hq : Q (some (.long z)) h) : WP κ h k n (mkF κ.m pc L (.long z :: S)) := by
  obtain ⟨hx, hby, -, hr, hlk, -, -, -, rfl, rfl, rfl, rfl, rfl⟩ := K
  intro T locs vm0 X e M hZ ho N
  subst e
  exact Ends.of X M N (fun q => by rw [hr] at q; cases q) hlk hk hn hq fun fs hl => retOut X hx hr rfl (Or.inr (Or.inl ⟨rfl, rfl, z, rfl⟩)) (hb hby hd) hl
theorem WP.retD (K : Cx κ w l Z own n0 rm bytes maxL (some .double) nm Q) {z : UInt64} (hd : decode bytes pc = .ok (.dreturn, 1)) (hk : k ≤ rm.cells) (hn : n ≤ rm.slots) (hq : Q (some (.double z)) h) : WP κ h k n (mkF κ.m pc L (.double z :: S)) := by
  obtain ⟨hx, hby, -, hr, hlk, -, -, -, rfl, rfl, rfl, rfl, rfl⟩ := K
  intro T locs vm0 X e M hZ ho N
  subst e
  exact Ends.of X M N (fun q => by rw [hr] at q; cases q) hlk hk hn hq fun fs hl => retOut X hx hr rfl (Or.inr (Or.inr (Or.inl ⟨rfl, rfl, z, rfl⟩))) (hb hby hd) hl
theorem WP.retR {ty : FieldType} (K : Cx κ w l Z own n0 rm bytes maxL (some ty) nm Q) {v : Value} (ht : ty.isReference = true) (hv : v.isRef = true) (hd : decode bytes pc = .ok (.areturn, 1)) (hk : k ≤ rm.cells) (hn : n ≤ rm.slots) (hq : Q (some v) h) : WP κ h k n (mkF κ.m pc L (v :: S)) := by
  obtain ⟨hx, hby, -, hr, hlk, -, -, -, rfl, rfl, rfl, rfl, rfl⟩ := K
  intro T locs vm0 X e M hZ ho N
  subst e
  exact Ends.of X M N (fun q => by rw [hr] at q; cases q) hlk hk hn hq fun fs hl => retOut X hx hr (by cases ty <;> first | rfl | (cases ht) | (rcases ref_cases hv with rfl | ⟨_, rfl⟩ <;> rfl)) (Or.inr (Or.inr (Or.inr (Or.inr ⟨rfl, ht, hv⟩)))) (hb hby hd) hl
theorem WP.retN {ty : FieldType} (K : Cx κ w l Z own n0 rm bytes maxL (some ty) nm Q) {z : Int32} (ht : ty = .boolean ∨ ty = .byte ∨ ty = .char ∨ ty = .short) (hd : decode bytes pc = .ok (.ireturn, 1)) (hk : k ≤ rm.cells) (hn : n ≤ rm.slots) (hq : Q (some (.int (nar ty z))) h) : WP κ h k n (mkF κ.m pc L (.int z :: S)) := by
  obtain ⟨hx, hby, -, hr, hlk, -, -, -, rfl, rfl, rfl, rfl, rfl⟩ := K
  intro T locs vm0 X e M hZ ho N
  subst e
  exact Ends.of X M N (fun q => by rw [hr] at q; cases q) hlk hk hn hq fun fs hl => RoadKit.retN X hx hr ht (hb hby hd) hl
theorem WP.getF (K : Cx κ w l Z own n0 rm bytes maxL ret nm Q) {i : Nat} {R0 O f d : String} {a : Addr} {v : Value} (wl : (Cond.fieldLink own i R0 f d).before a0 Z = true) (via : Via Z R0 O f d) (F : Fld Z h a O f d v) (hd : decode bytes pc = .ok (.getfield i, 3)) (hp : pc + 3 = pc') (H : WP κ h k n (mkF κ.m pc' L (v :: S))) : WP κ h k n (mkF κ.m pc L (.ref a :: S)) := by
  obtain ⟨hx, hby, -, -, -, hnm, -, -, rfl, rfl, rfl, rfl, -⟩ := K
  subst hp
  intro T locs vm0 X e M hZ ho N
  obtain ⟨T', X', e', st⟩ := RoadKit.getF X hx (s := κ.s.setVm vm0) hZ ho (host := "") (Or.inl wl) via e F (g := mkF κ.m pc L (.ref a :: S)) rfl rfl (hb hby hd)
  obtain ⟨t, o, h1, r⟩ := H T' locs vm0 X' e' M hZ ho N
  exact ⟨t, o, st _ h1, r⟩
theorem WP.getS (K : Cx κ w l Z own n0 rm bytes maxL ret nm Q) {i : Nat} {R0 O f d : String} {v : Value} (wl : (Cond.fieldLink own i R0 f d).before a0 Z = true) (via : Via Z R0 O f d) (F : Sta Z h O f d v) (hd : decode bytes pc = .ok (.getstatic i, 3)) (hp : pc + 3 = pc') (H : WP κ h k n (mkF κ.m pc' L (v :: S))) : WP κ h k n (mkF κ.m pc L S) := by
  obtain ⟨hx, hby, -, -, -, hnm, -, -, rfl, rfl, rfl, rfl, -⟩ := K
  subst hp
  intro T locs vm0 X e M hZ ho N
  obtain ⟨T', X', e', st⟩ := RoadKit.getS (host := "") X hx (s := κ.s.setVm vm0) hZ ho wl via e F (g := mkF κ.m pc L S) rfl (hb hby hd)
  obtain ⟨t, o, h1, r⟩ := H T' locs vm0 X' e' M hZ ho N
  exact ⟨t, o, st _ h1, r⟩
theorem WP.putF (K : Cx κ w l Z own n0 rm bytes maxL ret nm Q) {i kk : Nat} {R0 O f d C : String} {ty : FieldType} {a : Addr} {v old : Value} (wl : (Cond.fieldLink own i R0 f d).before a0 Z = true) (via : Via Z R0 O f d) (F : Fld Z h a O f d old) (E : Exa Z h a C) (la : (Cond.lays C O f d).before a0 Z = true ∨ ((Cond.laysFinal C O f d).before a0 Z = true ∧ own = O ∧ nm = "<init>")) (wi : (Cond.instantiable C kk).before a0 Z = true)
    (hty : parseFieldDescriptor d = some ty) (hn1 : narrow ty v = v) (hf : fits ty v = true) (ha : n0 ≤ a) (hd : decode bytes pc = .ok (.putfield i, 3)) (hp : pc + 3 = pc') (H : ∀ h', Wr h h' a (Jvm.RoadKit.slotOf Z O f d) v → WP κ h' k n (mkF κ.m pc' L S)) : WP κ h k n (mkF κ.m pc L (v :: .ref a :: S)) := by
  obtain ⟨hx, hby, -, -, -, hnm, -, -, rfl, rfl, rfl, rfl, -⟩ := K
  subst hp
  intro T locs vm0 X e M hZ ho N
  obtain ⟨T', h', X', e', W, st⟩ := RoadKit.putF X hx (s := κ.s.setVm vm0) hZ ho (host := "") (Or.inl wl) via e F E (la.imp id fun q => ⟨q.1, q.2.1, hnm.trans q.2.2⟩) wi hty hn1 hf (g := mkF κ.m pc L (v :: .ref a :: S)) rfl rfl (hb hby hd)
  obtain ⟨t, o, h1, r⟩ := H h' W T' _ vm0 X' e' (M.mono (Nat.le_of_eq W.size.symm)) hZ ho (Fr.snoc X' N ha)
  exact ⟨t, o, st _ h1, r⟩
theorem WP.putFN (K : Cx κ w l Z own n0 rm bytes maxL ret nm Q) {i kk : Nat} {R0 O f d C : String} {ty : FieldType} {a : Addr} {v v' old : Value} (wl : (Cond.fieldLink own i R0 f d).before a0 Z = true) (via : Via Z R0 O f d) (F : Fld Z h a O f d old) (E : Exa Z h a C) (la : (Cond.lays C O f d).before a0 Z = true ∨ ((Cond.laysFinal C O f d).before a0 Z = true ∧ own = O ∧ nm = "<init>")) (wi : (Cond.instantiable C kk).before a0 Z = true)
    (hty : parseFieldDescriptor d = some ty) (hn1 : narrow ty v = v') (hf : fits ty v' = true) (ha : n0 ≤ a) (hd : decode bytes pc = .ok (.putfield i, 3)) (hp : pc + 3 = pc') (H : ∀ h', Wr h h' a (Jvm.RoadKit.slotOf Z O f d) v' → WP κ h' k n (mkF κ.m pc' L S)) : WP κ h k n (mkF κ.m pc L (v :: .ref a :: S)) := by
  obtain ⟨hx, hby, -, -, -, hnm, -, -, rfl, rfl, rfl, rfl, -⟩ := K
  subst hp
  intro T locs vm0 X e M hZ ho N
  obtain ⟨T', h', X', e', W, st⟩ := RoadKit.putFN X hx (s := κ.s.setVm vm0) hZ ho wl via e F E (la.imp id fun q => ⟨q.1, q.2.1, hnm.trans q.2.2⟩) wi hty hn1 hf (g := mkF κ.m pc L (v :: .ref a :: S)) rfl rfl (hb hby hd)
  obtain ⟨t, o, h1, r⟩ := H h' W T' _ vm0 X' e' (M.mono (Nat.le_of_eq W.size.symm)) hZ ho (Fr.snoc X' N ha)
  exact ⟨t, o, st _ h1, r⟩
theorem WP.new (K : Cx κ w l Z own n0 rm bytes maxL ret nm Q) {i sl : Nat} {C : String} (w1 : (Cond.classLink own i C).before a0 Z = true) (w2 : (Cond.instantiable C sl).before a0 Z = true) (w3 : (Cond.initialized C).before a0 Z = true) (hd : decode bytes pc = .ok (.new i, 3)) (hk : k + 1 = k') (hn : n + sl = n') (hk' : k' ≤ rm.cells) (hn' : n' ≤ rm.slots) (hp : pc + 3 = pc')
    (H : ∀ (h' : Heap) (a : Addr), @Eq Nat h.size a → Ext h h' → Exa Z h' a C → (∀ {O f d : String} {ty : FieldType}, Laid Z a0 C O f d → parseFieldDescriptor d = some ty → Fld Z h' a O f d (defaultValue ty)) → WP κ h' k' n' (mkF κ.m pc' L (.ref a :: S))) : WP κ h k n (mkF κ.m pc L S) := by
  obtain ⟨hx, hby, -, -, -, hnm, -, -, rfl, rfl, rfl, rfl, -⟩ := K
  subst hp hk hn
  intro T locs vm0 X e M hZ ho N
  obtain ⟨T', h', X', e', E, A, D, -, st⟩ := newO X hx (s := κ.s.setVm vm0) hZ ho w1 w2 w3 e (g := mkF κ.m pc L S) rfl (hb hby hd) hk' hn'
  obtain ⟨t, o, h1, r⟩ := H h' _ rfl E A D T' _ vm0 X' e' (M.mono E.1) hZ ho N
  exact ⟨t, o, st _ h1, r⟩
theorem WP.initO (K : Cx κ w l Z own n0 rm bytes maxL ret nm Q) {i W : Nat} {a : Addr} (w1 : (Cond.methodLink own i Lib.objectInit).before a0 Z = true) (w2 : (Cond.instanceMethod Lib.objectInit).before a0 Z = true) (w3 : (Cond.code Lib.objectInit ⟨#[0xb1]⟩ 1 none).before a0 Z = true) (hd : decode bytes pc = .ok (.invokespecial i, 3)) (hL : L.size = maxL) (hf : 1 ≤ rm.frames) (hW : (S.map fun v => v.category).sum = W) (hl : W + 12 ≤ rm.locals) (hp : pc + 3 = pc')
    (H : WP κ h k n (mkF κ.m pc' L S)) : WP κ h k n (mkF κ.m pc L (.ref a :: S)) := by
  obtain ⟨hx, hby, hml, -, -, -, -, -, rfl, rfl, rfl, rfl, -⟩ := K
  subst hp
  intro T locs vm0 X e M hZ ho N
  obtain ⟨T', X', e', st⟩ := RoadKit.initO X hx (s := κ.s.setVm vm0) hZ ho w1 w2 w3 e (g := mkF κ.m pc L (.ref a :: S)) rfl (hL.trans hml.symm) rfl (hb hby hd) hf (W := W) (by show 2 * 0 + _ ≤ _; omega) hl
  obtain ⟨t, o, h1, r⟩ := H T' locs vm0 X' e' M hZ ho N
  exact ⟨t, o, st _ h1, r⟩
/-- an array: its class, its kind of component, its length, its components -/
def Ary (Z : State) (h : Heap) (a : Addr) (kA : ClassId) (ty : FieldType) (N : Nat) (f : Nat → Value) : Prop := ∃ c : Cell, Arr Z h a c ty ∧ c.cls = kA ∧ c.slots.size = N ∧ N < 2 ^ 31 ∧ (∀ i, i < N → c.slots[i]? = some (f i)) ∧ ∀ i, i < N → fits ty (f i) = true
def upd (f : Nat → Value) (i : Nat) (v : Value) : Nat → Value := fun j => if j = i then v else f j
theorem upd_same (f : Nat → Value) (i : Nat) (v : Value) : upd f i v i = v := if_pos rfl
theorem upd_ne (f : Nat → Value) {i j : Nat} (v : Value) (q : j ≠ i) : upd f i v j = f j := if_neg q
def fset {α : Type} (f : Nat → α) (i : Nat) (v : α) : Nat → α := fun j => if j = i then v else f j
theorem fset_same {α : Type} (f : Nat → α) (i : Nat) (v : α) : fset f i v i = v := if_pos rfl
theorem fset_ne {α : Type} (f : Nat → α) {i j : Nat} (v : α) (q : j ≠ i) : fset f i v j = f j := if_neg q
theorem upd_int (F : Nat → Int32) (i : Nat) (v : Int32) : upd (fun j => .int (F j)) i (.int v) = fun j => .int (fset F i v j) := by funext j; unfold upd fset; split <;> rfl
theorem upd_long (F : Nat → Int64) (i : Nat) (v : Int64) : upd (fun j => .long (F j)) i (.long v) = fun j => .long (fset F i v j) := by funext j; unfold upd fset; split <;> rfl
theorem upd_double (F : Nat → UInt64) (i : Nat) (v : UInt64) : upd (fun j => .double (F j)) i (.double v) = fun j => .double (fset F i v j) := by funext j; unfold upd fset; split <;> rfl
section Arrays
variable {a b : Addr} {kA : ClassId} {ty : FieldType} {N : Nat} {f f' : Nat → Value} {sl : Nat} {v : Value} {ws : List Addr}
theorem Ary.lt (A : Ary Z h a kA ty N f) : a < h.size := by obtain ⟨c, q, -⟩ := A; exact q.lt
theorem Ary.len (A : Ary Z h a kA ty N f) : N < 2 ^ 31 := by obtain ⟨c, -, -, -, q, -⟩ := A; exact q
theorem Ary.ext (E : Ext h h') (A : Ary Z h a kA ty N f) : Ary Z h' a kA ty N f := by obtain ⟨c, q, r⟩ := A; exact ⟨c, q.ext E, r⟩
theorem Ary.other (W : Wr h h' b sl v) (A : Ary Z h a kA ty N f) (q : a ≠ b) : Ary Z h' a kA ty N f := by obtain ⟨c, A, r⟩ := A; exact ⟨c, A.other W q, r⟩
theorem Ary.keep (K : Keep h h' ws) (A : Ary Z h a kA ty N f) (q : a ∉ ws) : Ary Z h' a kA ty N f := by obtain ⟨c, A, r⟩ := A; exact ⟨c, ⟨K.2.1 a c A.1 q, A.2⟩, r⟩
theorem Ary.congr (A : Ary Z h a kA ty N f) (q : ∀ i, i < N → f i = f' i) : Ary Z h a kA ty N f' := by obtain ⟨c, A, r1, r2, r3, r4, r5⟩ := A; exact ⟨c, A, r1, r2, r3, fun i hi => by rw [← q i hi]; exact r4 i hi, fun i hi => by rw [← q i hi]; exact r5 i hi⟩
theorem Ary.fits (A : Ary Z h a kA ty N f) {i : Nat} (hi : i < N) : Jvm.fits ty (f i) = true := by obtain ⟨c, -, -, -, -, -, q⟩ := A; exact q i hi
theorem Ary.set (W : Wr h h' a sl v) (A : Ary Z h a kA ty N f) (hv : Jvm.fits ty v = true) : Ary Z h' a kA ty N (upd f sl v) := by
  obtain ⟨c, A, r1, r2, r3, r4, r5⟩ := A
  refine ⟨_, A.same W, r1, by rw [sz_set]; exact r2, r3, fun i hi => ?_, fun i hi => ?_⟩
  · by_cases q : i = sl
    · subst q; rw [upd_same]; simp [Cell.setSlot, r2, hi]
    · rw [upd_ne f v q]; simp only [Cell.setSlot]; rw [Array.getElem?_setIfInBounds_ne (Ne.symm q)]; exact r4 i hi
  · by_cases q : i = sl
    · subst q; rw [upd_same]; exact hv
    · rw [upd_ne f v q]; exact r5 i hi
theorem Ary.ints (A : Ary Z h a kA ty N f) (ht : ty = .int ∨ ty = .boolean ∨ ty = .byte ∨ ty = .char ∨ ty = .short) : ∃ F : Nat → Int32, Ary Z h a kA ty N (fun i => .int (F i)) := by
  refine ⟨fun i => match f i with | .int x => x | _ => 0, A.congr fun i hi => ?_⟩
  obtain ⟨x, e⟩ := fit_I (A.fits hi) ht
  simp only [e]
theorem Ary.doubles (A : Ary Z h a kA .double N f) : ∃ F : Nat → UInt64, Ary Z h a kA .double N (fun i => .double (F i)) := by
  refine ⟨fun i => match f i with | .double x => x | _ => 0, A.congr fun i hi => ?_⟩
  obtain ⟨x, e⟩ := fit_D (A.fits hi)
  simp only [e]
theorem Ary.longs (A : Ary Z h a kA .long N f) : ∃ F : Nat → Int64, Ary Z h a kA .long N (fun i => .long (F i)) := by
  refine ⟨fun i => match f i with | .long x => x | _ => 0, A.congr fun i hi => ?_⟩
  obtain ⟨x, e⟩ := fit_J (A.fits hi)
  simp only [e]
theorem static_ary {s : State} {args : Array Value} {C nm d : String} {z : Int32} (hf : Fit s) (wl : (Cond.laysStatic C nm d).before args s = true) (wi : (Cond.initialized C).before args s = true) (hd : parseFieldDescriptor d = some (.array ty))
    (hA : (Cond.arrayOf (Term.static C nm d) ty).value args s none s [] = some true) (hL : (Cond.eq (Term.length (Term.static C nm d)) (Term.int z)).value args s none s [] = some true) (hz : z.toInt = (N : Int)) :
    ∃ (a : Addr) (kA : ClassId) (f : Nat → Value), Sta s s.heap C nm d (.ref a) ∧ Ary s s.heap a kA ty N f ∧ ∀ (i : Nat) (j v : Int32), j.toInt = (i : Int) → i < N → (Cond.eq (Term.elem (Term.static C nm d) (Term.int j)) (Term.int v)).value args s none s [] = some true → f i = .int v := by
  obtain ⟨v, ev, hv⟩ := static_fit hf wl hd
  have hr := fit_R hv rfl
  rcases ref_cases hr with rfl | ⟨a, rfl⟩
  · exfalso; simp [Cond.value, ev] at hA
  obtain ⟨c, A⟩ := Arr.start ev hA
  have hc := A.fin (Vm.Alike.refl _)
  have hs : c.slots.size < 2 ^ 31 ∧ c.slots.size.toInt32 = z := by
    obtain ⟨x, y, ex, ey⟩ := cmp_v (Or.inl hL)
    obtain ⟨a', c', ea, hc', rfl, q⟩ := Jvm.Free.SB.Term.length_small ex
    cases ev.symm.trans ea
    cases hc.symm.trans hc'
    exact ⟨q, by simpa [Cond.value, ex, Term.int_eval] using hL⟩
  have hN : c.slots.size = N := by have e := len_toInt hs.1; rw [hs.2, hz] at e; omega
  refine ⟨a, c.cls, fun i => c.slots.getD i .null, Sta.start ev (Or.inr ⟨wi, wl⟩), ⟨c, A, rfl, hN, by omega, fun i hi => ?_, fun i hi => ?_⟩, fun i j v hj hi he => ?_⟩
  · simp [Array.getD, hN, hi]
  · have q := hf A.1 (i := i) (by omega)
    obtain ⟨hst, k, hk, comp, hkind⟩ := A.2.1
    have e : s.slotType? c.cls c.vm i = some ty := by
      cases hq : c.vm <;> first | exact absurd hq (hst _) | simp [State.slotType?, hk, hkind]
    have hi' : i < c.slots.size := by omega
    simpa [State.fitsSlot, e, Array.getD, hi'] using q
  · have hi' : i < c.slots.size := by omega
    have hn : j.toNatClampNeg = i := by simp only [Int32.toNatClampNeg, hj]; omega
    obtain ⟨x, y, ex, ey⟩ := cmp_v (Or.inl he)
    obtain ⟨a', j', c', ea, ej, hc', -, hx⟩ := Term.elem_spec ex
    cases ev.symm.trans ea
    cases hc.symm.trans hc'
    cases (Term.int_eval j).symm.trans ej
    rw [hn] at hx
    have q : x = .int v := by
      have r := hf A.1 (i := i) hi'
      simp only [Cond.value, ex, Term.int_eval] at he
      cases x <;> simp at he
      rw [he]
    simp only [Array.getD, hi', dif_pos]
    rw [Array.getElem?_eq_getElem hi'] at hx
    exact (Option.some.inj hx).trans q
theorem Ary.of_new {cA : ClassId} {z : Int32} (A : Arr Z h a (newA cA ty z) ty) (hz : z.toInt = (N : Int)) : Ary Z h a cA ty N (fun _ => defaultValue ty) := by
  have e : z.toNatClampNeg = N := by simp only [Int32.toNatClampNeg]; omega
  have q := z.toInt_lt
  refine ⟨_, A, rfl, by rw [sz_new, e], by omega, fun i hi => ?_, fun i _ => by cases ty <;> rfl⟩
  simp [newA, e, hi]
theorem Ary.ne {a0 : Array Value} {C : String} {m : Nat} (E : Exa Z h b C) (A : Ary Z h a kA ty N f) (w : (Cond.instantiable C m).before a0 Z = true) : b ≠ a := by obtain ⟨c, q, -⟩ := A; exact ne_arr E w q
theorem in_of {c : Cell} {j : Int32} {i N : Nat} (S : c.slots.size = N) (hj : j.toInt = (i : Int)) (hi : i < N) : ¬ (j < 0 ∨ c.slots.size ≤ j.toNatClampNeg) := by
  rw [S, Int32.lt_iff_toInt_lt]; simp only [Int32.toNatClampNeg, hj]; have : (0 : Int32).toInt = 0 := rfl; omega
theorem nat_of {j : Int32} {i : Nat} (hj : j.toInt = (i : Int)) : j.toNatClampNeg = i := by simp only [Int32.toNatClampNeg, hj]; omega
end Arrays
theorem WP.iaload (K : Cx κ w l Z own n0 rm bytes maxL ret nm Q) {a : Addr} {kA : ClassId} {N i : Nat} {f : Nat → Value} {j : Int32} {v : Value} (A : Ary Z h a kA .int N f) (hj : j.toInt = (i : Int)) (hi : i < N) (hv : f i = v) (hd : decode bytes pc = .ok (.iaload, 1)) (hp : pc + 1 = pc') (H : WP κ h k n (mkF κ.m pc' L (v :: S))) : WP κ h k n (mkF κ.m pc L (.int j :: .ref a :: S)) := by
  obtain ⟨hx, hby, -, -, -, -, -, -, rfl, rfl, -⟩ := K
  subst hp hv
  obtain ⟨c, A, -, r2, -, r4, -⟩ := A
  refine WP.go (fun T locs vm0 X e hZ ho t k => ?_) H
  exact X.iaload hx (by rw [e]; exact A.1) (State.isArrayOf_alike (T := κ.s.setVm vm0) hZ.alike A.2.1) A.2.2 (in_of r2 hj hi) (by rw [nat_of hj]; exact r4 i hi) (g := mkF κ.m pc L (.int j :: .ref a :: S)) rfl rfl (hb hby hd) t k
theorem WP.laload (K : Cx κ w l Z own n0 rm bytes maxL ret nm Q) {a : Addr} {kA : ClassId} {N i : Nat} {f : Nat → Value} {j : Int32} {v : Value} (A : Ary Z h a kA .long N f) (hj : j.toInt = (i : Int)) (hi : i < N) (hv : f i = v) (hd : decode bytes pc = .ok (.laload, 1)) (hp : pc + 1 = pc') (H : WP κ h k n (mkF κ.m pc' L (v :: S))) : WP κ h k n (mkF κ.m pc L (.int j :: .ref a :: S)) := by
  obtain ⟨hx, hby, -, -, -, -, -, -, rfl, rfl, -⟩ := K
  subst hp hv
  obtain ⟨c, A, -, r2, -, r4, -⟩ := A
  refine WP.go (fun T locs vm0 X e hZ ho t k => ?_) H
  exact X.laload hx (by rw [e]; exact A.1) (State.isArrayOf_alike (T := κ.s.setVm vm0) hZ.alike A.2.1) A.2.2 (in_of r2 hj hi) (by rw [nat_of hj]; exact r4 i hi) (g := mkF κ.m pc L (.int j :: .ref a :: S)) rfl rfl (hb hby hd) t k
theorem WP.caload (K : Cx κ w l Z own n0 rm bytes maxL ret nm Q) {a : Addr} {kA : ClassId} {N i : Nat} {f : Nat → Value} {j : Int32} {v : Value} (A : Ary Z h a kA .char N f) (hj : j.toInt = (i : Int)) (hi : i < N) (hv : f i = v) (hd : decode bytes pc = .ok (.caload, 1)) (hp : pc + 1 = pc') (H : WP κ h k n (mkF κ.m pc' L (v :: S))) : WP κ h k n (mkF κ.m pc L (.int j :: .ref a :: S)) := by
  obtain ⟨hx, hby, -, -, -, -, -, -, rfl, rfl, -⟩ := K
  subst hp hv
  obtain ⟨c, A, -, r2, -, r4, -⟩ := A
  refine WP.go (fun T locs vm0 X e hZ ho t k => ?_) H
  exact X.caload hx (by rw [e]; exact A.1) (State.isArrayOf_alike (T := κ.s.setVm vm0) hZ.alike A.2.1) A.2.2 (in_of r2 hj hi) (by rw [nat_of hj]; exact r4 i hi) (g := mkF κ.m pc L (.int j :: .ref a :: S)) rfl rfl (hb hby hd) t k
theorem WP.baload (K : Cx κ w l Z own n0 rm bytes maxL ret nm Q) {a : Addr} {kA : ClassId} {N i : Nat} {f : Nat → Value} {j : Int32} {v : Value} (A : Ary Z h a kA .byte N f) (hj : j.toInt = (i : Int)) (hi : i < N) (hv : f i = v) (hd : decode bytes pc = .ok (.baload, 1)) (hp : pc + 1 = pc') (H : WP κ h k n (mkF κ.m pc' L (v :: S))) : WP κ h k n (mkF κ.m pc L (.int j :: .ref a :: S)) := by
  obtain ⟨hx, hby, -, -, -, -, -, -, rfl, rfl, -⟩ := K
  subst hp hv
  obtain ⟨c, A, -, r2, -, r4, -⟩ := A
  refine WP.go (fun T locs vm0 X e hZ ho t k => ?_) H
  exact X.baloadBytes hx (by rw [e]; exact A.1) (State.isArrayOf_alike (T := κ.s.setVm vm0) hZ.alike A.2.1) A.2.2 (in_of r2 hj hi) (by rw [nat_of hj]; exact r4 i hi) (g := mkF κ.m pc L (.int j :: .ref a :: S)) rfl rfl (hb hby hd) t k
theorem WP.baloadZ (K : Cx κ w l Z own n0 rm bytes maxL ret nm Q) {a : Addr} {kA : ClassId} {N i : Nat} {f : Nat → Value} {j : Int32} {v : Value} (A : Ary Z h a kA .boolean N f) (hj : j.toInt = (i : Int)) (hi : i < N) (hv : f i = v) (hd : decode bytes pc = .ok (.baload, 1)) (hp : pc + 1 = pc') (H : WP κ h k n (mkF κ.m pc' L (v :: S))) : WP κ h k n (mkF κ.m pc L (.int j :: .ref a :: S)) := by
  obtain ⟨hx, hby, -, -, -, -, -, -, rfl, rfl, -⟩ := K
  subst hp hv
  obtain ⟨c, A, -, r2, -, r4, -⟩ := A
  refine WP.go (fun T locs vm0 X e hZ ho t k => ?_) H
  exact X.baloadBooleans hx (by rw [e]; exact A.1) (State.isArrayOf_alike (T := κ.s.setVm vm0) hZ.alike A.2.1) A.2.2 (in_of r2 hj hi) (by rw [nat_of hj]; exact r4 i hi) (g := mkF κ.m pc L (.int j :: .ref a :: S)) rfl rfl (hb hby hd) t k
theorem WP.daload (K : Cx κ w l Z own n0 rm bytes maxL ret nm Q) {a : Addr} {kA : ClassId} {N i : Nat} {f : Nat → Value} {j : Int32} {v : Value} (A : Ary Z h a kA .double N f) (hj : j.toInt = (i : Int)) (hi : i < N) (hv : f i = v) (hd : decode bytes pc = .ok (.daload, 1)) (hp : pc + 1 = pc') (H : WP κ h k n (mkF κ.m pc' L (v :: S))) : WP κ h k n (mkF κ.m pc L (.int j :: .ref a :: S)) := by
  obtain ⟨hx, hby, -, -, -, -, -, -, rfl, rfl, -⟩ := K
  subst hp hv
  obtain ⟨c, A, -, r2, -, r4, -⟩ := A
  refine WP.go (fun T locs vm0 X e hZ ho t k => ?_) H
  exact X.daload hx (by rw [e]; exact A.1) (State.isArrayOf_alike (T := κ.s.setVm vm0) hZ.alike A.2.1) A.2.2 (in_of r2 hj hi) (by rw [nat_of hj]; exact r4 i hi) (g := mkF κ.m pc L (.int j :: .ref a :: S)) rfl rfl (hb hby hd) t k
theorem WP.aaload (K : Cx κ w l Z own n0 rm bytes maxL ret nm Q) {a : Addr} {kA : ClassId} {N i : Nat} {f : Nat → Value} {j : Int32} {v : Value} {ty : FieldType} (ht : ty.isReference = true) (A : Ary Z h a kA ty N f) (hj : j.toInt = (i : Int)) (hi : i < N) (hv : f i = v) (hd : decode bytes pc = .ok (.aaload, 1)) (hp : pc + 1 = pc') (H : WP κ h k n (mkF κ.m pc' L (v :: S))) : WP κ h k n (mkF κ.m pc L (.int j :: .ref a :: S)) := by
  obtain ⟨hx, hby, -, -, -, -, -, -, rfl, rfl, -⟩ := K
  subst hp hv
  obtain ⟨c, A, -, r2, -, r4, -⟩ := A
  refine WP.go (fun T locs vm0 X e hZ ho t k => ?_) H
  exact X.aaload hx (by rw [e]; exact A.1) (State.isArrayOf_alike (T := κ.s.setVm vm0) hZ.alike A.2.1) ht A.2.2 (in_of r2 hj hi) (by rw [nat_of hj]; exact r4 i hi) (g := mkF κ.m pc L (.int j :: .ref a :: S)) rfl rfl (hb hby hd) t k
theorem WP.arraylength (K : Cx κ w l Z own n0 rm bytes maxL ret nm Q) {a : Addr} {kA : ClassId} {ty : FieldType} {N : Nat} {f : Nat → Value} (A : Ary Z h a kA ty N f) (hd : decode bytes pc = .ok (.arraylength, 1)) (hp : pc + 1 = pc') (H : WP κ h k n (mkF κ.m pc' L (.int (Int32.ofNat N) :: S))) : WP κ h k n (mkF κ.m pc L (.ref a :: S)) := by
  obtain ⟨hx, hby, -, -, -, -, -, -, rfl, rfl, -⟩ := K
  subst hp
  obtain ⟨c, A, -, r2, -⟩ := A
  refine WP.go (fun T locs vm0 X e hZ ho t k => ?_) H
  exact X.arraylength hx (by rw [e]; exact A.1) (State.isArrayOf_alike (T := κ.s.setVm vm0) hZ.alike A.2.1) (g := mkF κ.m pc L (.ref a :: S)) rfl rfl (hb hby hd) t (by rw [r2]; exact k)
theorem WP.iastore (K : Cx κ w l Z own n0 rm bytes maxL ret nm Q) {a : Addr} {kA : ClassId} {N i : Nat} {f : Nat → Value} {j : Int32} {x : Int32} (A : Ary Z h a kA .int N f) (hj : j.toInt = (i : Int)) (hi : i < N) (ha : n0 ≤ a) (hd : decode bytes pc = .ok (.iastore, 1)) (hp : pc + 1 = pc')
    (H : ∀ h', Wr h h' a i (.int x) → Ary Z h' a kA .int N (upd f i (.int x)) → WP κ h' k n (mkF κ.m pc' L S)) : WP κ h k n (mkF κ.m pc L (.int x :: .int j :: .ref a :: S)) := by
  obtain ⟨hx, hby, -, -, -, hnm, -, -, rfl, rfl, rfl, rfl, -⟩ := K
  subst hp
  have A0 := A
  obtain ⟨c, A, -, r2, -⟩ := A
  intro T locs vm0 X e M hZ ho N
  obtain ⟨T', h', X', e', W, st⟩ := RoadKit.stI X hx (s := κ.s.setVm vm0) hZ e A (in_of r2 hj hi) (g := mkF κ.m pc L (.int x :: .int j :: .ref a :: S)) rfl rfl (hb hby hd)
  rw [nat_of hj] at W
  obtain ⟨t, o, h1, r⟩ := H h' W (A0.set W rfl) T' _ vm0 X' e' (M.mono (Nat.le_of_eq W.size.symm)) hZ ho (Fr.snoc X' N ha)
  exact ⟨t, o, st _ h1, r⟩
theorem WP.lastore (K : Cx κ w l Z own n0 rm bytes maxL ret nm Q) {a : Addr} {kA : ClassId} {N i : Nat} {f : Nat → Value} {j : Int32} {x : Int64} (A : Ary Z h a kA .long N f) (hj : j.toInt = (i : Int)) (hi : i < N) (ha : n0 ≤ a) (hd : decode bytes pc = .ok (.lastore, 1)) (hp : pc + 1 = pc')
    (H : ∀ h', Wr h h' a i (.long x) → Ary Z h' a kA .long N (upd f i (.long x)) → WP κ h' k n (mkF κ.m pc' L S)) : WP κ h k n (mkF κ.m pc L (.long x :: .int j :: .ref a :: S)) := by
  obtain ⟨hx, hby, -, -, -, hnm, -, -, rfl, rfl, rfl, rfl, -⟩ := K
  subst hp
  have A0 := A
  obtain ⟨c, A, -, r2, -⟩ := A
  intro T locs vm0 X e M hZ ho N
  obtain ⟨T', h', X', e', W, st⟩ := RoadKit.stJ X hx (s := κ.s.setVm vm0) hZ e A (in_of r2 hj hi) (g := mkF κ.m pc L (.long x :: .int j :: .ref a :: S)) rfl rfl (hb hby hd)
  rw [nat_of hj] at W
  obtain ⟨t, o, h1, r⟩ := H h' W (A0.set W rfl) T' _ vm0 X' e' (M.mono (Nat.le_of_eq W.size.symm)) hZ ho (Fr.snoc X' N ha)
  exact ⟨t, o, st _ h1, r⟩
theorem WP.castore (K : Cx κ w l Z own n0 rm bytes maxL ret nm Q) {a : Addr} {kA : ClassId} {N i : Nat} {f : Nat → Value} {j : Int32} {x : Int32} (A : Ary Z h a kA .char N f) (hj : j.toInt = (i : Int)) (hi : i < N) (ha : n0 ≤ a) (hd : decode bytes pc = .ok (.castore, 1)) (hp : pc + 1 = pc')
    (H : ∀ h', Wr h h' a i (.int (nar .char x)) → Ary Z h' a kA .char N (upd f i (.int (nar .char x))) → WP κ h' k n (mkF κ.m pc' L S)) : WP κ h k n (mkF κ.m pc L (.int x :: .int j :: .ref a :: S)) := by
  obtain ⟨hx, hby, -, -, -, hnm, -, -, rfl, rfl, rfl, rfl, -⟩ := K
  subst hp
  have A0 := A
  obtain ⟨c, A, -, r2, -⟩ := A
  intro T locs vm0 X e M hZ ho N
  obtain ⟨T', h', X', e', W, st⟩ := RoadKit.stC X hx (s := κ.s.setVm vm0) hZ e A (in_of r2 hj hi) (g := mkF κ.m pc L (.int x :: .int j :: .ref a :: S)) rfl rfl (hb hby hd)
  rw [nat_of hj] at W
  obtain ⟨t, o, h1, r⟩ := H h' W (A0.set W (fits_nar_char x)) T' _ vm0 X' e' (M.mono (Nat.le_of_eq W.size.symm)) hZ ho (Fr.snoc X' N ha)
  exact ⟨t, o, st _ h1, r⟩
theorem WP.bastore (K : Cx κ w l Z own n0 rm bytes maxL ret nm Q) {a : Addr} {kA : ClassId} {N i : Nat} {f : Nat → Value} {j : Int32} {x : Int32} (A : Ary Z h a kA .byte N f) (hj : j.toInt = (i : Int)) (hi : i < N) (ha : n0 ≤ a) (hd : decode bytes pc = .ok (.bastore, 1)) (hp : pc + 1 = pc')
    (H : ∀ h', Wr h h' a i (.int (nar .byte x)) → Ary Z h' a kA .byte N (upd f i (.int (nar .byte x))) → WP κ h' k n (mkF κ.m pc' L S)) : WP κ h k n (mkF κ.m pc L (.int x :: .int j :: .ref a :: S)) := by
  obtain ⟨hx, hby, -, -, -, hnm, -, -, rfl, rfl, rfl, rfl, -⟩ := K
  subst hp
  have A0 := A
  obtain ⟨c, A, -, r2, -⟩ := A
  intro T locs vm0 X e M hZ ho N
  obtain ⟨T', h', X', e', W, st⟩ := RoadKit.stB X hx (s := κ.s.setVm vm0) hZ e A (in_of r2 hj hi) (g := mkF κ.m pc L (.int x :: .int j :: .ref a :: S)) rfl rfl (hb hby hd)
  rw [nat_of hj] at W
  obtain ⟨t, o, h1, r⟩ := H h' W (A0.set W (fits_nar_byte x)) T' _ vm0 X' e' (M.mono (Nat.le_of_eq W.size.symm)) hZ ho (Fr.snoc X' N ha)
  exact ⟨t, o, st _ h1, r⟩
theorem WP.bastoreZ (K : Cx κ w l Z own n0 rm bytes maxL ret nm Q) {a : Addr} {kA : ClassId} {N i : Nat} {f : Nat → Value} {j : Int32} {x : Int32} (A : Ary Z h a kA .boolean N f) (hj : j.toInt = (i : Int)) (hi : i < N) (ha : n0 ≤ a) (hd : decode bytes pc = .ok (.bastore, 1)) (hp : pc + 1 = pc')
    (H : ∀ h', Wr h h' a i (.int (nar .boolean x)) → Ary Z h' a kA .boolean N (upd f i (.int (nar .boolean x))) → WP κ h' k n (mkF κ.m pc' L S)) : WP κ h k n (mkF κ.m pc L (.int x :: .int j :: .ref a :: S)) := by
  obtain ⟨hx, hby, -, -, -, hnm, -, -, rfl, rfl, rfl, rfl, -⟩ := K
  subst hp
  have A0 := A
  obtain ⟨c, A, -, r2, -⟩ := A
  intro T locs vm0 X e M hZ ho N
  obtain ⟨T', h', X', e', W, st⟩ := RoadKit.stZ X hx (s := κ.s.setVm vm0) hZ e A (in_of r2 hj hi) (g := mkF κ.m pc L (.int x :: .int j :: .ref a :: S)) rfl rfl (hb hby hd)
  rw [nat_of hj] at W
  obtain ⟨t, o, h1, r⟩ := H h' W (A0.set W (fits_nar_bool x)) T' _ vm0 X' e' (M.mono (Nat.le_of_eq W.size.symm)) hZ ho (Fr.snoc X' N ha)
  exact ⟨t, o, st _ h1, r⟩
theorem WP.dastore (K : Cx κ w l Z own n0 rm bytes maxL ret nm Q) {a : Addr} {kA : ClassId} {N i : Nat} {f : Nat → Value} {j : Int32} {x : UInt64} (A : Ary Z h a kA .double N f) (hj : j.toInt = (i : Int)) (hi : i < N) (ha : n0 ≤ a) (hd : decode bytes pc = .ok (.dastore, 1)) (hp : pc + 1 = pc')
    (H : ∀ h', Wr h h' a i (.double x) → Ary Z h' a kA .double N (upd f i (.double x)) → WP κ h' k n (mkF κ.m pc' L S)) : WP κ h k n (mkF κ.m pc L (.double x :: .int j :: .ref a :: S)) := by
  obtain ⟨hx, hby, -, -, -, hnm, -, -, rfl, rfl, rfl, rfl, -⟩ := K
  subst hp
  have A0 := A
  obtain ⟨c, A, -, r2, -⟩ := A
  intro T locs vm0 X e M hZ ho N
  obtain ⟨T', h', X', e', W, st⟩ := RoadKit.stD X hx (s := κ.s.setVm vm0) hZ e A (in_of r2 hj hi) (g := mkF κ.m pc L (.double x :: .int j :: .ref a :: S)) rfl rfl (hb hby hd)
  rw [nat_of hj] at W
  obtain ⟨t, o, h1, r⟩ := H h' W (A0.set W rfl) T' _ vm0 X' e' (M.mono (Nat.le_of_eq W.size.symm)) hZ ho (Fr.snoc X' N ha)
  exact ⟨t, o, st _ h1, r⟩
theorem WP.newarray (K : Cx κ w l Z own n0 rm bytes maxL ret nm Q) {aty : ArrayType} {z : Int32} {N cap : Nat} (w1 : (Cond.arrayClass (newarray.typeOf aty)).before a0 Z = true) (hd : decode bytes pc = .ok (.newarray aty, 2)) (hz : z.toInt = (N : Int)) (hcap : N ≤ cap) (hbig : cap * 8 ≤ 536870912) (hk : k + 1 = k') (hn : n + cap = n') (hk' : k' ≤ rm.cells) (hn' : n' ≤ rm.slots) (hp : pc + 2 = pc')
    (H : ∀ (h' : Heap) (a : Addr) (kA : ClassId), @Eq Nat h.size a → Ext h h' → Ary Z h' a kA (newarray.typeOf aty) N (fun _ => defaultValue (newarray.typeOf aty)) → WP κ h' k' n' (mkF κ.m pc' L (.ref a :: S))) : WP κ h k n (mkF κ.m pc L (.int z :: S)) := by
  obtain ⟨hx, hby, -, -, -, hnm, -, -, rfl, rfl, rfl, rfl, -⟩ := K
  subst hp hk hn
  intro T locs vm0 X e M hZ ho N
  obtain ⟨T', h', cA, X', e', E, A, st⟩ := newP X hx (s := κ.s.setVm vm0) hZ w1 e (g := mkF κ.m pc L (.int z :: S)) rfl (hb hby hd) rfl (by rw [Int32.lt_iff_toInt_lt, hz]; show ¬ _ < (0 : Int); omega) (cap := cap) (by rw [nat_of hz]; exact hcap) hbig hk' hn'
  obtain ⟨t, o, h1, r⟩ := H h' _ cA rfl E (Ary.of_new A hz) T' _ vm0 X' e' (M.mono E.1) hZ ho N
  exact ⟨t, o, st _ h1, r⟩
/-- what a call's law hands back, in both modes -/
theorem Met.back {y : MethodName} {by' : ByteArray} {mL' : Nat} {rt' : Option FieldType} {rm' : Room} {as' : Array Value} {Q' : Option Value → Heap → Prop} {len W : Nat} {R : Room} {p : Program} {e : Env} {below : List Frame} {s : State} {args : Array Value}
    (hM : Met false l Z y by' mL' rt' [] rm' as' h n0 Q') (hZ : Z.Warmed39 s.vm) (wc : (Cond.code y by' mL' rt').before a0 Z = true) (wz : (Cond.initialized y.cls).before a0 Z = true) (hf : rm'.frames + 1 ≤ R.frames) (hl : W + (mL' + 11) + rm'.locals ≤ R.locals) :
    Back l R p e below s args y len W (fun A a => a = as' ∧ A.U.heap = h ∧ A.cells + rm'.cells ≤ R.cells ∧ A.slots + rm'.slots ≤ R.slots) (fun A _ v B => ∃ L, (Q' v B.U.heap ∧ Fr n0 L) ∧ B.locs = A.locs ++ L ∧ B.cells = A.cells + rm'.cells ∧ B.slots = A.slots + rm'.slots) :=
  backOf (Q := fun v h L => Q' v h ∧ Fr n0 L) hM hZ wc wz hf hl
theorem Met.backW {y : MethodName} {by' : ByteArray} {mL' : Nat} {rt' : Option FieldType} {rm' : Room} {as' : Array Value} {Q' : Option Value → Heap → Prop} {len W : Nat} {R : Room} {p : Program} {e : Env} {below : List Frame} {s : State} {args : Array Value}
    (hM : Met true l Z y by' mL' rt' [] rm' as' h n0 Q') (hZ : Z.Warmed39 s.vm) (wc : (Cond.code y by' mL' rt').before a0 Z = true) (wz : (Cond.initialized y.cls).before a0 Z = true) (hf : rm'.frames + 1 ≤ R.frames) (hl : W + (mL' + 11) + rm'.locals ≤ R.locals) :
    BackS l R p e below s args y len W (fun A a => a = as' ∧ A.U.heap = h ∧ A.cells + rm'.cells ≤ R.cells ∧ A.slots + rm'.slots ≤ R.slots) (fun A _ v B => ∃ L, (Q' v B.U.heap ∧ Fr n0 L) ∧ B.locs = A.locs ++ L ∧ B.cells = A.cells + rm'.cells ∧ B.slots = A.slots + rm'.slots) :=
  backOfS (Q := fun v h L => Q' v h ∧ Fr n0 L) hM hZ wc wz hf hl
theorem Ends.call {T : State} {locs : List Loc} {vm0 : Vm} {g g' : JFrame} {rm' : Room} {Q' : Option Value → Heap → Prop} {T1 B : Pt} {v : Option Value} (M : Md κ.w κ.s vm0 h.size) (N : Fr κ.n0 locs) (hc : T1 = ⟨T1.1, locs, k, n⟩)
    (hpost : ∃ L, (Q' v B.U.heap ∧ Fr κ.n0 L) ∧ B.locs = T1.locs ++ L ∧ B.cells = T1.cells + rm'.cells ∧ B.slots = T1.slots + rm'.slots) (hk : k + rm'.cells = k') (hn : n + rm'.slots = n') {vm1 : Vm}
    (X' : Stand κ.p κ.l κ.e κ.R (κ.s.setVm vm1) κ.m κ.a κ.below κ.meth κ.c B.U B.locs B.cells B.slots) (M' : Md κ.w κ.s vm1 B.U.heap.size) (hZ : κ.Z.Warmed39 vm1) (ho : vm1.findClass κ.own = some κ.m.cls) (st : Steps κ.p.tables κ.e κ.below (T.setTop g) (B.U.setTop g'))
    (H : ∀ h', Q' v h' → WP κ h' k' n' g') : Ends κ T g := by
  obtain ⟨Lc, ⟨hQ, hN⟩, l1, l2, l3⟩ := hpost
  rw [hc] at l1 l2 l3
  dsimp only [Pt.U, Pt.locs, Pt.cells, Pt.slots] at l1 l2 l3 X' hQ M' st
  subst hk hn
  rw [l1, l2, l3] at X'
  obtain ⟨t, o, h1, r⟩ := H _ hQ _ _ vm1 X' rfl M' hZ ho (Fr.app N hN)
  exact ⟨t, o, st.trans h1, r⟩
theorem WP.callS (K : Cx κ w l Z own n0 rm bytes maxL ret nm Q) {y : MethodName} {by' : ByteArray} {mL' : Nat} {rt' : Option FieldType} {rm' : Room} {Q' : Option Value → Heap → Prop} {i W : Nat} {argsL : List Value} {S' : List Value} (w1 : (Cond.methodLink own i y).before a0 Z = true) (w2 : (Cond.static y).before a0 Z = true) (hM : Met w l Z y by' mL' rt' [] rm' argsL.toArray h n0 Q') (wc : (Cond.code y by' mL' rt').before a0 Z = true) (wz : (Cond.initialized y.cls).before a0 Z = true) (hy : y.cls ≠ "java/lang/invoke/MethodHandle" ∧ y.cls ≠ "java/lang/invoke/VarHandle")
    (hL : L.size = maxL) (hlen : ∀ sig, parseMethodDescriptor y.desc = some sig → argsL.length = sig.parameters.length) (hS : S' = argsL.reverse ++ S) (hW : (S.map fun v => v.category).sum = W) (hf : rm'.frames + 1 ≤ rm.frames) (hl : W + (mL' + 11) + rm'.locals ≤ rm.locals) (hk : k + rm'.cells = k') (hn : n + rm'.slots = n') (hk' : k' ≤ rm.cells) (hn' : n' ≤ rm.slots) (hd : decode bytes pc = .ok (.invokestatic i, 3)) (hp : pc + 3 = pc')
    (H : ∀ (v : Option Value) (h' : Heap), Q' v h' → WP κ h' k' n' (mkF κ.m pc' L (v.toList ++ S))) : WP κ h k n (mkF κ.m pc L S') := by
  obtain ⟨hx, hby, hml, -, -, -, rfl, rfl, rfl, rfl, rfl, rfl, -⟩ := K
  subst hp hS
  intro T locs vm0 X e M hZ ho N
  by_cases hw : κ.w = true
  · rw [hw] at hM
    obtain ⟨v, vm₁, B, -, X', hSi, hgr, hpost, st⟩ := callSS X hx (y := y) ho (mvT (s := κ.s.setVm vm0) hZ w1) (mvT (s := κ.s.setVm vm0) hZ w2) (mvT (s := κ.s.setVm vm0) hZ wz) (mvT (s := κ.s.setVm vm0) hZ wc) hy (Met.backW (s := κ.s.setVm vm0) hM hZ wc wz hf hl) (g := mkF κ.m pc L (argsL.reverse ++ S)) rfl (hL.trans hml.symm) (argsL := argsL) (rest := S) hlen rfl (by show 2 * 0 + _ ≤ _; omega) (hb hby hd) (fun _ _ => ⟨rfl, e, by rw [← hk] at hk'; exact hk', by rw [← hn] at hn'; exact hn'⟩)
    obtain ⟨k0, hS0, hk0⟩ := M.2
    obtain ⟨X'', hS1, hZ1, ho1⟩ := rebS hS0 hk0 X' hSi (e ▸ hgr) hZ ho
    exact Ends.call (Q' := Q') (T1 := ⟨T.setVm vm₁, locs, k, n⟩) M N rfl hpost hk hn X'' ⟨fun q => (by rw [hw] at q; cases q), _, hS1, Nat.le_refl _⟩ hZ1 ho1 st (H v)
  · have hw' : κ.w = false := by simpa using hw
    rw [hw'] at hM
    obtain ⟨v, vm₁, B, -, X', hpost, st⟩ := Jvm.LawKit.callS X hx (y := y) ho (mvT (s := κ.s.setVm vm0) hZ w1) (mvT (s := κ.s.setVm vm0) hZ w2) (mvT (s := κ.s.setVm vm0) hZ wz) (mvT (s := κ.s.setVm vm0) hZ wc) hy (Met.back (s := κ.s.setVm vm0) hM hZ wc wz hf hl) (g := mkF κ.m pc L (argsL.reverse ++ S)) rfl (hL.trans hml.symm) (argsL := argsL) (rest := S) hlen rfl (by show 2 * 0 + _ ≤ _; omega) (hb hby hd) (fun _ _ => ⟨rfl, e, by rw [← hk] at hk'; exact hk', by rw [← hn] at hn'; exact hn'⟩)
    refine Ends.call (Q' := Q') (T1 := ⟨T.setVm vm₁, locs, k, n⟩) M N rfl hpost hk hn X' ?_ hZ ho (st _ (Steps.refl _)) (H v)
    have e0 := M.1 hw'
    subst e0
    exact Md.start _ _ _
theorem WP.callI (K : Cx κ w l Z own n0 rm bytes maxL ret nm Q) {y : MethodName} {by' : ByteArray} {mL' : Nat}  {rm' : Room} {Q' : Option Value → Heap → Prop} {i W : Nat} {argsL : List Value} {S' : List Value} {a : Addr} (hy1 : y.name = "<init>") (w1 : (Cond.methodLink own i y).before a0 Z = true) (w2 : (Cond.instanceMethod y).before a0 Z = true) (hM : Met w l Z y by' mL' none [] rm' (.ref a :: argsL).toArray h n0 Q') (wc : (Cond.code y by' mL' none).before a0 Z = true) (wz : (Cond.initialized y.cls).before a0 Z = true) (hy : y.cls ≠ "java/lang/invoke/MethodHandle" ∧ y.cls ≠ "java/lang/invoke/VarHandle")
    (hL : L.size = maxL) (hlen : ∀ sig, parseMethodDescriptor y.desc = some sig → argsL.length = sig.parameters.length) (hS : S' = argsL.reverse ++ .ref a :: S) (hW : (S.map fun v => v.category).sum = W) (hf : rm'.frames + 1 ≤ rm.frames) (hl : W + (mL' + 11) + rm'.locals ≤ rm.locals) (hk : k + rm'.cells = k') (hn : n + rm'.slots = n') (hk' : k' ≤ rm.cells) (hn' : n' ≤ rm.slots) (hd : decode bytes pc = .ok (.invokespecial i, 3)) (hp : pc + 3 = pc')
    (H : ∀ (v : Option Value) (h' : Heap), Q' v h' → WP κ h' k' n' (mkF κ.m pc' L (v.toList ++ S))) : WP κ h k n (mkF κ.m pc L S') := by
  obtain ⟨hx, hby, hml, -, -, -, rfl, rfl, rfl, rfl, rfl, rfl, -⟩ := K
  subst hp hS
  intro T locs vm0 X e M hZ ho N
  by_cases hw : κ.w = true
  · rw [hw] at hM
    obtain ⟨v, vm₁, B, -, X', hSi, hgr, hpost, st⟩ := X.specialBackS hx (y := y) hy1 ho (mvT (s := κ.s.setVm vm0) hZ w1) (mvT (s := κ.s.setVm vm0) hZ w2) (mvT (s := κ.s.setVm vm0) hZ wc) hy (Met.backW (s := κ.s.setVm vm0) hM hZ wc wz hf hl) (g := mkF κ.m pc L (argsL.reverse ++ .ref a :: S)) rfl (hL.trans hml.symm) (Steps.refl _) (a := a) (argsL := argsL) (rest := S) hlen rfl (by show 2 * 0 + _ ≤ _; omega) (hb hby hd) (fun _ _ => ⟨rfl, e, by rw [← hk] at hk'; exact hk', by rw [← hn] at hn'; exact hn'⟩)
    obtain ⟨k0, hS0, hk0⟩ := M.2
    obtain ⟨X'', hS1, hZ1, ho1⟩ := rebS hS0 hk0 X' hSi (e ▸ hgr) hZ ho
    exact Ends.call (Q' := Q') (T1 := ⟨T.setVm vm₁, locs, k, n⟩) M N rfl hpost hk hn X'' ⟨fun q => (by rw [hw] at q; cases q), _, hS1, Nat.le_refl _⟩ hZ1 ho1 st (H v)
  · have hw' : κ.w = false := by simpa using hw
    rw [hw'] at hM
    obtain ⟨v, vm₁, B, -, X', hpost, st⟩ := X.specialBack hx (y := y) hy1 ho (mvT (s := κ.s.setVm vm0) hZ w1) (mvT (s := κ.s.setVm vm0) hZ w2) (mvT (s := κ.s.setVm vm0) hZ wc) hy (Met.back (s := κ.s.setVm vm0) hM hZ wc wz hf hl) (g := mkF κ.m pc L (argsL.reverse ++ .ref a :: S)) rfl (hL.trans hml.symm) (Steps.refl _) (a := a) (argsL := argsL) (rest := S) hlen rfl (by show 2 * 0 + _ ≤ _; omega) (hb hby hd) (fun _ _ => ⟨rfl, e, by rw [← hk] at hk'; exact hk', by rw [← hn] at hn'; exact hn'⟩)
    refine Ends.call (Q' := Q') (T1 := ⟨T.setVm vm₁, locs, k, n⟩) M N rfl hpost hk hn X' ?_ hZ ho st (H v)
    have e0 := M.1 hw'
    subst e0
    exact Md.start _ _ _
theorem WP.callV (K : Cx κ w l Z own n0 rm bytes maxL ret nm Q) {x y : MethodName} {by' : ByteArray} {mL' : Nat} {rt' : Option FieldType} {rm' : Room} {Q' : Option Value → Heap → Prop} {i W : Nat} {argsL : List Value} {S' : List Value} {a : Addr} {C : String} (w1 : (Cond.methodLink own i x).before a0 Z = true) (w2 : (Cond.declares x).before a0 Z = true) (nf : ∀ vm0 : Vm, Z.Warmed39 vm0 → NotFace (κ.s.setVm vm0) x) (w3 : (Cond.selects C x y).before a0 Z = true) (w4 : (Cond.instanceMethod y).before a0 Z = true) (hx' : x.cls ≠ "java/lang/invoke/MethodHandle" ∧ x.cls ≠ "java/lang/invoke/VarHandle") (E : Exa Z h a C) (hM : Met w l Z y by' mL' rt' [] rm' (.ref a :: argsL).toArray h n0 Q') (wc : (Cond.code y by' mL' rt').before a0 Z = true) (wz : (Cond.initialized y.cls).before a0 Z = true) (hy : y.cls ≠ "java/lang/invoke/MethodHandle" ∧ y.cls ≠ "java/lang/invoke/VarHandle")
    (hL : L.size = maxL) (hlen : ∀ sig, parseMethodDescriptor x.desc = some sig → argsL.length = sig.parameters.length) (hS : S' = argsL.reverse ++ .ref a :: S) (hW : (S.map fun v => v.category).sum = W) (hf : rm'.frames + 1 ≤ rm.frames) (hl : W + (mL' + 11) + rm'.locals ≤ rm.locals) (hk : k + rm'.cells = k') (hn : n + rm'.slots = n') (hk' : k' ≤ rm.cells) (hn' : n' ≤ rm.slots) (hd : decode bytes pc = .ok (.invokevirtual i, 3)) (hp : pc + 3 = pc')
    (H : ∀ (v : Option Value) (h' : Heap), Q' v h' → WP κ h' k' n' (mkF κ.m pc' L (v.toList ++ S))) : WP κ h k n (mkF κ.m pc L S') := by
  obtain ⟨hx, hby, hml, -, -, -, rfl, rfl, rfl, rfl, rfl, rfl, -⟩ := K
  subst hp hS
  intro T locs vm0 X e M hZ ho N
  obtain ⟨cB, kB, q1, q2, q3⟩ := isOf (s := κ.s.setVm vm0) hZ e E
  by_cases hw : κ.w = true
  · rw [hw] at hM
    obtain ⟨v, vm₁, B, -, X', hSi, hgr, hpost, st⟩ := X.virtualBackS hx (y := x) (z := y) ho (mvT (s := κ.s.setVm vm0) hZ w1) (mvT (s := κ.s.setVm vm0) hZ w2) (nf vm0 hZ) (mvT (s := κ.s.setVm vm0) hZ w3) (mvT (s := κ.s.setVm vm0) hZ w4) hx' (Met.backW (s := κ.s.setVm vm0) hM hZ wc wz hf hl) q1 q3 (g := mkF κ.m pc L (argsL.reverse ++ .ref a :: S)) rfl (hL.trans hml.symm) (Steps.refl _) (argsL := argsL) (rest := S) hlen rfl (by show 2 * 0 + _ ≤ _; omega) (hb hby hd) (fun _ _ => ⟨rfl, e, by rw [← hk] at hk'; exact hk', by rw [← hn] at hn'; exact hn'⟩)
    obtain ⟨k0, hS0, hk0⟩ := M.2
    obtain ⟨X'', hS1, hZ1, ho1⟩ := rebS hS0 hk0 X' hSi (e ▸ hgr) hZ ho
    exact Ends.call (Q' := Q') (T1 := ⟨T.setVm vm₁, locs, k, n⟩) M N rfl hpost hk hn X'' ⟨fun q => (by rw [hw] at q; cases q), _, hS1, Nat.le_refl _⟩ hZ1 ho1 st (H v)
  · have hw' : κ.w = false := by simpa using hw
    rw [hw'] at hM
    obtain ⟨v, vm₁, B, -, X', hpost, st⟩ := X.virtualBack hx (y := x) (z := y) ho (mvT (s := κ.s.setVm vm0) hZ w1) (mvT (s := κ.s.setVm vm0) hZ w2) (nf vm0 hZ) (mvT (s := κ.s.setVm vm0) hZ w3) (mvT (s := κ.s.setVm vm0) hZ w4) hx' (Met.back (s := κ.s.setVm vm0) hM hZ wc wz hf hl) q1 q3 (g := mkF κ.m pc L (argsL.reverse ++ .ref a :: S)) rfl (hL.trans hml.symm) (Steps.refl _) (argsL := argsL) (rest := S) hlen rfl (by show 2 * 0 + _ ≤ _; omega) (hb hby hd) (fun _ _ => ⟨rfl, e, by rw [← hk] at hk'; exact hk', by rw [← hn] at hn'; exact hn'⟩)
    refine Ends.call (Q' := Q') (T1 := ⟨T.setVm vm₁, locs, k, n⟩) M N rfl hpost hk hn X' ?_ hZ ho st (H v)
    have e0 := M.1 hw'
    subst e0
    exact Md.start _ _ _
end Rules
end Jvm.OwnW
namespace Jvm.Pilot.@@N@@
open Jvm Jvm.ClassFile Sem Op Lib Jvm.Free Jvm.Stand Jvm.LawKit Jvm.RoadKit Bundle Jvm.OwnW Jvm.Pilot.@@N@@.Jvm.D

def own_up (time : UInt64) (tag : Int32) : Nat → Nat → (Nat → UInt64) → (Nat → Int32) → (Nat → UInt64) × (Nat → Int32)
  | 0, hole, T, G => (fset T hole time, fset G hole tag)
  | f + 1, hole, T, G => if hole = 0 then (fset T hole time, fset G hole tag)
    else if (0 : Int32) < cmpValue (FP.dcmp (T ((hole - 1) / 2)) time) .l then own_up time tag f ((hole - 1) / 2) (fset T hole (T ((hole - 1) / 2))) (fset G hole (G ((hole - 1) / 2)))
    else (fset T hole time, fset G hole tag)
def own_pick (m : Nat) (T : Nat → UInt64) (child : Nat) : Nat := if child + 1 < m ∧ cmpValue (FP.dcmp (T (child + 1)) (T child)) .g < (0 : Int32) then child + 1 else child
def own_dn (time : UInt64) (tag : Int32) (m : Nat) : Nat → Nat → Nat → (Nat → UInt64) → (Nat → Int32) → (Nat → UInt64) × (Nat → Int32)
  | 0, hole, _, T, G => (fset T hole time, fset G hole tag)
  | f + 1, hole, child, T, G => if child < m then
      (if cmpValue (FP.dcmp (T (own_pick m T child)) time) .l < (0 : Int32) then own_dn time tag m f (own_pick m T child) (2 * own_pick m T child + 1) (fset T hole (T (own_pick m T child))) (fset G hole (G (own_pick m T child)))
       else (fset T hole time, fset G hole tag))
    else (fset T hole time, fset G hole tag)
theorem own_par {x : Int32} {n : Nat} (h : x.toInt = (n : Int)) (h0 : 0 < n) : ((x - (1 : Int32)) / (2 : Int32)).toInt = (((n - 1) / 2 : Nat) : Int) := by
  have r := rng32 x
  have q := c_isub x 1
  have r2 := rng32 (x - 1)
  have e1 : (1 : Int32).toInt = 1 := by decide
  rw [e1] at q
  have e : (x - 1).toInt = x.toInt - 1 := by omega
  have d := (c_idiv (x - 1) 2 2 (by decide) (by decide)).1 (by omega)
  rw [d, e]; omega
theorem own_inc {x y : Int32} {n k : Nat} (h : x.toInt = (n : Int)) (hy : y.toInt = (k : Int)) (hn : n + k < 2147483648) : (x + y).toInt = ((n + k : Nat) : Int) := by
  have q := c_iadd x y
  have r2 := rng32 (x + y)
  omega
theorem own_dec {x : Int32} {n : Nat} (h : x.toInt = (n : Int)) (h0 : 0 < n) : (x - (1 : Int32)).toInt = ((n - 1 : Nat) : Int) := by
  have r := rng32 x
  have q := c_isub x 1
  have r2 := rng32 (x - 1)
  have e1 : (1 : Int32).toInt = 1 := by decide
  rw [e1] at q
  omega
theorem own_two {x : Int32} {n : Nat} (h : x.toInt = (n : Int)) (hn : n ≤ 100) : ((2 : Int32) * x + (1 : Int32)).toInt = ((2 * n + 1 : Nat) : Int) := by
  have q := c_imul 2 x
  have r := rng32 ((2 : Int32) * x)
  have e2 : (2 : Int32).toInt = 2 := by decide
  rw [e2, h] at q
  have e : ((2 : Int32) * x).toInt = 2 * n := by omega
  have q1 := c_iadd ((2 : Int32) * x) 1
  have r1 := rng32 ((2 : Int32) * x + 1)
  have e1 : (1 : Int32).toInt = 1 := by decide
  rw [e1] at q1
  omega
theorem own_ltN {x y : Int32} {n k : Nat} (h : x.toInt = (n : Int)) (hy : y.toInt = (k : Int)) : x < y ↔ n < k := by rw [Int32.lt_iff_toInt_lt]; omega
def own_upI (c : Nat → Nat → Bool) (e : Nat) : Nat → Nat → (Nat → Nat) → (Nat → Nat)
  | 0, hole, π => fset π hole e
  | f + 1, hole, π => if hole = 0 then fset π hole e else if c e (π ((hole - 1) / 2)) = true then own_upI c e f ((hole - 1) / 2) (fset π hole (π ((hole - 1) / 2))) else fset π hole e
def own_pickI (c : Nat → Nat → Bool) (m : Nat) (π : Nat → Nat) (child : Nat) : Nat := if child + 1 < m ∧ c (π (child + 1)) (π child) = true then child + 1 else child
def own_dnI (c : Nat → Nat → Bool) (e m : Nat) : Nat → Nat → Nat → (Nat → Nat) → (Nat → Nat)
  | 0, hole, _, π => fset π hole e
  | f + 1, hole, child, π => if child < m then (if c (π (own_pickI c m π child)) e = true then own_dnI c e m f (own_pickI c m π child) (2 * own_pickI c m π child + 1) (fset π hole (π (own_pickI c m π child))) else fset π hole e) else fset π hole e
theorem own_fset {α : Type} (g : Nat → α) (π : Nat → Nat) (i e : Nat) : fset (fun j => g (π j)) i (g e) = fun j => g (fset π i e j) := by funext j; unfold fset; split <;> rfl
theorem own_gtK {K : Nat → Int64} (hK : ∀ i, B53 (K i)) (a b : Nat) (o : CmpOp) : ((0 : Int32) < cmpValue (FP.dcmp (FP.l2d (K a)) (FP.l2d (K b))) o) ↔ (decide (K b < K a) = true) := by
  rw [dcmpV_w (hK a) (hK b) o, lw_gt, decide_eq_true_iff]
theorem own_ltK {K : Nat → Int64} (hK : ∀ i, B53 (K i)) (a b : Nat) (o : CmpOp) : (cmpValue (FP.dcmp (FP.l2d (K a)) (FP.l2d (K b))) o < (0 : Int32)) ↔ (decide (K a < K b) = true) := by
  rw [dcmpV_w (hK a) (hK b) o, lw_lt, decide_eq_true_iff]
theorem own_up_sim (K : Nat → Int64) (τ : Nat → Int32) (hK : ∀ i, B53 (K i)) (e : Nat) : ∀ (f hole : Nat) (π : Nat → Nat), own_up (FP.l2d (K e)) (τ e) f hole (fun j => FP.l2d (K (π j))) (fun j => τ (π j)) =
    ((fun j => FP.l2d (K (own_upI (fun a b => decide (K a < K b)) e f hole π j))), fun j => τ (own_upI (fun a b => decide (K a < K b)) e f hole π j)) := by
  intro f
  induction f with
  | zero => intro hole π; rw [own_up, own_upI, own_fset (fun z => FP.l2d (K z)), own_fset τ]
  | succ f ih =>
    intro hole π
    rw [own_up, own_upI]
    by_cases h : hole = 0
    · rw [if_pos h, if_pos h, own_fset (fun z => FP.l2d (K z)), own_fset τ]
    · rw [if_neg h, if_neg h]
      by_cases q : decide (K e < K (π ((hole - 1) / 2))) = true
      · rw [if_pos ((own_gtK hK _ _ _).mpr q), if_pos q, own_fset (fun z => FP.l2d (K z)), own_fset τ]; exact ih _ _
      · rw [if_neg (fun z => q ((own_gtK hK _ _ _).mp z)), if_neg q, own_fset (fun z => FP.l2d (K z)), own_fset τ]
theorem own_pick_sim (K : Nat → Int64) (hK : ∀ i, B53 (K i)) (m : Nat) (π : Nat → Nat) (child : Nat) : own_pick m (fun j => FP.l2d (K (π j))) child = own_pickI (fun a b => decide (K a < K b)) m π child := by
  unfold own_pick own_pickI
  simp only [own_ltK hK]
theorem own_dn_sim (K : Nat → Int64) (τ : Nat → Int32) (hK : ∀ i, B53 (K i)) (e m : Nat) : ∀ (f hole child : Nat) (π : Nat → Nat), own_dn (FP.l2d (K e)) (τ e) m f hole child (fun j => FP.l2d (K (π j))) (fun j => τ (π j)) =
    ((fun j => FP.l2d (K (own_dnI (fun a b => decide (K a < K b)) e m f hole child π j))), fun j => τ (own_dnI (fun a b => decide (K a < K b)) e m f hole child π j)) := by
  intro f
  induction f with
  | zero => intro hole child π; rw [own_dn, own_dnI, own_fset (fun z => FP.l2d (K z)), own_fset τ]
  | succ f ih =>
    intro hole child π
    rw [own_dn, own_dnI, own_pick_sim K hK]
    by_cases h : child < m
    · rw [if_pos h, if_pos h]
      by_cases q : decide (K (π (own_pickI (fun a b => decide (K a < K b)) m π child)) < K e) = true
      · rw [if_pos ((own_ltK hK _ _ _).mpr q), if_pos q, own_fset (fun z => FP.l2d (K z)), own_fset τ]; exact ih _ _ _
      · rw [if_neg (fun z => q ((own_ltK hK _ _ _).mp z)), if_neg q, own_fset (fun z => FP.l2d (K z)), own_fset τ]
    · rw [if_neg h, if_neg h, own_fset (fun z => FP.l2d (K z)), own_fset τ]
def own_p5 (c : Nat → Nat → Bool) : Nat → Nat := own_upI c 4 5 4 (own_upI c 3 4 3 (own_upI c 2 3 2 (own_upI c 1 2 1 (own_upI c 0 1 0 (fun _ => 5)))))
def own_rmI (c : Nat → Nat → Bool) (n : Nat) (π : Nat → Nat) : Nat → Nat := own_dnI c (π (n - 1)) (n - 1) (n + 1) 0 1 π
def own_cnt (c : Nat → Nat → Bool) (i : Nat) : Nat := (if c 0 i = true then 1 else 0) + (if c 1 i = true then 1 else 0) + (if c 2 i = true then 1 else 0) + (if c 3 i = true then 1 else 0) + (if c 4 i = true then 1 else 0)
def own_rc (r : List Nat) (a b : Nat) : Bool := decide (r.getD (min a 5) 0 < r.getD (min b 5) 0)
def own_ok (c : Nat → Nat → Bool) (k : Nat) (π : Nat → Nat) : Bool := decide (π 0 < 5) && decide (own_cnt c (π 0) = k)
def own_run (c : Nat → Nat → Bool) : Bool :=
  own_ok c 0 (own_p5 c) && (own_ok c 1 (own_rmI c 5 (own_p5 c)) && (own_ok c 2 (own_rmI c 4 (own_rmI c 5 (own_p5 c))) && (own_ok c 3 (own_rmI c 3 (own_rmI c 4 (own_rmI c 5 (own_p5 c)))) && own_ok c 4 (own_rmI c 2 (own_rmI c 3 (own_rmI c 4 (own_rmI c 5 (own_p5 c))))))))
def own_six : List Nat := [0, 1, 2, 3, 4, 5]
set_option maxRecDepth 65536 in
theorem own_all : (own_six.all fun r0 => own_six.all fun r1 => r1 == r0 || own_six.all fun r2 => r2 == r0 || (r2 == r1 || own_six.all fun r3 => r3 == r0 || (r3 == r1 || (r3 == r2 || own_six.all fun r4 => r4 == r0 || (r4 == r1 || (r4 == r2 || (r4 == r3 || own_six.all fun r5 => own_run (own_rc [r0, r1, r2, r3, r4, r5])))))))) = true := by decide +kernel
theorem own_t (x y z : Int) (h : y ≤ z) : (if x < y then 1 else 0 : Nat) ≤ (if x < z then 1 else 0) := by split <;> split <;> omega
theorem own_t0 (x : Int) : (if x < x then 1 else 0 : Nat) = 0 := if_neg (by omega)
theorem own_t1 {x y : Int} (h : x < y) : (if x < y then 1 else 0 : Nat) = 1 := if_pos h
def own_six6 (f : Nat → Int) (x : Int) : Nat := (if f 0 < x then 1 else 0) + (if f 1 < x then 1 else 0) + (if f 2 < x then 1 else 0) + (if f 3 < x then 1 else 0) + (if f 4 < x then 1 else 0) + (if f 5 < x then 1 else 0)
theorem own_le6 (f : Nat → Int) {y z : Int} (h : y ≤ z) : own_six6 f y ≤ own_six6 f z := by
  unfold own_six6
  have h0 := own_t (f 0) y z h; have h1 := own_t (f 1) y z h; have h2 := own_t (f 2) y z h; have h3 := own_t (f 3) y z h; have h4 := own_t (f 4) y z h; have h5 := own_t (f 5) y z h
  omega
theorem own_lt6 (f : Nat → Int) {a : Nat} (ha : a < 6) {z : Int} (h : f a < z) : own_six6 f (f a) < own_six6 f z := by
  unfold own_six6
  have l : f a ≤ z := Int.le_of_lt h
  have h0 := own_t (f 0) (f a) z l; have h1 := own_t (f 1) (f a) z l; have h2 := own_t (f 2) (f a) z l; have h3 := own_t (f 3) (f a) z l; have h4 := own_t (f 4) (f a) z l; have h5 := own_t (f 5) (f a) z l
  have : a = 0 ∨ a = 1 ∨ a = 2 ∨ a = 3 ∨ a = 4 ∨ a = 5 := by omega
  rcases this with rfl | rfl | rfl | rfl | rfl | rfl
  · have e0 := own_t0 (f 0); have e1 := own_t1 h; omega
  · have e0 := own_t0 (f 1); have e1 := own_t1 h; omega
  · have e0 := own_t0 (f 2); have e1 := own_t1 h; omega
  · have e0 := own_t0 (f 3); have e1 := own_t1 h; omega
  · have e0 := own_t0 (f 4); have e1 := own_t1 h; omega
  · have e0 := own_t0 (f 5); have e1 := own_t1 h; omega
theorem own_b6 (f : Nat → Int) {a : Nat} (ha : a < 6) : own_six6 f (f a) < 6 := by
  unfold own_six6
  have g : ∀ x y : Int, (if x < y then 1 else 0 : Nat) ≤ 1 := fun x y => by split <;> omega
  have h0 := g (f 0) (f a); have h1 := g (f 1) (f a); have h2 := g (f 2) (f a); have h3 := g (f 3) (f a); have h4 := g (f 4) (f a); have h5 := g (f 5) (f a)
  have : a = 0 ∨ a = 1 ∨ a = 2 ∨ a = 3 ∨ a = 4 ∨ a = 5 := by omega
  rcases this with rfl | rfl | rfl | rfl | rfl | rfl
  · have e0 := own_t0 (f 0); omega
  · have e0 := own_t0 (f 1); omega
  · have e0 := own_t0 (f 2); omega
  · have e0 := own_t0 (f 3); omega
  · have e0 := own_t0 (f 4); omega
  · have e0 := own_t0 (f 5); omega
theorem own_iff6 (f : Nat → Int) {a b : Nat} (ha : a < 6) (hb : b < 6) : f a < f b ↔ own_six6 f (f a) < own_six6 f (f b) := by
  constructor
  · intro h; exact own_lt6 f ha h
  · intro h
    rcases Int.lt_or_le (f a) (f b) with q | q
    · exact q
    · have := own_le6 f q; omega
theorem own_get {l : List Nat} {g : Nat → Nat} (hl : l = [g 0, g 1, g 2, g 3, g 4, g 5]) {a : Nat} (ha : a < 6) : l.getD a 0 = g a := by
  subst hl
  have : a = 0 ∨ a = 1 ∨ a = 2 ∨ a = 3 ∨ a = 4 ∨ a = 5 := by omega
  rcases this with rfl | rfl | rfl | rfl | rfl | rfl <;> rfl
theorem own_sorted (K : Nat → Int64) (h5 : ∀ a, K a = K (min a 5)) (hd : ∀ a b, a < 5 → b < 5 → a ≠ b → K a ≠ K b) : own_run (fun a b => decide (K a < K b)) = true := by
  have hc : (fun a b => decide (K a < K b)) = own_rc [own_six6 (fun j => (K j).toInt) (K 0).toInt, own_six6 (fun j => (K j).toInt) (K 1).toInt, own_six6 (fun j => (K j).toInt) (K 2).toInt, own_six6 (fun j => (K j).toInt) (K 3).toInt, own_six6 (fun j => (K j).toInt) (K 4).toInt, own_six6 (fun j => (K j).toInt) (K 5).toInt] := by
    funext a b
    unfold own_rc
    rw [own_get (g := fun j => own_six6 (fun j => (K j).toInt) (K j).toInt) rfl (show min a 5 < 6 by omega), own_get (g := fun j => own_six6 (fun j => (K j).toInt) (K j).toInt) rfl (show min b 5 < 6 by omega), h5 a, h5 b]
    have q := own_iff6 (fun j => (K j).toInt) (show min a 5 < 6 by omega) (show min b 5 < 6 by omega)
    simp only [Int64.lt_iff_toInt_lt, q]
  have ne : ∀ a b, a < 5 → b < 5 → a ≠ b → ¬ own_six6 (fun j => (K j).toInt) (K a).toInt = own_six6 (fun j => (K j).toInt) (K b).toInt := fun a b ha hb hab e => by
    have q1 := own_iff6 (fun j => (K j).toInt) (show a < 6 by omega) (show b < 6 by omega)
    have q2 := own_iff6 (fun j => (K j).toInt) (show b < 6 by omega) (show a < 6 by omega)
    have : (K a).toInt = (K b).toInt := by
      rcases Int.lt_trichotomy (K a).toInt (K b).toInt with h | h | h
      · have := q1.mp h; omega
      · exact h
      · have := q2.mp h; omega
    exact hd a b ha hb hab (Int64.toInt_inj.mp this)
  have mem : ∀ a, a < 6 → own_six6 (fun j => (K j).toInt) (K a).toInt ∈ own_six := fun a ha => by
    have := own_b6 (fun j => (K j).toInt) ha
    simp only [own_six, List.mem_cons, List.not_mem_nil, or_false]
    omega
  have A := own_all
  simp only [List.all_eq_true, Bool.or_eq_true, beq_iff_eq] at A
  have B := A _ (mem 0 (by decide)) _ (mem 1 (by decide))
  have B := B.resolve_left (ne 1 0 (by decide) (by decide) (by decide)) _ (mem 2 (by decide))
  have B := (B.resolve_left (ne 2 0 (by decide) (by decide) (by decide))).resolve_left (ne 2 1 (by decide) (by decide) (by decide)) _ (mem 3 (by decide))
  have B := ((B.resolve_left (ne 3 0 (by decide) (by decide) (by decide))).resolve_left (ne 3 1 (by decide) (by decide) (by decide))).resolve_left (ne 3 2 (by decide) (by decide) (by decide)) _ (mem 4 (by decide))
  have B := (((B.resolve_left (ne 4 0 (by decide) (by decide) (by decide))).resolve_left (ne 4 1 (by decide) (by decide) (by decide))).resolve_left (ne 4 2 (by decide) (by decide) (by decide))).resolve_left (ne 4 3 (by decide) (by decide) (by decide)) _ (mem 5 (by decide))
  rw [hc]
  exact B
theorem own_ok_e {c : Nat → Nat → Bool} {k : Nat} {π : Nat → Nat} (h : own_ok c k π = true) : π 0 < 5 ∧ own_cnt c (π 0) = k := by
  unfold own_ok at h
  simpa using h
theorem own_run_e {c : Nat → Nat → Bool} (h : own_run c = true) : own_ok c 0 (own_p5 c) = true ∧ own_ok c 1 (own_rmI c 5 (own_p5 c)) = true ∧ own_ok c 2 (own_rmI c 4 (own_rmI c 5 (own_p5 c))) = true ∧ own_ok c 3 (own_rmI c 3 (own_rmI c 4 (own_rmI c 5 (own_p5 c)))) = true ∧ own_ok c 4 (own_rmI c 2 (own_rmI c 3 (own_rmI c 4 (own_rmI c 5 (own_p5 c))))) = true := by
  unfold own_run at h
  simpa only [Bool.and_eq_true] using h
abbrev own_c (K : Nat → Int64) : Nat → Nat → Bool := fun a b => decide (K a < K b)
theorem own_addA {Z : State} {h : Heap} {tm tg : Addr} {kT kG : ClassId} {K : Nat → Int64} {τ : Nat → Int32} (hK : ∀ i, B53 (K i)) {e f hole : Nat} {π : Nat → Nat} (A : Ary Z h tm kT .double 16 (fun j => .double ((own_up (FP.l2d (K e)) (τ e) f hole (fun j => FP.l2d (K (π j))) (fun j => τ (π j))).1 j))) : Ary Z h tm kT .double 16 (fun j => .double (FP.l2d (K (own_upI (own_c K) e f hole π j)))) := by
  rw [own_up_sim K τ hK] at A; exact A
theorem own_addG {Z : State} {h : Heap} {tm tg : Addr} {kT kG : ClassId} {K : Nat → Int64} {τ : Nat → Int32} (hK : ∀ i, B53 (K i)) {e f hole : Nat} {π : Nat → Nat} (A : Ary Z h tg kG .int 16 (fun j => .int ((own_up (FP.l2d (K e)) (τ e) f hole (fun j => FP.l2d (K (π j))) (fun j => τ (π j))).2 j))) : Ary Z h tg kG .int 16 (fun j => .int (τ (own_upI (own_c K) e f hole π j))) := by
  rw [own_up_sim K τ hK] at A; exact A
theorem own_remA {Z : State} {h : Heap} {tm tg : Addr} {kT kG : ClassId} {K : Nat → Int64} {τ : Nat → Int32} (hK : ∀ i, B53 (K i)) {n : Nat} {π : Nat → Nat} (A : Ary Z h tm kT .double 16 (fun j => .double ((own_dn (FP.l2d (K (π (n - 1)))) (τ (π (n - 1))) (n - 1) (n + 1) 0 1 (fun j => FP.l2d (K (π j))) (fun j => τ (π j))).1 j))) : Ary Z h tm kT .double 16 (fun j => .double (FP.l2d (K (own_rmI (own_c K) n π j)))) := by
  rw [own_dn_sim K τ hK] at A; exact A
theorem own_remG {Z : State} {h : Heap} {tm tg : Addr} {kT kG : ClassId} {K : Nat → Int64} {τ : Nat → Int32} (hK : ∀ i, B53 (K i)) {n : Nat} {π : Nat → Nat} (A : Ary Z h tg kG .int 16 (fun j => .int ((own_dn (FP.l2d (K (π (n - 1)))) (τ (π (n - 1))) (n - 1) (n + 1) 0 1 (fun j => FP.l2d (K (π j))) (fun j => τ (π j))).2 j))) : Ary Z h tg kG .int 16 (fun j => .int (τ (own_rmI (own_c K) n π j))) := by
  rw [own_dn_sim K τ hK] at A; exact A

theorem own_key (p : Int32) (k : Int64) (n : Int) (hk : k.toInt = n) (h0 : 0 ≤ n) (h8 : n < 8) : ((p.toInt64 * (8 : Int64)) + k).toInt = p.toInt * 8 + n := by
  have r := rng32 p
  have q := c_lmul p.toInt64 8
  have e := c_i2l p
  have r2 := rng64 (p.toInt64 * 8)
  have e4 : (8 : Int64).toInt = 8 := by decide
  rw [e, e4] at q
  have q1 : (p.toInt64 * 8).toInt = p.toInt * 8 := by omega
  have q2 := c_ladd (p.toInt64 * 8) k
  have r3 := rng64 (p.toInt64 * 8 + k)
  rw [q1, hk] at q2; omega
theorem own_key0 (p : Int32) : (p.toInt64 * (8 : Int64)).toInt = p.toInt * 8 := by
  have r := rng32 p
  have q := c_lmul p.toInt64 8
  have e := c_i2l p
  have r2 := rng64 (p.toInt64 * 8)
  have e4 : (8 : Int64).toInt = 8 := by decide
  rw [e, e4] at q
  omega
def own_keys (p0 p1 p2 p3 p4 : Int32) : Nat → Int64
  | 0 => p0.toInt64 * (8 : Int64)
  | 1 => p1.toInt64 * (8 : Int64) + (1 : Int64)
  | 2 => p2.toInt64 * (8 : Int64) + (2 : Int64)
  | 3 => p3.toInt64 * (8 : Int64) + (3 : Int64)
  | 4 => p4.toInt64 * (8 : Int64) + (4 : Int64)
  | _ => 0
theorem own_keys_i (p0 p1 p2 p3 p4 : Int32) : ∃ K : Nat → Int64, p0.toInt64 * (8 : Int64) = K 0 ∧ p1.toInt64 * (8 : Int64) + (1 : Int64) = K 1 ∧ p2.toInt64 * (8 : Int64) + (2 : Int64) = K 2 ∧ p3.toInt64 * (8 : Int64) + (3 : Int64) = K 3 ∧ p4.toInt64 * (8 : Int64) + (4 : Int64) = K 4 ∧ K 5 = 0 ∧ (∀ i, B53 (K i)) ∧ (∀ a, K a = K (min a 5)) ∧ ∀ a b, a < 5 → b < 5 → a ≠ b → K a ≠ K b := by
  have b0 := own_key0 p0; have b1 := own_key p1 1 1 (by decide) (by decide) (by decide); have b2 := own_key p2 2 2 (by decide) (by decide) (by decide); have b3 := own_key p3 3 3 (by decide) (by decide) (by decide); have b4 := own_key p4 4 4 (by decide) (by decide) (by decide)
  have r0 := rng32 p0; have r1 := rng32 p1; have r2 := rng32 p2; have r3 := rng32 p3; have r4 := rng32 p4
  refine ⟨own_keys p0 p1 p2 p3 p4, rfl, rfl, rfl, rfl, rfl, rfl, fun i => ?_, fun a => ?_, fun a b ha hb hab => ?_⟩
  · match i with
    | 0 => show B53 (p0.toInt64 * (8 : Int64)); constructor <;> omega
    | 1 => show B53 (p1.toInt64 * (8 : Int64) + (1 : Int64)); constructor <;> omega
    | 2 => show B53 (p2.toInt64 * (8 : Int64) + (2 : Int64)); constructor <;> omega
    | 3 => show B53 (p3.toInt64 * (8 : Int64) + (3 : Int64)); constructor <;> omega
    | 4 => show B53 (p4.toInt64 * (8 : Int64) + (4 : Int64)); constructor <;> omega
    | n + 5 => show B53 (0 : Int64); constructor <;> decide
  · match a with
    | 0 | 1 | 2 | 3 | 4 => rfl
    | n + 5 => rw [show min (n + 5) 5 = 5 by omega]; rfl
  · intro e
    have e := congrArg Int64.toInt e
    have ca : a = 0 ∨ a = 1 ∨ a = 2 ∨ a = 3 ∨ a = 4 := by omega
    have cb : b = 0 ∨ b = 1 ∨ b = 2 ∨ b = 3 ∨ b = 4 := by omega
    rcases ca with rfl | rfl | rfl | rfl | rfl <;> rcases cb with rfl | rfl | rfl | rfl | rfl <;> simp only [own_keys, b0, b1, b2, b3, b4] at e <;> omega
theorem own_tau (t : Int32) : ∃ τ : Nat → Int32, t = τ 0 ∧ t + (1 : Int32) = τ 1 ∧ t + (2 : Int32) = τ 2 ∧ t + (3 : Int32) = τ 3 ∧ t + (4 : Int32) = τ 4 ∧ τ 5 = 0 ∧ ∀ s, s < 5 → (τ s - τ 0).toInt = (s : Int) := by
  refine ⟨fun i => if i = 0 then t else if i < 5 then t + Int32.ofNat i else 0, rfl, rfl, rfl, rfl, rfl, rfl, fun s hs => ?_⟩
  have : s = 0 ∨ s = 1 ∨ s = 2 ∨ s = 3 ∨ s = 4 := by omega
  have g : ∀ k : Int32, ∀ n : Int, k.toInt = n → 0 ≤ n → n < 5 → (t + k - t).toInt = n := fun k n hk h0 h5 => by
    have q := c_iadd t k; have q2 := c_isub (t + k) t; have r := rng32 (t + k - t); have r2 := rng32 t; have r3 := rng32 (t + k); omega
  rcases this with rfl | rfl | rfl | rfl | rfl
  · show (t - t).toInt = 0
    have q := c_isub t t; have r := rng32 (t - t); omega
  · exact g 1 1 (by decide) (by decide) (by decide)
  · exact g 2 2 (by decide) (by decide) (by decide)
  · exact g 3 3 (by decide) (by decide) (by decide)
  · exact g 4 4 (by decide) (by decide) (by decide)
def own_ls (a k : Int64) : Int32 := if a < k then (1 : Int32) else (0 : Int32)
def own_rk (k a b c d : Int64) : Int32 := ((own_ls a k + own_ls b k) + own_ls c k) + own_ls d k
theorem own_rkN (k a b c d : Int64) : own_rk k a b c d = Int32.ofNat ((if a < k then 1 else 0) + (if b < k then 1 else 0) + (if c < k then 1 else 0) + (if d < k then 1 else 0)) := by
  unfold own_rk own_ls
  split <;> split <;> split <;> split <;> rfl
theorem own_self (k : Int64) : (if k < k then 1 else 0 : Nat) = 0 := if_neg (by rw [Int64.lt_iff_toInt_lt]; omega)
def own_rks (K : Nat → Int64) (i : Nat) : Int32 := if i = 0 then own_rk (K 0) (K 1) (K 2) (K 3) (K 4) else if i = 1 then own_rk (K 1) (K 0) (K 2) (K 3) (K 4) else if i = 2 then own_rk (K 2) (K 0) (K 1) (K 3) (K 4) else if i = 3 then own_rk (K 3) (K 0) (K 1) (K 2) (K 4) else own_rk (K 4) (K 0) (K 1) (K 2) (K 3)
theorem own_five {a b c d e : Int32} {i : Nat} (hi : i < 5) : fset (fset (fset (fset (fset (fun _ => (0 : Int32)) 0 a) 1 b) 2 c) 3 d) 4 e i = if i = 0 then a else if i = 1 then b else if i = 2 then c else if i = 3 then d else e := by
  have : i = 0 ∨ i = 1 ∨ i = 2 ∨ i = 3 ∨ i = 4 := by omega
  rcases this with rfl | rfl | rfl | rfl | rfl <;> rfl
theorem own_rks_e (K : Nat → Int64) {s k : Nat} (hs : s < 5) (h : own_cnt (fun a b => decide (K a < K b)) s = k) : own_rks K s = Int32.ofNat k := by
  subst h
  unfold own_cnt
  simp only [decide_eq_true_eq]
  have : s = 0 ∨ s = 1 ∨ s = 2 ∨ s = 3 ∨ s = 4 := by omega
  rcases this with rfl | rfl | rfl | rfl | rfl
  · show own_rk (K 0) (K 1) (K 2) (K 3) (K 4) = _; rw [own_rkN, own_self]; congr 1 <;> omega
  · show own_rk (K 1) (K 0) (K 2) (K 3) (K 4) = _; rw [own_rkN, own_self]; congr 1 <;> omega
  · show own_rk (K 2) (K 0) (K 1) (K 3) (K 4) = _; rw [own_rkN, own_self]; congr 1 <;> omega
  · show own_rk (K 3) (K 0) (K 1) (K 2) (K 4) = _; rw [own_rkN, own_self]; congr 1 <;> omega
  · show own_rk (K 4) (K 0) (K 1) (K 2) (K 3) = _; rw [own_rkN, own_self]; congr 1
theorem w_0 {Z : State} {a0 : Array Value} (hw : ∀ d ∈ tables_1, d.before a0 Z = true) : (Jvm.Cond.constantLong "com/example/wedge/wedge/link/DepartureQueueRemoveFirstPinLaw" (13 : Nat) (8 : Int64)).before a0 Z = true := hw _ (List.mem_of_getElem? (i := 0) rfl)
theorem w_1 {Z : State} {a0 : Array Value} (hw : ∀ d ∈ tables_1, d.before a0 Z = true) : (Jvm.Cond.constantLong "com/example/wedge/wedge/link/DepartureQueueRemoveFirstPinLaw" (15 : Nat) (2 : Int64)).before a0 Z = true := hw _ (List.mem_of_getElem? (i := 1) rfl)
theorem w_2 {Z : State} {a0 : Array Value} (hw : ∀ d ∈ tables_1, d.before a0 Z = true) : (Jvm.Cond.constantLong "com/example/wedge/wedge/link/DepartureQueueRemoveFirstPinLaw" (17 : Nat) (3 : Int64)).before a0 Z = true := hw _ (List.mem_of_getElem? (i := 2) rfl)
theorem w_3 {Z : State} {a0 : Array Value} (hw : ∀ d ∈ tables_1, d.before a0 Z = true) : (Jvm.Cond.constantLong "com/example/wedge/wedge/link/DepartureQueueRemoveFirstPinLaw" (19 : Nat) (4 : Int64)).before a0 Z = true := hw _ (List.mem_of_getElem? (i := 3) rfl)
theorem w_4 {Z : State} {a0 : Array Value} (hw : ∀ d ∈ tables_1, d.before a0 Z = true) : (Jvm.Cond.arrayClass Jvm.ClassFile.FieldType.int).before a0 Z = true := hw _ (List.mem_of_getElem? (i := 4) rfl)
theorem w_5 {Z : State} {a0 : Array Value} (hw : ∀ d ∈ tables_1, d.before a0 Z = true) : (Jvm.Cond.methodLink "com/example/wedge/wedge/link/DepartureQueueRemoveFirstPinLaw" (21 : Nat) ({ cls := "com/example/wedge/wedge/link/DepartureQueueRemoveFirstPinLaw", name := "rank", desc := "(JJJJJ)I" } : Jvm.MethodName)).before a0 Z = true := hw _ (List.mem_of_getElem? (i := 5) rfl)
theorem w_6 {Z : State} {a0 : Array Value} (hw : ∀ d ∈ tables_1, d.before a0 Z = true) : (Jvm.Cond.static ({ cls := "com/example/wedge/wedge/link/DepartureQueueRemoveFirstPinLaw", name := "rank", desc := "(JJJJJ)I" } : Jvm.MethodName)).before a0 Z = true := hw _ (List.mem_of_getElem? (i := 6) rfl)
theorem w_7 {Z : State} {a0 : Array Value} (hw : ∀ d ∈ tables_1, d.before a0 Z = true) : (Jvm.Cond.initialized "com/example/wedge/wedge/link/DepartureQueueRemoveFirstPinLaw").before a0 Z = true := hw _ (List.mem_of_getElem? (i := 7) rfl)
theorem w_8 {Z : State} {a0 : Array Value} (hw : ∀ d ∈ tables_1, d.before a0 Z = true) : (Jvm.Cond.code ({ cls := "com/example/wedge/wedge/link/DepartureQueueRemoveFirstPinLaw", name := "rank", desc := "(JJJJJ)I" } : Jvm.MethodName) method_3_code (10 : Nat) (Option.some Jvm.ClassFile.FieldType.int)).before a0 Z = true := hw _ (List.mem_of_getElem? (i := 8) rfl)
theorem w_9 {Z : State} {a0 : Array Value} (hw : ∀ d ∈ tables_1, d.before a0 Z = true) : (Jvm.Cond.methodLink "com/example/wedge/wedge/link/DepartureQueueRemoveFirstPinLaw" (7 : Nat) ({ cls := "com/example/wedge/wedge/link/DepartureQueueRemoveFirstPinLaw", name := "less", desc := "(JJ)I" } : Jvm.MethodName)).before a0 Z = true := hw _ (List.mem_of_getElem? (i := 9) rfl)
theorem w_10 {Z : State} {a0 : Array Value} (hw : ∀ d ∈ tables_1, d.before a0 Z = true) : (Jvm.Cond.static ({ cls := "com/example/wedge/wedge/link/DepartureQueueRemoveFirstPinLaw", name := "less", desc := "(JJ)I" } : Jvm.MethodName)).before a0 Z = true := hw _ (List.mem_of_getElem? (i := 10) rfl)
theorem w_11 {Z : State} {a0 : Array Value} (hw : ∀ d ∈ tables_1, d.before a0 Z = true) : (Jvm.Cond.code ({ cls := "com/example/wedge/wedge/link/DepartureQueueRemoveFirstPinLaw", name := "less", desc := "(JJ)I" } : Jvm.MethodName) method_2_code (4 : Nat) (Option.some Jvm.ClassFile.FieldType.int)).before a0 Z = true := hw _ (List.mem_of_getElem? (i := 11) rfl)
theorem w_12 {Z : State} {a0 : Array Value} (hw : ∀ d ∈ tables_1, d.before a0 Z = true) : (Jvm.Cond.classLink "com/example/wedge/wedge/link/DepartureQueueRemoveFirstPinLaw" (25 : Nat) "com/example/wedge/wedge/link/DepartureQueue").before a0 Z = true := hw _ (List.mem_of_getElem? (i := 12) rfl)
theorem w_13 {Z : State} {a0 : Array Value} (hw : ∀ d ∈ tables_1, d.before a0 Z = true) : (Jvm.Cond.instantiable "com/example/wedge/wedge/link/DepartureQueue" (3 : Nat)).before a0 Z = true := hw _ (List.mem_of_getElem? (i := 13) rfl)
theorem w_14 {Z : State} {a0 : Array Value} (hw : ∀ d ∈ tables_1, d.before a0 Z = true) : (Jvm.Cond.initialized "com/example/wedge/wedge/link/DepartureQueue").before a0 Z = true := hw _ (List.mem_of_getElem? (i := 14) rfl)
theorem w_15 {Z : State} {a0 : Array Value} (hw : ∀ d ∈ tables_1, d.before a0 Z = true) : (Jvm.Cond.methodLink "com/example/wedge/wedge/link/DepartureQueueRemoveFirstPinLaw" (27 : Nat) ({ cls := "com/example/wedge/wedge/link/DepartureQueue", name := "<init>", desc := "()V" } : Jvm.MethodName)).before a0 Z = true := hw _ (List.mem_of_getElem? (i := 15) rfl)
theorem w_16 {Z : State} {a0 : Array Value} (hw : ∀ d ∈ tables_1, d.before a0 Z = true) : (Jvm.Cond.instanceMethod ({ cls := "com/example/wedge/wedge/link/DepartureQueue", name := "<init>", desc := "()V" } : Jvm.MethodName)).before a0 Z = true := hw _ (List.mem_of_getElem? (i := 16) rfl)
theorem w_17 {Z : State} {a0 : Array Value} (hw : ∀ d ∈ tables_1, d.before a0 Z = true) : (Jvm.Cond.code ({ cls := "com/example/wedge/wedge/link/DepartureQueue", name := "<init>", desc := "()V" } : Jvm.MethodName) prog_7_method_1_code (1 : Nat) (Option.none : Option Jvm.ClassFile.FieldType)).before a0 Z = true := hw _ (List.mem_of_getElem? (i := 17) rfl)
theorem w_18 {Z : State} {a0 : Array Value} (hw : ∀ d ∈ tables_1, d.before a0 Z = true) : (Jvm.Cond.methodLink "com/example/wedge/wedge/link/DepartureQueue" (1 : Nat) ({ cls := "java/lang/Object", name := "<init>", desc := "()V" } : Jvm.MethodName)).before a0 Z = true := hw _ (List.mem_of_getElem? (i := 18) rfl)
theorem w_19 {Z : State} {a0 : Array Value} (hw : ∀ d ∈ tables_1, d.before a0 Z = true) : (Jvm.Cond.instanceMethod ({ cls := "java/lang/Object", name := "<init>", desc := "()V" } : Jvm.MethodName)).before a0 Z = true := hw _ (List.mem_of_getElem? (i := 19) rfl)
theorem w_20 {Z : State} {a0 : Array Value} (hw : ∀ d ∈ tables_1, d.before a0 Z = true) : (Jvm.Cond.code ({ cls := "java/lang/Object", name := "<init>", desc := "()V" } : Jvm.MethodName) object_method_1_code (1 : Nat) (Option.none : Option Jvm.ClassFile.FieldType)).before a0 Z = true := hw _ (List.mem_of_getElem? (i := 20) rfl)
theorem w_21 {Z : State} {a0 : Array Value} (hw : ∀ d ∈ tables_1, d.before a0 Z = true) : (Jvm.Cond.arrayClass Jvm.ClassFile.FieldType.double).before a0 Z = true := hw _ (List.mem_of_getElem? (i := 21) rfl)
theorem w_22 {Z : State} {a0 : Array Value} (hw : ∀ d ∈ tables_1, d.before a0 Z = true) : (Jvm.Cond.fieldLink "com/example/wedge/wedge/link/DepartureQueue" (7 : Nat) "com/example/wedge/wedge/link/DepartureQueue" "times" "[D").before a0 Z = true := hw _ (List.mem_of_getElem? (i := 22) rfl)
theorem w_23 {Z : State} {a0 : Array Value} (hw : ∀ d ∈ tables_1, d.before a0 Z = true) : (Jvm.Cond.lays "com/example/wedge/wedge/link/DepartureQueue" "com/example/wedge/wedge/link/DepartureQueue" "times" "[D").before a0 Z = true := hw _ (List.mem_of_getElem? (i := 23) rfl)
theorem w_24 {Z : State} {a0 : Array Value} (hw : ∀ d ∈ tables_1, d.before a0 Z = true) : (Jvm.Cond.fieldLink "com/example/wedge/wedge/link/DepartureQueue" (13 : Nat) "com/example/wedge/wedge/link/DepartureQueue" "tags" "[I").before a0 Z = true := hw _ (List.mem_of_getElem? (i := 24) rfl)
theorem w_25 {Z : State} {a0 : Array Value} (hw : ∀ d ∈ tables_1, d.before a0 Z = true) : (Jvm.Cond.lays "com/example/wedge/wedge/link/DepartureQueue" "com/example/wedge/wedge/link/DepartureQueue" "tags" "[I").before a0 Z = true := hw _ (List.mem_of_getElem? (i := 25) rfl)
theorem w_26 {Z : State} {a0 : Array Value} (hw : ∀ d ∈ tables_1, d.before a0 Z = true) : (Jvm.Cond.methodLink "com/example/wedge/wedge/link/DepartureQueueRemoveFirstPinLaw" (28 : Nat) ({ cls := "com/example/wedge/wedge/link/DepartureQueue", name := "add", desc := "(DI)V" } : Jvm.MethodName)).before a0 Z = true := hw _ (List.mem_of_getElem? (i := 26) rfl)
theorem w_27 {Z : State} {a0 : Array Value} (hw : ∀ d ∈ tables_1, d.before a0 Z = true) : (Jvm.Cond.declares ({ cls := "com/example/wedge/wedge/link/DepartureQueue", name := "add", desc := "(DI)V" } : Jvm.MethodName)).before a0 Z = true := hw _ (List.mem_of_getElem? (i := 27) rfl)
theorem w_28 {Z : State} {a0 : Array Value} (hw : ∀ d ∈ tables_1, d.before a0 Z = true) : (Jvm.Cond.instanceMethod ({ cls := "com/example/wedge/wedge/link/DepartureQueue", name := "add", desc := "(DI)V" } : Jvm.MethodName)).before a0 Z = true := hw _ (List.mem_of_getElem? (i := 28) rfl)
theorem w_29 {Z : State} {a0 : Array Value} (hw : ∀ d ∈ tables_1, d.before a0 Z = true) : (Jvm.Cond.selects "com/example/wedge/wedge/link/DepartureQueue" ({ cls := "com/example/wedge/wedge/link/DepartureQueue", name := "add", desc := "(DI)V" } : Jvm.MethodName) ({ cls := "com/example/wedge/wedge/link/DepartureQueue", name := "add", desc := "(DI)V" } : Jvm.MethodName)).before a0 Z = true := hw _ (List.mem_of_getElem? (i := 29) rfl)
theorem w_30 {Z : State} {a0 : Array Value} (hw : ∀ d ∈ tables_1, d.before a0 Z = true) : (Jvm.Cond.code ({ cls := "com/example/wedge/wedge/link/DepartureQueue", name := "add", desc := "(DI)V" } : Jvm.MethodName) prog_7_method_4_code (6 : Nat) (Option.none : Option Jvm.ClassFile.FieldType)).before a0 Z = true := hw _ (List.mem_of_getElem? (i := 30) rfl)
theorem w_31 {Z : State} {a0 : Array Value} (hw : ∀ d ∈ tables_1, d.before a0 Z = true) : (Jvm.Cond.fieldLink "com/example/wedge/wedge/link/DepartureQueue" (17 : Nat) "com/example/wedge/wedge/link/DepartureQueue" "size" "I").before a0 Z = true := hw _ (List.mem_of_getElem? (i := 31) rfl)
theorem w_32 {Z : State} {a0 : Array Value} (hw : ∀ d ∈ tables_1, d.before a0 Z = true) : (Jvm.Cond.lays "com/example/wedge/wedge/link/DepartureQueue" "com/example/wedge/wedge/link/DepartureQueue" "size" "I").before a0 Z = true := hw _ (List.mem_of_getElem? (i := 32) rfl)
theorem w_33 {Z : State} {a0 : Array Value} (hw : ∀ d ∈ tables_1, d.before a0 Z = true) : (Jvm.Cond.methodLink "com/example/wedge/wedge/link/DepartureQueueRemoveFirstPinLaw" (32 : Nat) ({ cls := "com/example/wedge/wedge/link/DepartureQueue", name := "removeFirst", desc := "()I" } : Jvm.MethodName)).before a0 Z = true := hw _ (List.mem_of_getElem? (i := 33) rfl)
theorem w_34 {Z : State} {a0 : Array Value} (hw : ∀ d ∈ tables_1, d.before a0 Z = true) : (Jvm.Cond.declares ({ cls := "com/example/wedge/wedge/link/DepartureQueue", name := "removeFirst", desc := "()I" } : Jvm.MethodName)).before a0 Z = true := hw _ (List.mem_of_getElem? (i := 34) rfl)
theorem w_35 {Z : State} {a0 : Array Value} (hw : ∀ d ∈ tables_1, d.before a0 Z = true) : (Jvm.Cond.instanceMethod ({ cls := "com/example/wedge/wedge/link/DepartureQueue", name := "removeFirst", desc := "()I" } : Jvm.MethodName)).before a0 Z = true := hw _ (List.mem_of_getElem? (i := 35) rfl)
theorem w_36 {Z : State} {a0 : Array Value} (hw : ∀ d ∈ tables_1, d.before a0 Z = true) : (Jvm.Cond.selects "com/example/wedge/wedge/link/DepartureQueue" ({ cls := "com/example/wedge/wedge/link/DepartureQueue", name := "removeFirst", desc := "()I" } : Jvm.MethodName) ({ cls := "com/example/wedge/wedge/link/DepartureQueue", name := "removeFirst", desc := "()I" } : Jvm.MethodName)).before a0 Z = true := hw _ (List.mem_of_getElem? (i := 36) rfl)
theorem w_37 {Z : State} {a0 : Array Value} (hw : ∀ d ∈ tables_1, d.before a0 Z = true) : (Jvm.Cond.code ({ cls := "com/example/wedge/wedge/link/DepartureQueue", name := "removeFirst", desc := "()I" } : Jvm.MethodName) prog_7_method_5_code (7 : Nat) (Option.some Jvm.ClassFile.FieldType.int)).before a0 Z = true := hw _ (List.mem_of_getElem? (i := 37) rfl)
theorem w_38 {Z : State} {a0 : Array Value} (hw : ∀ d ∈ tables_1, d.before a0 Z = true) : (Jvm.Cond.methodLink "com/example/wedge/wedge/link/DepartureQueueRemoveFirstPinLaw" (36 : Nat) ({ cls := "com/example/wedge/wedge/link/DepartureQueueRemoveFirstPinLaw", name := "ok", desc := "(III[I)Z" } : Jvm.MethodName)).before a0 Z = true := hw _ (List.mem_of_getElem? (i := 38) rfl)
theorem w_39 {Z : State} {a0 : Array Value} (hw : ∀ d ∈ tables_1, d.before a0 Z = true) : (Jvm.Cond.static ({ cls := "com/example/wedge/wedge/link/DepartureQueueRemoveFirstPinLaw", name := "ok", desc := "(III[I)Z" } : Jvm.MethodName)).before a0 Z = true := hw _ (List.mem_of_getElem? (i := 39) rfl)
theorem w_40 {Z : State} {a0 : Array Value} (hw : ∀ d ∈ tables_1, d.before a0 Z = true) : (Jvm.Cond.code ({ cls := "com/example/wedge/wedge/link/DepartureQueueRemoveFirstPinLaw", name := "ok", desc := "(III[I)Z" } : Jvm.MethodName) method_4_code (5 : Nat) (Option.some Jvm.ClassFile.FieldType.boolean)).before a0 Z = true := hw _ (List.mem_of_getElem? (i := 40) rfl)
theorem pd_0 : parseMethodDescriptor "(JJ)I" = some ⟨[.long, .long], some .int⟩ := by decide +kernel
theorem pd_1 : parseMethodDescriptor "(JJJJJ)I" = some ⟨[.long, .long, .long, .long, .long], some .int⟩ := by decide +kernel
theorem pd_2 : parseMethodDescriptor "()V" = some ⟨[], none⟩ := by decide +kernel
theorem pd_3 : parseMethodDescriptor "(DI)V" = some ⟨[.double, .int], none⟩ := by decide +kernel
theorem pd_4 : parseMethodDescriptor "()I" = some ⟨[], some .int⟩ := by decide +kernel
theorem pd_5 : parseMethodDescriptor "(III[I)Z" = some ⟨[.int, .int, .int, (.array .int)], some .boolean⟩ := by decide +kernel
theorem d1_0 : decode method_3_code 0 = .ok (.lload_n 2, 1) := by decide +kernel
theorem d1_1 : decode method_3_code 1 = .ok (.lload_n 0, 1) := by decide +kernel
theorem d1_11 : decode method_3_code 11 = .ok (.iadd, 1) := by decide +kernel
theorem d1_12 : decode method_3_code 12 = .ok (.lload 6, 2) := by decide +kernel
theorem d1_14 : decode method_3_code 14 = .ok (.lload_n 0, 1) := by decide +kernel
theorem d1_15 : decode method_3_code 15 = .ok (.invokestatic 7, 3) := by decide +kernel
theorem d1_18 : decode method_3_code 18 = .ok (.iadd, 1) := by decide +kernel
theorem d1_19 : decode method_3_code 19 = .ok (.lload 8, 2) := by decide +kernel
theorem d1_2 : decode method_3_code 2 = .ok (.invokestatic 7, 3) := by decide +kernel
theorem d1_21 : decode method_3_code 21 = .ok (.lload_n 0, 1) := by decide +kernel
theorem d1_22 : decode method_3_code 22 = .ok (.invokestatic 7, 3) := by decide +kernel
theorem d1_25 : decode method_3_code 25 = .ok (.iadd, 1) := by decide +kernel
theorem d1_26 : decode method_3_code 26 = .ok (.ireturn, 1) := by decide +kernel
theorem d1_5 : decode method_3_code 5 = .ok (.lload 4, 2) := by decide +kernel
theorem d1_7 : decode method_3_code 7 = .ok (.lload_n 0, 1) := by decide +kernel
theorem d1_8 : decode method_3_code 8 = .ok (.invokestatic 7, 3) := by decide +kernel
theorem d2_0 : decode method_2_code 0 = .ok (.lload_n 0, 1) := by decide +kernel
theorem d2_1 : decode method_2_code 1 = .ok (.lload_n 2, 1) := by decide +kernel
theorem d2_10 : decode method_2_code 10 = .ok (.iconst 0, 1) := by decide +kernel
theorem d2_11 : decode method_2_code 11 = .ok (.ireturn, 1) := by decide +kernel
theorem d2_2 : decode method_2_code 2 = .ok (.lcmp, 1) := by decide +kernel
theorem d2_3 : decode method_2_code 3 = .ok (.ifCond .ge 7, 3) := by decide +kernel
theorem d2_6 : decode method_2_code 6 = .ok (.iconst 1, 1) := by decide +kernel
theorem d2_7 : decode method_2_code 7 = .ok (.goto 4, 3) := by decide +kernel
theorem d3_0 : decode prog_7_method_1_code 0 = .ok (.aload_n 0, 1) := by decide +kernel
theorem d3_1 : decode prog_7_method_1_code 1 = .ok (.invokespecial 1, 3) := by decide +kernel
theorem d3_12 : decode prog_7_method_1_code 12 = .ok (.aload_n 0, 1) := by decide +kernel
theorem d3_13 : decode prog_7_method_1_code 13 = .ok (.bipush 16, 2) := by decide +kernel
theorem d3_15 : decode prog_7_method_1_code 15 = .ok (.newarray .int, 2) := by decide +kernel
theorem d3_17 : decode prog_7_method_1_code 17 = .ok (.putfield 13, 3) := by decide +kernel
theorem d3_20 : decode prog_7_method_1_code 20 = .ok (.return_, 1) := by decide +kernel
theorem d3_4 : decode prog_7_method_1_code 4 = .ok (.aload_n 0, 1) := by decide +kernel
theorem d3_5 : decode prog_7_method_1_code 5 = .ok (.bipush 16, 2) := by decide +kernel
theorem d3_7 : decode prog_7_method_1_code 7 = .ok (.newarray .double, 2) := by decide +kernel
theorem d3_9 : decode prog_7_method_1_code 9 = .ok (.putfield 7, 3) := by decide +kernel
theorem d5_0 : decode prog_7_method_4_code 0 = .ok (.aload_n 0, 1) := by decide +kernel
theorem d5_1 : decode prog_7_method_4_code 1 = .ok (.getfield 17, 3) := by decide +kernel
theorem d5_100 : decode prog_7_method_4_code 100 = .ok (.daload, 1) := by decide +kernel
theorem d5_101 : decode prog_7_method_4_code 101 = .ok (.dastore, 1) := by decide +kernel
theorem d5_102 : decode prog_7_method_4_code 102 = .ok (.aload_n 0, 1) := by decide +kernel
theorem d5_103 : decode prog_7_method_4_code 103 = .ok (.getfield 13, 3) := by decide +kernel
theorem d5_106 : decode prog_7_method_4_code 106 = .ok (.iload 4, 2) := by decide +kernel
theorem d5_108 : decode prog_7_method_4_code 108 = .ok (.aload_n 0, 1) := by decide +kernel
theorem d5_109 : decode prog_7_method_4_code 109 = .ok (.getfield 13, 3) := by decide +kernel
theorem d5_112 : decode prog_7_method_4_code 112 = .ok (.iload 5, 2) := by decide +kernel
theorem d5_114 : decode prog_7_method_4_code 114 = .ok (.iaload, 1) := by decide +kernel
theorem d5_115 : decode prog_7_method_4_code 115 = .ok (.iastore, 1) := by decide +kernel
theorem d5_116 : decode prog_7_method_4_code 116 = .ok (.iload 5, 2) := by decide +kernel
theorem d5_118 : decode prog_7_method_4_code 118 = .ok (.istore 4, 2) := by decide +kernel
theorem d5_120 : decode prog_7_method_4_code 120 = .ok (.goto (-61), 3) := by decide +kernel
theorem d5_123 : decode prog_7_method_4_code 123 = .ok (.aload_n 0, 1) := by decide +kernel
theorem d5_124 : decode prog_7_method_4_code 124 = .ok (.getfield 7, 3) := by decide +kernel
theorem d5_127 : decode prog_7_method_4_code 127 = .ok (.iload 4, 2) := by decide +kernel
theorem d5_129 : decode prog_7_method_4_code 129 = .ok (.dload_n 1, 1) := by decide +kernel
theorem d5_130 : decode prog_7_method_4_code 130 = .ok (.dastore, 1) := by decide +kernel
theorem d5_131 : decode prog_7_method_4_code 131 = .ok (.aload_n 0, 1) := by decide +kernel
theorem d5_132 : decode prog_7_method_4_code 132 = .ok (.getfield 13, 3) := by decide +kernel
theorem d5_135 : decode prog_7_method_4_code 135 = .ok (.iload 4, 2) := by decide +kernel
theorem d5_137 : decode prog_7_method_4_code 137 = .ok (.iload_n 3, 1) := by decide +kernel
theorem d5_138 : decode prog_7_method_4_code 138 = .ok (.iastore, 1) := by decide +kernel
theorem d5_139 : decode prog_7_method_4_code 139 = .ok (.return_, 1) := by decide +kernel
theorem d5_4 : decode prog_7_method_4_code 4 = .ok (.aload_n 0, 1) := by decide +kernel
theorem d5_46 : decode prog_7_method_4_code 46 = .ok (.aload_n 0, 1) := by decide +kernel
theorem d5_47 : decode prog_7_method_4_code 47 = .ok (.dup, 1) := by decide +kernel
theorem d5_48 : decode prog_7_method_4_code 48 = .ok (.getfield 17, 3) := by decide +kernel
theorem d5_5 : decode prog_7_method_4_code 5 = .ok (.getfield 7, 3) := by decide +kernel
theorem d5_51 : decode prog_7_method_4_code 51 = .ok (.dup_x1, 1) := by decide +kernel
theorem d5_52 : decode prog_7_method_4_code 52 = .ok (.iconst 1, 1) := by decide +kernel
theorem d5_53 : decode prog_7_method_4_code 53 = .ok (.iadd, 1) := by decide +kernel
theorem d5_54 : decode prog_7_method_4_code 54 = .ok (.putfield 17, 3) := by decide +kernel
theorem d5_57 : decode prog_7_method_4_code 57 = .ok (.istore 4, 2) := by decide +kernel
theorem d5_59 : decode prog_7_method_4_code 59 = .ok (.iload 4, 2) := by decide +kernel
theorem d5_61 : decode prog_7_method_4_code 61 = .ok (.ifCond .le 62, 3) := by decide +kernel
theorem d5_64 : decode prog_7_method_4_code 64 = .ok (.aload_n 0, 1) := by decide +kernel
theorem d5_65 : decode prog_7_method_4_code 65 = .ok (.getfield 7, 3) := by decide +kernel
theorem d5_68 : decode prog_7_method_4_code 68 = .ok (.iload 4, 2) := by decide +kernel
theorem d5_70 : decode prog_7_method_4_code 70 = .ok (.iconst 1, 1) := by decide +kernel
theorem d5_71 : decode prog_7_method_4_code 71 = .ok (.isub, 1) := by decide +kernel
theorem d5_72 : decode prog_7_method_4_code 72 = .ok (.iconst 2, 1) := by decide +kernel
theorem d5_73 : decode prog_7_method_4_code 73 = .ok (.idiv, 1) := by decide +kernel
theorem d5_74 : decode prog_7_method_4_code 74 = .ok (.daload, 1) := by decide +kernel
theorem d5_75 : decode prog_7_method_4_code 75 = .ok (.dload_n 1, 1) := by decide +kernel
theorem d5_76 : decode prog_7_method_4_code 76 = .ok (.dcmp .l, 1) := by decide +kernel
theorem d5_77 : decode prog_7_method_4_code 77 = .ok (.ifCond .le 46, 3) := by decide +kernel
theorem d5_8 : decode prog_7_method_4_code 8 = .ok (.arraylength, 1) := by decide +kernel
theorem d5_80 : decode prog_7_method_4_code 80 = .ok (.iload 4, 2) := by decide +kernel
theorem d5_82 : decode prog_7_method_4_code 82 = .ok (.iconst 1, 1) := by decide +kernel
theorem d5_83 : decode prog_7_method_4_code 83 = .ok (.isub, 1) := by decide +kernel
theorem d5_84 : decode prog_7_method_4_code 84 = .ok (.iconst 2, 1) := by decide +kernel
theorem d5_85 : decode prog_7_method_4_code 85 = .ok (.idiv, 1) := by decide +kernel
theorem d5_86 : decode prog_7_method_4_code 86 = .ok (.istore 5, 2) := by decide +kernel
theorem d5_88 : decode prog_7_method_4_code 88 = .ok (.aload_n 0, 1) := by decide +kernel
theorem d5_89 : decode prog_7_method_4_code 89 = .ok (.getfield 7, 3) := by decide +kernel
theorem d5_9 : decode prog_7_method_4_code 9 = .ok (.if_icmp .ne 37, 3) := by decide +kernel
theorem d5_92 : decode prog_7_method_4_code 92 = .ok (.iload 4, 2) := by decide +kernel
theorem d5_94 : decode prog_7_method_4_code 94 = .ok (.aload_n 0, 1) := by decide +kernel
theorem d5_95 : decode prog_7_method_4_code 95 = .ok (.getfield 7, 3) := by decide +kernel
theorem d5_98 : decode prog_7_method_4_code 98 = .ok (.iload 5, 2) := by decide +kernel
theorem d6_0 : decode prog_7_method_5_code 0 = .ok (.aload_n 0, 1) := by decide +kernel
theorem d6_1 : decode prog_7_method_5_code 1 = .ok (.getfield 13, 3) := by decide +kernel
theorem d6_102 : decode prog_7_method_5_code 102 = .ok (.aload_n 0, 1) := by decide +kernel
theorem d6_103 : decode prog_7_method_5_code 103 = .ok (.getfield 7, 3) := by decide +kernel
theorem d6_106 : decode prog_7_method_5_code 106 = .ok (.iload 5, 2) := by decide +kernel
theorem d6_108 : decode prog_7_method_5_code 108 = .ok (.aload_n 0, 1) := by decide +kernel
theorem d6_109 : decode prog_7_method_5_code 109 = .ok (.getfield 7, 3) := by decide +kernel
theorem d6_112 : decode prog_7_method_5_code 112 = .ok (.iload 6, 2) := by decide +kernel
theorem d6_114 : decode prog_7_method_5_code 114 = .ok (.daload, 1) := by decide +kernel
theorem d6_115 : decode prog_7_method_5_code 115 = .ok (.dastore, 1) := by decide +kernel
theorem d6_116 : decode prog_7_method_5_code 116 = .ok (.aload_n 0, 1) := by decide +kernel
theorem d6_117 : decode prog_7_method_5_code 117 = .ok (.getfield 13, 3) := by decide +kernel
theorem d6_12 : decode prog_7_method_5_code 12 = .ok (.iconst 1, 1) := by decide +kernel
theorem d6_120 : decode prog_7_method_5_code 120 = .ok (.iload 5, 2) := by decide +kernel
theorem d6_122 : decode prog_7_method_5_code 122 = .ok (.aload_n 0, 1) := by decide +kernel
theorem d6_123 : decode prog_7_method_5_code 123 = .ok (.getfield 13, 3) := by decide +kernel
theorem d6_126 : decode prog_7_method_5_code 126 = .ok (.iload 6, 2) := by decide +kernel
theorem d6_128 : decode prog_7_method_5_code 128 = .ok (.iaload, 1) := by decide +kernel
theorem d6_129 : decode prog_7_method_5_code 129 = .ok (.iastore, 1) := by decide +kernel
theorem d6_13 : decode prog_7_method_5_code 13 = .ok (.isub, 1) := by decide +kernel
theorem d6_130 : decode prog_7_method_5_code 130 = .ok (.iload 6, 2) := by decide +kernel
theorem d6_132 : decode prog_7_method_5_code 132 = .ok (.istore 5, 2) := by decide +kernel
theorem d6_134 : decode prog_7_method_5_code 134 = .ok (.iconst 2, 1) := by decide +kernel
theorem d6_135 : decode prog_7_method_5_code 135 = .ok (.iload 5, 2) := by decide +kernel
theorem d6_137 : decode prog_7_method_5_code 137 = .ok (.imul, 1) := by decide +kernel
theorem d6_138 : decode prog_7_method_5_code 138 = .ok (.iconst 1, 1) := by decide +kernel
theorem d6_139 : decode prog_7_method_5_code 139 = .ok (.iadd, 1) := by decide +kernel
theorem d6_14 : decode prog_7_method_5_code 14 = .ok (.putfield 17, 3) := by decide +kernel
theorem d6_140 : decode prog_7_method_5_code 140 = .ok (.istore 6, 2) := by decide +kernel
theorem d6_142 : decode prog_7_method_5_code 142 = .ok (.goto (-98), 3) := by decide +kernel
theorem d6_145 : decode prog_7_method_5_code 145 = .ok (.aload_n 0, 1) := by decide +kernel
theorem d6_146 : decode prog_7_method_5_code 146 = .ok (.getfield 7, 3) := by decide +kernel
theorem d6_149 : decode prog_7_method_5_code 149 = .ok (.iload 5, 2) := by decide +kernel
theorem d6_151 : decode prog_7_method_5_code 151 = .ok (.dload_n 2, 1) := by decide +kernel
theorem d6_152 : decode prog_7_method_5_code 152 = .ok (.dastore, 1) := by decide +kernel
theorem d6_153 : decode prog_7_method_5_code 153 = .ok (.aload_n 0, 1) := by decide +kernel
theorem d6_154 : decode prog_7_method_5_code 154 = .ok (.getfield 13, 3) := by decide +kernel
theorem d6_157 : decode prog_7_method_5_code 157 = .ok (.iload 5, 2) := by decide +kernel
theorem d6_159 : decode prog_7_method_5_code 159 = .ok (.iload 4, 2) := by decide +kernel
theorem d6_161 : decode prog_7_method_5_code 161 = .ok (.iastore, 1) := by decide +kernel
theorem d6_162 : decode prog_7_method_5_code 162 = .ok (.iload_n 1, 1) := by decide +kernel
theorem d6_163 : decode prog_7_method_5_code 163 = .ok (.ireturn, 1) := by decide +kernel
theorem d6_17 : decode prog_7_method_5_code 17 = .ok (.aload_n 0, 1) := by decide +kernel
theorem d6_18 : decode prog_7_method_5_code 18 = .ok (.getfield 7, 3) := by decide +kernel
theorem d6_21 : decode prog_7_method_5_code 21 = .ok (.aload_n 0, 1) := by decide +kernel
theorem d6_22 : decode prog_7_method_5_code 22 = .ok (.getfield 17, 3) := by decide +kernel
theorem d6_25 : decode prog_7_method_5_code 25 = .ok (.daload, 1) := by decide +kernel
theorem d6_26 : decode prog_7_method_5_code 26 = .ok (.dstore_n 2, 1) := by decide +kernel
theorem d6_27 : decode prog_7_method_5_code 27 = .ok (.aload_n 0, 1) := by decide +kernel
theorem d6_28 : decode prog_7_method_5_code 28 = .ok (.getfield 13, 3) := by decide +kernel
theorem d6_31 : decode prog_7_method_5_code 31 = .ok (.aload_n 0, 1) := by decide +kernel
theorem d6_32 : decode prog_7_method_5_code 32 = .ok (.getfield 17, 3) := by decide +kernel
theorem d6_35 : decode prog_7_method_5_code 35 = .ok (.iaload, 1) := by decide +kernel
theorem d6_36 : decode prog_7_method_5_code 36 = .ok (.istore 4, 2) := by decide +kernel
theorem d6_38 : decode prog_7_method_5_code 38 = .ok (.iconst 0, 1) := by decide +kernel
theorem d6_39 : decode prog_7_method_5_code 39 = .ok (.istore 5, 2) := by decide +kernel
theorem d6_4 : decode prog_7_method_5_code 4 = .ok (.iconst 0, 1) := by decide +kernel
theorem d6_41 : decode prog_7_method_5_code 41 = .ok (.iconst 1, 1) := by decide +kernel
theorem d6_42 : decode prog_7_method_5_code 42 = .ok (.istore 6, 2) := by decide +kernel
theorem d6_44 : decode prog_7_method_5_code 44 = .ok (.iload 6, 2) := by decide +kernel
theorem d6_46 : decode prog_7_method_5_code 46 = .ok (.aload_n 0, 1) := by decide +kernel
theorem d6_47 : decode prog_7_method_5_code 47 = .ok (.getfield 17, 3) := by decide +kernel
theorem d6_5 : decode prog_7_method_5_code 5 = .ok (.iaload, 1) := by decide +kernel
theorem d6_50 : decode prog_7_method_5_code 50 = .ok (.if_icmp .ge 95, 3) := by decide +kernel
theorem d6_53 : decode prog_7_method_5_code 53 = .ok (.iload 6, 2) := by decide +kernel
theorem d6_55 : decode prog_7_method_5_code 55 = .ok (.iconst 1, 1) := by decide +kernel
theorem d6_56 : decode prog_7_method_5_code 56 = .ok (.iadd, 1) := by decide +kernel
theorem d6_57 : decode prog_7_method_5_code 57 = .ok (.aload_n 0, 1) := by decide +kernel
theorem d6_58 : decode prog_7_method_5_code 58 = .ok (.getfield 17, 3) := by decide +kernel
theorem d6_6 : decode prog_7_method_5_code 6 = .ok (.istore_n 1, 1) := by decide +kernel
theorem d6_61 : decode prog_7_method_5_code 61 = .ok (.if_icmp .ge 26, 3) := by decide +kernel
theorem d6_64 : decode prog_7_method_5_code 64 = .ok (.aload_n 0, 1) := by decide +kernel
theorem d6_65 : decode prog_7_method_5_code 65 = .ok (.getfield 7, 3) := by decide +kernel
theorem d6_68 : decode prog_7_method_5_code 68 = .ok (.iload 6, 2) := by decide +kernel
theorem d6_7 : decode prog_7_method_5_code 7 = .ok (.aload_n 0, 1) := by decide +kernel
theorem d6_70 : decode prog_7_method_5_code 70 = .ok (.iconst 1, 1) := by decide +kernel
theorem d6_71 : decode prog_7_method_5_code 71 = .ok (.iadd, 1) := by decide +kernel
theorem d6_72 : decode prog_7_method_5_code 72 = .ok (.daload, 1) := by decide +kernel
theorem d6_73 : decode prog_7_method_5_code 73 = .ok (.aload_n 0, 1) := by decide +kernel
theorem d6_74 : decode prog_7_method_5_code 74 = .ok (.getfield 7, 3) := by decide +kernel
theorem d6_77 : decode prog_7_method_5_code 77 = .ok (.iload 6, 2) := by decide +kernel
theorem d6_79 : decode prog_7_method_5_code 79 = .ok (.daload, 1) := by decide +kernel
theorem d6_8 : decode prog_7_method_5_code 8 = .ok (.dup, 1) := by decide +kernel
theorem d6_80 : decode prog_7_method_5_code 80 = .ok (.dcmp .g, 1) := by decide +kernel
theorem d6_81 : decode prog_7_method_5_code 81 = .ok (.ifCond .ge 6, 3) := by decide +kernel
theorem d6_84 : decode prog_7_method_5_code 84 = .ok (.iinc 6 1, 3) := by decide +kernel
theorem d6_87 : decode prog_7_method_5_code 87 = .ok (.aload_n 0, 1) := by decide +kernel
theorem d6_88 : decode prog_7_method_5_code 88 = .ok (.getfield 7, 3) := by decide +kernel
theorem d6_9 : decode prog_7_method_5_code 9 = .ok (.getfield 17, 3) := by decide +kernel
theorem d6_91 : decode prog_7_method_5_code 91 = .ok (.iload 6, 2) := by decide +kernel
theorem d6_93 : decode prog_7_method_5_code 93 = .ok (.daload, 1) := by decide +kernel
theorem d6_94 : decode prog_7_method_5_code 94 = .ok (.dload_n 2, 1) := by decide +kernel
theorem d6_95 : decode prog_7_method_5_code 95 = .ok (.dcmp .l, 1) := by decide +kernel
theorem d6_96 : decode prog_7_method_5_code 96 = .ok (.ifCond .lt 6, 3) := by decide +kernel
theorem d6_99 : decode prog_7_method_5_code 99 = .ok (.goto 46, 3) := by decide +kernel
theorem d7_0 : decode method_4_code 0 = .ok (.iload_n 0, 1) := by decide +kernel
theorem d7_1 : decode method_4_code 1 = .ok (.iload_n 1, 1) := by decide +kernel
theorem d7_10 : decode method_4_code 10 = .ok (.iload 4, 2) := by decide +kernel
theorem d7_12 : decode method_4_code 12 = .ok (.iconst 4, 1) := by decide +kernel
theorem d7_13 : decode method_4_code 13 = .ok (.if_icmp .le 5, 3) := by decide +kernel
theorem d7_18 : decode method_4_code 18 = .ok (.aload_n 3, 1) := by decide +kernel
theorem d7_19 : decode method_4_code 19 = .ok (.iload 4, 2) := by decide +kernel
theorem d7_2 : decode method_4_code 2 = .ok (.isub, 1) := by decide +kernel
theorem d7_21 : decode method_4_code 21 = .ok (.iaload, 1) := by decide +kernel
theorem d7_22 : decode method_4_code 22 = .ok (.iload_n 2, 1) := by decide +kernel
theorem d7_23 : decode method_4_code 23 = .ok (.if_icmp .ne 7, 3) := by decide +kernel
theorem d7_26 : decode method_4_code 26 = .ok (.iconst 1, 1) := by decide +kernel
theorem d7_27 : decode method_4_code 27 = .ok (.goto 4, 3) := by decide +kernel
theorem d7_3 : decode method_4_code 3 = .ok (.istore 4, 2) := by decide +kernel
theorem d7_31 : decode method_4_code 31 = .ok (.ireturn, 1) := by decide +kernel
theorem d7_5 : decode method_4_code 5 = .ok (.iload 4, 2) := by decide +kernel
theorem d7_7 : decode method_4_code 7 = .ok (.ifCond .lt 9, 3) := by decide +kernel
/-- an object of class com/example/wedge/wedge/link/DepartureQueue, and what its fields hold -/
def IsDQ (Z : State) (h : Heap) (a : Addr) (v_times v_tags v_size : Value) : Prop := Exa Z h a "com/example/wedge/wedge/link/DepartureQueue" ∧ Fld Z h a "com/example/wedge/wedge/link/DepartureQueue" "times" "[D" v_times ∧ Fld Z h a "com/example/wedge/wedge/link/DepartureQueue" "tags" "[I" v_tags ∧ Fld Z h a "com/example/wedge/wedge/link/DepartureQueue" "size" "I" v_size
theorem IsDQ.exa {Z : State} {h : Heap} {a : Addr} {v_times v_tags v_size : Value} (O : IsDQ Z h a v_times v_tags v_size) : Exa Z h a "com/example/wedge/wedge/link/DepartureQueue" := O.1
theorem IsDQ.lt {Z : State} {h : Heap} {a : Addr} {v_times v_tags v_size : Value} (O : IsDQ Z h a v_times v_tags v_size) : a < h.size := (IsDQ.exa O).lt
theorem IsDQ.f_times {Z : State} {h : Heap} {a : Addr} {v_times v_tags v_size : Value} (O : IsDQ Z h a v_times v_tags v_size) : Fld Z h a "com/example/wedge/wedge/link/DepartureQueue" "times" "[D" v_times := O.2.1
theorem IsDQ.f_tags {Z : State} {h : Heap} {a : Addr} {v_times v_tags v_size : Value} (O : IsDQ Z h a v_times v_tags v_size) : Fld Z h a "com/example/wedge/wedge/link/DepartureQueue" "tags" "[I" v_tags := O.2.2.1
theorem IsDQ.f_size {Z : State} {h : Heap} {a : Addr} {v_times v_tags v_size : Value} (O : IsDQ Z h a v_times v_tags v_size) : Fld Z h a "com/example/wedge/wedge/link/DepartureQueue" "size" "I" v_size := O.2.2.2
theorem IsDQ.ext {Z : State} {h h' : Heap} {a : Addr} {v_times v_tags v_size : Value} (E : Ext h h') (O : IsDQ Z h a v_times v_tags v_size) : IsDQ Z h' a v_times v_tags v_size := ⟨(O.1).ext E, (O.2.1).ext E, (O.2.2.1).ext E, (O.2.2.2).ext E⟩
theorem IsDQ.keep {Z : State} {h h' : Heap} {a : Addr} {v_times v_tags v_size : Value} {ws : List Addr} (K : Keep h h' ws) (O : IsDQ Z h a v_times v_tags v_size) (q : a ∉ ws) : IsDQ Z h' a v_times v_tags v_size := ⟨(O.1).keep K, (O.2.1).keep K q, (O.2.2.1).keep K q, (O.2.2.2).keep K q⟩
theorem IsDQ.other {Z : State} {h h' : Heap} {a b : Addr} {v_times v_tags v_size : Value} {sl : Nat} {v : Value} (W : Wr h h' b sl v) (O : IsDQ Z h a v_times v_tags v_size) (q : a ≠ b) : IsDQ Z h' a v_times v_tags v_size := ⟨(O.1).wr W, (O.2.1).other W (Or.inl q), (O.2.2.1).other W (Or.inl q), (O.2.2.2).other W (Or.inl q)⟩
theorem IsDQ.s_times {Z : State} {h h' : Heap} {a : Addr} {v_times v_tags v_size : Value} {v : Value} {a0 : Array Value} (hw : ∀ d ∈ tables_1, d.before a0 Z = true) (W : Wr h h' a (RoadKit.slotOf Z "com/example/wedge/wedge/link/DepartureQueue" "times" "[D") v) (O : IsDQ Z h a v_times v_tags v_size) : IsDQ Z h' a v v_tags v_size := ⟨(O.1).wr W, (O.2.1).same W, (O.2.2.1).other W (Or.inr (slot_ne (a0 := a0) (C := "com/example/wedge/wedge/link/DepartureQueue") (Or.inl (w_25 hw)) (Or.inl (w_23 hw)) (by decide) (t := (.array .int)) (t' := (.array .double)) (by decide) (by decide))), (O.2.2.2).other W (Or.inr (slot_ne (a0 := a0) (C := "com/example/wedge/wedge/link/DepartureQueue") (Or.inl (w_32 hw)) (Or.inl (w_23 hw)) (by decide) (t := .int) (t' := (.array .double)) (by decide) (by decide)))⟩
theorem IsDQ.s_tags {Z : State} {h h' : Heap} {a : Addr} {v_times v_tags v_size : Value} {v : Value} {a0 : Array Value} (hw : ∀ d ∈ tables_1, d.before a0 Z = true) (W : Wr h h' a (RoadKit.slotOf Z "com/example/wedge/wedge/link/DepartureQueue" "tags" "[I") v) (O : IsDQ Z h a v_times v_tags v_size) : IsDQ Z h' a v_times v v_size := ⟨(O.1).wr W, (O.2.1).other W (Or.inr (slot_ne (a0 := a0) (C := "com/example/wedge/wedge/link/DepartureQueue") (Or.inl (w_23 hw)) (Or.inl (w_25 hw)) (by decide) (t := (.array .double)) (t' := (.array .int)) (by decide) (by decide))), (O.2.2.1).same W, (O.2.2.2).other W (Or.inr (slot_ne (a0 := a0) (C := "com/example/wedge/wedge/link/DepartureQueue") (Or.inl (w_32 hw)) (Or.inl (w_25 hw)) (by decide) (t := .int) (t' := (.array .int)) (by decide) (by decide)))⟩
theorem IsDQ.s_size {Z : State} {h h' : Heap} {a : Addr} {v_times v_tags v_size : Value} {v : Value} {a0 : Array Value} (hw : ∀ d ∈ tables_1, d.before a0 Z = true) (W : Wr h h' a (RoadKit.slotOf Z "com/example/wedge/wedge/link/DepartureQueue" "size" "I") v) (O : IsDQ Z h a v_times v_tags v_size) : IsDQ Z h' a v_times v_tags v := ⟨(O.1).wr W, (O.2.1).other W (Or.inr (slot_ne (a0 := a0) (C := "com/example/wedge/wedge/link/DepartureQueue") (Or.inl (w_23 hw)) (Or.inl (w_32 hw)) (by decide) (t := (.array .double)) (t' := .int) (by decide) (by decide))), (O.2.2.1).other W (Or.inr (slot_ne (a0 := a0) (C := "com/example/wedge/wedge/link/DepartureQueue") (Or.inl (w_25 hw)) (Or.inl (w_32 hw)) (by decide) (t := (.array .int)) (t' := .int) (by decide) (by decide))), (O.2.2.2).same W⟩
set_option maxRecDepth 65536 in
set_option maxHeartbeats 40000000 in
theorem rm_init (w : Bool) (l : Launch) (Z : State) (a0 : Array Value) (hw : ∀ d ∈ tables_1, d.before a0 Z = true) (q : Addr) (u1 u2 u3 : Value) (h0 : Heap) (n0 : Nat) (Z0 : n0 ≤ h0.size) (O_q : IsDQ Z h0 q u1 u2 u3) (old_q : n0 ≤ q) :
    Met w l Z (⟨"com/example/wedge/wedge/link/DepartureQueue", "<init>", "()V"⟩ : MethodName) prog_7_method_1_code 1 none [] ({ frames := 1, cells := 2, slots := 32, locals := 12 } : Room) #[(.ref q)] h0 n0 (fun v h => v = none ∧ Keep h0 h [q] ∧ ∃ (tm tg : Addr) (kT kG : ClassId), h0.size ≤ tm ∧ h0.size ≤ tg ∧ tm ≠ tg ∧ IsDQ Z h q (.ref tm) (.ref tg) u3 ∧ Ary Z h tm kT .double 16 (fun j => .double ((fun _ => 0) j)) ∧ Ary Z h tg kG .int 16 (fun j => .int ((fun _ => 0) j))) := by
  refine Met.of (plainFor_of_name (by first | (simp [plainName, overriddenIn]; done) | decide +kernel)) fun κ K => ?_
  refine WP.frame (g' := (mkF κ.m 0 #[.val (.ref q)] [])) (by first | (simp [entryFrame, mkF, argsToLocals, Value.category]; done) | rfl) ?_
  have KP := Keep.refl h0 [q]
  refine WP.aloadN K d3_0 rfl rfl (pc' := 1) rfl ?_
  refine WP.initO K (w_18 hw) (w_19 hw) (w_20 hw) d3_1 rfl (by decide) (W := 0) rfl (by decide) (pc' := 4) rfl ?_
  refine WP.aloadN K d3_4 rfl rfl (pc' := 5) rfl ?_
  refine WP.bipush K d3_5 (v := (16 : Int32)) rfl (pc' := 7) rfl ?_
  refine WP.newarray (aty := .double) K (w_21 hw) d3_7 (N := 16) (cap := 16) rfl (Nat.le_refl _) (by decide) (k' := 1) (n' := 16) rfl rfl (by decide) (by decide) (pc' := 9) rfl fun h1 tm kA_tm g1 E1 A_tm => ?_
  have ne_q_tm : q ≠ tm := fun z_ => by have q_ : @LT.lt Nat _ q h0.size := (IsDQ.lt O_q); have r_ : @Eq Nat q tm := z_; omega
  have old_tm : n0 ≤ tm := by have q_ := Z0; omega
  have osz_tm : h0.size ≤ tm := by have q_ := KP.1; omega
  have O_q := IsDQ.ext E1 O_q
  have KP := Keep.ext KP E1
  have Z0 := Nat.le_trans Z0 E1.1
  refine WP.putF K (w_22 hw) Via.refl (IsDQ.f_times O_q) (IsDQ.exa O_q) (Or.inl (w_23 hw)) (w_13 hw) (ty := (.array .double)) (by decide) rfl rfl old_q d3_9 (pc' := 12) rfl fun h2 W2 => ?_
  have A_tm := Ary.other W2 A_tm (Ne.symm ne_q_tm)
  have KP := Keep.wr KP W2 (Or.inl (List.mem_of_getElem? (i := 0) rfl))
  have Z0 := Nat.le_trans Z0 (Nat.le_of_eq W2.size.symm)
  have O_q := IsDQ.s_times hw W2 O_q
  refine WP.aloadN K d3_12 rfl rfl (pc' := 13) rfl ?_
  refine WP.bipush K d3_13 (v := (16 : Int32)) rfl (pc' := 15) rfl ?_
  refine WP.newarray (aty := .int) K (w_4 hw) d3_15 (N := 16) (cap := 16) rfl (Nat.le_refl _) (by decide) (k' := 2) (n' := 32) rfl rfl (by decide) (by decide) (pc' := 17) rfl fun h3 tg kA_tg g3 E3 A_tg => ?_
  have ne_q_tg : q ≠ tg := fun z_ => by have q_ : @LT.lt Nat _ q h2.size := (IsDQ.lt O_q); have r_ : @Eq Nat q tg := z_; omega
  have ne_tm_tg : tm ≠ tg := fun z_ => by have q_ : @LT.lt Nat _ tm h2.size := (Ary.lt A_tm); have r_ : @Eq Nat tm tg := z_; omega
  have old_tg : n0 ≤ tg := by have q_ := Z0; omega
  have osz_tg : h0.size ≤ tg := by have q_ := KP.1; omega
  have O_q := IsDQ.ext E3 O_q
  have A_tm := Ary.ext E3 A_tm
  have KP := Keep.ext KP E3
  have Z0 := Nat.le_trans Z0 E3.1
  refine WP.putF K (w_24 hw) Via.refl (IsDQ.f_tags O_q) (IsDQ.exa O_q) (Or.inl (w_25 hw)) (w_13 hw) (ty := (.array .int)) (by decide) rfl rfl old_q d3_17 (pc' := 20) rfl fun h4 W4 => ?_
  have A_tm := Ary.other W4 A_tm (Ne.symm ne_q_tm)
  have A_tg := Ary.other W4 A_tg (Ne.symm ne_q_tg)
  have KP := Keep.wr KP W4 (Or.inl (List.mem_of_getElem? (i := 0) rfl))
  have Z0 := Nat.le_trans Z0 (Nat.le_of_eq W4.size.symm)
  have O_q := IsDQ.s_tags hw W4 O_q
  exact WP.ret0 K d3_20 (by decide) (by decide) ⟨rfl, KP, tm, tg, kA_tm, kA_tg, osz_tm, osz_tg, ne_tm_tg, O_q, A_tm, A_tg⟩
set_option maxRecDepth 65536 in
set_option maxHeartbeats 40000000 in
theorem rm_add (w : Bool) (l : Launch) (Z : State) (a0 : Array Value) (hw : ∀ d ∈ tables_1, d.before a0 Z = true) (q tm tg : Addr) (kT kG : ClassId) (sz : Int32) (n : Nat) (T : Nat → UInt64) (G : Nat → Int32) (time : UInt64) (tag : Int32) (h0 : Heap) (n0 : Nat) (Z0 : n0 ≤ h0.size) (O_q : IsDQ Z h0 q (.ref tm) (.ref tg) (.int sz)) (A_tm : Ary Z h0 tm kT .double 16 (fun j => .double (T j))) (A_tg : Ary Z h0 tg kG .int 16 (fun j => .int (G j))) (ne_t : tm ≠ tg) (old_q : n0 ≤ q) (old_tm : n0 ≤ tm) (old_tg : n0 ≤ tg) (hn : sz.toInt = (n : Int)) (hb : n < 15) :
    Met w l Z (⟨"com/example/wedge/wedge/link/DepartureQueue", "add", "(DI)V"⟩ : MethodName) prog_7_method_4_code 6 none [] ({ frames := 0, cells := 0, slots := 0, locals := 0 } : Room) #[(.ref q), (.double time), (.int tag)] h0 n0 (fun v h => v = none ∧ Keep h0 h [q, tm, tg] ∧ IsDQ Z h q (.ref tm) (.ref tg) (.int (sz + (1 : Int32))) ∧ Ary Z h tm kT .double 16 (fun j => .double ((own_up time tag (n + 1) n T G).1 j)) ∧ Ary Z h tg kG .int 16 (fun j => .int ((own_up time tag (n + 1) n T G).2 j))) := by
  refine Met.of (plainFor_of_name (by first | (simp [plainName, overriddenIn]; done) | decide +kernel)) fun κ K => ?_
  refine WP.frame (g' := (mkF κ.m 0 #[.val (.ref q), .val (.double time), .second, .val (.int tag), .unset, .unset] [])) (by first | (simp [entryFrame, mkF, argsToLocals, Value.category]; done) | rfl) ?_
  have KP := Keep.refl h0 [q, tm, tg]
  refine WP.aloadN K d5_0 rfl rfl (pc' := 1) rfl ?_
  refine WP.getF K (w_31 hw) Via.refl (IsDQ.f_size O_q) d5_1 (pc' := 4) rfl ?_
  refine WP.aloadN K d5_4 rfl rfl (pc' := 5) rfl ?_
  refine WP.getF K (w_22 hw) Via.refl (IsDQ.f_times O_q) d5_5 (pc' := 8) rfl ?_
  refine WP.arraylength K A_tm d5_8 (pc' := 9) rfl ?_
  show WP κ h0 0 0 (mkF κ.m 9 #[.val (.ref q), .val (.double time), .second, .val (.int tag), .unset, .unset] [(.int (16 : Int32)), (.int sz)])
  have c0 : ¬ (sz = (16 : Int32)) := fun z => by rw [z] at hn; have e : (16 : Int32).toInt = 16 := (by decide); omega
  refine WP.icmpT K d5_9 (feq c0).2 (by decide) (pc' := 46) (by decide) ?_
  refine WP.aloadN K d5_46 rfl rfl (pc' := 47) rfl ?_
  refine WP.dup K d5_47 rfl (pc' := 48) rfl ?_
  refine WP.getF K (w_31 hw) Via.refl (IsDQ.f_size O_q) d5_48 (pc' := 51) rfl ?_
  refine WP.dup_x1 K d5_51 rfl rfl (pc' := 52) rfl ?_
  refine WP.iconst K d5_52 (v := (1 : Int32)) rfl (pc' := 53) rfl ?_
  refine WP.iadd K d5_53 (pc' := 54) rfl ?_
  refine WP.putF K (w_31 hw) Via.refl (IsDQ.f_size O_q) (IsDQ.exa O_q) (Or.inl (w_32 hw)) (w_13 hw) (ty := .int) (by decide) rfl rfl old_q d5_54 (pc' := 57) rfl fun h5 W5 => ?_
  have A_tm := Ary.other W5 A_tm (Ne.symm (Ary.ne (IsDQ.exa O_q) A_tm (w_13 hw)))
  have A_tg := Ary.other W5 A_tg (Ne.symm (Ary.ne (IsDQ.exa O_q) A_tg (w_13 hw)))
  have KP := Keep.wr KP W5 (Or.inl (List.mem_of_getElem? (i := 0) rfl))
  have Z0 := Nat.le_trans Z0 (Nat.le_of_eq W5.size.symm)
  have O_q := IsDQ.s_size hw W5 O_q
  refine WP.istore K d5_57 (L' := #[.val (.ref q), .val (.double time), .second, .val (.int tag), .val (.int sz), .unset]) rfl (pc' := 59) rfl ?_
  have LOOP : ∀ (f hole : Nat) (x : Int32) (s5 : Slot) (h : Heap) (T' : Nat → UInt64) (G' : Nat → Int32), hole < f → x.toInt = (hole : Int) → hole ≤ n → One s5 → own_up time tag f hole T' G' = own_up time tag (n + 1) n T G → IsDQ Z h q (.ref tm) (.ref tg) (.int (sz + (1 : Int32))) → Ary Z h tm kT .double 16 (fun j => .double (T' j)) → Ary Z h tg kG .int 16 (fun j => .int (G' j)) → Keep h0 h [q, tm, tg] → n0 ≤ h.size → WP κ h 0 0 (mkF κ.m 59 #[.val (.ref q), .val (.double time), .second, .val (.int tag), .val (.int x), s5] []) := by
    intro f
    induction f with
    | zero => intro hole x s5 h T' G' hf; omega
    | succ f ih =>
      intro hole x s5 h T' G' hf hx hle o_s5 hres O_q A_tm A_tg KP Z0
      have STOP : (fset T' hole time, fset G' hole tag) = own_up time tag (n + 1) n T G → WP κ h 0 0 (mkF κ.m 123 #[.val (.ref q), .val (.double time), .second, .val (.int tag), .val (.int x), s5] []) := by
        intro hr
        refine WP.aloadN K d5_123 rfl rfl (pc' := 124) rfl ?_
        refine WP.getF K (w_22 hw) Via.refl (IsDQ.f_times O_q) d5_124 (pc' := 127) rfl ?_
        refine WP.iload K d5_127 rfl (pc' := 129) rfl ?_
        refine WP.dloadN K d5_129 rfl (pc' := 130) rfl ?_
        refine WP.dastore K (i := hole) A_tm hx (by omega) old_tm d5_130 (pc' := 131) rfl fun h6 W6 A_n => ?_
        have O_q := IsDQ.other W6 O_q (Ary.ne (IsDQ.exa O_q) A_tm (w_13 hw))
        have A_tg := Ary.other W6 A_tg (Ne.symm ne_t)
        have KP := Keep.wr KP W6 (Or.inl (List.mem_of_getElem? (i := 1) rfl))
        have Z0 := Nat.le_trans Z0 (Nat.le_of_eq W6.size.symm)
        have A_tm := A_n
        rw [upd_double] at A_tm
        refine WP.aloadN K d5_131 rfl rfl (pc' := 132) rfl ?_
        refine WP.getF K (w_24 hw) Via.refl (IsDQ.f_tags O_q) d5_132 (pc' := 135) rfl ?_
        refine WP.iload K d5_135 rfl (pc' := 137) rfl ?_
        refine WP.iloadN K d5_137 rfl (pc' := 138) rfl ?_
        refine WP.iastore K (i := hole) A_tg hx (by omega) old_tg d5_138 (pc' := 139) rfl fun h7 W7 A_n => ?_
        have O_q := IsDQ.other W7 O_q (Ary.ne (IsDQ.exa O_q) A_tg (w_13 hw))
        have A_tm := Ary.other W7 A_tm ne_t
        have KP := Keep.wr KP W7 (Or.inl (List.mem_of_getElem? (i := 2) rfl))
        have Z0 := Nat.le_trans Z0 (Nat.le_of_eq W7.size.symm)
        have A_tg := A_n
        rw [upd_int] at A_tg
        exact WP.ret0 K d5_139 (by decide) (by decide) ⟨rfl, KP, O_q, by rw [← hr]; exact A_tm, by rw [← hr]; exact A_tg⟩
      refine WP.iload K d5_59 rfl (pc' := 61) rfl ?_
      by_cases c1 : (0 : Int32) < x
      · have hz : ¬ hole = 0 := by rw [Int32.lt_iff_toInt_lt] at c1; have e : (0 : Int32).toInt = 0 := (rfl); omega
        refine WP.if0F K d5_61 ((if0 _ _).trans (tlt c1).2.2.2) (pc' := 64) rfl ?_
        have hp := own_par hx (by omega)
        refine WP.aloadN K d5_64 rfl rfl (pc' := 65) rfl ?_
        refine WP.getF K (w_22 hw) Via.refl (IsDQ.f_times O_q) d5_65 (pc' := 68) rfl ?_
        refine WP.iload K d5_68 rfl (pc' := 70) rfl ?_
        refine WP.iconst K d5_70 (v := (1 : Int32)) rfl (pc' := 71) rfl ?_
        refine WP.isub K d5_71 (pc' := 72) rfl ?_
        refine WP.iconst K d5_72 (v := (2 : Int32)) rfl (pc' := 73) rfl ?_
        refine WP.idiv K d5_73 (by decide) (pc' := 74) rfl ?_
        refine WP.daload K (i := ((hole - 1) / 2)) A_tm hp (by omega) (v := (.double (T' ((hole - 1) / 2)))) rfl d5_74 (pc' := 75) rfl ?_
        refine WP.dloadN K d5_75 rfl (pc' := 76) rfl ?_
        refine WP.dcmp K d5_76 (pc' := 77) rfl ?_
        by_cases c2 : (0 : Int32) < (cmpValue (FP.dcmp (T' ((hole - 1) / 2)) time) .l)
        · refine WP.if0F K d5_77 ((if0 _ _).trans (tlt c2).2.2.2) (pc' := 80) rfl ?_
          refine WP.iload K d5_80 rfl (pc' := 82) rfl ?_
          refine WP.iconst K d5_82 (v := (1 : Int32)) rfl (pc' := 83) rfl ?_
          refine WP.isub K d5_83 (pc' := 84) rfl ?_
          refine WP.iconst K d5_84 (v := (2 : Int32)) rfl (pc' := 85) rfl ?_
          refine WP.idiv K d5_85 (by decide) (pc' := 86) rfl ?_
          refine WP.istore K d5_86 (L' := #[.val (.ref q), .val (.double time), .second, .val (.int tag), .val (.int x), .val (.int ((x - (1 : Int32)) / (2 : Int32)))]) (by rcases o_s5 with rfl | ⟨w, rfl, hw⟩ <;> first | rfl | (cases w <;> first | rfl | (simp [Value.category] at hw))) (pc' := 88) rfl ?_
          refine WP.aloadN K d5_88 rfl rfl (pc' := 89) rfl ?_
          refine WP.getF K (w_22 hw) Via.refl (IsDQ.f_times O_q) d5_89 (pc' := 92) rfl ?_
          refine WP.iload K d5_92 rfl (pc' := 94) rfl ?_
          refine WP.aloadN K d5_94 rfl rfl (pc' := 95) rfl ?_
          refine WP.getF K (w_22 hw) Via.refl (IsDQ.f_times O_q) d5_95 (pc' := 98) rfl ?_
          refine WP.iload K d5_98 rfl (pc' := 100) rfl ?_
          refine WP.daload K (i := ((hole - 1) / 2)) A_tm hp (by omega) (v := (.double (T' ((hole - 1) / 2)))) rfl d5_100 (pc' := 101) rfl ?_
          refine WP.dastore K (i := hole) A_tm hx (by omega) old_tm d5_101 (pc' := 102) rfl fun h8 W8 A_n => ?_
          have O_q := IsDQ.other W8 O_q (Ary.ne (IsDQ.exa O_q) A_tm (w_13 hw))
          have A_tg := Ary.other W8 A_tg (Ne.symm ne_t)
          have KP := Keep.wr KP W8 (Or.inl (List.mem_of_getElem? (i := 1) rfl))
          have Z0 := Nat.le_trans Z0 (Nat.le_of_eq W8.size.symm)
          have A_tm := A_n
          rw [upd_double] at A_tm
          refine WP.aloadN K d5_102 rfl rfl (pc' := 103) rfl ?_
          refine WP.getF K (w_24 hw) Via.refl (IsDQ.f_tags O_q) d5_103 (pc' := 106) rfl ?_
          refine WP.iload K d5_106 rfl (pc' := 108) rfl ?_
          refine WP.aloadN K d5_108 rfl rfl (pc' := 109) rfl ?_
          refine WP.getF K (w_24 hw) Via.refl (IsDQ.f_tags O_q) d5_109 (pc' := 112) rfl ?_
          refine WP.iload K d5_112 rfl (pc' := 114) rfl ?_
          refine WP.iaload K (i := ((hole - 1) / 2)) A_tg hp (by omega) (v := (.int (G' ((hole - 1) / 2)))) rfl d5_114 (pc' := 115) rfl ?_
          refine WP.iastore K (i := hole) A_tg hx (by omega) old_tg d5_115 (pc' := 116) rfl fun h9 W9 A_n => ?_
          have O_q := IsDQ.other W9 O_q (Ary.ne (IsDQ.exa O_q) A_tg (w_13 hw))
          have A_tm := Ary.other W9 A_tm ne_t
          have KP := Keep.wr KP W9 (Or.inl (List.mem_of_getElem? (i := 2) rfl))
          have Z0 := Nat.le_trans Z0 (Nat.le_of_eq W9.size.symm)
          have A_tg := A_n
          rw [upd_int] at A_tg
          refine WP.iload K d5_116 rfl (pc' := 118) rfl ?_
          refine WP.istore K d5_118 (L' := #[.val (.ref q), .val (.double time), .second, .val (.int tag), .val (.int ((x - (1 : Int32)) / (2 : Int32))), .val (.int ((x - (1 : Int32)) / (2 : Int32)))]) rfl (pc' := 120) rfl ?_
          refine WP.goto K d5_120 (by decide) (pc' := 59) (by decide) ?_
          refine ih ((hole - 1) / 2) _ _ _ _ _ (by omega) hp (by omega) (One.val rfl) ?_ O_q A_tm A_tg KP Z0
          rw [← hres, own_up, if_neg hz, if_pos c2]
        · refine WP.if0T K d5_77 ((if0 _ _).trans (flt c2).2.2.2) (by decide) (pc' := 123) (by decide) ?_
          refine STOP ?_
          rw [← hres, own_up, if_neg hz, if_neg c2]
      · have hz : hole = 0 := by rw [Int32.lt_iff_toInt_lt] at c1; have e : (0 : Int32).toInt = 0 := (rfl); omega
        refine WP.if0T K d5_61 ((if0 _ _).trans (flt c1).2.2.2) (by decide) (pc' := 123) (by decide) ?_
        refine STOP ?_
        rw [← hres, own_up, if_pos hz]
  exact LOOP (n + 1) n sz .unset _ T G (by omega) hn (by omega) One.u rfl O_q A_tm A_tg KP Z0
set_option maxRecDepth 65536 in
set_option maxHeartbeats 40000000 in
theorem rm_rem (w : Bool) (l : Launch) (Z : State) (a0 : Array Value) (hw : ∀ d ∈ tables_1, d.before a0 Z = true) (q tm tg : Addr) (kT kG : ClassId) (sz : Int32) (n : Nat) (T : Nat → UInt64) (G : Nat → Int32) (h0 : Heap) (n0 : Nat) (Z0 : n0 ≤ h0.size) (O_q : IsDQ Z h0 q (.ref tm) (.ref tg) (.int sz)) (A_tm : Ary Z h0 tm kT .double 16 (fun j => .double (T j))) (A_tg : Ary Z h0 tg kG .int 16 (fun j => .int (G j))) (ne_t : tm ≠ tg) (old_q : n0 ≤ q) (old_tm : n0 ≤ tm) (old_tg : n0 ≤ tg) (hn : sz.toInt = (n : Int)) (hb : n < 16) (hb0 : 0 < n) :
    Met w l Z (⟨"com/example/wedge/wedge/link/DepartureQueue", "removeFirst", "()I"⟩ : MethodName) prog_7_method_5_code 7 (some .int) [] ({ frames := 0, cells := 0, slots := 0, locals := 0 } : Room) #[(.ref q)] h0 n0 (fun v h => v = some (.int (G 0)) ∧ Keep h0 h [q, tm, tg] ∧ IsDQ Z h q (.ref tm) (.ref tg) (.int (sz - (1 : Int32))) ∧ Ary Z h tm kT .double 16 (fun j => .double ((own_dn (T (n - 1)) (G (n - 1)) (n - 1) (n + 1) 0 1 T G).1 j)) ∧ Ary Z h tg kG .int 16 (fun j => .int ((own_dn (T (n - 1)) (G (n - 1)) (n - 1) (n + 1) 0 1 T G).2 j))) := by
  refine Met.of (plainFor_of_name (by first | (simp [plainName, overriddenIn]; done) | decide +kernel)) fun κ K => ?_
  refine WP.frame (g' := (mkF κ.m 0 #[.val (.ref q), .unset, .unset, .unset, .unset, .unset, .unset] [])) (by first | (simp [entryFrame, mkF, argsToLocals, Value.category]; done) | rfl) ?_
  have KP := Keep.refl h0 [q, tm, tg]
  refine WP.aloadN K d6_0 rfl rfl (pc' := 1) rfl ?_
  refine WP.getF K (w_24 hw) Via.refl (IsDQ.f_tags O_q) d6_1 (pc' := 4) rfl ?_
  refine WP.iconst K d6_4 (v := (0 : Int32)) rfl (pc' := 5) rfl ?_
  refine WP.iaload K (i := 0) A_tg rfl (by decide) (v := (.int (G 0))) rfl d6_5 (pc' := 6) rfl ?_
  refine WP.istoreN K d6_6 (L' := #[.val (.ref q), .val (.int (G 0)), .unset, .unset, .unset, .unset, .unset]) rfl (pc' := 7) rfl ?_
  refine WP.aloadN K d6_7 rfl rfl (pc' := 8) rfl ?_
  refine WP.dup K d6_8 rfl (pc' := 9) rfl ?_
  refine WP.getF K (w_31 hw) Via.refl (IsDQ.f_size O_q) d6_9 (pc' := 12) rfl ?_
  refine WP.iconst K d6_12 (v := (1 : Int32)) rfl (pc' := 13) rfl ?_
  refine WP.isub K d6_13 (pc' := 14) rfl ?_
  refine WP.putF K (w_31 hw) Via.refl (IsDQ.f_size O_q) (IsDQ.exa O_q) (Or.inl (w_32 hw)) (w_13 hw) (ty := .int) (by decide) rfl rfl old_q d6_14 (pc' := 17) rfl fun h10 W10 => ?_
  have A_tm := Ary.other W10 A_tm (Ne.symm (Ary.ne (IsDQ.exa O_q) A_tm (w_13 hw)))
  have A_tg := Ary.other W10 A_tg (Ne.symm (Ary.ne (IsDQ.exa O_q) A_tg (w_13 hw)))
  have KP := Keep.wr KP W10 (Or.inl (List.mem_of_getElem? (i := 0) rfl))
  have Z0 := Nat.le_trans Z0 (Nat.le_of_eq W10.size.symm)
  have O_q := IsDQ.s_size hw W10 O_q
  refine WP.aloadN K d6_17 rfl rfl (pc' := 18) rfl ?_
  refine WP.getF K (w_22 hw) Via.refl (IsDQ.f_times O_q) d6_18 (pc' := 21) rfl ?_
  refine WP.aloadN K d6_21 rfl rfl (pc' := 22) rfl ?_
  refine WP.getF K (w_31 hw) Via.refl (IsDQ.f_size O_q) d6_22 (pc' := 25) rfl ?_
  have hm := own_dec hn hb0
  refine WP.daload K (i := (n - 1)) A_tm hm (by omega) (v := (.double (T (n - 1)))) rfl d6_25 (pc' := 26) rfl ?_
  refine WP.dstoreN K d6_26 (L' := #[.val (.ref q), .val (.int (G 0)), .val (.double (T (n - 1))), .second, .unset, .unset, .unset]) rfl (pc' := 27) rfl ?_
  refine WP.aloadN K d6_27 rfl rfl (pc' := 28) rfl ?_
  refine WP.getF K (w_24 hw) Via.refl (IsDQ.f_tags O_q) d6_28 (pc' := 31) rfl ?_
  refine WP.aloadN K d6_31 rfl rfl (pc' := 32) rfl ?_
  refine WP.getF K (w_31 hw) Via.refl (IsDQ.f_size O_q) d6_32 (pc' := 35) rfl ?_
  refine WP.iaload K (i := (n - 1)) A_tg hm (by omega) (v := (.int (G (n - 1)))) rfl d6_35 (pc' := 36) rfl ?_
  refine WP.istore K d6_36 (L' := #[.val (.ref q), .val (.int (G 0)), .val (.double (T (n - 1))), .second, .val (.int (G (n - 1))), .unset, .unset]) rfl (pc' := 38) rfl ?_
  refine WP.iconst K d6_38 (v := (0 : Int32)) rfl (pc' := 39) rfl ?_
  refine WP.istore K d6_39 (L' := #[.val (.ref q), .val (.int (G 0)), .val (.double (T (n - 1))), .second, .val (.int (G (n - 1))), .val (.int (0 : Int32)), .unset]) rfl (pc' := 41) rfl ?_
  refine WP.iconst K d6_41 (v := (1 : Int32)) rfl (pc' := 42) rfl ?_
  refine WP.istore K d6_42 (L' := #[.val (.ref q), .val (.int (G 0)), .val (.double (T (n - 1))), .second, .val (.int (G (n - 1))), .val (.int (0 : Int32)), .val (.int (1 : Int32))]) rfl (pc' := 44) rfl ?_
  have LOOP : ∀ (f hole child : Nat) (x y : Int32) (h : Heap) (T' : Nat → UInt64) (G' : Nat → Int32), n < f + hole → hole < child → hole < n → child ≤ 2 * n + 1 → x.toInt = (hole : Int) → y.toInt = (child : Int) → own_dn (T (n - 1)) (G (n - 1)) (n - 1) f hole child T' G' = own_dn (T (n - 1)) (G (n - 1)) (n - 1) (n + 1) 0 1 T G → IsDQ Z h q (.ref tm) (.ref tg) (.int (sz - (1 : Int32))) → Ary Z h tm kT .double 16 (fun j => .double (T' j)) → Ary Z h tg kG .int 16 (fun j => .int (G' j)) → Keep h0 h [q, tm, tg] → n0 ≤ h.size → WP κ h 0 0 (mkF κ.m 44 #[.val (.ref q), .val (.int (G 0)), .val (.double (T (n - 1))), .second, .val (.int (G (n - 1))), .val (.int x), .val (.int y)] []) := by
    intro f
    induction f with
    | zero => intro hole child x y h T' G' hf; omega
    | succ f ih =>
      intro hole child x y h T' G' hf hhc hhn hcn hx hy hres O_q A_tm A_tg KP Z0
      have STOP : ∀ y' : Int32, (fset T' hole (T (n - 1)), fset G' hole (G (n - 1))) = own_dn (T (n - 1)) (G (n - 1)) (n - 1) (n + 1) 0 1 T G → WP κ h 0 0 (mkF κ.m 145 #[.val (.ref q), .val (.int (G 0)), .val (.double (T (n - 1))), .second, .val (.int (G (n - 1))), .val (.int x), .val (.int y')] []) := by
        intro y' hr
        refine WP.aloadN K d6_145 rfl rfl (pc' := 146) rfl ?_
        refine WP.getF K (w_22 hw) Via.refl (IsDQ.f_times O_q) d6_146 (pc' := 149) rfl ?_
        refine WP.iload K d6_149 rfl (pc' := 151) rfl ?_
        refine WP.dloadN K d6_151 rfl (pc' := 152) rfl ?_
        refine WP.dastore K (i := hole) A_tm hx (by omega) old_tm d6_152 (pc' := 153) rfl fun h11 W11 A_n => ?_
        have O_q := IsDQ.other W11 O_q (Ary.ne (IsDQ.exa O_q) A_tm (w_13 hw))
        have A_tg := Ary.other W11 A_tg (Ne.symm ne_t)
        have KP := Keep.wr KP W11 (Or.inl (List.mem_of_getElem? (i := 1) rfl))
        have Z0 := Nat.le_trans Z0 (Nat.le_of_eq W11.size.symm)
        have A_tm := A_n
        rw [upd_double] at A_tm
        refine WP.aloadN K d6_153 rfl rfl (pc' := 154) rfl ?_
        refine WP.getF K (w_24 hw) Via.refl (IsDQ.f_tags O_q) d6_154 (pc' := 157) rfl ?_
        refine WP.iload K d6_157 rfl (pc' := 159) rfl ?_
        refine WP.iload K d6_159 rfl (pc' := 161) rfl ?_
        refine WP.iastore K (i := hole) A_tg hx (by omega) old_tg d6_161 (pc' := 162) rfl fun h12 W12 A_n => ?_
        have O_q := IsDQ.other W12 O_q (Ary.ne (IsDQ.exa O_q) A_tg (w_13 hw))
        have A_tm := Ary.other W12 A_tm ne_t
        have KP := Keep.wr KP W12 (Or.inl (List.mem_of_getElem? (i := 2) rfl))
        have Z0 := Nat.le_trans Z0 (Nat.le_of_eq W12.size.symm)
        have A_tg := A_n
        rw [upd_int] at A_tg
        refine WP.iloadN K d6_162 rfl (pc' := 163) rfl ?_
        exact WP.retI K d6_163 (by decide) (by decide) ⟨rfl, KP, O_q, by rw [← hr]; exact A_tm, by rw [← hr]; exact A_tg⟩
      refine WP.iload K d6_44 rfl (pc' := 46) rfl ?_
      refine WP.aloadN K d6_46 rfl rfl (pc' := 47) rfl ?_
      refine WP.getF K (w_31 hw) Via.refl (IsDQ.f_size O_q) d6_47 (pc' := 50) rfl ?_
      by_cases c1 : y < (sz - (1 : Int32))
      · refine WP.icmpF K d6_50 (tlt c1).2.1 (pc' := 53) rfl ?_
        rw [own_ltN hy hm] at c1
        have hy1 := own_inc hy (y := (1 : Int32)) (k := 1) rfl (by omega)
        have PICK : ∀ (y' : Int32) (c : Nat), c = own_pick (n - 1) T' child → y'.toInt = (c : Int) → child ≤ c → c < n - 1 → WP κ h 0 0 (mkF κ.m 87 #[.val (.ref q), .val (.int (G 0)), .val (.double (T (n - 1))), .second, .val (.int (G (n - 1))), .val (.int x), .val (.int y')] []) := by
          intro y' c hc hy' hcc hcm
          refine WP.aloadN K d6_87 rfl rfl (pc' := 88) rfl ?_
          refine WP.getF K (w_22 hw) Via.refl (IsDQ.f_times O_q) d6_88 (pc' := 91) rfl ?_
          refine WP.iload K d6_91 rfl (pc' := 93) rfl ?_
          refine WP.daload K (i := c) A_tm hy' (by omega) (v := (.double (T' c))) rfl d6_93 (pc' := 94) rfl ?_
          refine WP.dloadN K d6_94 rfl (pc' := 95) rfl ?_
          refine WP.dcmp K d6_95 (pc' := 96) rfl ?_
          by_cases c5 : (cmpValue (FP.dcmp (T' c) (T (n - 1))) .l) < (0 : Int32)
          · refine WP.if0T K d6_96 ((if0 _ _).trans (tlt c5).1) (by decide) (pc' := 102) (by decide) ?_
            refine WP.aloadN K d6_102 rfl rfl (pc' := 103) rfl ?_
            refine WP.getF K (w_22 hw) Via.refl (IsDQ.f_times O_q) d6_103 (pc' := 106) rfl ?_
            refine WP.iload K d6_106 rfl (pc' := 108) rfl ?_
            refine WP.aloadN K d6_108 rfl rfl (pc' := 109) rfl ?_
            refine WP.getF K (w_22 hw) Via.refl (IsDQ.f_times O_q) d6_109 (pc' := 112) rfl ?_
            refine WP.iload K d6_112 rfl (pc' := 114) rfl ?_
            refine WP.daload K (i := c) A_tm hy' (by omega) (v := (.double (T' c))) rfl d6_114 (pc' := 115) rfl ?_
            refine WP.dastore K (i := hole) A_tm hx (by omega) old_tm d6_115 (pc' := 116) rfl fun h13 W13 A_n => ?_
            have O_q := IsDQ.other W13 O_q (Ary.ne (IsDQ.exa O_q) A_tm (w_13 hw))
            have A_tg := Ary.other W13 A_tg (Ne.symm ne_t)
            have KP := Keep.wr KP W13 (Or.inl (List.mem_of_getElem? (i := 1) rfl))
            have Z0 := Nat.le_trans Z0 (Nat.le_of_eq W13.size.symm)
            have A_tm := A_n
            rw [upd_double] at A_tm
            refine WP.aloadN K d6_116 rfl rfl (pc' := 117) rfl ?_
            refine WP.getF K (w_24 hw) Via.refl (IsDQ.f_tags O_q) d6_117 (pc' := 120) rfl ?_
            refine WP.iload K d6_120 rfl (pc' := 122) rfl ?_
            refine WP.aloadN K d6_122 rfl rfl (pc' := 123) rfl ?_
            refine WP.getF K (w_24 hw) Via.refl (IsDQ.f_tags O_q) d6_123 (pc' := 126) rfl ?_
            refine WP.iload K d6_126 rfl (pc' := 128) rfl ?_
            refine WP.iaload K (i := c) A_tg hy' (by omega) (v := (.int (G' c))) rfl d6_128 (pc' := 129) rfl ?_
            refine WP.iastore K (i := hole) A_tg hx (by omega) old_tg d6_129 (pc' := 130) rfl fun h14 W14 A_n => ?_
            have O_q := IsDQ.other W14 O_q (Ary.ne (IsDQ.exa O_q) A_tg (w_13 hw))
            have A_tm := Ary.other W14 A_tm ne_t
            have KP := Keep.wr KP W14 (Or.inl (List.mem_of_getElem? (i := 2) rfl))
            have Z0 := Nat.le_trans Z0 (Nat.le_of_eq W14.size.symm)
            have A_tg := A_n
            rw [upd_int] at A_tg
            refine WP.iload K d6_130 rfl (pc' := 132) rfl ?_
            refine WP.istore K d6_132 (L' := #[.val (.ref q), .val (.int (G 0)), .val (.double (T (n - 1))), .second, .val (.int (G (n - 1))), .val (.int y'), .val (.int y')]) rfl (pc' := 134) rfl ?_
            refine WP.iconst K d6_134 (v := (2 : Int32)) rfl (pc' := 135) rfl ?_
            refine WP.iload K d6_135 rfl (pc' := 137) rfl ?_
            refine WP.imul K d6_137 (pc' := 138) rfl ?_
            refine WP.iconst K d6_138 (v := (1 : Int32)) rfl (pc' := 139) rfl ?_
            refine WP.iadd K d6_139 (pc' := 140) rfl ?_
            refine WP.istore K d6_140 (L' := #[.val (.ref q), .val (.int (G 0)), .val (.double (T (n - 1))), .second, .val (.int (G (n - 1))), .val (.int y'), .val (.int (((2 : Int32) * y') + (1 : Int32)))]) rfl (pc' := 142) rfl ?_
            refine WP.goto K d6_142 (by decide) (pc' := 44) (by decide) ?_
            refine ih c (2 * c + 1) _ _ _ _ _ (by omega) (by omega) (by omega) (by omega) hy' (own_two hy' (by omega)) ?_ O_q A_tm A_tg KP Z0
            rw [← hres, own_dn, if_pos c1, ← hc, if_pos c5]
          · refine WP.if0F K d6_96 ((if0 _ _).trans (flt c5).1) (pc' := 99) rfl ?_
            refine WP.goto K d6_99 (by decide) (pc' := 145) (by decide) ?_
            refine STOP _ ?_
            rw [← hres, own_dn, if_pos c1, ← hc, if_neg c5]
        refine WP.iload K d6_53 rfl (pc' := 55) rfl ?_
        refine WP.iconst K d6_55 (v := (1 : Int32)) rfl (pc' := 56) rfl ?_
        refine WP.iadd K d6_56 (pc' := 57) rfl ?_
        refine WP.aloadN K d6_57 rfl rfl (pc' := 58) rfl ?_
        refine WP.getF K (w_31 hw) Via.refl (IsDQ.f_size O_q) d6_58 (pc' := 61) rfl ?_
        by_cases c3 : (y + (1 : Int32)) < (sz - (1 : Int32))
        · refine WP.icmpF K d6_61 (tlt c3).2.1 (pc' := 64) rfl ?_
          rw [own_ltN hy1 hm] at c3
          refine WP.aloadN K d6_64 rfl rfl (pc' := 65) rfl ?_
          refine WP.getF K (w_22 hw) Via.refl (IsDQ.f_times O_q) d6_65 (pc' := 68) rfl ?_
          refine WP.iload K d6_68 rfl (pc' := 70) rfl ?_
          refine WP.iconst K d6_70 (v := (1 : Int32)) rfl (pc' := 71) rfl ?_
          refine WP.iadd K d6_71 (pc' := 72) rfl ?_
          refine WP.daload K (i := (child + 1)) A_tm hy1 (by omega) (v := (.double (T' (child + 1)))) rfl d6_72 (pc' := 73) rfl ?_
          refine WP.aloadN K d6_73 rfl rfl (pc' := 74) rfl ?_
          refine WP.getF K (w_22 hw) Via.refl (IsDQ.f_times O_q) d6_74 (pc' := 77) rfl ?_
          refine WP.iload K d6_77 rfl (pc' := 79) rfl ?_
          refine WP.daload K (i := child) A_tm hy (by omega) (v := (.double (T' child))) rfl d6_79 (pc' := 80) rfl ?_
          refine WP.dcmp K d6_80 (pc' := 81) rfl ?_
          by_cases c4 : (cmpValue (FP.dcmp (T' (child + 1)) (T' child)) .g) < (0 : Int32)
          · refine WP.if0F K d6_81 ((if0 _ _).trans (tlt c4).2.1) (pc' := 84) rfl ?_
            refine WP.iinc K d6_84 (v := (1 : Int32)) rfl rfl (L' := #[.val (.ref q), .val (.int (G 0)), .val (.double (T (n - 1))), .second, .val (.int (G (n - 1))), .val (.int x), .val (.int (y + (1 : Int32)))]) rfl (pc' := 87) rfl ?_
            refine PICK _ (child + 1) ?_ hy1 (by omega) c3
            rw [own_pick, if_pos ⟨c3, c4⟩]
          · refine WP.if0T K d6_81 ((if0 _ _).trans (flt c4).2.1) (by decide) (pc' := 87) (by decide) ?_
            refine PICK y child ?_ hy (by omega) c1
            rw [own_pick, if_neg (fun z => c4 z.2)]
        · refine WP.icmpT K d6_61 (flt c3).2.1 (by decide) (pc' := 87) (by decide) ?_
          rw [own_ltN hy1 hm] at c3
          refine PICK y child ?_ hy (by omega) c1
          rw [own_pick, if_neg (fun z => c3 z.1)]
      · refine WP.icmpT K d6_50 (flt c1).2.1 (by decide) (pc' := 145) (by decide) ?_
        rw [own_ltN hy hm] at c1
        refine STOP _ ?_
        rw [← hres, own_dn, if_neg c1]
  exact LOOP (n + 1) 0 1 _ _ _ T G (by omega) (by omega) (by omega) (by omega) rfl rfl rfl O_q A_tm A_tg KP Z0
set_option maxRecDepth 65536 in
set_option maxHeartbeats 40000000 in
theorem rm_less (w : Bool) (l : Launch) (Z : State) (a0 : Array Value) (hw : ∀ d ∈ tables_1, d.before a0 Z = true) (a k : Int64) (h0 : Heap) (n0 : Nat) (Z0 : n0 ≤ h0.size)  :
    Met w l Z (⟨"com/example/wedge/wedge/link/DepartureQueueRemoveFirstPinLaw", "less", "(JJ)I"⟩ : MethodName) method_2_code 4 (some .int) [] ({ frames := 0, cells := 0, slots := 0, locals := 0 } : Room) #[(.long a), (.long k)] h0 n0 (fun v h => v = some (.int (own_ls a k)) ∧ h0 = h) := by
  refine Met.of (plainFor_of_name (by first | (simp [plainName, overriddenIn]; done) | decide +kernel)) fun κ K => ?_
  refine WP.frame (g' := (mkF κ.m 0 #[.val (.long a), .second, .val (.long k), .second] [])) (by first | (simp [entryFrame, mkF, argsToLocals, Value.category]; done) | rfl) ?_
  refine WP.meet (g' := (mkF κ.m 11 #[.val (.long a), .second, .val (.long k), .second] [(.int (if a < k then (1 : Int32) else (0 : Int32)))])) (fun HJ => ?_) ?_
  · refine WP.lloadN K d2_0 rfl (pc' := 1) rfl ?_
    refine WP.lloadN K d2_1 rfl (pc' := 2) rfl ?_
    refine WP.lcmp K d2_2 (pc' := 3) rfl ?_
    by_cases c15 : a < k
    · try simp only [if_pos c15] at HJ
      refine WP.if0F K d2_3 ((if0 _ _).trans (tlt ((lw_lt _ _).mpr c15)).2.1) (pc' := 6) rfl ?_
      refine WP.iconst K d2_6 (v := (1 : Int32)) rfl (pc' := 7) rfl ?_
      refine WP.goto K d2_7 (by decide) (pc' := 11) (by decide) ?_
      exact HJ
    · try simp only [if_neg c15] at HJ
      refine WP.if0T K d2_3 ((if0 _ _).trans (flt (fun q => c15 ((lw_lt _ _).mp q))).2.1) (by decide) (pc' := 10) (by decide) ?_
      refine WP.iconst K d2_10 (v := (0 : Int32)) rfl (pc' := 11) rfl ?_
      exact HJ
  · skip
    exact WP.retI K d2_11 (by decide) (by decide) ⟨rfl, rfl⟩
set_option maxRecDepth 65536 in
set_option maxHeartbeats 40000000 in
theorem rm_rank (w : Bool) (l : Launch) (Z : State) (a0 : Array Value) (hw : ∀ d ∈ tables_1, d.before a0 Z = true) (k a b c d : Int64) (h0 : Heap) (n0 : Nat) (Z0 : n0 ≤ h0.size)  :
    Met w l Z (⟨"com/example/wedge/wedge/link/DepartureQueueRemoveFirstPinLaw", "rank", "(JJJJJ)I"⟩ : MethodName) method_3_code 10 (some .int) [] ({ frames := 1, cells := 0, slots := 0, locals := 16 } : Room) #[(.long k), (.long a), (.long b), (.long c), (.long d)] h0 n0 (fun v h => v = some (.int (own_rk k a b c d)) ∧ h0 = h) := by
  refine Met.of (plainFor_of_name (by first | (simp [plainName, overriddenIn]; done) | decide +kernel)) fun κ K => ?_
  refine WP.frame (g' := (mkF κ.m 0 #[.val (.long k), .second, .val (.long a), .second, .val (.long b), .second, .val (.long c), .second, .val (.long d), .second] [])) (by first | (simp [entryFrame, mkF, argsToLocals, Value.category]; done) | rfl) ?_
  refine WP.lloadN K d1_0 rfl (pc' := 1) rfl ?_
  refine WP.lloadN K d1_1 rfl (pc' := 2) rfl ?_
  refine WP.callS K (argsL := [(.long a), (.long k)]) (S := []) (w_9 hw) (w_10 hw) (rm_less w l Z a0 hw a k h0 n0 Z0) (w_11 hw) (w_7 hw) (by decide) rfl (lenOf pd_0 rfl) rfl (W := 0) rfl (by decide) (by decide) (k' := 0) (n' := 0) rfl rfl (by decide) (by decide) d1_2 (pc' := 5) rfl fun v h16 hq => ?_
  obtain ⟨rfl, rfl⟩ := hq
  show WP κ h0 0 0 (mkF κ.m 5 #[.val (.long k), .second, .val (.long a), .second, .val (.long b), .second, .val (.long c), .second, .val (.long d), .second] [(.int (own_ls a k))])
  refine WP.lload K d1_5 rfl (pc' := 7) rfl ?_
  refine WP.lloadN K d1_7 rfl (pc' := 8) rfl ?_
  refine WP.callS K (argsL := [(.long b), (.long k)]) (S := [(.int (own_ls a k))]) (w_9 hw) (w_10 hw) (rm_less w l Z a0 hw b k h0 n0 Z0) (w_11 hw) (w_7 hw) (by decide) rfl (lenOf pd_0 rfl) rfl (W := 1) rfl (by decide) (by decide) (k' := 0) (n' := 0) rfl rfl (by decide) (by decide) d1_8 (pc' := 11) rfl fun v h17 hq => ?_
  obtain ⟨rfl, rfl⟩ := hq
  show WP κ h0 0 0 (mkF κ.m 11 #[.val (.long k), .second, .val (.long a), .second, .val (.long b), .second, .val (.long c), .second, .val (.long d), .second] [(.int (own_ls b k)), (.int (own_ls a k))])
  refine WP.iadd K d1_11 (pc' := 12) rfl ?_
  refine WP.lload K d1_12 rfl (pc' := 14) rfl ?_
  refine WP.lloadN K d1_14 rfl (pc' := 15) rfl ?_
  refine WP.callS K (argsL := [(.long c), (.long k)]) (S := [(.int ((own_ls a k) + (own_ls b k)))]) (w_9 hw) (w_10 hw) (rm_less w l Z a0 hw c k h0 n0 Z0) (w_11 hw) (w_7 hw) (by decide) rfl (lenOf pd_0 rfl) rfl (W := 1) rfl (by decide) (by decide) (k' := 0) (n' := 0) rfl rfl (by decide) (by decide) d1_15 (pc' := 18) rfl fun v h18 hq => ?_
  obtain ⟨rfl, rfl⟩ := hq
  show WP κ h0 0 0 (mkF κ.m 18 #[.val (.long k), .second, .val (.long a), .second, .val (.long b), .second, .val (.long c), .second, .val (.long d), .second] [(.int (own_ls c k)), (.int ((own_ls a k) + (own_ls b k)))])
  refine WP.iadd K d1_18 (pc' := 19) rfl ?_
  refine WP.lload K d1_19 rfl (pc' := 21) rfl ?_
  refine WP.lloadN K d1_21 rfl (pc' := 22) rfl ?_
  refine WP.callS K (argsL := [(.long d), (.long k)]) (S := [(.int (((own_ls a k) + (own_ls b k)) + (own_ls c k)))]) (w_9 hw) (w_10 hw) (rm_less w l Z a0 hw d k h0 n0 Z0) (w_11 hw) (w_7 hw) (by decide) rfl (lenOf pd_0 rfl) rfl (W := 1) rfl (by decide) (by decide) (k' := 0) (n' := 0) rfl rfl (by decide) (by decide) d1_22 (pc' := 25) rfl fun v h19 hq => ?_
  obtain ⟨rfl, rfl⟩ := hq
  show WP κ h0 0 0 (mkF κ.m 25 #[.val (.long k), .second, .val (.long a), .second, .val (.long b), .second, .val (.long c), .second, .val (.long d), .second] [(.int (own_ls d k)), (.int (((own_ls a k) + (own_ls b k)) + (own_ls c k)))])
  refine WP.iadd K d1_25 (pc' := 26) rfl ?_
  exact WP.retI K d1_26 (by decide) (by decide) ⟨rfl, rfl⟩
set_option maxRecDepth 65536 in
set_option maxHeartbeats 40000000 in
theorem rm_ok (w : Bool) (l : Launch) (Z : State) (a0 : Array Value) (hw : ∀ d ∈ tables_1, d.before a0 Z = true) (r t k : Int32) (rs : Addr) (kR : ClassId) (F : Nat → Int32) (s : Nat) (h0 : Heap) (n0 : Nat) (Z0 : n0 ≤ h0.size) (A_rs : Ary Z h0 rs kR .int 5 (fun j => .int (F j))) (hs : s < 5) (hr : (r - t).toInt = (s : Int)) (hF : F s = k) :
    Met w l Z (⟨"com/example/wedge/wedge/link/DepartureQueueRemoveFirstPinLaw", "ok", "(III[I)Z"⟩ : MethodName) method_4_code 5 (some .boolean) [] ({ frames := 0, cells := 0, slots := 0, locals := 0 } : Room) #[(.int r), (.int t), (.int k), (.ref rs)] h0 n0 (fun v h => v = some (.int 1) ∧ h0 = h) := by
  refine Met.of (plainFor_of_name (by first | (simp [plainName, overriddenIn]; done) | decide +kernel)) fun κ K => ?_
  refine WP.frame (g' := (mkF κ.m 0 #[.val (.int r), .val (.int t), .val (.int k), .val (.ref rs), .unset] [])) (by first | (simp [entryFrame, mkF, argsToLocals, Value.category]; done) | rfl) ?_
  refine WP.iloadN K d7_0 rfl (pc' := 1) rfl ?_
  refine WP.iloadN K d7_1 rfl (pc' := 2) rfl ?_
  refine WP.isub K d7_2 (pc' := 3) rfl ?_
  refine WP.istore K d7_3 (L' := #[.val (.int r), .val (.int t), .val (.int k), .val (.ref rs), .val (.int (r - t))]) rfl (pc' := 5) rfl ?_
  refine WP.iload K d7_5 rfl (pc' := 7) rfl ?_
  have q1 : ¬ ((r - t) < (0 : Int32)) := by rw [Int32.lt_iff_toInt_lt, hr]; have e : (0 : Int32).toInt = 0 := (rfl); omega
  refine WP.if0F K d7_7 ((if0 _ _).trans (flt q1).1) (pc' := 10) rfl ?_
  refine WP.iload K d7_10 rfl (pc' := 12) rfl ?_
  refine WP.iconst K d7_12 (v := (4 : Int32)) rfl (pc' := 13) rfl ?_
  have q2 : ¬ ((4 : Int32) < (r - t)) := by rw [Int32.lt_iff_toInt_lt, hr]; have e : (4 : Int32).toInt = 4 := (by decide); omega
  refine WP.icmpT K d7_13 (flt q2).2.2.2 (by decide) (pc' := 18) (by decide) ?_
  refine WP.aloadN K d7_18 rfl rfl (pc' := 19) rfl ?_
  refine WP.iload K d7_19 rfl (pc' := 21) rfl ?_
  refine WP.iaload K (i := s) A_rs hr hs (v := (.int k)) (congrArg Value.int hF) d7_21 (pc' := 22) rfl ?_
  refine WP.iloadN K d7_22 rfl (pc' := 23) rfl ?_
  have q3 : k = k := rfl
  refine WP.icmpF K d7_23 (teq q3).2 (pc' := 26) rfl ?_
  refine WP.iconst K d7_26 (v := (1 : Int32)) rfl (pc' := 27) rfl ?_
  refine WP.goto K d7_27 (by decide) (pc' := 31) (by decide) ?_
  exact WP.retN K (ty := .boolean) (by decide) d7_31 (by decide) (by decide) ⟨rfl, rfl⟩
set_option maxRecDepth 65536 in
set_option maxHeartbeats 40000000 in
theorem rm_law (w : Bool) (l : Launch) (Z : State) (a0 : Array Value) (hw : ∀ d ∈ tables_1, d.before a0 Z = true) (p0 p1 p2 p3 p4 p5 : Int32) (h0 : Heap) (n0 : Nat) (Z0 : n0 ≤ h0.size)  :
    Met w l Z x code maxLocals ret tables_1 room_1 #[(.int p0), (.int p1), (.int p2), (.int p3), (.int p4), (.int p5)] h0 n0 (fun v h => v = some (.int 1)) := by
  refine Met.of (plainFor_of_name (by first | (simp [plainName, overriddenIn]; done) | decide +kernel)) fun κ K => ?_
  have K : Cx κ w l Z "com/example/wedge/wedge/link/DepartureQueueRemoveFirstPinLaw" n0 room_1 code 23 (some .boolean) "law" _ := K
  obtain ⟨τ, rfl, e_t1, e_t2, e_t3, e_t4, e_t5, hτ⟩ := own_tau p5
  obtain ⟨K5, e_k0, e_k1, e_k2, e_k3, e_k4, e_k5, hK, hK5, hKd⟩ := own_keys_i p0 p1 p2 p3 p4
  obtain ⟨Q1, hQ1⟩ : ∃ π, π = own_upI (own_c K5) 0 (0 + 1) 0 (fun _ => 5) := ⟨_, rfl⟩
  obtain ⟨Q2, hQ2⟩ : ∃ π, π = own_upI (own_c K5) 1 (1 + 1) 1 Q1 := ⟨_, rfl⟩
  obtain ⟨Q3, hQ3⟩ : ∃ π, π = own_upI (own_c K5) 2 (2 + 1) 2 Q2 := ⟨_, rfl⟩
  obtain ⟨Q4, hQ4⟩ : ∃ π, π = own_upI (own_c K5) 3 (3 + 1) 3 Q3 := ⟨_, rfl⟩
  obtain ⟨Q5, hQ5⟩ : ∃ π, π = own_upI (own_c K5) 4 (4 + 1) 4 Q4 := ⟨_, rfl⟩
  obtain ⟨R1, hR1⟩ : ∃ π, π = own_rmI (own_c K5) 5 Q5 := ⟨_, rfl⟩
  obtain ⟨R2, hR2⟩ : ∃ π, π = own_rmI (own_c K5) 4 R1 := ⟨_, rfl⟩
  obtain ⟨R3, hR3⟩ : ∃ π, π = own_rmI (own_c K5) 3 R2 := ⟨_, rfl⟩
  obtain ⟨R4, hR4⟩ : ∃ π, π = own_rmI (own_c K5) 2 R3 := ⟨_, rfl⟩
  obtain ⟨R5, hR5⟩ : ∃ π, π = own_rmI (own_c K5) 1 R4 := ⟨_, rfl⟩
  have hQ : own_p5 (own_c K5) = Q5 := by rw [hQ5, hQ4, hQ3, hQ2, hQ1]; rfl
  have HR := own_run_e (own_sorted K5 hK5 hKd)
  rw [show own_p5 (fun a b => decide (K5 a < K5 b)) = Q5 from hQ] at HR
  rw [← hR1, ← hR2, ← hR3, ← hR4] at HR
  obtain ⟨z0, z1, z2, z3, z4⟩ := HR
  have z0 := own_ok_e z0
  have z1 := own_ok_e z1
  have z2 := own_ok_e z2
  have z3 := own_ok_e z3
  have z4 := own_ok_e z4
  refine WP.frame (g' := (mkF κ.m 0 #[.val (.int p0), .val (.int p1), .val (.int p2), .val (.int p3), .val (.int p4), .val (.int (τ 0)), .unset, .unset, .unset, .unset, .unset, .unset, .unset, .unset, .unset, .unset, .unset, .unset, .unset, .unset, .unset, .unset, .unset] [])) (by first | (simp [entryFrame, mkF, argsToLocals, Value.category, maxLocals]; done) | rfl) ?_
  refine WP.iloadN K at_0 rfl (pc' := 1) rfl ?_
  refine WP.i2l K at_1 (pc' := 2) rfl ?_
  refine WP.ldc2J K (w_0 hw) at_2 (pc' := 5) rfl ?_
  refine WP.lmul K at_5 (pc' := 6) rfl ?_
  refine WP.lstore K at_6 (L' := #[.val (.int p0), .val (.int p1), .val (.int p2), .val (.int p3), .val (.int p4), .val (.int (τ 0)), .val (.long (((p0).toInt64) * (8 : Int64))), .second, .unset, .unset, .unset, .unset, .unset, .unset, .unset, .unset, .unset, .unset, .unset, .unset, .unset, .unset, .unset]) rfl (pc' := 8) rfl ?_
  refine WP.iloadN K at_8 rfl (pc' := 9) rfl ?_
  refine WP.i2l K at_9 (pc' := 10) rfl ?_
  refine WP.ldc2J K (w_0 hw) at_10 (pc' := 13) rfl ?_
  refine WP.lmul K at_13 (pc' := 14) rfl ?_
  refine WP.lconst K at_14 (v := (1 : Int64)) rfl (pc' := 15) rfl ?_
  refine WP.ladd K at_15 (pc' := 16) rfl ?_
  refine WP.lstore K at_16 (L' := #[.val (.int p0), .val (.int p1), .val (.int p2), .val (.int p3), .val (.int p4), .val (.int (τ 0)), .val (.long (((p0).toInt64) * (8 : Int64))), .second, .val (.long ((((p1).toInt64) * (8 : Int64)) + (1 : Int64))), .second, .unset, .unset, .unset, .unset, .unset, .unset, .unset, .unset, .unset, .unset, .unset, .unset, .unset]) rfl (pc' := 18) rfl ?_
  refine WP.iloadN K at_18 rfl (pc' := 19) rfl ?_
  refine WP.i2l K at_19 (pc' := 20) rfl ?_
  refine WP.ldc2J K (w_0 hw) at_20 (pc' := 23) rfl ?_
  refine WP.lmul K at_23 (pc' := 24) rfl ?_
  refine WP.ldc2J K (w_1 hw) at_24 (pc' := 27) rfl ?_
  refine WP.ladd K at_27 (pc' := 28) rfl ?_
  refine WP.lstore K at_28 (L' := #[.val (.int p0), .val (.int p1), .val (.int p2), .val (.int p3), .val (.int p4), .val (.int (τ 0)), .val (.long (((p0).toInt64) * (8 : Int64))), .second, .val (.long ((((p1).toInt64) * (8 : Int64)) + (1 : Int64))), .second, .val (.long ((((p2).toInt64) * (8 : Int64)) + (2 : Int64))), .second, .unset, .unset, .unset, .unset, .unset, .unset, .unset, .unset, .unset, .unset, .unset]) rfl (pc' := 30) rfl ?_
  refine WP.iloadN K at_30 rfl (pc' := 31) rfl ?_
  refine WP.i2l K at_31 (pc' := 32) rfl ?_
  refine WP.ldc2J K (w_0 hw) at_32 (pc' := 35) rfl ?_
  refine WP.lmul K at_35 (pc' := 36) rfl ?_
  refine WP.ldc2J K (w_2 hw) at_36 (pc' := 39) rfl ?_
  refine WP.ladd K at_39 (pc' := 40) rfl ?_
  refine WP.lstore K at_40 (L' := #[.val (.int p0), .val (.int p1), .val (.int p2), .val (.int p3), .val (.int p4), .val (.int (τ 0)), .val (.long (((p0).toInt64) * (8 : Int64))), .second, .val (.long ((((p1).toInt64) * (8 : Int64)) + (1 : Int64))), .second, .val (.long ((((p2).toInt64) * (8 : Int64)) + (2 : Int64))), .second, .val (.long ((((p3).toInt64) * (8 : Int64)) + (3 : Int64))), .second, .unset, .unset, .unset, .unset, .unset, .unset, .unset, .unset, .unset]) rfl (pc' := 42) rfl ?_
  refine WP.iload K at_42 rfl (pc' := 44) rfl ?_
  refine WP.i2l K at_44 (pc' := 45) rfl ?_
  refine WP.ldc2J K (w_0 hw) at_45 (pc' := 48) rfl ?_
  refine WP.lmul K at_48 (pc' := 49) rfl ?_
  refine WP.ldc2J K (w_3 hw) at_49 (pc' := 52) rfl ?_
  refine WP.ladd K at_52 (pc' := 53) rfl ?_
  refine WP.lstore K at_53 (L' := #[.val (.int p0), .val (.int p1), .val (.int p2), .val (.int p3), .val (.int p4), .val (.int (τ 0)), .val (.long (((p0).toInt64) * (8 : Int64))), .second, .val (.long ((((p1).toInt64) * (8 : Int64)) + (1 : Int64))), .second, .val (.long ((((p2).toInt64) * (8 : Int64)) + (2 : Int64))), .second, .val (.long ((((p3).toInt64) * (8 : Int64)) + (3 : Int64))), .second, .val (.long ((((p4).toInt64) * (8 : Int64)) + (4 : Int64))), .second, .unset, .unset, .unset, .unset, .unset, .unset, .unset]) rfl (pc' := 55) rfl ?_
  rw [show (((p0).toInt64) * (8 : Int64)) = K5 0 from e_k0]
  rw [show ((((p1).toInt64) * (8 : Int64)) + (1 : Int64)) = K5 1 from e_k1]
  rw [show ((((p2).toInt64) * (8 : Int64)) + (2 : Int64)) = K5 2 from e_k2]
  rw [show ((((p3).toInt64) * (8 : Int64)) + (3 : Int64)) = K5 3 from e_k3]
  rw [show ((((p4).toInt64) * (8 : Int64)) + (4 : Int64)) = K5 4 from e_k4]
  show WP κ h0 0 0 (mkF κ.m 55 #[.val (.int p0), .val (.int p1), .val (.int p2), .val (.int p3), .val (.int p4), .val (.int (τ 0)), .val (.long (K5 0)), .second, .val (.long (K5 1)), .second, .val (.long (K5 2)), .second, .val (.long (K5 3)), .second, .val (.long (K5 4)), .second, .unset, .unset, .unset, .unset, .unset, .unset, .unset] [])
  refine WP.iconst K at_55 (v := (5 : Int32)) rfl (pc' := 56) rfl ?_
  refine WP.newarray (aty := .int) K (w_4 hw) at_56 (N := 5) (cap := 5) rfl (Nat.le_refl _) (by decide) (k' := 1) (n' := 5) rfl rfl (by decide) (by decide) (pc' := 58) rfl fun h20 rs kA_rs g20 E20 A_rs => ?_
  have old_rs : n0 ≤ rs := by have q_ := Z0; omega
  have Z0 := Nat.le_trans Z0 E20.1
  have A_rs : Ary Z h20 rs kA_rs .int 5 (fun j => .int ((fun _ => (0 : Int32)) j)) := A_rs
  refine WP.astore K at_58 rfl (L' := #[.val (.int p0), .val (.int p1), .val (.int p2), .val (.int p3), .val (.int p4), .val (.int (τ 0)), .val (.long (K5 0)), .second, .val (.long (K5 1)), .second, .val (.long (K5 2)), .second, .val (.long (K5 3)), .second, .val (.long (K5 4)), .second, .val (.ref rs), .unset, .unset, .unset, .unset, .unset, .unset]) rfl (pc' := 60) rfl ?_
  refine WP.aload K at_60 rfl rfl (pc' := 62) rfl ?_
  refine WP.iconst K at_62 (v := (0 : Int32)) rfl (pc' := 63) rfl ?_
  refine WP.lload K at_63 rfl (pc' := 65) rfl ?_
  refine WP.lload K at_65 rfl (pc' := 67) rfl ?_
  refine WP.lload K at_67 rfl (pc' := 69) rfl ?_
  refine WP.lload K at_69 rfl (pc' := 71) rfl ?_
  refine WP.lload K at_71 rfl (pc' := 73) rfl ?_
  refine WP.callS K (argsL := [(.long (K5 0)), (.long (K5 1)), (.long (K5 2)), (.long (K5 3)), (.long (K5 4))]) (S := [(.int (0 : Int32)), (.ref rs)]) (w_5 hw) (w_6 hw) (rm_rank w l Z a0 hw (K5 0) (K5 1) (K5 2) (K5 3) (K5 4) h20 n0 Z0) (w_8 hw) (w_7 hw) (by decide) rfl (lenOf pd_1 rfl) rfl (W := 2) rfl (by decide) (by decide) (k' := 1) (n' := 5) rfl rfl (by decide) (by decide) at_73 (pc' := 76) rfl fun v h21 hq => ?_
  obtain ⟨rfl, rfl⟩ := hq
  show WP κ h20 1 5 (mkF κ.m 76 #[.val (.int p0), .val (.int p1), .val (.int p2), .val (.int p3), .val (.int p4), .val (.int (τ 0)), .val (.long (K5 0)), .second, .val (.long (K5 1)), .second, .val (.long (K5 2)), .second, .val (.long (K5 3)), .second, .val (.long (K5 4)), .second, .val (.ref rs), .unset, .unset, .unset, .unset, .unset, .unset] [(.int (own_rk (K5 0) (K5 1) (K5 2) (K5 3) (K5 4))), (.int (0 : Int32)), (.ref rs)])
  refine WP.iastore K (i := 0) A_rs rfl (by decide) old_rs at_76 (pc' := 77) rfl fun h22 W22 A_n => ?_
  have Z0 := Nat.le_trans Z0 (Nat.le_of_eq W22.size.symm)
  have A_rs := A_n
  rw [upd_int] at A_rs
  refine WP.aload K at_77 rfl rfl (pc' := 79) rfl ?_
  refine WP.iconst K at_79 (v := (1 : Int32)) rfl (pc' := 80) rfl ?_
  refine WP.lload K at_80 rfl (pc' := 82) rfl ?_
  refine WP.lload K at_82 rfl (pc' := 84) rfl ?_
  refine WP.lload K at_84 rfl (pc' := 86) rfl ?_
  refine WP.lload K at_86 rfl (pc' := 88) rfl ?_
  refine WP.lload K at_88 rfl (pc' := 90) rfl ?_
  refine WP.callS K (argsL := [(.long (K5 1)), (.long (K5 0)), (.long (K5 2)), (.long (K5 3)), (.long (K5 4))]) (S := [(.int (1 : Int32)), (.ref rs)]) (w_5 hw) (w_6 hw) (rm_rank w l Z a0 hw (K5 1) (K5 0) (K5 2) (K5 3) (K5 4) h22 n0 Z0) (w_8 hw) (w_7 hw) (by decide) rfl (lenOf pd_1 rfl) rfl (W := 2) rfl (by decide) (by decide) (k' := 1) (n' := 5) rfl rfl (by decide) (by decide) at_90 (pc' := 93) rfl fun v h23 hq => ?_
  obtain ⟨rfl, rfl⟩ := hq
  show WP κ h22 1 5 (mkF κ.m 93 #[.val (.int p0), .val (.int p1), .val (.int p2), .val (.int p3), .val (.int p4), .val (.int (τ 0)), .val (.long (K5 0)), .second, .val (.long (K5 1)), .second, .val (.long (K5 2)), .second, .val (.long (K5 3)), .second, .val (.long (K5 4)), .second, .val (.ref rs), .unset, .unset, .unset, .unset, .unset, .unset] [(.int (own_rk (K5 1) (K5 0) (K5 2) (K5 3) (K5 4))), (.int (1 : Int32)), (.ref rs)])
  refine WP.iastore K (i := 1) A_rs rfl (by decide) old_rs at_93 (pc' := 94) rfl fun h24 W24 A_n => ?_
  have Z0 := Nat.le_trans Z0 (Nat.le_of_eq W24.size.symm)
  have A_rs := A_n
  rw [upd_int] at A_rs
  refine WP.aload K at_94 rfl rfl (pc' := 96) rfl ?_
  refine WP.iconst K at_96 (v := (2 : Int32)) rfl (pc' := 97) rfl ?_
  refine WP.lload K at_97 rfl (pc' := 99) rfl ?_
  refine WP.lload K at_99 rfl (pc' := 101) rfl ?_
  refine WP.lload K at_101 rfl (pc' := 103) rfl ?_
  refine WP.lload K at_103 rfl (pc' := 105) rfl ?_
  refine WP.lload K at_105 rfl (pc' := 107) rfl ?_
  refine WP.callS K (argsL := [(.long (K5 2)), (.long (K5 0)), (.long (K5 1)), (.long (K5 3)), (.long (K5 4))]) (S := [(.int (2 : Int32)), (.ref rs)]) (w_5 hw) (w_6 hw) (rm_rank w l Z a0 hw (K5 2) (K5 0) (K5 1) (K5 3) (K5 4) h24 n0 Z0) (w_8 hw) (w_7 hw) (by decide) rfl (lenOf pd_1 rfl) rfl (W := 2) rfl (by decide) (by decide) (k' := 1) (n' := 5) rfl rfl (by decide) (by decide) at_107 (pc' := 110) rfl fun v h25 hq => ?_
  obtain ⟨rfl, rfl⟩ := hq
  show WP κ h24 1 5 (mkF κ.m 110 #[.val (.int p0), .val (.int p1), .val (.int p2), .val (.int p3), .val (.int p4), .val (.int (τ 0)), .val (.long (K5 0)), .second, .val (.long (K5 1)), .second, .val (.long (K5 2)), .second, .val (.long (K5 3)), .second, .val (.long (K5 4)), .second, .val (.ref rs), .unset, .unset, .unset, .unset, .unset, .unset] [(.int (own_rk (K5 2) (K5 0) (K5 1) (K5 3) (K5 4))), (.int (2 : Int32)), (.ref rs)])
  refine WP.iastore K (i := 2) A_rs rfl (by decide) old_rs at_110 (pc' := 111) rfl fun h26 W26 A_n => ?_
  have Z0 := Nat.le_trans Z0 (Nat.le_of_eq W26.size.symm)
  have A_rs := A_n
  rw [upd_int] at A_rs
  refine WP.aload K at_111 rfl rfl (pc' := 113) rfl ?_
  refine WP.iconst K at_113 (v := (3 : Int32)) rfl (pc' := 114) rfl ?_
  refine WP.lload K at_114 rfl (pc' := 116) rfl ?_
  refine WP.lload K at_116 rfl (pc' := 118) rfl ?_
  refine WP.lload K at_118 rfl (pc' := 120) rfl ?_
  refine WP.lload K at_120 rfl (pc' := 122) rfl ?_
  refine WP.lload K at_122 rfl (pc' := 124) rfl ?_
  refine WP.callS K (argsL := [(.long (K5 3)), (.long (K5 0)), (.long (K5 1)), (.long (K5 2)), (.long (K5 4))]) (S := [(.int (3 : Int32)), (.ref rs)]) (w_5 hw) (w_6 hw) (rm_rank w l Z a0 hw (K5 3) (K5 0) (K5 1) (K5 2) (K5 4) h26 n0 Z0) (w_8 hw) (w_7 hw) (by decide) rfl (lenOf pd_1 rfl) rfl (W := 2) rfl (by decide) (by decide) (k' := 1) (n' := 5) rfl rfl (by decide) (by decide) at_124 (pc' := 127) rfl fun v h27 hq => ?_
  obtain ⟨rfl, rfl⟩ := hq
  show WP κ h26 1 5 (mkF κ.m 127 #[.val (.int p0), .val (.int p1), .val (.int p2), .val (.int p3), .val (.int p4), .val (.int (τ 0)), .val (.long (K5 0)), .second, .val (.long (K5 1)), .second, .val (.long (K5 2)), .second, .val (.long (K5 3)), .second, .val (.long (K5 4)), .second, .val (.ref rs), .unset, .unset, .unset, .unset, .unset, .unset] [(.int (own_rk (K5 3) (K5 0) (K5 1) (K5 2) (K5 4))), (.int (3 : Int32)), (.ref rs)])
  refine WP.iastore K (i := 3) A_rs rfl (by decide) old_rs at_127 (pc' := 128) rfl fun h28 W28 A_n => ?_
  have Z0 := Nat.le_trans Z0 (Nat.le_of_eq W28.size.symm)
  have A_rs := A_n
  rw [upd_int] at A_rs
  refine WP.aload K at_128 rfl rfl (pc' := 130) rfl ?_
  refine WP.iconst K at_130 (v := (4 : Int32)) rfl (pc' := 131) rfl ?_
  refine WP.lload K at_131 rfl (pc' := 133) rfl ?_
  refine WP.lload K at_133 rfl (pc' := 135) rfl ?_
  refine WP.lload K at_135 rfl (pc' := 137) rfl ?_
  refine WP.lload K at_137 rfl (pc' := 139) rfl ?_
  refine WP.lload K at_139 rfl (pc' := 141) rfl ?_
  refine WP.callS K (argsL := [(.long (K5 4)), (.long (K5 0)), (.long (K5 1)), (.long (K5 2)), (.long (K5 3))]) (S := [(.int (4 : Int32)), (.ref rs)]) (w_5 hw) (w_6 hw) (rm_rank w l Z a0 hw (K5 4) (K5 0) (K5 1) (K5 2) (K5 3) h28 n0 Z0) (w_8 hw) (w_7 hw) (by decide) rfl (lenOf pd_1 rfl) rfl (W := 2) rfl (by decide) (by decide) (k' := 1) (n' := 5) rfl rfl (by decide) (by decide) at_141 (pc' := 144) rfl fun v h29 hq => ?_
  obtain ⟨rfl, rfl⟩ := hq
  show WP κ h28 1 5 (mkF κ.m 144 #[.val (.int p0), .val (.int p1), .val (.int p2), .val (.int p3), .val (.int p4), .val (.int (τ 0)), .val (.long (K5 0)), .second, .val (.long (K5 1)), .second, .val (.long (K5 2)), .second, .val (.long (K5 3)), .second, .val (.long (K5 4)), .second, .val (.ref rs), .unset, .unset, .unset, .unset, .unset, .unset] [(.int (own_rk (K5 4) (K5 0) (K5 1) (K5 2) (K5 3))), (.int (4 : Int32)), (.ref rs)])
  refine WP.iastore K (i := 4) A_rs rfl (by decide) old_rs at_144 (pc' := 145) rfl fun h30 W30 A_n => ?_
  have Z0 := Nat.le_trans Z0 (Nat.le_of_eq W30.size.symm)
  have A_rs := A_n
  rw [upd_int] at A_rs
  have A_rs := Ary.congr (f' := fun j => .int (own_rks K5 j)) A_rs (fun i hi => congrArg Value.int ((own_five hi).trans (by rw [own_rks])))
  refine WP.new K (w_12 hw) (w_13 hw) (w_14 hw) at_145 (k' := 2) (n' := 8) rfl rfl (by decide) (by decide) (pc' := 148) rfl fun h31 q g31 E31 X31 D31 => ?_
  have ne_rs_q : rs ≠ q := fun z_ => by have q_ : @LT.lt Nat _ rs h30.size := (Ary.lt A_rs); have r_ : @Eq Nat rs q := z_; omega
  have old_q : n0 ≤ q := by have q_ := Z0; omega
  have A_rs := Ary.ext E31 A_rs
  have Z0 := Nat.le_trans Z0 E31.1
  have O_q : IsDQ Z h31 q .null .null (.int (0 : Int32)) := ⟨X31, D31 (O := "com/example/wedge/wedge/link/DepartureQueue") (f := "times") (d := "[D") (Or.inl (w_23 hw)) (ty := (.array .double)) (by decide), D31 (O := "com/example/wedge/wedge/link/DepartureQueue") (f := "tags") (d := "[I") (Or.inl (w_25 hw)) (ty := (.array .int)) (by decide), D31 (O := "com/example/wedge/wedge/link/DepartureQueue") (f := "size") (d := "I") (Or.inl (w_32 hw)) (ty := .int) (by decide)⟩
  refine WP.dup K at_148 rfl (pc' := 149) rfl ?_
  have lt_rs : @LT.lt Nat _ rs h31.size := Ary.lt A_rs
  refine WP.callI K (a := q) (argsL := []) (S := [(.ref q)]) rfl (w_15 hw) (w_16 hw) (rm_init w l Z a0 hw q _ _ _ h31 n0 Z0 O_q old_q) (w_17 hw) (w_14 hw) (by decide) rfl (lenOf pd_2 rfl) rfl (W := 1) rfl (by decide) (by decide) (k' := 4) (n' := 40) rfl rfl (by decide) (by decide) at_149 (pc' := 152) rfl fun v h32 hq => ?_
  obtain ⟨rfl, K0, tm, tg, kT, kG, s_tm, s_tg, ne_t, O_q, A_tm, A_tg⟩ := hq
  have A_rs := Ary.keep K0 A_rs (ninS ne_rs_q nin0)
  have Z0 := Nat.le_trans Z0 K0.1
  show WP κ h32 4 40 (mkF κ.m 152 #[.val (.int p0), .val (.int p1), .val (.int p2), .val (.int p3), .val (.int p4), .val (.int (τ 0)), .val (.long (K5 0)), .second, .val (.long (K5 1)), .second, .val (.long (K5 2)), .second, .val (.long (K5 3)), .second, .val (.long (K5 4)), .second, .val (.ref rs), .unset, .unset, .unset, .unset, .unset, .unset] [(.ref q)])
  have old_tm : n0 ≤ tm := by omega
  have old_tg : n0 ≤ tg := by omega
  have ne_rs_tm : rs ≠ tm := fun z_ => by have r_ : @Eq Nat rs tm := z_; omega
  have ne_rs_tg : rs ≠ tg := fun z_ => by have r_ : @Eq Nat rs tg := z_; omega
  have A_tm := Ary.congr (f' := fun j => .double ((fun j => FP.l2d (K5 ((fun _ => 5) j))) j)) A_tm (fun i _ => by show Value.double 0 = Value.double (FP.l2d (K5 5)); rw [e_k5, l2d_zero])
  have A_tg := Ary.congr (f' := fun j => .int ((fun j => τ ((fun _ => 5) j)) j)) A_tg (fun i _ => by show Value.int 0 = Value.int (τ 5); rw [e_t5])
  refine WP.astore K at_152 rfl (L' := #[.val (.int p0), .val (.int p1), .val (.int p2), .val (.int p3), .val (.int p4), .val (.int (τ 0)), .val (.long (K5 0)), .second, .val (.long (K5 1)), .second, .val (.long (K5 2)), .second, .val (.long (K5 3)), .second, .val (.long (K5 4)), .second, .val (.ref rs), .val (.ref q), .unset, .unset, .unset, .unset, .unset]) rfl (pc' := 154) rfl ?_
  refine WP.aload K at_154 rfl rfl (pc' := 156) rfl ?_
  refine WP.lload K at_156 rfl (pc' := 158) rfl ?_
  refine WP.l2d K at_158 (pc' := 159) rfl ?_
  refine WP.iload K at_159 rfl (pc' := 161) rfl ?_
  show WP κ h32 4 40 (mkF κ.m 161 #[.val (.int p0), .val (.int p1), .val (.int p2), .val (.int p3), .val (.int p4), .val (.int (τ 0)), .val (.long (K5 0)), .second, .val (.long (K5 1)), .second, .val (.long (K5 2)), .second, .val (.long (K5 3)), .second, .val (.long (K5 4)), .second, .val (.ref rs), .val (.ref q), .unset, .unset, .unset, .unset, .unset] [(.int (τ 0)), (.double (FP.l2d (K5 0))), (.ref q)])
  refine WP.callV K (a := q) (argsL := [(.double (FP.l2d (K5 0))), (.int (τ 0))]) (S := []) (w_26 hw) (w_27 hw) (fun vm0 hZ => notFace_of_selects (args := #[]) (mvT (s := κ.s.setVm vm0) hZ (w_29 hw))) (w_29 hw) (w_28 hw) (by decide) (IsDQ.exa O_q) (rm_add w l Z a0 hw q tm tg kT kG (0 : Int32) 0 (fun j => FP.l2d (K5 ((fun _ => 5) j))) (fun j => τ ((fun _ => 5) j)) (FP.l2d (K5 0)) (τ 0) h32 n0 Z0 O_q A_tm A_tg ne_t old_q old_tm old_tg rfl (by decide)) (w_30 hw) (w_14 hw) (by decide) rfl (lenOf pd_3 rfl) rfl (W := 0) rfl (by decide) (by decide) (k' := 4) (n' := 40) rfl rfl (by decide) (by decide) at_161 (pc' := 164) rfl fun v h33 hq => ?_
  obtain ⟨rfl, K1, O_q, A_tm, A_tg⟩ := hq
  have A_rs := Ary.keep K1 A_rs (ninS ne_rs_q (ninS ne_rs_tm (ninS ne_rs_tg nin0)))
  have Z0 := Nat.le_trans Z0 K1.1
  show WP κ h33 4 40 (mkF κ.m 164 #[.val (.int p0), .val (.int p1), .val (.int p2), .val (.int p3), .val (.int p4), .val (.int (τ 0)), .val (.long (K5 0)), .second, .val (.long (K5 1)), .second, .val (.long (K5 2)), .second, .val (.long (K5 3)), .second, .val (.long (K5 4)), .second, .val (.ref rs), .val (.ref q), .unset, .unset, .unset, .unset, .unset] [])
  have O_q : IsDQ Z h33 q (.ref tm) (.ref tg) (.int (1 : Int32)) := O_q
  have A_tm := own_addA (tg := tg) (kG := kG) hK A_tm
  have A_tg := own_addG (tm := tm) (kT := kT) hK A_tg
  rw [← hQ1] at A_tm A_tg
  refine WP.aload K at_164 rfl rfl (pc' := 166) rfl ?_
  refine WP.lload K at_166 rfl (pc' := 168) rfl ?_
  refine WP.l2d K at_168 (pc' := 169) rfl ?_
  refine WP.iload K at_169 rfl (pc' := 171) rfl ?_
  refine WP.iconst K at_171 (v := (1 : Int32)) rfl (pc' := 172) rfl ?_
  refine WP.iadd K at_172 (pc' := 173) rfl ?_
  rw [show ((τ 0) + (1 : Int32)) = τ 1 from e_t1]
  show WP κ h33 4 40 (mkF κ.m 173 #[.val (.int p0), .val (.int p1), .val (.int p2), .val (.int p3), .val (.int p4), .val (.int (τ 0)), .val (.long (K5 0)), .second, .val (.long (K5 1)), .second, .val (.long (K5 2)), .second, .val (.long (K5 3)), .second, .val (.long (K5 4)), .second, .val (.ref rs), .val (.ref q), .unset, .unset, .unset, .unset, .unset] [(.int (τ 1)), (.double (FP.l2d (K5 1))), (.ref q)])
  refine WP.callV K (a := q) (argsL := [(.double (FP.l2d (K5 1))), (.int (τ 1))]) (S := []) (w_26 hw) (w_27 hw) (fun vm0 hZ => notFace_of_selects (args := #[]) (mvT (s := κ.s.setVm vm0) hZ (w_29 hw))) (w_29 hw) (w_28 hw) (by decide) (IsDQ.exa O_q) (rm_add w l Z a0 hw q tm tg kT kG (1 : Int32) 1 (fun j => FP.l2d (K5 (Q1 j))) (fun j => τ (Q1 j)) (FP.l2d (K5 1)) (τ 1) h33 n0 Z0 O_q A_tm A_tg ne_t old_q old_tm old_tg rfl (by decide)) (w_30 hw) (w_14 hw) (by decide) rfl (lenOf pd_3 rfl) rfl (W := 0) rfl (by decide) (by decide) (k' := 4) (n' := 40) rfl rfl (by decide) (by decide) at_173 (pc' := 176) rfl fun v h34 hq => ?_
  obtain ⟨rfl, K1, O_q, A_tm, A_tg⟩ := hq
  have A_rs := Ary.keep K1 A_rs (ninS ne_rs_q (ninS ne_rs_tm (ninS ne_rs_tg nin0)))
  have Z0 := Nat.le_trans Z0 K1.1
  show WP κ h34 4 40 (mkF κ.m 176 #[.val (.int p0), .val (.int p1), .val (.int p2), .val (.int p3), .val (.int p4), .val (.int (τ 0)), .val (.long (K5 0)), .second, .val (.long (K5 1)), .second, .val (.long (K5 2)), .second, .val (.long (K5 3)), .second, .val (.long (K5 4)), .second, .val (.ref rs), .val (.ref q), .unset, .unset, .unset, .unset, .unset] [])
  have O_q : IsDQ Z h34 q (.ref tm) (.ref tg) (.int (2 : Int32)) := O_q
  have A_tm := own_addA (tg := tg) (kG := kG) hK A_tm
  have A_tg := own_addG (tm := tm) (kT := kT) hK A_tg
  rw [← hQ2] at A_tm A_tg
  refine WP.aload K at_176 rfl rfl (pc' := 178) rfl ?_
  refine WP.lload K at_178 rfl (pc' := 180) rfl ?_
  refine WP.l2d K at_180 (pc' := 181) rfl ?_
  refine WP.iload K at_181 rfl (pc' := 183) rfl ?_
  refine WP.iconst K at_183 (v := (2 : Int32)) rfl (pc' := 184) rfl ?_
  refine WP.iadd K at_184 (pc' := 185) rfl ?_
  rw [show ((τ 0) + (2 : Int32)) = τ 2 from e_t2]
  show WP κ h34 4 40 (mkF κ.m 185 #[.val (.int p0), .val (.int p1), .val (.int p2), .val (.int p3), .val (.int p4), .val (.int (τ 0)), .val (.long (K5 0)), .second, .val (.long (K5 1)), .second, .val (.long (K5 2)), .second, .val (.long (K5 3)), .second, .val (.long (K5 4)), .second, .val (.ref rs), .val (.ref q), .unset, .unset, .unset, .unset, .unset] [(.int (τ 2)), (.double (FP.l2d (K5 2))), (.ref q)])
  refine WP.callV K (a := q) (argsL := [(.double (FP.l2d (K5 2))), (.int (τ 2))]) (S := []) (w_26 hw) (w_27 hw) (fun vm0 hZ => notFace_of_selects (args := #[]) (mvT (s := κ.s.setVm vm0) hZ (w_29 hw))) (w_29 hw) (w_28 hw) (by decide) (IsDQ.exa O_q) (rm_add w l Z a0 hw q tm tg kT kG (2 : Int32) 2 (fun j => FP.l2d (K5 (Q2 j))) (fun j => τ (Q2 j)) (FP.l2d (K5 2)) (τ 2) h34 n0 Z0 O_q A_tm A_tg ne_t old_q old_tm old_tg rfl (by decide)) (w_30 hw) (w_14 hw) (by decide) rfl (lenOf pd_3 rfl) rfl (W := 0) rfl (by decide) (by decide) (k' := 4) (n' := 40) rfl rfl (by decide) (by decide) at_185 (pc' := 188) rfl fun v h35 hq => ?_
  obtain ⟨rfl, K1, O_q, A_tm, A_tg⟩ := hq
  have A_rs := Ary.keep K1 A_rs (ninS ne_rs_q (ninS ne_rs_tm (ninS ne_rs_tg nin0)))
  have Z0 := Nat.le_trans Z0 K1.1
  show WP κ h35 4 40 (mkF κ.m 188 #[.val (.int p0), .val (.int p1), .val (.int p2), .val (.int p3), .val (.int p4), .val (.int (τ 0)), .val (.long (K5 0)), .second, .val (.long (K5 1)), .second, .val (.long (K5 2)), .second, .val (.long (K5 3)), .second, .val (.long (K5 4)), .second, .val (.ref rs), .val (.ref q), .unset, .unset, .unset, .unset, .unset] [])
  have O_q : IsDQ Z h35 q (.ref tm) (.ref tg) (.int (3 : Int32)) := O_q
  have A_tm := own_addA (tg := tg) (kG := kG) hK A_tm
  have A_tg := own_addG (tm := tm) (kT := kT) hK A_tg
  rw [← hQ3] at A_tm A_tg
  refine WP.aload K at_188 rfl rfl (pc' := 190) rfl ?_
  refine WP.lload K at_190 rfl (pc' := 192) rfl ?_
  refine WP.l2d K at_192 (pc' := 193) rfl ?_
  refine WP.iload K at_193 rfl (pc' := 195) rfl ?_
  refine WP.iconst K at_195 (v := (3 : Int32)) rfl (pc' := 196) rfl ?_
  refine WP.iadd K at_196 (pc' := 197) rfl ?_
  rw [show ((τ 0) + (3 : Int32)) = τ 3 from e_t3]
  show WP κ h35 4 40 (mkF κ.m 197 #[.val (.int p0), .val (.int p1), .val (.int p2), .val (.int p3), .val (.int p4), .val (.int (τ 0)), .val (.long (K5 0)), .second, .val (.long (K5 1)), .second, .val (.long (K5 2)), .second, .val (.long (K5 3)), .second, .val (.long (K5 4)), .second, .val (.ref rs), .val (.ref q), .unset, .unset, .unset, .unset, .unset] [(.int (τ 3)), (.double (FP.l2d (K5 3))), (.ref q)])
  refine WP.callV K (a := q) (argsL := [(.double (FP.l2d (K5 3))), (.int (τ 3))]) (S := []) (w_26 hw) (w_27 hw) (fun vm0 hZ => notFace_of_selects (args := #[]) (mvT (s := κ.s.setVm vm0) hZ (w_29 hw))) (w_29 hw) (w_28 hw) (by decide) (IsDQ.exa O_q) (rm_add w l Z a0 hw q tm tg kT kG (3 : Int32) 3 (fun j => FP.l2d (K5 (Q3 j))) (fun j => τ (Q3 j)) (FP.l2d (K5 3)) (τ 3) h35 n0 Z0 O_q A_tm A_tg ne_t old_q old_tm old_tg rfl (by decide)) (w_30 hw) (w_14 hw) (by decide) rfl (lenOf pd_3 rfl) rfl (W := 0) rfl (by decide) (by decide) (k' := 4) (n' := 40) rfl rfl (by decide) (by decide) at_197 (pc' := 200) rfl fun v h36 hq => ?_
  obtain ⟨rfl, K1, O_q, A_tm, A_tg⟩ := hq
  have A_rs := Ary.keep K1 A_rs (ninS ne_rs_q (ninS ne_rs_tm (ninS ne_rs_tg nin0)))
  have Z0 := Nat.le_trans Z0 K1.1
  show WP κ h36 4 40 (mkF κ.m 200 #[.val (.int p0), .val (.int p1), .val (.int p2), .val (.int p3), .val (.int p4), .val (.int (τ 0)), .val (.long (K5 0)), .second, .val (.long (K5 1)), .second, .val (.long (K5 2)), .second, .val (.long (K5 3)), .second, .val (.long (K5 4)), .second, .val (.ref rs), .val (.ref q), .unset, .unset, .unset, .unset, .unset] [])
  have O_q : IsDQ Z h36 q (.ref tm) (.ref tg) (.int (4 : Int32)) := O_q
  have A_tm := own_addA (tg := tg) (kG := kG) hK A_tm
  have A_tg := own_addG (tm := tm) (kT := kT) hK A_tg
  rw [← hQ4] at A_tm A_tg
  refine WP.aload K at_200 rfl rfl (pc' := 202) rfl ?_
  refine WP.lload K at_202 rfl (pc' := 204) rfl ?_
  refine WP.l2d K at_204 (pc' := 205) rfl ?_
  refine WP.iload K at_205 rfl (pc' := 207) rfl ?_
  refine WP.iconst K at_207 (v := (4 : Int32)) rfl (pc' := 208) rfl ?_
  refine WP.iadd K at_208 (pc' := 209) rfl ?_
  rw [show ((τ 0) + (4 : Int32)) = τ 4 from e_t4]
  show WP κ h36 4 40 (mkF κ.m 209 #[.val (.int p0), .val (.int p1), .val (.int p2), .val (.int p3), .val (.int p4), .val (.int (τ 0)), .val (.long (K5 0)), .second, .val (.long (K5 1)), .second, .val (.long (K5 2)), .second, .val (.long (K5 3)), .second, .val (.long (K5 4)), .second, .val (.ref rs), .val (.ref q), .unset, .unset, .unset, .unset, .unset] [(.int (τ 4)), (.double (FP.l2d (K5 4))), (.ref q)])
  refine WP.callV K (a := q) (argsL := [(.double (FP.l2d (K5 4))), (.int (τ 4))]) (S := []) (w_26 hw) (w_27 hw) (fun vm0 hZ => notFace_of_selects (args := #[]) (mvT (s := κ.s.setVm vm0) hZ (w_29 hw))) (w_29 hw) (w_28 hw) (by decide) (IsDQ.exa O_q) (rm_add w l Z a0 hw q tm tg kT kG (4 : Int32) 4 (fun j => FP.l2d (K5 (Q4 j))) (fun j => τ (Q4 j)) (FP.l2d (K5 4)) (τ 4) h36 n0 Z0 O_q A_tm A_tg ne_t old_q old_tm old_tg rfl (by decide)) (w_30 hw) (w_14 hw) (by decide) rfl (lenOf pd_3 rfl) rfl (W := 0) rfl (by decide) (by decide) (k' := 4) (n' := 40) rfl rfl (by decide) (by decide) at_209 (pc' := 212) rfl fun v h37 hq => ?_
  obtain ⟨rfl, K1, O_q, A_tm, A_tg⟩ := hq
  have A_rs := Ary.keep K1 A_rs (ninS ne_rs_q (ninS ne_rs_tm (ninS ne_rs_tg nin0)))
  have Z0 := Nat.le_trans Z0 K1.1
  show WP κ h37 4 40 (mkF κ.m 212 #[.val (.int p0), .val (.int p1), .val (.int p2), .val (.int p3), .val (.int p4), .val (.int (τ 0)), .val (.long (K5 0)), .second, .val (.long (K5 1)), .second, .val (.long (K5 2)), .second, .val (.long (K5 3)), .second, .val (.long (K5 4)), .second, .val (.ref rs), .val (.ref q), .unset, .unset, .unset, .unset, .unset] [])
  have O_q : IsDQ Z h37 q (.ref tm) (.ref tg) (.int (5 : Int32)) := O_q
  have A_tm := own_addA (tg := tg) (kG := kG) hK A_tm
  have A_tg := own_addG (tm := tm) (kT := kT) hK A_tg
  rw [← hQ5] at A_tm A_tg
  refine WP.aload K at_212 rfl rfl (pc' := 214) rfl ?_
  refine WP.callV K (a := q) (argsL := []) (S := []) (w_33 hw) (w_34 hw) (fun vm0 hZ => notFace_of_selects (args := #[]) (mvT (s := κ.s.setVm vm0) hZ (w_36 hw))) (w_36 hw) (w_35 hw) (by decide) (IsDQ.exa O_q) (rm_rem w l Z a0 hw q tm tg kT kG (5 : Int32) 5 (fun j => FP.l2d (K5 (Q5 j))) (fun j => τ (Q5 j)) h37 n0 Z0 O_q A_tm A_tg ne_t old_q old_tm old_tg rfl (by decide) (by decide)) (w_37 hw) (w_14 hw) (by decide) rfl (lenOf pd_4 rfl) rfl (W := 0) rfl (by decide) (by decide) (k' := 4) (n' := 40) rfl rfl (by decide) (by decide) at_214 (pc' := 217) rfl fun v h38 hq => ?_
  obtain ⟨rfl, K1, O_q, A_tm, A_tg⟩ := hq
  have A_rs := Ary.keep K1 A_rs (ninS ne_rs_q (ninS ne_rs_tm (ninS ne_rs_tg nin0)))
  have Z0 := Nat.le_trans Z0 K1.1
  show WP κ h38 4 40 (mkF κ.m 217 #[.val (.int p0), .val (.int p1), .val (.int p2), .val (.int p3), .val (.int p4), .val (.int (τ 0)), .val (.long (K5 0)), .second, .val (.long (K5 1)), .second, .val (.long (K5 2)), .second, .val (.long (K5 3)), .second, .val (.long (K5 4)), .second, .val (.ref rs), .val (.ref q), .unset, .unset, .unset, .unset, .unset] [(.int (τ (Q5 0)))])
  have O_q : IsDQ Z h38 q (.ref tm) (.ref tg) (.int (4 : Int32)) := O_q
  have A_tm := own_remA (tg := tg) (kG := kG) hK A_tm
  have A_tg := own_remG (tm := tm) (kT := kT) hK A_tg
  rw [← hR1] at A_tm A_tg
  refine WP.istore K at_217 (L' := #[.val (.int p0), .val (.int p1), .val (.int p2), .val (.int p3), .val (.int p4), .val (.int (τ 0)), .val (.long (K5 0)), .second, .val (.long (K5 1)), .second, .val (.long (K5 2)), .second, .val (.long (K5 3)), .second, .val (.long (K5 4)), .second, .val (.ref rs), .val (.ref q), .val (.int (τ (Q5 0))), .unset, .unset, .unset, .unset]) rfl (pc' := 219) rfl ?_
  refine WP.aload K at_219 rfl rfl (pc' := 221) rfl ?_
  refine WP.callV K (a := q) (argsL := []) (S := []) (w_33 hw) (w_34 hw) (fun vm0 hZ => notFace_of_selects (args := #[]) (mvT (s := κ.s.setVm vm0) hZ (w_36 hw))) (w_36 hw) (w_35 hw) (by decide) (IsDQ.exa O_q) (rm_rem w l Z a0 hw q tm tg kT kG (4 : Int32) 4 (fun j => FP.l2d (K5 (R1 j))) (fun j => τ (R1 j)) h38 n0 Z0 O_q A_tm A_tg ne_t old_q old_tm old_tg rfl (by decide) (by decide)) (w_37 hw) (w_14 hw) (by decide) rfl (lenOf pd_4 rfl) rfl (W := 0) rfl (by decide) (by decide) (k' := 4) (n' := 40) rfl rfl (by decide) (by decide) at_221 (pc' := 224) rfl fun v h39 hq => ?_
  obtain ⟨rfl, K1, O_q, A_tm, A_tg⟩ := hq
  have A_rs := Ary.keep K1 A_rs (ninS ne_rs_q (ninS ne_rs_tm (ninS ne_rs_tg nin0)))
  have Z0 := Nat.le_trans Z0 K1.1
  show WP κ h39 4 40 (mkF κ.m 224 #[.val (.int p0), .val (.int p1), .val (.int p2), .val (.int p3), .val (.int p4), .val (.int (τ 0)), .val (.long (K5 0)), .second, .val (.long (K5 1)), .second, .val (.long (K5 2)), .second, .val (.long (K5 3)), .second, .val (.long (K5 4)), .second, .val (.ref rs), .val (.ref q), .val (.int (τ (Q5 0))), .unset, .unset, .unset, .unset] [(.int (τ (R1 0)))])
  have O_q : IsDQ Z h39 q (.ref tm) (.ref tg) (.int (3 : Int32)) := O_q
  have A_tm := own_remA (tg := tg) (kG := kG) hK A_tm
  have A_tg := own_remG (tm := tm) (kT := kT) hK A_tg
  rw [← hR2] at A_tm A_tg
  refine WP.istore K at_224 (L' := #[.val (.int p0), .val (.int p1), .val (.int p2), .val (.int p3), .val (.int p4), .val (.int (τ 0)), .val (.long (K5 0)), .second, .val (.long (K5 1)), .second, .val (.long (K5 2)), .second, .val (.long (K5 3)), .second, .val (.long (K5 4)), .second, .val (.ref rs), .val (.ref q), .val (.int (τ (Q5 0))), .val (.int (τ (R1 0))), .unset, .unset, .unset]) rfl (pc' := 226) rfl ?_
  refine WP.aload K at_226 rfl rfl (pc' := 228) rfl ?_
  refine WP.callV K (a := q) (argsL := []) (S := []) (w_33 hw) (w_34 hw) (fun vm0 hZ => notFace_of_selects (args := #[]) (mvT (s := κ.s.setVm vm0) hZ (w_36 hw))) (w_36 hw) (w_35 hw) (by decide) (IsDQ.exa O_q) (rm_rem w l Z a0 hw q tm tg kT kG (3 : Int32) 3 (fun j => FP.l2d (K5 (R2 j))) (fun j => τ (R2 j)) h39 n0 Z0 O_q A_tm A_tg ne_t old_q old_tm old_tg rfl (by decide) (by decide)) (w_37 hw) (w_14 hw) (by decide) rfl (lenOf pd_4 rfl) rfl (W := 0) rfl (by decide) (by decide) (k' := 4) (n' := 40) rfl rfl (by decide) (by decide) at_228 (pc' := 231) rfl fun v h40 hq => ?_
  obtain ⟨rfl, K1, O_q, A_tm, A_tg⟩ := hq
  have A_rs := Ary.keep K1 A_rs (ninS ne_rs_q (ninS ne_rs_tm (ninS ne_rs_tg nin0)))
  have Z0 := Nat.le_trans Z0 K1.1
  show WP κ h40 4 40 (mkF κ.m 231 #[.val (.int p0), .val (.int p1), .val (.int p2), .val (.int p3), .val (.int p4), .val (.int (τ 0)), .val (.long (K5 0)), .second, .val (.long (K5 1)), .second, .val (.long (K5 2)), .second, .val (.long (K5 3)), .second, .val (.long (K5 4)), .second, .val (.ref rs), .val (.ref q), .val (.int (τ (Q5 0))), .val (.int (τ (R1 0))), .unset, .unset, .unset] [(.int (τ (R2 0)))])
  have O_q : IsDQ Z h40 q (.ref tm) (.ref tg) (.int (2 : Int32)) := O_q
  have A_tm := own_remA (tg := tg) (kG := kG) hK A_tm
  have A_tg := own_remG (tm := tm) (kT := kT) hK A_tg
  rw [← hR3] at A_tm A_tg
  refine WP.istore K at_231 (L' := #[.val (.int p0), .val (.int p1), .val (.int p2), .val (.int p3), .val (.int p4), .val (.int (τ 0)), .val (.long (K5 0)), .second, .val (.long (K5 1)), .second, .val (.long (K5 2)), .second, .val (.long (K5 3)), .second, .val (.long (K5 4)), .second, .val (.ref rs), .val (.ref q), .val (.int (τ (Q5 0))), .val (.int (τ (R1 0))), .val (.int (τ (R2 0))), .unset, .unset]) rfl (pc' := 233) rfl ?_
  refine WP.aload K at_233 rfl rfl (pc' := 235) rfl ?_
  refine WP.callV K (a := q) (argsL := []) (S := []) (w_33 hw) (w_34 hw) (fun vm0 hZ => notFace_of_selects (args := #[]) (mvT (s := κ.s.setVm vm0) hZ (w_36 hw))) (w_36 hw) (w_35 hw) (by decide) (IsDQ.exa O_q) (rm_rem w l Z a0 hw q tm tg kT kG (2 : Int32) 2 (fun j => FP.l2d (K5 (R3 j))) (fun j => τ (R3 j)) h40 n0 Z0 O_q A_tm A_tg ne_t old_q old_tm old_tg rfl (by decide) (by decide)) (w_37 hw) (w_14 hw) (by decide) rfl (lenOf pd_4 rfl) rfl (W := 0) rfl (by decide) (by decide) (k' := 4) (n' := 40) rfl rfl (by decide) (by decide) at_235 (pc' := 238) rfl fun v h41 hq => ?_
  obtain ⟨rfl, K1, O_q, A_tm, A_tg⟩ := hq
  have A_rs := Ary.keep K1 A_rs (ninS ne_rs_q (ninS ne_rs_tm (ninS ne_rs_tg nin0)))
  have Z0 := Nat.le_trans Z0 K1.1
  show WP κ h41 4 40 (mkF κ.m 238 #[.val (.int p0), .val (.int p1), .val (.int p2), .val (.int p3), .val (.int p4), .val (.int (τ 0)), .val (.long (K5 0)), .second, .val (.long (K5 1)), .second, .val (.long (K5 2)), .second, .val (.long (K5 3)), .second, .val (.long (K5 4)), .second, .val (.ref rs), .val (.ref q), .val (.int (τ (Q5 0))), .val (.int (τ (R1 0))), .val (.int (τ (R2 0))), .unset, .unset] [(.int (τ (R3 0)))])
  have O_q : IsDQ Z h41 q (.ref tm) (.ref tg) (.int (1 : Int32)) := O_q
  have A_tm := own_remA (tg := tg) (kG := kG) hK A_tm
  have A_tg := own_remG (tm := tm) (kT := kT) hK A_tg
  rw [← hR4] at A_tm A_tg
  refine WP.istore K at_238 (L' := #[.val (.int p0), .val (.int p1), .val (.int p2), .val (.int p3), .val (.int p4), .val (.int (τ 0)), .val (.long (K5 0)), .second, .val (.long (K5 1)), .second, .val (.long (K5 2)), .second, .val (.long (K5 3)), .second, .val (.long (K5 4)), .second, .val (.ref rs), .val (.ref q), .val (.int (τ (Q5 0))), .val (.int (τ (R1 0))), .val (.int (τ (R2 0))), .val (.int (τ (R3 0))), .unset]) rfl (pc' := 240) rfl ?_
  refine WP.aload K at_240 rfl rfl (pc' := 242) rfl ?_
  refine WP.callV K (a := q) (argsL := []) (S := []) (w_33 hw) (w_34 hw) (fun vm0 hZ => notFace_of_selects (args := #[]) (mvT (s := κ.s.setVm vm0) hZ (w_36 hw))) (w_36 hw) (w_35 hw) (by decide) (IsDQ.exa O_q) (rm_rem w l Z a0 hw q tm tg kT kG (1 : Int32) 1 (fun j => FP.l2d (K5 (R4 j))) (fun j => τ (R4 j)) h41 n0 Z0 O_q A_tm A_tg ne_t old_q old_tm old_tg rfl (by decide) (by decide)) (w_37 hw) (w_14 hw) (by decide) rfl (lenOf pd_4 rfl) rfl (W := 0) rfl (by decide) (by decide) (k' := 4) (n' := 40) rfl rfl (by decide) (by decide) at_242 (pc' := 245) rfl fun v h42 hq => ?_
  obtain ⟨rfl, K1, O_q, A_tm, A_tg⟩ := hq
  have A_rs := Ary.keep K1 A_rs (ninS ne_rs_q (ninS ne_rs_tm (ninS ne_rs_tg nin0)))
  have Z0 := Nat.le_trans Z0 K1.1
  show WP κ h42 4 40 (mkF κ.m 245 #[.val (.int p0), .val (.int p1), .val (.int p2), .val (.int p3), .val (.int p4), .val (.int (τ 0)), .val (.long (K5 0)), .second, .val (.long (K5 1)), .second, .val (.long (K5 2)), .second, .val (.long (K5 3)), .second, .val (.long (K5 4)), .second, .val (.ref rs), .val (.ref q), .val (.int (τ (Q5 0))), .val (.int (τ (R1 0))), .val (.int (τ (R2 0))), .val (.int (τ (R3 0))), .unset] [(.int (τ (R4 0)))])
  have O_q : IsDQ Z h42 q (.ref tm) (.ref tg) (.int (0 : Int32)) := O_q
  have A_tm := own_remA (tg := tg) (kG := kG) hK A_tm
  have A_tg := own_remG (tm := tm) (kT := kT) hK A_tg
  rw [← hR5] at A_tm A_tg
  refine WP.istore K at_245 (L' := #[.val (.int p0), .val (.int p1), .val (.int p2), .val (.int p3), .val (.int p4), .val (.int (τ 0)), .val (.long (K5 0)), .second, .val (.long (K5 1)), .second, .val (.long (K5 2)), .second, .val (.long (K5 3)), .second, .val (.long (K5 4)), .second, .val (.ref rs), .val (.ref q), .val (.int (τ (Q5 0))), .val (.int (τ (R1 0))), .val (.int (τ (R2 0))), .val (.int (τ (R3 0))), .val (.int (τ (R4 0)))]) rfl (pc' := 247) rfl ?_
  refine WP.iload K at_247 rfl (pc' := 249) rfl ?_
  refine WP.iload K at_249 rfl (pc' := 251) rfl ?_
  refine WP.iconst K at_251 (v := (0 : Int32)) rfl (pc' := 252) rfl ?_
  refine WP.aload K at_252 rfl rfl (pc' := 254) rfl ?_
  refine WP.callS K (argsL := [(.int (τ (Q5 0))), (.int (τ 0)), (.int (0 : Int32)), (.ref rs)]) (S := []) (w_38 hw) (w_39 hw) (rm_ok w l Z a0 hw (τ (Q5 0)) (τ 0) (0 : Int32) rs kA_rs (own_rks K5) (Q5 0) h42 n0 Z0 A_rs z0.1 (hτ _ z0.1) (own_rks_e K5 z0.1 z0.2)) (w_40 hw) (w_7 hw) (by decide) rfl (lenOf pd_5 rfl) rfl (W := 0) rfl (by decide) (by decide) (k' := 4) (n' := 40) rfl rfl (by decide) (by decide) at_254 (pc' := 257) rfl fun v h43 hq => ?_
  obtain ⟨rfl, rfl⟩ := hq
  show WP κ h42 4 40 (mkF κ.m 257 #[.val (.int p0), .val (.int p1), .val (.int p2), .val (.int p3), .val (.int p4), .val (.int (τ 0)), .val (.long (K5 0)), .second, .val (.long (K5 1)), .second, .val (.long (K5 2)), .second, .val (.long (K5 3)), .second, .val (.long (K5 4)), .second, .val (.ref rs), .val (.ref q), .val (.int (τ (Q5 0))), .val (.int (τ (R1 0))), .val (.int (τ (R2 0))), .val (.int (τ (R3 0))), .val (.int (τ (R4 0)))] [(.int (1 : Int32))])
  refine WP.if0F K at_257 (by decide) (pc' := 260) rfl ?_
  refine WP.iload K at_260 rfl (pc' := 262) rfl ?_
  refine WP.iload K at_262 rfl (pc' := 264) rfl ?_
  refine WP.iconst K at_264 (v := (1 : Int32)) rfl (pc' := 265) rfl ?_
  refine WP.aload K at_265 rfl rfl (pc' := 267) rfl ?_
  refine WP.callS K (argsL := [(.int (τ (R1 0))), (.int (τ 0)), (.int (1 : Int32)), (.ref rs)]) (S := []) (w_38 hw) (w_39 hw) (rm_ok w l Z a0 hw (τ (R1 0)) (τ 0) (1 : Int32) rs kA_rs (own_rks K5) (R1 0) h42 n0 Z0 A_rs z1.1 (hτ _ z1.1) (own_rks_e K5 z1.1 z1.2)) (w_40 hw) (w_7 hw) (by decide) rfl (lenOf pd_5 rfl) rfl (W := 0) rfl (by decide) (by decide) (k' := 4) (n' := 40) rfl rfl (by decide) (by decide) at_267 (pc' := 270) rfl fun v h44 hq => ?_
  obtain ⟨rfl, rfl⟩ := hq
  show WP κ h42 4 40 (mkF κ.m 270 #[.val (.int p0), .val (.int p1), .val (.int p2), .val (.int p3), .val (.int p4), .val (.int (τ 0)), .val (.long (K5 0)), .second, .val (.long (K5 1)), .second, .val (.long (K5 2)), .second, .val (.long (K5 3)), .second, .val (.long (K5 4)), .second, .val (.ref rs), .val (.ref q), .val (.int (τ (Q5 0))), .val (.int (τ (R1 0))), .val (.int (τ (R2 0))), .val (.int (τ (R3 0))), .val (.int (τ (R4 0)))] [(.int (1 : Int32))])
  refine WP.if0F K at_270 (by decide) (pc' := 273) rfl ?_
  refine WP.iload K at_273 rfl (pc' := 275) rfl ?_
  refine WP.iload K at_275 rfl (pc' := 277) rfl ?_
  refine WP.iconst K at_277 (v := (2 : Int32)) rfl (pc' := 278) rfl ?_
  refine WP.aload K at_278 rfl rfl (pc' := 280) rfl ?_
  refine WP.callS K (argsL := [(.int (τ (R2 0))), (.int (τ 0)), (.int (2 : Int32)), (.ref rs)]) (S := []) (w_38 hw) (w_39 hw) (rm_ok w l Z a0 hw (τ (R2 0)) (τ 0) (2 : Int32) rs kA_rs (own_rks K5) (R2 0) h42 n0 Z0 A_rs z2.1 (hτ _ z2.1) (own_rks_e K5 z2.1 z2.2)) (w_40 hw) (w_7 hw) (by decide) rfl (lenOf pd_5 rfl) rfl (W := 0) rfl (by decide) (by decide) (k' := 4) (n' := 40) rfl rfl (by decide) (by decide) at_280 (pc' := 283) rfl fun v h45 hq => ?_
  obtain ⟨rfl, rfl⟩ := hq
  show WP κ h42 4 40 (mkF κ.m 283 #[.val (.int p0), .val (.int p1), .val (.int p2), .val (.int p3), .val (.int p4), .val (.int (τ 0)), .val (.long (K5 0)), .second, .val (.long (K5 1)), .second, .val (.long (K5 2)), .second, .val (.long (K5 3)), .second, .val (.long (K5 4)), .second, .val (.ref rs), .val (.ref q), .val (.int (τ (Q5 0))), .val (.int (τ (R1 0))), .val (.int (τ (R2 0))), .val (.int (τ (R3 0))), .val (.int (τ (R4 0)))] [(.int (1 : Int32))])
  refine WP.if0F K at_283 (by decide) (pc' := 286) rfl ?_
  refine WP.iload K at_286 rfl (pc' := 288) rfl ?_
  refine WP.iload K at_288 rfl (pc' := 290) rfl ?_
  refine WP.iconst K at_290 (v := (3 : Int32)) rfl (pc' := 291) rfl ?_
  refine WP.aload K at_291 rfl rfl (pc' := 293) rfl ?_
  refine WP.callS K (argsL := [(.int (τ (R3 0))), (.int (τ 0)), (.int (3 : Int32)), (.ref rs)]) (S := []) (w_38 hw) (w_39 hw) (rm_ok w l Z a0 hw (τ (R3 0)) (τ 0) (3 : Int32) rs kA_rs (own_rks K5) (R3 0) h42 n0 Z0 A_rs z3.1 (hτ _ z3.1) (own_rks_e K5 z3.1 z3.2)) (w_40 hw) (w_7 hw) (by decide) rfl (lenOf pd_5 rfl) rfl (W := 0) rfl (by decide) (by decide) (k' := 4) (n' := 40) rfl rfl (by decide) (by decide) at_293 (pc' := 296) rfl fun v h46 hq => ?_
  obtain ⟨rfl, rfl⟩ := hq
  show WP κ h42 4 40 (mkF κ.m 296 #[.val (.int p0), .val (.int p1), .val (.int p2), .val (.int p3), .val (.int p4), .val (.int (τ 0)), .val (.long (K5 0)), .second, .val (.long (K5 1)), .second, .val (.long (K5 2)), .second, .val (.long (K5 3)), .second, .val (.long (K5 4)), .second, .val (.ref rs), .val (.ref q), .val (.int (τ (Q5 0))), .val (.int (τ (R1 0))), .val (.int (τ (R2 0))), .val (.int (τ (R3 0))), .val (.int (τ (R4 0)))] [(.int (1 : Int32))])
  refine WP.if0F K at_296 (by decide) (pc' := 299) rfl ?_
  refine WP.iload K at_299 rfl (pc' := 301) rfl ?_
  refine WP.iload K at_301 rfl (pc' := 303) rfl ?_
  refine WP.iconst K at_303 (v := (4 : Int32)) rfl (pc' := 304) rfl ?_
  refine WP.aload K at_304 rfl rfl (pc' := 306) rfl ?_
  refine WP.callS K (argsL := [(.int (τ (R4 0))), (.int (τ 0)), (.int (4 : Int32)), (.ref rs)]) (S := []) (w_38 hw) (w_39 hw) (rm_ok w l Z a0 hw (τ (R4 0)) (τ 0) (4 : Int32) rs kA_rs (own_rks K5) (R4 0) h42 n0 Z0 A_rs z4.1 (hτ _ z4.1) (own_rks_e K5 z4.1 z4.2)) (w_40 hw) (w_7 hw) (by decide) rfl (lenOf pd_5 rfl) rfl (W := 0) rfl (by decide) (by decide) (k' := 4) (n' := 40) rfl rfl (by decide) (by decide) at_306 (pc' := 309) rfl fun v h47 hq => ?_
  obtain ⟨rfl, rfl⟩ := hq
  show WP κ h42 4 40 (mkF κ.m 309 #[.val (.int p0), .val (.int p1), .val (.int p2), .val (.int p3), .val (.int p4), .val (.int (τ 0)), .val (.long (K5 0)), .second, .val (.long (K5 1)), .second, .val (.long (K5 2)), .second, .val (.long (K5 3)), .second, .val (.long (K5 4)), .second, .val (.ref rs), .val (.ref q), .val (.int (τ (Q5 0))), .val (.int (τ (R1 0))), .val (.int (τ (R2 0))), .val (.int (τ (R3 0))), .val (.int (τ (R4 0)))] [(.int (1 : Int32))])
  refine WP.if0F K at_309 (by decide) (pc' := 312) rfl ?_
  refine WP.iconst K at_312 (v := (1 : Int32)) rfl (pc' := 313) rfl ?_
  refine WP.goto K at_313 (by decide) (pc' := 317) (by decide) ?_
  exact WP.retN K (ty := .boolean) (by decide) at_317 (by decide) (by decide) rfl
set_option maxRecDepth 65536 in
set_option maxHeartbeats 40000000 in
theorem comes_1 {Post : Tables → Env → Array Value → State → Outcome → State → Prop} (hpost : ∀ tb e args s v u, (limb_1_1.after args s (.returned v) u = true ∧ limb_1_2.after args s (.returned v) u = true ∧ True) → FrameEnd s (.returned v) u (Jvm.fieldLocs frame_1_writes args s ++ Jvm.arrayLocs frame_1_arrays args s ++ Jvm.staticLocs frame_1_statics s) 16 192 → Post tb e args s (.returned v) u) :
    ArmFor flags0 classFile x code maxLocals ret World_1 tables_1 room_1 Calls_1 rest_1 Pre_1 Post := by
  intro l hfl _ _ p e ha hc hk s m args below hf hA hF happ hP
  obtain ⟨hcalls, hrest, hpre⟩ := hP
  obtain ⟨-, -, -, hnamed, -, -, -, hat⟩ := (Spec.applies_iff hf).mp happ
  obtain ⟨hg, hn⟩ := and_e (Cond.before_iff.mp (show (Jvm.Cond.and given_1 narrow_1).before args s = true from hpre))
  obtain ⟨q0, r0⟩ := and_e hg
  obtain ⟨q1, r1⟩ := and_e r0
  obtain ⟨q2, r2⟩ := and_e r1
  obtain ⟨q3, r3⟩ := and_e r2
  obtain ⟨q4, r4⟩ := and_e r3
  obtain ⟨q5, r5⟩ := and_e r4
  obtain ⟨v0, v1, v2, v3, v4, v5, rfl⟩ : ∃ v0 v1 v2 v3 v4 v5 : Value, args = #[v0, v1, v2, v3, v4, v5] := by
    have hs : args.size = 6 := by simpa [Cond.value, given_1] using q0
    obtain ⟨L⟩ := args
    match L, hs with
    | [v0, v1, v2, v3, v4, v5], _ => exact ⟨v0, v1, v2, v3, v4, v5, rfl⟩
  have hw := fun d (hd : d ∈ tables_1) => atoms_spec (ws := Jvm.Cond.code x code maxLocals ret :: tables_1) hat d (List.mem_cons_of_mem _ hd)
  obtain ⟨i0, ei0⟩ := is_v q1
  obtain rfl : v0 = (.int i0) := Option.some.inj ei0
  obtain ⟨i1, ei1⟩ := is_v q2
  obtain rfl : v1 = (.int i1) := Option.some.inj ei1
  obtain ⟨i2, ei2⟩ := is_v q3
  obtain rfl : v2 = (.int i2) := Option.some.inj ei2
  obtain ⟨i3, ei3⟩ := is_v q4
  obtain rfl : v3 = (.int i3) := Option.some.inj ei3
  obtain ⟨i4, ei4⟩ := is_v q5
  obtain rfl : v4 = (.int i4) := Option.some.inj ei4
  obtain ⟨i5, ei5⟩ := is_v r5
  obtain rfl : v5 = (.int i5) := Option.some.inj ei5
  obtain ⟨n, o, h1, h2, h3, _, L, rfl, ⟨rfl, N⟩, hq⟩ := rm_law false l s _ hw i0 i1 i2 i3 i4 i5 s.heap s.heap.size (Nat.le_refl _)  p e ha hc hk s m _ below hf ((Spec.applies_iff_loose hf).mp happ).1 ⟨rfl, State.Warmed39.refl s, rfl⟩ trivial
  refine ⟨n, _, h1, h2, h3, hpost _ _ _ _ _ _ ⟨Cond.after_iff.mpr rfl, Cond.after_iff.mpr (eq_i res_at (Term.int_eval (1)) rfl), trivial⟩ ⟨hq.1, hq.2.1, (hq.2.2.sift fun y hy => Or.inr (N y hy)).mono (by decide) (by decide)⟩⟩
theorem main_1_1 : Claimed_1_1 := comes_1 fun _ _ _ _ _ _ h hF => ⟨h.1, hF⟩
theorem main_1_2 : Claimed_1_2 := comes_1 fun _ _ _ _ _ _ h hF => ⟨h.2.1, hF⟩
end Jvm.Pilot.@@N@@
namespace Jvm.Pilot.@@N@@
open Jvm Jvm.ClassFile Sem Op Lib Jvm.Free Jvm.Stand Jvm.Pilot.@@N@@.Jvm.D
/-! MADE BY PROGRAM (witnessworld.py) out of the Statement's table words and the real class files: 9 classes; the members and pool entries that the words name. The judged class is class 1, her method 4. -/
namespace start1
open Jvm.ClassFile
def u (s : String) : CpInfo := .utf8 (stringToUtf16 s)
/-- a pool by its gaps: so many unusable entries, then the entry; so many at the end -/
def gap : Nat → List CpInfo → List CpInfo
  | 0, r => r
  | n + 1, r => .unusable :: gap n r
def poolList (es : List (Nat × CpInfo)) (last : Nat) : List CpInfo := es.foldr (fun e r => gap e.1 (e.2 :: r)) (gap last [])
def pool (es : List (Nat × CpInfo)) (last : Nat) : Array CpInfo := ⟨poolList es last⟩
def fileOf (pool : Array CpInfo) (this : Nat) (attrs : Array Attribute := #[]) (ms : Array MethodInfo := #[]) (fl : Nat := 33) (sup : Nat := 0) (ifs : Array Nat := #[]) (fds : Array FieldInfo := #[]) : ClassFile where
  minorVersion := 0
  majorVersion := 65
  constantPool := pool
  accessFlags := fl
  thisClass := this
  superClass := sup
  interfaces := ifs
  fields := fds
  methods := ms
  attributes := attrs
def plain (name : String) (sup : Option ClassId) : Class where
  name := name
  kind := .ordinary
  loader := none
  accessFlags := 33
  super := sup
  interfaces := #[]
  cf := none
  fields := #[]
  methods := #[]
  instanceTypes := #[]
  staticTypes := #[]
  resolved := #[]
  callSites := []
  init := .initialized
  statics := none
  mirror := none

def pool0 : Array CpInfo := pool [(5, u "<init>"), (0, u "()V"), (1, .class_ 10), (1, u "java/lang/Object")] 113

def k0c0 : Code := { maxStack := 0, maxLocals := 1, code := object_method_1_code, exceptionTable := #[], attributes := #[] }
def k0m0 : Method := { name := "<init>", desc := "()V", sig := { parameters := [], returnType := none }, accessFlags := 1, code := some k0c0 }
/-- java/lang/Object -/
def k0 : Class := { plain "java/lang/Object" none with
  accessFlags := 33
  interfaces := #[]
  cf := some (fileOf pool0 8 #[] #[{ accessFlags := 1, nameIndex := 5, descriptorIndex := 6, attributes := #[] }] 33 0 #[] #[])
  fields := #[]
  methods := #[k0m0]
  instanceTypes := #[]
  staticTypes := #[]
  resolved := Array.replicate 124 none
  statics := none }

def pool1 : Array CpInfo := pool [(2, .class_ 4), (0, .nameAndType 5 6), (0, u "java/lang/Object"), (0, u "<init>"), (0, u "()V"), (0, .methodref 8 9), (0, .class_ 10), (0, .nameAndType 11 12), (0, u "com/example/wedge/wedge/link/DepartureQueueRemoveFirstPinLaw"), (0, u "less"), (0, u "(JJ)I"), (0, .long 8), (1, .long 2), (1, .long 3), (1, .long 4), (1, .methodref 8 22), (0, .nameAndType 23 24), (0, u "rank"), (0, u "(JJJJJ)I"), (0, .class_ 26), (0, u "com/example/wedge/wedge/link/DepartureQueue"), (0, .methodref 25 3), (0, .methodref 25 29), (0, .nameAndType 30 31), (0, u "add"), (0, u "(DI)V"), (0, .methodref 25 33), (0, .nameAndType 34 35), (0, u "removeFirst"), (0, u "()I"), (0, .methodref 8 37), (0, .nameAndType 38 39), (0, u "ok"), (0, u "(III[I)Z"), (3, u "law"), (0, u "(IIIIII)Z")] 4

def k1m0 : Method := { name := "<init>", desc := "()V", sig := { parameters := [], returnType := none }, accessFlags := 1, code := none }
def k1c1 : Code := { maxStack := 4, maxLocals := 4, code := method_2_code, exceptionTable := #[], attributes := #[] }
def k1m1 : Method := { name := "less", desc := "(JJ)I", sig := { parameters := [.long, .long], returnType := some .int }, accessFlags := 10, code := some k1c1 }
def k1c2 : Code := { maxStack := 5, maxLocals := 10, code := method_3_code, exceptionTable := #[], attributes := #[] }
def k1m2 : Method := { name := "rank", desc := "(JJJJJ)I", sig := { parameters := [.long, .long, .long, .long, .long], returnType := some .int }, accessFlags := 10, code := some k1c2 }
def k1c3 : Code := { maxStack := 2, maxLocals := 5, code := method_4_code, exceptionTable := #[], attributes := #[] }
def k1m3 : Method := { name := "ok", desc := "(III[I)Z", sig := { parameters := [.int, .int, .int, (.array .int)], returnType := some .boolean }, accessFlags := 10, code := some k1c3 }
def k1c4 : Code := { maxStack := 12, maxLocals := 23, code := code, exceptionTable := #[], attributes := #[] }
def k1m4 : Method := { name := "law", desc := "(IIIIII)Z", sig := { parameters := [.int, .int, .int, .int, .int, .int], returnType := some .boolean }, accessFlags := 9, code := some k1c4 }
/-- com/example/wedge/wedge/link/DepartureQueueRemoveFirstPinLaw -/
def k1 : Class := { plain "com/example/wedge/wedge/link/DepartureQueueRemoveFirstPinLaw" (some 0) with
  accessFlags := 49
  interfaces := #[]
  cf := some (fileOf pool1 8 #[] #[{ accessFlags := 1, nameIndex := 5, descriptorIndex := 6, attributes := #[] }, { accessFlags := 10, nameIndex := 11, descriptorIndex := 12, attributes := #[] }, { accessFlags := 10, nameIndex := 23, descriptorIndex := 24, attributes := #[] }, { accessFlags := 10, nameIndex := 38, descriptorIndex := 39, attributes := #[] }, { accessFlags := 9, nameIndex := 43, descriptorIndex := 44, attributes := #[] }] 49 2 #[] #[])
  fields := #[]
  methods := #[k1m0, k1m1, k1m2, k1m3, k1m4]
  instanceTypes := #[]
  staticTypes := #[]
  resolved := Array.replicate 49 none
  statics := none }

def pool2 : Array CpInfo := pool [(1, .methodref 2 3), (0, .class_ 4), (0, .nameAndType 5 6), (0, u "java/lang/Object"), (0, u "<init>"), (0, u "()V"), (0, .fieldref 8 9), (0, .class_ 10), (0, .nameAndType 11 12), (0, u "com/example/wedge/wedge/link/DepartureQueue"), (0, u "times"), (0, u "[D"), (0, .fieldref 8 14), (0, .nameAndType 15 16), (0, u "tags"), (0, u "[I"), (0, .fieldref 8 18), (0, .nameAndType 19 20), (0, u "size"), (0, u "I"), (16, u "add"), (0, u "(DI)V"), (0, u "removeFirst"), (0, u "()I")] 2

def k2c0 : Code := { maxStack := 2, maxLocals := 1, code := prog_7_method_1_code, exceptionTable := #[], attributes := #[] }
def k2m0 : Method := { name := "<init>", desc := "()V", sig := { parameters := [], returnType := none }, accessFlags := 0, code := some k2c0 }
def k2c1 : Code := { maxStack := 4, maxLocals := 6, code := prog_7_method_4_code, exceptionTable := #[], attributes := #[] }
def k2m1 : Method := { name := "add", desc := "(DI)V", sig := { parameters := [.double, .int], returnType := none }, accessFlags := 0, code := some k2c1 }
def k2c2 : Code := { maxStack := 4, maxLocals := 7, code := prog_7_method_5_code, exceptionTable := #[], attributes := #[] }
def k2m2 : Method := { name := "removeFirst", desc := "()I", sig := { parameters := [], returnType := some .int }, accessFlags := 0, code := some k2c2 }
/-- com/example/wedge/wedge/link/DepartureQueue -/
def k2 : Class := { plain "com/example/wedge/wedge/link/DepartureQueue" (some 0) with
  accessFlags := 32
  interfaces := #[]
  cf := some (fileOf pool2 8 #[] #[{ accessFlags := 0, nameIndex := 5, descriptorIndex := 6, attributes := #[] }, { accessFlags := 0, nameIndex := 37, descriptorIndex := 38, attributes := #[] }, { accessFlags := 0, nameIndex := 39, descriptorIndex := 40, attributes := #[] }] 32 2 #[] #[{ accessFlags := 2, nameIndex := 11, descriptorIndex := 12, attributes := #[] }, { accessFlags := 2, nameIndex := 15, descriptorIndex := 16, attributes := #[] }, { accessFlags := 2, nameIndex := 19, descriptorIndex := 20, attributes := #[] }])
  fields := #[{ name := "times", type := (.array .double), accessFlags := 2, slot := 0, constantValue := 0 }, { name := "tags", type := (.array .int), accessFlags := 2, slot := 1, constantValue := 0 }, { name := "size", type := .int, accessFlags := 2, slot := 2, constantValue := 0 }]
  methods := #[k2m0, k2m1, k2m2]
  instanceTypes := #[(.array .double), (.array .int), .int]
  staticTypes := #[]
  resolved := Array.replicate 43 none
  statics := none }

def pool3 : Array CpInfo := pool [(1, u "java/lang/Cloneable"), (0, .class_ 1), (0, u "java/lang/Object"), (0, .class_ 3)] 3

/-- java/lang/Cloneable -/
def k3 : Class := { plain "java/lang/Cloneable" (some 0) with
  accessFlags := 1537
  interfaces := #[]
  cf := some (fileOf pool3 2 #[] #[] 1537 4 #[] #[])
  fields := #[]
  methods := #[]
  instanceTypes := #[]
  staticTypes := #[]
  resolved := Array.replicate 8 none
  statics := none }

def pool4 : Array CpInfo := pool [(1, u "java/io/Serializable"), (0, .class_ 1), (0, u "java/lang/Object"), (0, .class_ 3)] 3

/-- java/io/Serializable -/
def k4 : Class := { plain "java/io/Serializable" (some 0) with
  accessFlags := 1537
  interfaces := #[]
  cf := some (fileOf pool4 2 #[] #[] 1537 4 #[] #[])
  fields := #[]
  methods := #[]
  instanceTypes := #[]
  staticTypes := #[]
  resolved := Array.replicate 8 none
  statics := none }

/-- the primitive byte -/
def k5 : Class := { plain "byte" none with kind := .primitive 'B', accessFlags := 0x411 }
/-- [B -/
def k6 : Class := { plain "[B" (some 0) with kind := .array 5 .byte, interfaces := #[3, 4], accessFlags := 1041 }

/-- the primitive int -/
def k7 : Class := { plain "int" none with kind := .primitive 'I', accessFlags := 0x411 }
/-- [I -/
def k8 : Class := { plain "[I" (some 0) with kind := .array 7 .int, interfaces := #[3, 4], accessFlags := 1041 }

/-- the primitive double -/
def k9 : Class := { plain "double" none with kind := .primitive 'D', accessFlags := 0x411 }
/-- [D -/
def k10 : Class := { plain "[D" (some 0) with kind := .array 9 .double, interfaces := #[3, 4], accessFlags := 1041 }

def heap : Heap := #[]
def classes : Array Class := #[k0, k1, k2, k3, k4, k5, k6, k7, k8, k9, k10]
def interned : List (Array UInt16 × Addr) := []
def slotsUsed : Nat := 0
def theMethod : MethodId := ⟨1, 4⟩
def args0 : Array Value := #[.int 5, .int 1, .int 3, .int 4, .int 9, .int 2]
def aboutOver (below : List Frame) : State where
  vm := { classes := classes, interned := interned.toArray }
  heap := heap
  slotsUsed := slotsUsed
  threads := #[{ frames := .invoking theMethod args0 :: below }]
def below0 : List Frame := [.native { method := ⟨0, 0⟩, args := #[] }]
def about1 : State := aboutOver below0
def p0 : Program := .bare "" "" ""
def e0 : Env := launch0.env 0 0 0
theorem w_frames : about1.frames = Frame.invoking theMethod args0 :: below0 := rfl
set_option maxRecDepth 65536 in
theorem w_args : argsFit about1.vm theMethod args0 = true := by decide +kernel
set_option maxRecDepth 65536 in
theorem w_heap : heapFits about1 = true := by decide +kernel
set_option maxRecDepth 65536 in
theorem w_runnable : about1.curStatus? = some .runnable := by decide +kernel
set_option maxRecDepth 65536 in
theorem w_alone : about1.alone = true := by decide +kernel
set_option maxRecDepth 65536 in
theorem w_named : about1.methodNamed? x = some theMethod := by decide +kernel
set_option maxRecDepth 65536 in
theorem w_hears : about1.hears theMethod below0 = true := by decide +kernel
set_option maxRecDepth 65536 in
theorem w_ripe : about1.ripe theMethod args0 below0 = true := by decide +kernel
theorem w_running : about1.status = .running := rfl
set_option maxRecDepth 65536 in
theorem w_room : about1.hasRoom e0.platform room_1 = true :=
  launch0.hasRoom_least _ room_1 (by decide +kernel) (by decide +kernel) (by decide +kernel) (by decide +kernel) (by decide +kernel) (by decide +kernel)
theorem allAtoms_all (ts : List Jvm.Cond) (a : Array Jvm.Value) (st : Jvm.State) : (allAtoms ts).before a st = ts.all (fun c => c.before a st) := by
  induction ts with
  | nil => rfl
  | cons c t ih =>
    show (Jvm.Cond.and c (allAtoms t)).before a st = _
    rw [Jvm.Cond.before_and, ih, List.all_cons]
def words1 : List Jvm.Cond := Jvm.Cond.code x code maxLocals ret :: tables_1
/-- a 'code' word, met by the world's own term for the bytes: nothing is compared byte by byte -/
theorem code_word {y : MethodName} {bytes : ByteArray} {mx : Nat} {rt : Option FieldType} {a : Array Value} {s : State} {m : MethodId} {meth : Method} {c : Code} (h1 : s.methodNamed? y = some m) (h2 : s.vm.method? m = some meth) (h3 : meth.code = some c) (h4 : c.code = bytes)
    (h5 : (c.maxLocals == mx && c.exceptionTable.isEmpty && decide (c.maxStack ≤ mostOperands) && decide (meth.sig.returnType = rt) && !meth.locks && decide (parseMethodDescriptor y.desc = some meth.sig)) = true) : (Jvm.Cond.code y bytes mx rt).before a s = true := by
  simp only [Bool.and_eq_true, beq_iff_eq, Bool.not_eq_true', decide_eq_true_eq] at h5
  obtain ⟨⟨⟨⟨⟨g1, g2⟩, g3⟩, g4⟩, g5⟩, g6⟩ := h5
  simp [Cond.before, Cond.holds, Cond.value, h1, h2, h3, h4, g1, g2, g3, g4, g5, g6]
def isCode : Jvm.Cond → Bool
  | .code _ _ _ _ => true
  | _ => false
theorem all_split {L : List Jvm.Cond} {P : Jvm.Cond → Bool} (h1 : L.all (fun c => isCode c || P c) = true) (h2 : ∀ c ∈ L.filter isCode, P c = true) : L.all P = true := by
  refine List.all_eq_true.mpr fun c hc => ?_
  have h := List.all_eq_true.mp h1 c hc
  rcases Bool.eq_false_or_eq_true (isCode c) with hi | hi
  · exact h2 c (List.mem_filter.mpr ⟨hc, hi⟩)
  · simpa [hi] using h
set_option maxRecDepth 65536 in
theorem w_c0 : (Jvm.Cond.code x code maxLocals ret).before args0 about1 = true := code_word (m := ⟨1, 4⟩) (meth := k1m4) (c := k1c4) (by decide +kernel) rfl rfl rfl (by decide +kernel)
set_option maxRecDepth 65536 in
theorem w_c1 : (Jvm.Cond.code ({ cls := "com/example/wedge/wedge/link/DepartureQueueRemoveFirstPinLaw", name := "rank", desc := "(JJJJJ)I" } : Jvm.MethodName) method_3_code (10 : Nat) (Option.some Jvm.ClassFile.FieldType.int)).before args0 about1 = true := code_word (m := ⟨1, 2⟩) (meth := k1m2) (c := k1c2) (by decide +kernel) rfl rfl rfl (by decide +kernel)
set_option maxRecDepth 65536 in
theorem w_c2 : (Jvm.Cond.code ({ cls := "com/example/wedge/wedge/link/DepartureQueueRemoveFirstPinLaw", name := "less", desc := "(JJ)I" } : Jvm.MethodName) method_2_code (4 : Nat) (Option.some Jvm.ClassFile.FieldType.int)).before args0 about1 = true := code_word (m := ⟨1, 1⟩) (meth := k1m1) (c := k1c1) (by decide +kernel) rfl rfl rfl (by decide +kernel)
set_option maxRecDepth 65536 in
theorem w_c3 : (Jvm.Cond.code ({ cls := "com/example/wedge/wedge/link/DepartureQueue", name := "<init>", desc := "()V" } : Jvm.MethodName) prog_7_method_1_code (1 : Nat) (Option.none : Option Jvm.ClassFile.FieldType)).before args0 about1 = true := code_word (m := ⟨2, 0⟩) (meth := k2m0) (c := k2c0) (by decide +kernel) rfl rfl rfl (by decide +kernel)
set_option maxRecDepth 65536 in
theorem w_c4 : (Jvm.Cond.code ({ cls := "java/lang/Object", name := "<init>", desc := "()V" } : Jvm.MethodName) object_method_1_code (1 : Nat) (Option.none : Option Jvm.ClassFile.FieldType)).before args0 about1 = true := code_word (m := ⟨0, 0⟩) (meth := k0m0) (c := k0c0) (by decide +kernel) rfl rfl rfl (by decide +kernel)
set_option maxRecDepth 65536 in
theorem w_c5 : (Jvm.Cond.code ({ cls := "com/example/wedge/wedge/link/DepartureQueue", name := "add", desc := "(DI)V" } : Jvm.MethodName) prog_7_method_4_code (6 : Nat) (Option.none : Option Jvm.ClassFile.FieldType)).before args0 about1 = true := code_word (m := ⟨2, 1⟩) (meth := k2m1) (c := k2c1) (by decide +kernel) rfl rfl rfl (by decide +kernel)
set_option maxRecDepth 65536 in
theorem w_c6 : (Jvm.Cond.code ({ cls := "com/example/wedge/wedge/link/DepartureQueue", name := "removeFirst", desc := "()I" } : Jvm.MethodName) prog_7_method_5_code (7 : Nat) (Option.some Jvm.ClassFile.FieldType.int)).before args0 about1 = true := code_word (m := ⟨2, 2⟩) (meth := k2m2) (c := k2c2) (by decide +kernel) rfl rfl rfl (by decide +kernel)
set_option maxRecDepth 65536 in
theorem w_c7 : (Jvm.Cond.code ({ cls := "com/example/wedge/wedge/link/DepartureQueueRemoveFirstPinLaw", name := "ok", desc := "(III[I)Z" } : Jvm.MethodName) method_4_code (5 : Nat) (Option.some Jvm.ClassFile.FieldType.boolean)).before args0 about1 = true := code_word (m := ⟨1, 3⟩) (meth := k1m3) (c := k1c3) (by decide +kernel) rfl rfl rfl (by decide +kernel)
def codes1 : List Jvm.Cond := [Jvm.Cond.code x code maxLocals ret, Jvm.Cond.code ({ cls := "com/example/wedge/wedge/link/DepartureQueueRemoveFirstPinLaw", name := "rank", desc := "(JJJJJ)I" } : Jvm.MethodName) method_3_code (10 : Nat) (Option.some Jvm.ClassFile.FieldType.int), Jvm.Cond.code ({ cls := "com/example/wedge/wedge/link/DepartureQueueRemoveFirstPinLaw", name := "less", desc := "(JJ)I" } : Jvm.MethodName) method_2_code (4 : Nat) (Option.some Jvm.ClassFile.FieldType.int), Jvm.Cond.code ({ cls := "com/example/wedge/wedge/link/DepartureQueue", name := "<init>", desc := "()V" } : Jvm.MethodName) prog_7_method_1_code (1 : Nat) (Option.none : Option Jvm.ClassFile.FieldType), Jvm.Cond.code ({ cls := "java/lang/Object", name := "<init>", desc := "()V" } : Jvm.MethodName) object_method_1_code (1 : Nat) (Option.none : Option Jvm.ClassFile.FieldType), Jvm.Cond.code ({ cls := "com/example/wedge/wedge/link/DepartureQueue", name := "add", desc := "(DI)V" } : Jvm.MethodName) prog_7_method_4_code (6 : Nat) (Option.none : Option Jvm.ClassFile.FieldType), Jvm.Cond.code ({ cls := "com/example/wedge/wedge/link/DepartureQueue", name := "removeFirst", desc := "()I" } : Jvm.MethodName) prog_7_method_5_code (7 : Nat) (Option.some Jvm.ClassFile.FieldType.int), Jvm.Cond.code ({ cls := "com/example/wedge/wedge/link/DepartureQueueRemoveFirstPinLaw", name := "ok", desc := "(III[I)Z" } : Jvm.MethodName) method_4_code (5 : Nat) (Option.some Jvm.ClassFile.FieldType.boolean)]
set_option maxRecDepth 65536 in
theorem codes_eq : words1.filter isCode = codes1 := rfl
theorem w_codes : ∀ c ∈ words1.filter isCode, c.before args0 about1 = true := by
  rw [codes_eq]
  intro c hc
  simp only [codes1, List.mem_cons, List.not_mem_nil, or_false] at hc
  rcases hc with rfl | rfl | rfl | rfl | rfl | rfl | rfl | rfl
  · exact w_c0
  · exact w_c1
  · exact w_c2
  · exact w_c3
  · exact w_c4
  · exact w_c5
  · exact w_c6
  · exact w_c7
set_option maxRecDepth 65536 in
theorem w_t1 : (words1.take 24).all (fun c => isCode c || c.before args0 about1) = true := by decide +kernel
set_option maxRecDepth 65536 in
theorem w_t2 : (words1.drop 24).all (fun c => isCode c || c.before args0 about1) = true := by decide +kernel
theorem w_tables : (allAtoms (Jvm.Cond.code x code maxLocals ret :: tables_1)).before args0 about1 = true := by
  rw [allAtoms_all]
  show words1.all (fun c => c.before args0 about1) = true
  refine all_split ?_ w_codes
  rw [← List.take_append_drop 24 words1, List.all_append, w_t1, w_t2]
  rfl
set_option maxRecDepth 65536 in
theorem w_case : (Jvm.Cond.and given_1 narrow_1).before args0 about1 = true := by decide +kernel
theorem w_applies : (headSpec (Jvm.Cond.code x code maxLocals ret :: tables_1) room_1).applies x e0.platform about1 = true :=
  (Spec.applies_iff w_frames).mpr ⟨w_running, w_runnable, w_alone, w_named, w_hears, w_ripe, w_room, w_tables⟩
theorem atStart : AtStart classFile x code maxLocals ret World_1 tables_1 room_1 Calls_1 rest_1 Pre_1 launch0 p0 e0 about1 theMethod args0 below0 :=
  ⟨lists_1, trivial, launch0.admits_env _ _ _, launch0.least_env, fairChoices_fair.cas, fairChoices_fair.clock, w_frames, w_args, w_heap, w_applies, trivial, trivial, w_case⟩
end start1
theorem witness_1 : WitnessClaimed_1 := ⟨start1.p0, start1.e0, start1.about1, start1.theMethod, start1.args0, start1.below0, start1.atStart⟩
end Jvm.Pilot.@@N@@
